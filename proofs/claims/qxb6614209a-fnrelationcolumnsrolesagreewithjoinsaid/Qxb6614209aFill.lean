import Derived.Test.Qxb6614209aStrs
import Derived.LoopTactic
import Derived.Lib.AppendStr
import Derived.Laws.BytesString
import Derived.Laws.RangeAny
namespace Go.Proofs.Qxb6614209a
open Go.RowKit

def cnt (l : List UInt8) (c : Int) : Nat := (l.filter fun b => decide ((b.toNat : Int) = c)).length
theorem cnt_le (l : List UInt8) (c : Int) : cnt l c ≤ l.length := List.length_filter_le _ _
theorem cnt_snoc (l : List UInt8) (b : UInt8) (c : Int) : cnt (l ++ [b]) c = cnt l c + if (b.toNat : Int) = c then 1 else 0 := by
  unfold cnt
  rw [List.filter_append]
  by_cases h : (b.toNat : Int) = c <;> simp [h]
theorem take_snoc (s : ByteArray) (k : Nat) (h : k < s.size) : s.data.toList.take (k + 1) = s.data.toList.take k ++ [s[k]] := by
  rw [List.take_succ_eq_append_getElem (by simpa using h)]; rfl

abbrev Idx (s : ByteArray) (i b : Int) : Prop := ∀ w, (Instr.index 9 (.string s) (.int .i64 i)).run Try.prog w = .ok (.int .u8 b) w
theorem idx_of {s : ByteArray} {j : Nat} (h : j < s.size) : Idx s (j : Int) ((s[j]'h).toNat : Int) := by
  intro w
  rw [run_index_string w 9 s .i64 (j : Int) Try.underlying9]
  simp [h]

set_option maxHeartbeats 1000000 in
theorem count_any (s : ByteArray) (c : Int) (w : World) (hs : (s.size : Int) ≤ 4194304) :
    Calls Try.prog 9 #[.string s, .int .u8 c] w fun r w' => r = .returned (.int .i64 (cnt s.data.toList c : Int)) ∧ w' = w := by
  go_enter Try.func9, Try.ntmps9
  go_wp2
  go_loop [5, 6] (fun n t => ∃ k : Nat, k ≤ s.size ∧ t = .int .i64 k ∧ n = .int .i64 (cnt (s.data.toList.take k) c : Int)) (fun _ t => s.size - (intOf t).toNat)
  case atStart => exact ⟨0, Nat.zero_le _, rfl, rfl⟩
  case round =>
    obtain ⟨k, hk, rfl, rfl⟩ := hrel
    have hd := cnt_le (s.data.toList.take k) c
    have hl : (s.data.toList.take k).length ≤ k := List.length_take_le _ _
    have hd' : (cnt (s.data.toList.take k) c : Int) ≤ 4194304 := by omega
    clear hd hl
    obtain ⟨A, hA⟩ : ∃ A, A = cnt (s.data.toList.take k) c := ⟨_, rfl⟩
    rw [← hA] at hd' ⊢
    have HA : Hid (A = cnt (s.data.toList.take k) c) := hA
    clear hA
    by_cases hlt : k < s.size
    · have i0 := idx_of hlt
      have HS : Hid (cnt (s.data.toList.take (k + 1)) c = A + if ((s[k]'hlt).toNat : Int) = c then 1 else 0) := by
        show _ = _
        rw [HA.out, take_snoc s k hlt, cnt_snoc]
      obtain ⟨b, hb⟩ : ∃ b, b = ((s[k]'hlt).toNat : Int) := ⟨_, rfl⟩
      rw [← hb] at i0 HS
      clear hb
      by_cases hbc : b = c
      · subst hbc
        have HS' : Hid (cnt (s.data.toList.take (k + 1)) b = A + 1) := by
          show _ = _
          rw [HS.out, if_pos rfl]
        clear HS
        go_wp2
        go_round
        case rel => exact ⟨k + 1, by omega, by go_num, by rw [HS'.out]; go_num⟩
        case measure => simp [intOf]; omega
      · have HS' : Hid (cnt (s.data.toList.take (k + 1)) c = A) := by
          show _ = _
          rw [HS.out, if_neg hbc, Nat.add_zero]
        have hbc' : (b == c) = false := by simpa using hbc
        clear HS hbc
        go_wp2
        go_round
        case rel => exact ⟨k + 1, by omega, by go_num, by rw [HS'.out]⟩
        case measure => simp [intOf]; omega
    · go_wp2
      go_ret
      rw [HA.out, List.take_of_length_le (by simp; omega)]
      exact ⟨rfl, rfl⟩

/-- One byte of the frame, filled. -/
def fill1 (x y : ByteArray) (b : UInt8) : List UInt8 := if (b.toNat : Int) = 0 then x.data.toList else if (b.toNat : Int) = 1 then y.data.toList else [b]
def fillL (x y : ByteArray) (l : List UInt8) : List UInt8 := l.flatMap (fill1 x y)
theorem fillL_snoc (x y : ByteArray) (l : List UInt8) (b : UInt8) : fillL x y (l ++ [b]) = fillL x y l ++ fill1 x y b := by simp [fillL]
def bcells (l : List UInt8) : List Value := l.map fun b => Value.int .u8 (b.toNat : Int)
theorem bcells_append (l m : List UInt8) : bcells (l ++ m) = bcells l ++ bcells m := by simp [bcells]
theorem strCells_eq (s : ByteArray) : Lib.strCells s = bcells s.data.toList := rfl
theorem fill1_le (x y : ByteArray) (b : UInt8) : (fill1 x y b).length ≤ x.size + y.size + 1 := by
  unfold fill1
  have h1 : x.data.toList.length = x.size := by simp
  have h2 : y.data.toList.length = y.size := by simp
  split
  · omega
  · split
    · omega
    · simp
theorem fillL_le (x y : ByteArray) : ∀ l : List UInt8, (fillL x y l).length ≤ l.length * (x.size + y.size + 1)
  | [] => by simp [fillL]
  | b :: l => by
    have := fillL_le x y l
    have := fill1_le x y b
    show (fill1 x y b ++ fillL x y l).length ≤ _
    rw [List.length_append, List.length_cons, Nat.succ_mul]
    omega

theorem info5 : (Try.prog.info? 5).map (fun i => (i.zero, i.size, i.bytes)) = some (some (.int .u8 0), 1, 1) := by kernel_rfl

theorem foldl_push : ∀ (l : List UInt8) (a : ByteArray), (l.map fun b => ((b.toNat : Nat) : Int)).foldl (fun r n => r.push (UInt8.ofNat n.toNat)) a = a ++ ⟨l.toArray⟩
  | [], a => by
    apply ByteArray.ext
    simp [ByteArray.data_append]
  | b :: l, a => by
    rw [List.map_cons, List.foldl_cons, foldl_push l]
    apply ByteArray.ext
    simp [ByteArray.data_append, ByteArray.push]

/-- 'string(out)' of a row that the call owns. -/
theorem conv_any (w : World) (g cap : Nat) (cur : Array Value) (L : List UInt8) (hg : w.heap[g]? = some (.cells cur 5 (0, 0))) (ht : cur.toList.take (L.length * 1) = bcells L) :
    (convert 28 9 (.slice (some ⟨g, 0, none⟩) L.length cap)).run Try.prog w = .ok (.string ⟨L.toArray⟩) w := by
  rw [run_convert_bytes_string w 28 9 5 _ _ _ Try.underlying28 Try.underlying5 Try.underlying9]
  have hl := run_loadCells_list (P := Try.prog) w ⟨g, 0, none⟩ (bcells L) (by
    intro j v hj
    rw [Addr.add_lit, Nat.zero_add]
    have hc : w.cell? ⟨g, j, none⟩ = cur[j]? := by simp [World.cell?, hg]
    rw [hc, ← Array.getElem?_toList]
    rw [← ht, List.getElem?_take] at hj
    split at hj
    · exact hj
    · cases hj)
  have e1 : (bcells L).length = L.length := by simp [bcells]
  rw [e1] at hl
  have e2 : (bcells L).toArray = ((L.map fun b => ((b.toNat : Nat) : Int)).map (Value.int .u8)).toArray := by simp [bcells]
  rw [e2] at hl
  rw [run_bytesToString w ⟨g, 0, none⟩ L.length cap _ hl, foldl_push]
  congr 2

theorem own_step {w1 : World} {B : Nat} {v' : Value} {L L' X : List UInt8} (h : L' = L ++ X) (h1 : w1.ownsRow B 5 1 v' (L.length + X.length) (bcells L ++ bcells X)) : w1.ownsRow B 5 1 v' L'.length (bcells L') := by
  subst h
  rw [bcells_append, List.length_append]
  exact h1
theorem own_block {w1 : World} {B n : Nat} {v : Value} {xs : List Value} (h : w1.ownsRow B 5 1 v n xs) : ∀ k, v.ownBlock = some k → B ≤ k := by
  intro k hk
  rcases h.2 with ⟨rfl, _⟩ | ⟨g, cap, cur, rfl, hg, _⟩
  · cases hk
  · simp [Value.ownBlock] at hk
    omega
theorem len_str (x : ByteArray) : x.data.toList.length = x.size := by simp

set_option maxHeartbeats 2000000 in
theorem fill_any (s x y : ByteArray) (w : World) (hs : s.size ≤ 4096) (hx : x.size ≤ 1048576) (hy : y.size ≤ 1048576) (hne : Hid (fillL x y s.data.toList ≠ [])) :
    Calls Try.prog 10 #[.string s, .string x, .string y] w fun r w' => r = .returned (.string ⟨(fillL x y s.data.toList).toArray⟩) ∧ Hid (Below w.heap.size w w') := by
  obtain ⟨i0, hi, hz0, hz1, hz2⟩ := info_parts info5
  go_enter Try.func10, Try.ntmps10
  go_wp2
  go_loopw [7, 8] (fun v t wr => ∃ k : Nat, k ≤ s.size ∧ t = .int .i64 k ∧ wr.ownsRow w.heap.size 5 1 v (fillL x y (s.data.toList.take k)).length (bcells (fillL x y (s.data.toList.take k))) ∧ Below w.heap.size w wr) (fun _ t _ => s.size - (intOf t).toNat)
  case atStart => exact ⟨0, Nat.zero_le _, rfl, World.ownsRow_nil _ _ _ _, Below.refl _ _⟩
  case round =>
    obtain ⟨k, hk, rfl, hown, hb⟩ := hrel
    by_cases hlt : k < s.size
    · have i1 := idx_of hlt
      have hle := fillL_le x y (s.data.toList.take k)
      have hkl : (s.data.toList.take k).length ≤ 4096 := by have := List.length_take_le k s.data.toList; omega
      have hbd : (s.data.toList.take k).length * (x.size + y.size + 1) ≤ 4096 * 2097153 := Nat.mul_le_mul hkl (by omega)
      have hstep := fillL_snoc x y (s.data.toList.take k) s[k]
      rw [← take_snoc s k hlt] at hstep
      have hbsz := hb.size
      obtain ⟨b, hbb⟩ : ∃ b, b = ((s[k]'hlt).toNat : Int) := ⟨_, rfl⟩
      obtain ⟨L, hL⟩ : ∃ L, L = fillL x y (s.data.toList.take k) := ⟨_, rfl⟩
      obtain ⟨L', hL'⟩ : ∃ L', L' = fillL x y (s.data.toList.take (k + 1)) := ⟨_, rfl⟩
      rw [← hL] at hown hle hstep
      rw [← hL'] at hstep
      have hLn : L.length ≤ 8589938688 := by omega
      have HL' : Hid (L' = fillL x y (s.data.toList.take (k + 1))) := hL'
      have HST : Hid (L' = L ++ fill1 x y s[k]) := hstep
      have HBB : Hid (b = ((s[k]'hlt).toNat : Int)) := hbb
      rw [← hbb] at i1
      clear hL hL' hle hbd hkl hstep hbb
      have hm1 : L.length + x.size ≤ maxLen := by unfold maxLen; omega
      have hm2 : L.length + y.size ≤ maxLen := by unfold maxLen; omega
      have hm3 : L.length + 1 ≤ maxLen := by unfold maxLen; omega
      by_cases h0 : b = 0
      · have e1 : Hid (L' = L ++ x.data.toList) := by
          show _ = _
          rw [HST.out, fill1, if_pos (by rw [← HBB.out]; exact h0)]
        subst h0
        go_wp2_with (at_builtin; refine Lib.wpList_append_own_string _ rfl _ _ 28 9 rfl w.heap.size 5 i0 Try.underlying28 Try.underlying9 hi hz0 hz1 hz2 _ _ _ rfl hown x rfl hm1 (by omega) hbsz ?_)
        intro v' w1 hown' hgrow _
        have R1 : Hid (w1.ownsRow w.heap.size 5 1 v' L'.length (bcells L')) := own_step e1.out (by rw [len_str]; exact hown')
        have R2 : Hid (Below w.heap.size w w1) := hb.grown hgrow hbsz (own_block hown)
        clear hown' hgrow hown hb
        go_wp2
        go_roundw
        case rel => exact ⟨k + 1, by omega, by go_num, by rw [← HL'.out]; exact R1.out, R2.out⟩
        case measure => simp [intOf]; omega
      by_cases h1 : b = 1
      · have e1 : Hid (L' = L ++ y.data.toList) := by
          show _ = _
          rw [HST.out, fill1, if_neg (by rw [← HBB.out]; exact h0), if_pos (by rw [← HBB.out]; exact h1)]
        subst h1
        go_wp2_with (at_builtin; refine Lib.wpList_append_own_string _ rfl _ _ 28 9 rfl w.heap.size 5 i0 Try.underlying28 Try.underlying9 hi hz0 hz1 hz2 _ _ _ rfl hown y rfl hm2 (by omega) hbsz ?_)
        intro v' w1 hown' hgrow _
        have R1 : Hid (w1.ownsRow w.heap.size 5 1 v' L'.length (bcells L')) := own_step e1.out (by rw [len_str]; exact hown')
        have R2 : Hid (Below w.heap.size w w1) := hb.grown hgrow hbsz (own_block hown)
        clear hown' hgrow hown hb h0
        go_wp2
        go_roundw
        case rel => exact ⟨k + 1, by omega, by go_num, by rw [← HL'.out]; exact R1.out, R2.out⟩
        case measure => simp [intOf]; omega
      · have e1 : Hid (L' = L ++ [s[k]]) := by
          show _ = _
          rw [HST.out, fill1, if_neg (by rw [← HBB.out]; exact h0), if_neg (by rw [← HBB.out]; exact h1)]
        have h0' : (b == 0) = false := by simpa using h0
        have h1' : (b == 1) = false := by simpa using h1
        clear h0 h1
        go_wp2_with (at_builtin; refine wpList_append_own _ rfl _ _ 28 rfl w.heap.size 5 i0 (.int .u8 0) 1 1 Try.underlying28 hi hz0 hz1 hz2 rfl (by decide) _ _ _ rfl (hown.alloc _) ⟨wr.heap.size, 0, none⟩ 1 1 [.int .u8 b] rfl rfl (cell_one_new _ _ _) (by simp [Value.oneCell']) hm3 (by omega) (by simp; omega) ?_)
        intro v' w1 hown' hgrow _
        have R1 : Hid (w1.ownsRow w.heap.size 5 1 v' L'.length (bcells L')) := own_step e1.out (by
          have e : bcells [s[k]] = [Value.int .u8 b] := by rw [HBB.out]; rfl
          rw [e]; exact hown')
        have R2 : Hid (Below w.heap.size w w1) := (hb.alloc hbsz _).grown hgrow (by simp; omega) (own_block hown)
        clear hown' hgrow hown hb
        go_wp2
        go_roundw
        case rel => exact ⟨k + 1, by omega, by go_num, by rw [← HL'.out]; exact R1.out, R2.out⟩
        case measure => simp [intOf]; omega
    · rw [List.take_of_length_le (by rw [len_str]; omega)] at hown
      obtain ⟨L, hL⟩ : ∃ L, L = fillL x y s.data.toList := ⟨_, rfl⟩
      rw [← hL] at hown hne
      have HL : Hid (L = fillL x y s.data.toList) := hL
      clear hL
      have hex : ∃ g cap cur, u7 = .slice (some ⟨g, 0, none⟩) L.length cap ∧ wr.heap[g]? = some (.cells cur 5 (0, 0)) ∧ cur.toList.take (L.length * 1) = bcells L := by
        rcases hown.2 with ⟨_, h⟩ | ⟨g, cap, cur, h1, _, h3, _, _, _, h7⟩
        · exact absurd (List.eq_nil_of_length_eq_zero h) hne.out
        · exact ⟨g, cap, cur, h1, h3, h7⟩
      obtain ⟨g, cap, cur, rfl, hg, ht⟩ := hex
      have hcv := conv_any wr g cap cur L hg ht
      clear hg ht hown
      go_wp2
      go_ret
      rw [← HL.out]
      exact ⟨rfl, hb⟩
end Go.Proofs.Qxb6614209a
