import Derived.Test.Qxb6614099aWords
namespace Go.Proofs.Qxb6614099a
open Go.RowKit

/-- How many of the words ws stand from token i on. -/
def mlen (τ : TK) : Nat → List ByteArray → Nat
  | _, [] => 0
  | i, w :: ws => if kwB τ i w then mlen τ (i + 1) ws + 1 else 0
def bestF (τ : TK) (i : Nat) : Nat → Nat
  | 0 => 0
  | k + 1 => if bestF τ i k < mlen τ i (words k) then mlen τ i (words k) else bestF τ i k
def fullF (τ : TK) (i : Nat) : Nat → Int
  | 0 => -1
  | k + 1 => if mlen τ i (words k) = (words k).length then (k : Int) else fullF τ i k

theorem mlen_le (τ : TK) : ∀ (ws : List ByteArray) (i : Nat), mlen τ i ws ≤ ws.length
  | [], _ => by simp [mlen]
  | w :: ws, i => by
    have := mlen_le τ ws (i + 1)
    unfold mlen
    split <;> simp <;> omega
theorem words_len (k : Nat) : (words k).length ≤ 4 := by
  unfold words
  split <;> simp
theorem bestF_le (τ : TK) (i : Nat) : ∀ k, bestF τ i k ≤ 4
  | 0 => by simp [bestF]
  | k + 1 => by
    have := bestF_le τ i k
    have := mlen_le τ (words k) i
    have := words_len k
    unfold bestF
    split <;> omega
theorem fullF_bd (τ : TK) (i : Nat) : ∀ k, -1 ≤ fullF τ i k ∧ fullF τ i k ≤ (k : Int)
  | 0 => by simp [fullF]
  | k + 1 => by
    have := fullF_bd τ i k
    unfold fullF
    split <;> omega

theorem drop_get {ws : List ByteArray} {m : Nat} (h : m < ws.length) : ws.drop m = ws[m] :: ws.drop (m + 1) := by
  rw [List.drop_eq_getElem_cons h]

theorem mlen_step {τ : TK} {i m : Nat} {ws : List ByteArray} (h : m < ws.length) (hk : kwB τ (i + m) (ws.getD m ByteArray.empty) = true) (hmm : m + mlen τ (i + m) (ws.drop m) = mlen τ i ws) :
    (m + 1) + mlen τ (i + (m + 1)) (ws.drop (m + 1)) = mlen τ i ws := by
  rw [← hmm, drop_get h, mlen, if_pos (by simpa [h] using hk)]
  have : i + m + 1 = i + (m + 1) := by omega
  rw [this]
  omega
theorem mlen_stop {τ : TK} {i m : Nat} {ws : List ByteArray} (hk : m < ws.length → kwB τ (i + m) (ws.getD m ByteArray.empty) = false) (hmm : m + mlen τ (i + m) (ws.drop m) = mlen τ i ws) :
    m = mlen τ i ws := by
  by_cases h : m < ws.length
  · have hk' := hk h
    rw [drop_get h, mlen, if_neg (by simp [h] at hk' ⊢; exact hk')] at hmm
    omega
  · rw [List.drop_eq_nil_of_le (by omega), mlen] at hmm
    omega
theorem bs_yes {τ : TK} {i k m : Nat} (h : m = mlen τ i (words k)) (q : bestF τ i k < m) : Value.int .i64 (m : Int) = .int .i64 (bestF τ i (k + 1) : Int) := by
  subst h
  rw [bestF, if_pos q]
theorem bs_no {τ : TK} {i k m : Nat} (h : m = mlen τ i (words k)) (q : ¬ bestF τ i k < m) : Value.int .i64 (bestF τ i k : Int) = .int .i64 (bestF τ i (k + 1) : Int) := by
  subst h
  rw [bestF, if_neg q]
theorem fl_yes {τ : TK} {i k m : Nat} (h : m = mlen τ i (words k)) (q : m = (words k).length) : Value.int .i64 (k : Int) = .int .i64 (fullF τ i (k + 1)) := by
  rw [fullF, if_pos (by omega)]
theorem fl_no {τ : TK} {i k m : Nat} (h : m = mlen τ i (words k)) (q : ¬ m = (words k).length) : Value.int .i64 (fullF τ i k) = .int .i64 (fullF τ i (k + 1)) := by
  rw [fullF, if_neg (by omega)]

set_option maxHeartbeats 4000000 in
theorem match_any (τ : TK) (i : Nat) (kb ko kc xb xo xc qb qo eb eo : Nat) (w : World) (hn : τ.n ≤ 1048576) (hi : i < τ.n) (hout : Hid (∀ j, τ.n ≤ j → τ.kd j = 0)) (S : Hid (Src4 τ kb ko xb xo qb qo eb eo w)) :
    Calls Try.prog 9 #[.slice (some ⟨kb, ko, none⟩) τ.n kc, .slice (some ⟨xb, xo, none⟩) τ.n xc, .int .i64 (i : Int)] w fun r w' =>
      r = .returned (.tuple #[.int .i64 (bestF τ i 8 : Int), .int .i64 (fullF τ i 8)]) ∧ Hid (Below w.heap.size w w') := by
  have nn : (τ.n : Int) ≤ 1048576 := by omega
  have hi' : (i : Int) < (τ.n : Int) := by omega
  go_enter Try.func9, Try.ntmps9
  go_wp2
  go_loopw [8, 9, 10] (fun bs fl t wr => ∃ k : Nat, k ≤ 8 ∧ t = .int .i64 k ∧ bs = .int .i64 (bestF τ i k : Int) ∧ fl = .int .i64 (fullF τ i k) ∧ Hid (Below w.heap.size w wr)) (fun _ _ t _ => 8 - (intOf t).toNat)
  case atStart => exact ⟨0, Nat.zero_le _, rfl, rfl, rfl, Below.refl _ _⟩
  case round =>
    obtain ⟨k, hk, rfl, rfl, rfl, hb⟩ := hrel
    by_cases hlt : k < 8
    · have hbl := bestF_le τ i k
      have hwl := words_len k
      go_wp2_with fail
      refine (words_any k hlt _).mono ?_
      rintro r w1 ⟨rfl, hw1, hb1⟩
      go_wp2
      go_loopw [12] (fun t wq => ∃ m d : Nat, m ≤ (words k).length ∧ t = .int .i64 m ∧ wq = w1.drewN d ∧ Hid (m + mlen τ (i + m) ((words k).drop m) = mlen τ i (words k))) (fun t _ => (words k).length - (intOf t).toNat)
      case atStart => exact ⟨0, 0, Nat.zero_le _, rfl, rfl, by show 0 + mlen τ (i + 0) _ = _; simp⟩
      case round =>
        obtain ⟨m, d, hm, rfl, rfl, hmm⟩ := hrel
        have hsm : (m : Int) ≤ 4 := by omega
        have c2 : m < (words k).length → ∃ ω, ω = (words k).getD m ByteArray.empty ∧ w1.cell? ⟨wr.heap.size, m, none⟩ = some (.string ω) := by
          intro h
          refine ⟨_, rfl, ?_⟩
          rw [cell_of_heap hw1.out]
          simp [h]
        have c0 : i + m < τ.n → w1.cell? ⟨kb, ko + (i + m), none⟩ = some (.int .i64 (τ.kd (i + m))) := by
          intro h
          rw [hb1.out.cell (p := ⟨kb, ko + (i + m), none⟩) (Nat.lt_of_lt_of_le S.out.lk hb.out.size), hb.out.cell (p := ⟨kb, ko + (i + m), none⟩) S.out.lk]
          exact S.out.ck _ h
        have c1 : i + m < τ.n → w1.cell? ⟨xb, xo + (i + m), none⟩ = some (.string (τ.tx (i + m))) := by
          intro h
          rw [hb1.out.cell (p := ⟨xb, xo + (i + m), none⟩) (Nat.lt_of_lt_of_le S.out.lx hb.out.size), hb.out.cell (p := ⟨xb, xo + (i + m), none⟩) S.out.lx]
          exact S.out.cx _ h
        obtain ⟨κ, hκ⟩ : ∃ κ, κ = τ.kd (i + m) := ⟨_, rfl⟩
        obtain ⟨θ, hθ⟩ : ∃ θ, θ = τ.tx (i + m) := ⟨_, rfl⟩
        rw [← hκ] at c0
        rw [← hθ] at c1
        have Hκ : Hid (κ = τ.kd (i + m)) := hκ
        have Hθ : Hid (θ = τ.tx (i + m)) := hθ
        clear hκ hθ
        by_cases h1 : m < (words k).length
        · obtain ⟨ω, hω, e2⟩ := c2 h1
          have Hω : Hid (ω = (words k).getD m ByteArray.empty) := hω
          clear hω c2
          have g1 : (m : Int) < ((words k).length : Int) := by omega
          by_cases h2 : i + m < τ.n
          · have e0 := c0 h2
            have e1 := c1 h2
            clear c0 c1
            have g2 : (i : Int) + (m : Int) < (τ.n : Int) := by omega
            by_cases h3 : κ = 1
            · subst h3
              cases h4 : (θ.toList == ω.toList)
              · have hx : m = mlen τ i (words k) := mlen_stop (fun _ => by rw [kwB, ← Hω.out, ← Hθ.out, h4]; simp) hmm.out
                have HX : Hid _ := hx
                clear hx
                have q2 : ¬ m = (words k).length := by omega
                have q2' : ((m : Int) == ((words k).length : Int)) = false := by simp; omega
                have hB : Hid (Below w.heap.size w w1) := hb.out.trans (hb1.out.mono hb.out.size)
                by_cases q1 : bestF τ i k < m
                · have q1' : (bestF τ i k : Int) < (m : Int) := by omega
                  go_wp2
                  go_quiet (fail)
                  go_wp2
                  go_roundw
                  case rel => exact ⟨k + 1, by omega, by go_num, bs_yes HX.out q1, fl_no HX.out q2, below_drewN hB.out _⟩
                  case measure => simp [intOf]; omega
                · have q1' : ¬ (bestF τ i k : Int) < (m : Int) := by omega
                  go_wp2
                  go_quiet (fail)
                  go_wp2
                  go_roundw
                  case rel => exact ⟨k + 1, by omega, by go_num, bs_no HX.out q1, fl_no HX.out q2, below_drewN hB.out _⟩
                  case measure => simp [intOf]; omega
              · have HM : Hid (m + 1 + mlen τ (i + (m + 1)) ((words k).drop (m + 1)) = mlen τ i (words k)) := mlen_step h1 (by rw [kwB, ← Hω.out, ← Hθ.out, h4, ← Hκ.out]; rfl) hmm.out
                go_wp2
                go_quiet (fail)
                go_wp2
                go_roundw
                case rel => exact ⟨m + 1, _, by omega, by go_num, rfl, HM⟩
                case measure => simp [intOf]; omega
            · have h3' : (κ == 1) = false := by simpa using h3
              have hx : m = mlen τ i (words k) := mlen_stop (fun _ => by rw [kwB, ← Hκ.out, h3']; rfl) hmm.out
              have HX : Hid _ := hx
              clear hx
              have q2 : ¬ m = (words k).length := by omega
              have q2' : ((m : Int) == ((words k).length : Int)) = false := by simp; omega
              have hB : Hid (Below w.heap.size w w1) := hb.out.trans (hb1.out.mono hb.out.size)
              by_cases q1 : bestF τ i k < m
              · have q1' : (bestF τ i k : Int) < (m : Int) := by omega
                go_wp2
                go_quiet (fail)
                go_wp2
                go_roundw
                case rel => exact ⟨k + 1, by omega, by go_num, bs_yes HX.out q1, fl_no HX.out q2, below_drewN hB.out _⟩
                case measure => simp [intOf]; omega
              · have q1' : ¬ (bestF τ i k : Int) < (m : Int) := by omega
                go_wp2
                go_quiet (fail)
                go_wp2
                go_roundw
                case rel => exact ⟨k + 1, by omega, by go_num, bs_no HX.out q1, fl_no HX.out q2, below_drewN hB.out _⟩
                case measure => simp [intOf]; omega
          · have g2 : decide ((i : Int) + (m : Int) < (τ.n : Int)) = false := by simp; omega
            have hx : m = mlen τ i (words k) := mlen_stop (fun _ => by rw [kwB, hout.out _ (by omega)]; rfl) hmm.out
            have HX : Hid _ := hx
            clear hx
            have q2 : ¬ m = (words k).length := by omega
            have q2' : ((m : Int) == ((words k).length : Int)) = false := by simp; omega
            have hB : Hid (Below w.heap.size w w1) := hb.out.trans (hb1.out.mono hb.out.size)
            by_cases q1 : bestF τ i k < m
            · have q1' : (bestF τ i k : Int) < (m : Int) := by omega
              go_wp2
              go_quiet (fail)
              go_wp2
              go_roundw
              case rel => exact ⟨k + 1, by omega, by go_num, bs_yes HX.out q1, fl_no HX.out q2, below_drewN hB.out _⟩
              case measure => simp [intOf]; omega
            · have q1' : ¬ (bestF τ i k : Int) < (m : Int) := by omega
              go_wp2
              go_quiet (fail)
              go_wp2
              go_roundw
              case rel => exact ⟨k + 1, by omega, by go_num, bs_no HX.out q1, fl_no HX.out q2, below_drewN hB.out _⟩
              case measure => simp [intOf]; omega
        · have g1 : decide ((m : Int) < ((words k).length : Int)) = false := by simp; omega
          have hx : m = mlen τ i (words k) := mlen_stop (fun h => absurd h h1) hmm.out
          have HX : Hid _ := hx
          clear hx
          have q2 : m = (words k).length := by omega
          have Q2 : Hid _ := q2
          have q2' : ((m : Int) == ((words k).length : Int)) = true := by simp; omega
          have hB : Hid (Below w.heap.size w w1) := hb.out.trans (hb1.out.mono hb.out.size)
          clear q2
          by_cases q1 : bestF τ i k < m
          · have q1' : (bestF τ i k : Int) < (m : Int) := by omega
            go_wp2
            go_quiet (fail)
            go_wp2
            go_roundw
            case rel => exact ⟨k + 1, by omega, by go_num, bs_yes HX.out q1, fl_yes HX.out Q2.out, below_drewN hB.out _⟩
            case measure => simp [intOf]; omega
          · have q1' : ¬ (bestF τ i k : Int) < (m : Int) := by omega
            go_wp2
            go_quiet (fail)
            go_wp2
            go_roundw
            case rel => exact ⟨k + 1, by omega, by go_num, bs_no HX.out q1, fl_yes HX.out Q2.out, below_drewN hB.out _⟩
            case measure => simp [intOf]; omega
    · have hk8 : k = 8 := by omega
      subst hk8
      go_wp2
      go_ret2
      exact ⟨rfl, hb⟩
end Go.Proofs.Qxb6614099a
