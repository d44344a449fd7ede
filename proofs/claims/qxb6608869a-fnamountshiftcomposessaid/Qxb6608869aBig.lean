import Derived.Test.Qxb6608869aRows
import Derived.WalkKit
import Derived.WalkSpells
import Derived.Laws.Pointers
import Derived.Laws.CopyOwn
import Derived.RowKit3
namespace Go.Proofs.Qxb6608869a
open Go.RowKit

theorem bcell {W w1 : World} {B : Nat} (hb : Below B W w1) : (∀ b o, b < B → w1.cell? ⟨b, o, none⟩ = W.cell? ⟨b, o, none⟩) ∧ (∀ b o, b < B → w1.frozen? ⟨b, o, none⟩ = W.frozen? ⟨b, o, none⟩) :=
  ⟨fun b o h => hb.cell (p := ⟨b, o, none⟩) h, fun b o h => hb.frozen (p := ⟨b, o, none⟩) h⟩

/-- The slice value v holds the natural number n (at most one word). -/
def NatAt (w : World) (v : Value) (n : Int) : Prop :=
  (n = 0 ∧ v = .slice none 0 0) ∨ (n ≠ 0 ∧ ∃ g, v = .slice (some ⟨g, 0, none⟩) 1 1 ∧ w.heap[g]? = some (.cells #[.int .u64 n] 55 (0, 0)))

/-- At block b lies a big.Int of value x. -/
def BigAt (w : World) (b : Nat) (x : Int) : Prop :=
  ∃ v, w.heap[b]? = some (.cells #[.bool (decide (x < 0)), v] 50 (0, 0)) ∧ NatAt w v (x.natAbs : Int)

theorem heap_lt {w : World} {b : Nat} {o : Obj} (h : w.heap[b]? = some o) : b < w.heap.size := by
  rcases Array.getElem?_eq_some_iff.1 h with ⟨h, _⟩
  exact h

theorem cell_of_heap {w : World} {b : Nat} {cs : Array Value} {t : TypeId} (h : w.heap[b]? = some (.cells cs t (0, 0))) (i : Nat) : w.cell? ⟨b, i, none⟩ = cs[i]? := by
  simp [World.cell?, h]
theorem frozen_of_heap {w : World} {b : Nat} {cs : Array Value} {t : TypeId} (h : w.heap[b]? = some (.cells cs t (0, 0))) (i : Nat) : w.frozen? ⟨b, i, none⟩ = false := by
  simp [World.frozen?, h]

theorem NatAt.below {w w' : World} {v : Value} {n : Int} (h : NatAt w v n) (hb : Below w.heap.size w w') : NatAt w' v n := by
  rcases h with h | ⟨hn, g, hv, hc⟩
  · exact .inl h
  · exact .inr ⟨hn, g, hv, by rw [hb.block g (heap_lt hc)]; exact hc⟩

theorem BigAt.lt {w : World} {b : Nat} {x : Int} (h : BigAt w b x) : b < w.heap.size := by
  obtain ⟨v, h1, _⟩ := h
  exact heap_lt h1

theorem BigAt.below {w w' : World} {b : Nat} {x : Int} (h : BigAt w b x) (hb : Below w.heap.size w w') : BigAt w' b x := by
  have h0 := h.lt
  obtain ⟨v, h1, h3⟩ := h
  exact ⟨v, by rw [hb.block b h0]; exact h1, h3.below hb⟩

/-- Block k is a row of cells of type t. -/
def Tag (w : World) (k : Nat) (t : TypeId) : Prop := ∃ c f, w.heap[k]? = some (.cells c t f)

theorem Tag.setCell {w : World} {k : Nat} {t : TypeId} (h : Tag w k t) (a : Addr) (u : Value) : Tag (w.setCell a u) k t := by
  obtain ⟨c, f, h⟩ := h
  simp only [Tag, World.setCell, Array.getElem?_modify]
  by_cases hk : a.block = k
  · rw [if_pos hk, h]
    exact ⟨_, _, rfl⟩
  · rw [if_neg hk]
    exact ⟨c, f, h⟩

/-- A store into a block of another type turns no big.Int. -/
theorem BigAt.setCell {w : World} {b k : Nat} {x : Int} {t : TypeId} (h : BigAt w b x) (hk : Tag w k t) (h50 : t ≠ 50) (h55 : t ≠ 55) (i : Nat) (u : Value) : BigAt (w.setCell ⟨k, i, none⟩ u) b x := by
  obtain ⟨v, h1, h2⟩ := h
  obtain ⟨c, f, hk⟩ := hk
  refine ⟨v, ?_, ?_⟩
  · rw [Below.heap_setCell _ _ _ _ ?_]
    · exact h1
    · rintro rfl
      rw [hk] at h1
      simp at h1
      exact h50 h1.2.1
  · rcases h2 with h2 | ⟨hn, g, hv, hc⟩
    · exact .inl h2
    · refine .inr ⟨hn, g, hv, ?_⟩
      rw [Below.heap_setCell _ _ _ _ ?_]
      · exact hc
      · rintro rfl
        rw [hk] at hc
        simp at hc
        exact h55 hc.2.1

theorem BigAt.setCell2 {w : World} {b k : Nat} {x : Int} {t : TypeId} (h : BigAt w b x) (hk : Tag w k t) (h50 : t ≠ 50) (h55 : t ≠ 55) (i j : Nat) (u v : Value) : BigAt ((w.setCell ⟨k, i, none⟩ u).setCell ⟨k, j, none⟩ v) b x :=
  (h.setCell hk h50 h55 i u).setCell (hk.setCell _ _) h50 h55 j v

theorem BigAt.setCell4 {w : World} {b k : Nat} {x : Int} {t : TypeId} (h : BigAt w b x) (hk : Tag w k t) (h50 : t ≠ 50) (h55 : t ≠ 55) (i j i' j' : Nat) (u v u' v' : Value) :
    BigAt ((((w.setCell ⟨k, i, none⟩ u).setCell ⟨k, j, none⟩ v).setCell ⟨k, i', none⟩ u').setCell ⟨k, j', none⟩ v') b x :=
  (h.setCell2 hk h50 h55 i j u v).setCell2 ((hk.setCell _ _).setCell _ _) h50 h55 i' j' u' v'

theorem below_set2 {B k : Nat} {a w : World} (h : Below B a w) (hk : B ≤ k) (i j : Nat) (u v : Value) : Below B a ((w.setCell ⟨k, i, none⟩ u).setCell ⟨k, j, none⟩ v) :=
  (h.setCell (p := ⟨k, i, none⟩) hk u).setCell (p := ⟨k, j, none⟩) hk v
theorem below_set4 {B k : Nat} {a w : World} (h : Below B a w) (hk : B ≤ k) (i j i' j' : Nat) (u v u' v' : Value) : Below B a ((((w.setCell ⟨k, i, none⟩ u).setCell ⟨k, j, none⟩ v).setCell ⟨k, i', none⟩ u').setCell ⟨k, j', none⟩ v') :=
  below_set2 (below_set2 h hk i j u v) hk i' j' u' v'

theorem heap_alloc_last (w : World) (o : Obj) : (w.alloc o).heap[w.heap.size]? = some o := by
  show (w.heap.push _)[w.heap.size]? = _; simp
theorem heap_alloc_last1 (w : World) (o o' : Obj) : ((w.alloc o).alloc o').heap[w.heap.size + 1]? = some o' := by
  have := heap_alloc_last (w.alloc o) o'
  simpa using this

theorem wrap_neg (x : Int) (h : x < 0) (h2 : -9223372036854775808 ≤ x) : IntKind.u64.wrap (-IntKind.u64.wrap x) = (x.natAbs : Int) := by
  simp [IntKind.wrap, IntKind.bits, IntKind.signed]; omega

theorem newInt_any (x : Int) (w : World) (h1 : -9223372036854775808 ≤ x) (h2 : x ≤ 9223372036854775807) :
    Calls Try.prog 16 #[.int .i64 x] w fun e w' => ∃ b, e = .returned (.pointer (some ⟨b, 0, none⟩)) ∧ w.heap.size ≤ b ∧ BigAt w' b x ∧ Below w.heap.size w w' := by
  by_cases h0 : x = 0
  · subst h0
    go_enter Try.func16, Try.ntmps16
    go_wp2
    go_ret
    exact ⟨w.heap.size, rfl, Nat.le_refl _, ⟨_, heap_alloc_last _ _, .inl ⟨rfl, rfl⟩⟩, (Below.refl _ _).alloc (Nat.le_refl _) _⟩
  by_cases hp : 0 < x
  · go_enter Try.func16, Try.ntmps16
    go_wp2
    go_ret
    have e : ((x.natAbs : Nat) : Int) = x := by omega
    refine ⟨w.heap.size + 1, rfl, by omega, ⟨_, heap_alloc_last1 _ _ _, .inr ⟨by omega, w.heap.size, rfl, by rw [e, Below.heap_alloc _ _ _ (by simp)]; exact heap_alloc_last _ _⟩⟩, ((Below.refl _ _).alloc (Nat.le_refl _) _).alloc (by simp) _⟩
  · have hn : x < 0 := by omega
    have hw := wrap_neg x hn h1
    have HW : Hid (IntKind.u64.wrap (-IntKind.u64.wrap x) = (x.natAbs : Int)) := hw
    clear hw h0 hp
    go_enter Try.func16, Try.ntmps16
    go_wp2
    go_ret
    rw [HW.out]
    have hd : decide (x < 0) = true := by simpa using hn
    refine ⟨w.heap.size + 1, rfl, by omega, ⟨_, by rw [hd]; exact heap_alloc_last1 _ _ _, .inr ⟨by omega, w.heap.size, rfl, by rw [Below.heap_alloc _ _ _ (by simp)]; exact heap_alloc_last _ _⟩⟩, ((Below.refl _ _).alloc (Nat.le_refl _) _).alloc (by simp) _⟩

theorem make0 (w : World) : Calls Try.prog 27 #[.slice none 0 0, .int .i64 0] w fun e w' => e = .returned (.slice none 0 0) ∧ w' = w := by
  go_enter Try.func27, Try.ntmps27
  go_wp2
  go_ret
  exact ⟨rfl, rfl⟩
theorem make1 (w : World) : Calls Try.prog 27 #[.slice none 0 0, .int .i64 1] w fun e w' => e = .returned (.slice (some ⟨w.heap.size, 0, none⟩) 1 1) ∧ w' = w.alloc (.cells #[.int .u64 0] 55) := by
  have hmk : ∀ w, (Instr.makeSlice 48 (.int .i64 1) (.int .i64 1)).run Try.prog w = .ok (.slice (some ⟨w.heap.size, 0, none⟩) 1 1) (w.alloc (.cells #[.int .u64 0] 55)) := fun _ => by kernel_rfl
  go_enter Try.func27, Try.ntmps27
  go_wp2
  go_ret
  exact ⟨rfl, rfl⟩

theorem info55 : (Try.prog.info? 55).map (·.size) = some 1 := by kernel_rfl
set_option maxHeartbeats 400000 in
theorem natset0 (w : World) : Calls Try.prog 26 #[.slice none 0 0, .slice none 0 0] w fun e w' => e = .returned (.slice none 0 0) ∧ w' = w := by
  have hcp := run_copy_none (P := Try.prog) w 48 48 3 55 none none 0 0 0 0 Try.underlying48 info55 rfl
  go_enter Try.func26, Try.ntmps26
  go_wp2_with (go_at_call 27; refine (make0 _).mono ?_; rintro e w' ⟨rfl, rfl⟩)
  go_ret
  exact ⟨rfl, rfl⟩

theorem modify_push_last (a : Array Obj) (x : Obj) (f : Obj → Obj) : (a.push x).modify a.size f = a.push (f x) := by
  apply Array.ext
  · simp
  · intro i h1 h2
    simp only [Array.getElem_modify, Array.getElem_push]
    simp at h1
    by_cases h : i < a.size
    · have : ¬ a.size = i := by omega
      simp [h, this]
    · have : a.size = i := by omega
      simp [this]

theorem copyrow (g : Nat) (n : Int) (w : World) (hg : g < w.heap.size) (hc : w.cell? ⟨g, 0, none⟩ = some (.int .u64 n)) :
    (Builtin.copy_ #[48, 48] 3 #[.slice (some ⟨w.heap.size, 0, none⟩) 1 1, .slice (some ⟨g, 0, none⟩) 1 1]).run Try.prog (w.alloc (.cells #[.int .u64 0] 55)) =
      .ok (.int .i64 1) (w.alloc (.cells #[.int .u64 n] 55)) := by
  have h := run_copy_row (P := Try.prog) (w.alloc (.cells #[.int .u64 0] 55)) 48 48 3 55 w.heap.size 0 1 1 ⟨g, 0, none⟩ 1 1 #[.int .u64 0] 55 [.int .u64 n] Try.underlying48 info55
    (by show (w.heap.push _)[w.heap.size]? = _; simp) rfl ?_ (by simp) (by simp [Value.oneCell'])
  · rw [h]
    congr 1
    show ({ w with heap := (w.heap.push _).modify _ _ } : World) = { w with heap := w.heap.push _ }
    congr 1
    rw [modify_push_last]
    rfl
  · intro j v hj
    match j, hj with
    | 0, hj => simp at hj; subst hj; simp [Addr.add]; rw [World.cell?_alloc_past]; exact hc; simpa using hg

set_option maxHeartbeats 400000 in
theorem natset1 (g : Nat) (n : Int) (w : World) (hg : g < w.heap.size) (hc : w.cell? ⟨g, 0, none⟩ = some (.int .u64 n)) : Calls Try.prog 26 #[.slice none 0 0, .slice (some ⟨g, 0, none⟩) 1 1] w fun e w' => e = .returned (.slice (some ⟨w.heap.size, 0, none⟩) 1 1) ∧ w' = w.alloc (.cells #[.int .u64 n] 55) := by
  have hcp := copyrow g n w hg hc
  go_enter Try.func26, Try.ntmps26
  go_wp2_with (go_at_call 27; refine (make1 _).mono ?_; rintro e w' ⟨rfl, rfl⟩)
  go_ret
  exact ⟨rfl, rfl⟩
end Go.Proofs.Qxb6608869a
