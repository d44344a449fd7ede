import Derived.Test.Qxb6608869aSet
import Derived.Deep.RegionHeld3
namespace Go.Proofs.Qxb6608869a
open Go.RowKit

theorem low0 (w : World) : Calls Try.prog 25 #[.slice none 0 0] w fun e w' => e = .returned (.int .u64 0) ∧ w' = w := by
  go_enter Try.func25, Try.ntmps25
  go_wp2
  go_ret
  exact ⟨rfl, rfl⟩
theorem low1 (g : Nat) (n : Int) (w : World) (hc : w.cell? ⟨g, 0, none⟩ = some (.int .u64 n)) : Calls Try.prog 25 #[.slice (some ⟨g, 0, none⟩) 1 1] w fun e w' => e = .returned (.int .u64 n) ∧ w' = w := by
  go_enter Try.func25, Try.ntmps25
  go_wp2
  go_ret
  exact ⟨rfl, rfl⟩
theorem low_any (v : Value) (n : Int) (w : World) (h : NatAt w v n) : Calls Try.prog 25 #[v] w fun e w' => e = .returned (.int .u64 n) ∧ w' = w := by
  rcases h with ⟨rfl, rfl⟩ | ⟨hn, g, rfl, hc⟩
  · exact low0 w
  · exact low1 g n w (by rw [cell_of_heap hc]; rfl)

theorem ret_int {k : IntKind} {a b : Int} (h : a = b) : Ending.returned (.int k a) = .returned (.int k b) := by rw [h]
theorem back_neg (x : Int) (h : x < 0) (h1 : -9223372036854775808 ≤ x) : wrap64 (-wrap64 (x.natAbs : Int)) = x := by
  unfold wrap64; omega

theorem int64_any (b : Nat) (x : Int) (w : World) (h : BigAt w b x) (h1 : -9223372036854775808 ≤ x) (h2 : x ≤ 9223372036854775807) :
    Calls Try.prog 13 #[.pointer (some ⟨b, 0, none⟩)] w fun e w' => e = .returned (.int .i64 x) ∧ w' = w := by
  obtain ⟨v, hb, hn⟩ := h
  have hb0 : w.cell? ⟨b, 0, none⟩ = some (.bool (decide (x < 0))) := by rw [cell_of_heap hb]; rfl
  have hb1 : w.cell? ⟨b, 1, none⟩ = some v := by rw [cell_of_heap hb]; rfl
  clear hb
  by_cases hx : x < 0
  · rw [show decide (x < 0) = true by simpa using hx] at hb0
    go_enter Try.func13, Try.ntmps13
    go_wp2_with (go_at_call 25; refine (low_any v _ _ hn).mono ?_; rintro e w' ⟨rfl, rfl⟩)
    go_ret
    exact ⟨ret_int (back_neg x hx h1), rfl⟩
  · rw [show decide (x < 0) = false by simpa using hx] at hb0
    go_enter Try.func13, Try.ntmps13
    go_wp2_with (go_at_call 25; refine (low_any v _ _ hn).mono ?_; rintro e w' ⟨rfl, rfl⟩)
    go_ret
    exact ⟨ret_int (by omega), rfl⟩

theorem exponent_any (b : Nat) (e : Int) (w : World) :
    Calls Try.prog 14 #[.agg #[.pointer (some ⟨b, 0, none⟩), .int .i32 e]] w fun r w' => r = .returned (.int .i32 e) ∧ Below w.heap.size w w' := by
  go_enter Try.func14, Try.ntmps14
  go_wp2
  go_ret
  exact ⟨rfl, (Below.refl _ _).alloc (Nat.le_refl _) _⟩

theorem ensure_any (d b : Nat) (w : World) (h : w.cell? ⟨d, 0, none⟩ = some (.pointer (some ⟨b, 0, none⟩))) :
    Calls Try.prog 17 #[.pointer (some ⟨d, 0, none⟩)] w fun r w' => r = .returned (.tuple #[]) ∧ w' = w := by
  go_enter Try.func17, Try.ntmps17
  go_wp2
  go_end0
  exact ⟨rfl, rfl⟩

theorem new_any (x e : Int) (w : World) (h1 : -9223372036854775808 ≤ x) (h2 : x ≤ 9223372036854775807) :
    Calls Try.prog 11 #[.int .i64 x, .int .i32 e] w fun r w' => ∃ b, r = .returned (.agg #[.pointer (some ⟨b, 0, none⟩), .int .i32 e]) ∧ BigAt w' b x ∧ Below w.heap.size w w' := by
  go_enter Try.func11, Try.ntmps11
  go_wp2_with fail
  refine (newInt_any x _ h1 h2).mono ?_
  rintro r w1 ⟨b, rfl, hlb, hbig, hbel⟩
  have hz : w.heap.size < w1.heap.size := by have := hbel.size; simp at this; omega
  have hk : w1.heap[w.heap.size]? = some (.cells #[.pointer none, .int .i32 0] 26 (0, 0)) := by rw [hbel.block _ (by simp), heap_alloc_last]
  have hk0 : w1.cell? ⟨w.heap.size, 0, none⟩ = some (.pointer none) := by rw [cell_of_heap hk]; rfl
  have hk1 : w1.cell? ⟨w.heap.size, 1, none⟩ = some (.int .i32 0) := by rw [cell_of_heap hk]; rfl
  have fk0 : w1.frozen? ⟨w.heap.size, 0, none⟩ = false := frozen_of_heap hk 0
  have fk1 : w1.frozen? ⟨w.heap.size, 1, none⟩ = false := frozen_of_heap hk 1
  have HB : Hid (BigAt w1 b x) := hbig
  have HL : Hid (Below w.heap.size w w1) := ((Below.refl _ _).alloc (Nat.le_refl _) _).trans (hbel.mono (by simp))
  have HK : Hid (Tag w1 w.heap.size 26) := ⟨_, _, hk⟩
  clear hk hbig hbel hlb
  go_wp2
  refine bodyPost_ret (v := .agg #[.pointer (some ⟨b, 0, none⟩), .int .i32 e]) (by simp [results, Try.results11, go_sem, hk0, hk1]) rfl ⟨b, rfl, ?_, ?_⟩
  · exact HB.out.setCell2 HK.out (by decide) (by decide) _ _ _ _
  · exact below_set2 HL.out (Nat.le_refl _) _ _ _ _
end Go.Proofs.Qxb6608869a
