import Derived.Test.Qxb6614099aErr
import Derived.Deep.RegionHeld3
import Derived.Deep.RegionWith
namespace Go.Proofs.Qxb6614099a
open Go.RowKit

theorem PS.cells {τ : TK} {tb pb i : Nat} {W : World} (h : PS τ tb pb i W) : W.cell? ⟨pb, 0, none⟩ = some (.string τ.q) ∧ W.cell? ⟨pb, 2, none⟩ = some (.int .i64 (i : Int)) ∧ W.frozen? ⟨pb, 2, none⟩ = false ∧ pb < W.heap.size := by
  obtain ⟨h1, h2, h3, h4⟩ := h
  exact ⟨by rw [cell_of_heap h1]; rfl, by rw [cell_of_heap h1]; rfl, frozen_of_heap h1 2, heap_lt h1⟩

/-- What a callee that makes memory alone leaves of two old cells. -/
theorem keep2 {w w' : World} {a b : Addr} {u v : Value} (hb : Hid (Below w.heap.size w w')) (h1 : w.cell? a = some u) (h2 : w.cell? b = some v) (l1 : a.block < w.heap.size) (l2 : b.block < w.heap.size) : w'.cell? a = some u ∧ w'.cell? b = some v :=
  ⟨by rw [hb.out.cell l1]; exact h1, by rw [hb.out.cell l2]; exact h2⟩
theorem keep3 {w w' : World} {a b c : Addr} {u v x : Value} (hb : Hid (Below w.heap.size w w')) (h1 : w.cell? a = some u) (h2 : w.cell? b = some v) (h3 : w.cell? c = some x) (l1 : a.block < w.heap.size) (l2 : b.block < w.heap.size) (l3 : c.block < w.heap.size) : w'.cell? a = some u ∧ w'.cell? b = some v ∧ w'.cell? c = some x :=
  ⟨by rw [hb.out.cell l1]; exact h1, by rw [hb.out.cell l2]; exact h2, by rw [hb.out.cell l3]; exact h3⟩

set_option maxHeartbeats 1000000 in
theorem unexp_eof (pb tb i : Nat) (τ : TK) (W : World) (ok : Hid τ.Ok) (h : Hid (PS τ tb pb i W)) (hi : i < τ.n) (hk : τ.kd i = 0) :
    Calls Try.prog 19 #[.pointer (some ⟨pb, 0, none⟩)] W fun r W' => ∃ eb, r = .returned (.pointer (some ⟨eb, 0, none⟩)) ∧ Hid (W.heap.size ≤ eb) ∧ Hid (ErrAt W' eb endMsg (posn τ.q (τ.ps i))) ∧ Hid (Below W.heap.size W W') := by
  have hq := ok.out.qsmall
  have h0 := ok.out.lo i hi
  have h1 : τ.ps i ≤ τ.q.size := by have := ok.out.le i hi; have := ok.out.hi i hi; omega
  go_enter Try.func19, Try.ntmps19
  go_wp2_with fail
  refine (peek_any ok h hi).mono ?_
  rintro r w1 ⟨rfl, hb⟩
  obtain ⟨c0, c2, f2, lt⟩ := (h.out.below hb.out).cells
  clear c2 f2
  go_wp2_with fail
  have hcall := errAt_any τ.q (τ.ps i) endMsg (w1.alloc (.cells #[.int .i64 0, .string (τ.tx i), .int .i64 (τ.ps i), .int .i64 (τ.en i)] 43)).drew hq h0 h1
  have k1 : (w1.alloc (.cells #[.int .i64 0, .string (τ.tx i), .int .i64 (τ.ps i), .int .i64 (τ.en i)] 43)).drew.cell? ⟨pb, 0, none⟩ = some (.string τ.q) := by
    show (w1.alloc _).cell? _ = _
    rw [World.cell?_alloc_past _ _ _ lt]; exact c0
  have k2 : (w1.alloc (.cells #[.int .i64 0, .string (τ.tx i), .int .i64 (τ.ps i), .int .i64 (τ.en i)] 43)).drew.cell? ⟨w1.heap.size, 2, none⟩ = some (.int .i64 (τ.ps i)) := by
    show (w1.alloc _).cell? _ = _
    rw [cell_of_heap (heap_alloc_last _ _)]; rfl
  have K1 : Hid _ := k1
  have K2 : Hid _ := k2
  clear k1 k2
  go_region_held3 (fun w' => w'.cell? ⟨pb, 0, none⟩ = some (.string τ.q) ∧ w'.cell? ⟨w1.heap.size, 2, none⟩ = some (.int .i64 (τ.ps i))) (first | go_keep | (refine keep2 hb2 K1 K2 ?_ ?_ <;> (simp; try omega)))
    (first | (go_at_call 26; refine hcall.mono ?_; rintro r w2 ⟨eb, rfl, he, hE, hb2⟩))
  go_wp2
  go_ret
  exact ⟨eb, rfl, Nat.le_trans (Nat.le_trans hb.out.size (by simp)) he.out, hE, (hb.out.trans ((below_alloc _ _).drew.mono hb.out.size)).trans (hb2.out.mono (Nat.le_trans hb.out.size (by simp)))⟩

set_option maxHeartbeats 1000000 in
theorem unexp_near (pb tb i : Nat) (τ : TK) (W : World) (ok : Hid τ.Ok) (h : Hid (PS τ tb pb i W)) (hi : i < τ.n) (hk : (τ.kd i == 0) = false) :
    Calls Try.prog 19 #[.pointer (some ⟨pb, 0, none⟩)] W fun r W' => ∃ eb, r = .returned (.pointer (some ⟨eb, 0, none⟩)) ∧ Hid (W.heap.size ≤ eb) ∧ Hid (ErrAt W' eb (nearMsg τ.q (τ.ps i) (τ.en i)) (posn τ.q (τ.ps i))) ∧ Hid (Below W.heap.size W W') := by
  have hq := ok.out.qsmall
  have h0 := ok.out.lo i hi
  have h1 := ok.out.le i hi
  have h2 := ok.out.hi i hi
  go_enter Try.func19, Try.ntmps19
  go_wp2_with fail
  refine (peek_any ok h hi).mono ?_
  rintro r w1 ⟨rfl, hb⟩
  obtain ⟨c0, c2, f2, lt⟩ := (h.out.below hb.out).cells
  clear c2 f2
  go_wp2_with fail
  have hcall := errNear_any τ.q (τ.ps i) (τ.en i) (w1.alloc (.cells #[.int .i64 (τ.kd i), .string (τ.tx i), .int .i64 (τ.ps i), .int .i64 (τ.en i)] 43)).drew hq h0 h1 h2
  have k1 : (w1.alloc (.cells #[.int .i64 (τ.kd i), .string (τ.tx i), .int .i64 (τ.ps i), .int .i64 (τ.en i)] 43)).drew.cell? ⟨pb, 0, none⟩ = some (.string τ.q) := by
    show (w1.alloc _).cell? _ = _
    rw [World.cell?_alloc_past _ _ _ lt]; exact c0
  have k2 : (w1.alloc (.cells #[.int .i64 (τ.kd i), .string (τ.tx i), .int .i64 (τ.ps i), .int .i64 (τ.en i)] 43)).drew.cell? ⟨w1.heap.size, 2, none⟩ = some (.int .i64 (τ.ps i)) := by
    show (w1.alloc _).cell? _ = _
    rw [cell_of_heap (heap_alloc_last _ _)]; rfl
  have k3 : (w1.alloc (.cells #[.int .i64 (τ.kd i), .string (τ.tx i), .int .i64 (τ.ps i), .int .i64 (τ.en i)] 43)).drew.cell? ⟨w1.heap.size, 3, none⟩ = some (.int .i64 (τ.en i)) := by
    show (w1.alloc _).cell? _ = _
    rw [cell_of_heap (heap_alloc_last _ _)]; rfl
  have K1 : Hid _ := k1
  have K2 : Hid _ := k2
  have K3 : Hid _ := k3
  clear k1 k2 k3
  go_region_held3 (fun w' => w'.cell? ⟨pb, 0, none⟩ = some (.string τ.q) ∧ w'.cell? ⟨w1.heap.size, 2, none⟩ = some (.int .i64 (τ.ps i)) ∧ w'.cell? ⟨w1.heap.size, 3, none⟩ = some (.int .i64 (τ.en i))) (first | go_keep | (refine keep3 hb2 K1 K2 K3 ?_ ?_ ?_ <;> (simp; try omega)))
    (first | (go_at_call 27; refine hcall.mono ?_; rintro r w2 ⟨eb, rfl, he, hE, hb2⟩))
  go_wp2
  go_ret
  exact ⟨eb, rfl, Nat.le_trans (Nat.le_trans hb.out.size (by simp)) he.out, hE, (hb.out.trans ((below_alloc _ _).drew.mono hb.out.size)).trans (hb2.out.mono (Nat.le_trans hb.out.size (by simp)))⟩

theorem unexp_any {τ : TK} {tb pb i : Nat} {W : World} (ok : Hid τ.Ok) (h : Hid (PS τ tb pb i W)) (hi : i < τ.n) :
    Calls Try.prog 19 #[.pointer (some ⟨pb, 0, none⟩)] W fun r W' => ∃ eb, r = .returned (.pointer (some ⟨eb, 0, none⟩)) ∧ Hid (W.heap.size ≤ eb) ∧ Hid (ErrAt W' eb (errMsg τ i) (posn τ.q (τ.ps i))) ∧ Hid (Below W.heap.size W W') := by
  by_cases hk : τ.kd i = 0
  · rw [errMsg, if_pos hk]
    exact unexp_eof pb tb i τ W ok h hi hk
  · rw [errMsg, if_neg hk]
    exact unexp_near pb tb i τ W ok h hi (by simpa using hk)
end Go.Proofs.Qxb6614099a
