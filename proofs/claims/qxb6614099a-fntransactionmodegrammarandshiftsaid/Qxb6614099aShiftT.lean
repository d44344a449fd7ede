import Derived.Test.Qxb6614099aSeis
import Derived.Test.Qxb6614099aStops
namespace Go.Proofs.Qxb6614099a
open Go.RowKit

/-- The tokens from m on. -/
def TK.shift (τ : TK) (m : Nat) : TK := ⟨τ.q, τ.n - m, fun j => τ.kd (m + j), fun j => τ.tx (m + j), fun j => τ.ps (m + j), fun j => τ.en (m + j)⟩

theorem shift_ok {τ : TK} {m : Nat} (ok : Hid τ.Ok) (hm : m < τ.n) : Hid (τ.shift m).Ok := by
  have h := ok.out
  refine ⟨?_, ?_, h.qsmall, ?_, ?_, ?_, ?_⟩
  · show 0 < τ.n - m; omega
  · show τ.n - m ≤ _; have := h.small; omega
  · show τ.kd (m + (τ.n - m - 1)) = 0
    rw [show m + (τ.n - m - 1) = τ.n - 1 by omega]
    exact h.last
  · intro j hj; exact h.lo (m + j) (by have : j < τ.n - m := hj; omega)
  · intro j hj; exact h.le (m + j) (by have : j < τ.n - m := hj; omega)
  · intro j hj; exact h.hi (m + j) (by have : j < τ.n - m := hj; omega)

theorem kw_shift (τ : TK) (m j : Nat) (kw : ByteArray) : kwB (τ.shift m) j kw = kwB τ (m + j) kw := rfl
theorem tm_shift (τ : TK) (m : Nat) (ro : Bool) : tmF (τ.shift m) 0 ro = tmF τ m ro := by
  simp only [tmF, isoF, kw_shift]
  simp only [Nat.add_zero, Nat.zero_add, Nat.add_assoc]
  rfl

theorem Src4.shift {τ : TK} {m kb xb qb eb : Nat} {W : World} (h : Src4 τ kb 0 xb 0 qb 0 eb 0 W) : Src4 (τ.shift m) kb m xb m qb m eb m W := by
  refine ⟨?_, ?_, ?_, ?_, h.lk, h.lx, h.lp, h.le⟩
  · intro j hj; have := h.ck (m + j) (by have : j < τ.n - m := hj; omega); rwa [Nat.zero_add] at this
  · intro j hj; have := h.cx (m + j) (by have : j < τ.n - m := hj; omega); rwa [Nat.zero_add] at this
  · intro j hj; have := h.cp (m + j) (by have : j < τ.n - m := hj; omega); rwa [Nat.zero_add] at this
  · intro j hj; have := h.ce (m + j) (by have : j < τ.n - m := hj; omega); rwa [Nat.zero_add] at this

theorem shift_good (τ : TK) (ok : Hid τ.Ok) (m : Nat) (ro : Bool) (kb xb qb eb : Nat) (w : World) (hm : m < τ.n) (S : Hid (Src4 τ kb 0 xb 0 qb 0 eb 0 w))
    (B : Nat) (ro' : Bool) (h1 : (tmF τ m ro).1 = B) (h2 : (tmF τ m ro).2.1 = ro') (h3 : (tmF τ m ro).2.2 = true) :
    Calls Try.prog 8 #[.string τ.q, .slice (some ⟨kb, m, none⟩) (τ.n - m) (τ.n - m), .slice (some ⟨xb, m, none⟩) (τ.n - m) (τ.n - m), .slice (some ⟨qb, m, none⟩) (τ.n - m) (τ.n - m), .slice (some ⟨eb, m, none⟩) (τ.n - m) (τ.n - m), .int .i64 0, .bool ro] w fun r w' =>
      r = .returned (.tuple #[.int .i64 (B : Int), .bool ro', .bool false, .pointer none]) ∧ Hid (Below w.heap.size w w') := by
  have h := zztm_good (τ.shift m) (shift_ok ok hm) 0 ro kb m (τ.n - m) xb m (τ.n - m) qb m (τ.n - m) eb m (τ.n - m) w (show 0 < τ.n - m by omega) S.out.shift B ro' (by rw [tm_shift]; exact h1) (by rw [tm_shift]; exact h2) (by rw [tm_shift]; exact h3)
  refine h.mono ?_
  rintro r w' ⟨rfl, hb⟩
  refine ⟨?_, hb⟩
  congr 5
  omega

theorem shift_bad (τ : TK) (ok : Hid τ.Ok) (m : Nat) (ro : Bool) (kb xb qb eb : Nat) (w : World) (hm : m < τ.n) (S : Hid (Src4 τ kb 0 xb 0 qb 0 eb 0 w))
    (B : Nat) (ro' : Bool) (h1 : (tmF τ m ro).1 = B) (h2 : (tmF τ m ro).2.1 = ro') (h3 : (tmF τ m ro).2.2 = false) :
    Calls Try.prog 8 #[.string τ.q, .slice (some ⟨kb, m, none⟩) (τ.n - m) (τ.n - m), .slice (some ⟨xb, m, none⟩) (τ.n - m) (τ.n - m), .slice (some ⟨qb, m, none⟩) (τ.n - m) (τ.n - m), .slice (some ⟨eb, m, none⟩) (τ.n - m) (τ.n - m), .int .i64 0, .bool ro] w fun r w' =>
      ∃ ub, r = .returned (.tuple #[.int .i64 (B : Int), .bool ro', .bool true, .pointer (some ⟨ub, 0, none⟩)]) ∧ Hid (ErrAt w' ub (errMsg τ (m + B)) (posn τ.q (τ.ps (m + B)))) ∧ Hid (Below w.heap.size w w') := by
  have h := zztm_bad (τ.shift m) (shift_ok ok hm) 0 ro kb m (τ.n - m) xb m (τ.n - m) qb m (τ.n - m) eb m (τ.n - m) w (show 0 < τ.n - m by omega) S.out.shift B ro' (by rw [tm_shift]; exact h1) (by rw [tm_shift]; exact h2) (by rw [tm_shift]; exact h3)
  refine h.mono ?_
  rintro r w' ⟨ub, rfl, hE, hb⟩
  refine ⟨ub, ?_, ?_, hb⟩
  · congr 5
    omega
  · have := hE.out
    rw [Nat.zero_add] at this
    exact this

theorem seis_at {τ : TK} (ok : Hid τ.Ok) (ub kb ko kc xb xo qb qo qc eb eo ec t B : Nat) (w : World) (ht : t + B < τ.n) (S : Hid (Src4 τ kb ko xb xo qb qo eb eo w)) (hE : Hid (ErrAt w ub (errMsg τ (t + B)) (posn τ.q (τ.ps (t + B))))) :
    Calls Try.prog 10 #[.pointer (some ⟨ub, 0, none⟩), .string τ.q, .slice (some ⟨kb, ko, none⟩) τ.n kc, .slice (some ⟨qb, qo, none⟩) τ.n qc, .slice (some ⟨eb, eo, none⟩) τ.n ec, .int .i64 ((t : Int) + (B : Int))] w fun r w' => r = .returned (.bool true) ∧ Hid (Below w.heap.size w w') :=
  seis_any ok ub kb ko kc xb xo qb qo qc eb eo ec (t + B) w ht S hE
end Go.Proofs.Qxb6614099a
