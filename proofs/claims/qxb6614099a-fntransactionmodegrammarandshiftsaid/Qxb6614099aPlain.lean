import Derived.Test.Qxb6614099aMatch
namespace Go.Proofs.Qxb6614099a
open Go.RowKit

theorem kw_excl {τ : TK} {j : Nat} {a b : ByteArray} (h : kwB τ j a = true) (hne : (a.toList == b.toList) = false) : kwB τ j b = false := by
  simp only [kwB, Bool.and_eq_true, beq_iff_eq] at h
  cases hb : kwB τ j b
  · rfl
  · simp only [kwB, Bool.and_eq_true, beq_iff_eq] at hb
    rw [← h.2, hb.2] at hne
    simp at hne

theorem full_best (τ : TK) (i : Nat) (ro : Bool) : bestF τ i 8 = (tmF τ i ro).1 ∧ ((tmF τ i ro).2.2 = true ↔ 0 ≤ fullF τ i 8) ∧ (tmF τ i ro).2.1 = (if fullF τ i 8 = 0 then true else if fullF τ i 8 = 1 then false else ro) := by
  cases r0 : kwB τ i kRead
  · cases s0 : kwB τ i kIsolation
    · cases n0 : kwB τ i kNot
      · cases d0 : kwB τ i kDeferrable
        · simp [tmF, bestF, fullF, words, mlen, r0, s0, n0, d0]
        · simp [tmF, bestF, fullF, words, mlen, r0, s0, n0, d0]
      · have d0 : kwB τ i kDeferrable = false := kw_excl n0 (by simp)
        cases d1 : kwB τ (i + 1) kDeferrable
        · simp [tmF, bestF, fullF, words, mlen, r0, s0, n0, d0, d1]
        · simp [tmF, bestF, fullF, words, mlen, r0, s0, n0, d0, d1]
    · have n0 : kwB τ i kNot = false := kw_excl s0 (by simp)
      have d0 : kwB τ i kDeferrable = false := kw_excl s0 (by simp)
      cases l1 : kwB τ (i + 1) kLevel
      · simp [tmF, bestF, fullF, words, mlen, r0, s0, n0, d0, l1]
      · cases e2 : kwB τ (i + 2) kSerializable
        · cases p2 : kwB τ (i + 2) kRepeatable
          · cases q2 : kwB τ (i + 2) kRead
            · simp [tmF, isoF, bestF, fullF, words, mlen, r0, s0, n0, d0, l1, e2, p2, q2]
            · cases c3 : kwB τ (i + 3) kCommitted
              · cases u3 : kwB τ (i + 3) kUncommitted
                · simp [tmF, isoF, bestF, fullF, words, mlen, r0, s0, n0, d0, l1, e2, p2, q2, c3, u3]
                · simp [tmF, isoF, bestF, fullF, words, mlen, r0, s0, n0, d0, l1, e2, p2, q2, c3, u3]
              · have u3 : kwB τ (i + 3) kUncommitted = false := kw_excl c3 (by simp)
                simp [tmF, isoF, bestF, fullF, words, mlen, r0, s0, n0, d0, l1, e2, p2, q2, c3, u3]
          · have q2 : kwB τ (i + 2) kRead = false := kw_excl p2 (by simp)
            cases q3 : kwB τ (i + 3) kRead
            · simp [tmF, isoF, bestF, fullF, words, mlen, r0, s0, n0, d0, l1, e2, p2, q2, q3]
            · simp [tmF, isoF, bestF, fullF, words, mlen, r0, s0, n0, d0, l1, e2, p2, q2, q3]
        · have p2 : kwB τ (i + 2) kRepeatable = false := kw_excl e2 (by simp)
          have q2 : kwB τ (i + 2) kRead = false := kw_excl e2 (by simp)
          simp [tmF, isoF, bestF, fullF, words, mlen, r0, s0, n0, d0, l1, e2, p2, q2]
  · have s0 : kwB τ i kIsolation = false := kw_excl r0 (by simp)
    have n0 : kwB τ i kNot = false := kw_excl r0 (by simp)
    have d0 : kwB τ i kDeferrable = false := kw_excl r0 (by simp)
    cases o1 : kwB τ (i + 1) kOnly
    · cases w1 : kwB τ (i + 1) kWrite
      · simp [tmF, bestF, fullF, words, mlen, r0, s0, n0, d0, o1, w1]
      · simp [tmF, bestF, fullF, words, mlen, r0, s0, n0, d0, o1, w1]
    · have w1 : kwB τ (i + 1) kWrite = false := kw_excl o1 (by simp)
      simp [tmF, bestF, fullF, words, mlen, r0, s0, n0, d0, o1, w1]
end Go.Proofs.Qxb6614099a
