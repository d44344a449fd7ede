import Derived.Test.Qxb6614099aRune
namespace Go.Proofs.Qxb6614099a
open Go.RowKit

set_option maxHeartbeats 4000000 in
theorem seis_end (q : ByteArray) (p R : Int) (ub kb ko kc qb qo qc eb eo ec n t : Nat) (w : World) (_hn : n ≤ 1048576) (ht : t < n) (_hq : q.size ≤ 1048576) (hp0 : 0 ≤ p) (hp1 : p ≤ q.size) (hR0 : 0 ≤ R) (hR1 : R ≤ 1048576)
    (hrune : ∀ w, Calls Try.prog 18 #[.string (q.extract 0 p.toNat)] w fun r w' => r = .returned (.int .i64 R) ∧ w' = w)
    (x0 : w.cell? ⟨ub, 0, none⟩ = some (.string ⟨#[52, 50, 54, 48, 49]⟩)) (x1 : w.cell? ⟨ub, 1, none⟩ = some (.string ⟨#[115, 121, 110, 116, 97, 120, 32, 101, 114, 114, 111, 114, 32, 97, 116, 32, 101, 110, 100, 32, 111, 102, 32, 105, 110, 112, 117, 116]⟩)) (x2 : w.cell? ⟨ub, 2, none⟩ = some (.string ⟨#[]⟩)) (x3 : w.cell? ⟨ub, 3, none⟩ = some (.string ⟨#[]⟩)) (x4 : w.cell? ⟨ub, 4, none⟩ = some (.int .i64 (R + 1)))
    (c0 : w.cell? ⟨kb, ko + t, none⟩ = some (.int .i64 0)) (c1 : w.cell? ⟨qb, qo + t, none⟩ = some (.int .i64 p)) :
    Calls Try.prog 10 #[.pointer (some ⟨ub, 0, none⟩), .string q, .slice (some ⟨kb, ko, none⟩) n kc, .slice (some ⟨qb, qo, none⟩) n qc, .slice (some ⟨eb, eo, none⟩) n ec, .int .i64 (t : Int)] w fun r w' => r = .returned (.bool true) ∧ Hid (Below w.heap.size w w') := by
  have t1 : (t : Int) < (n : Int) := by omega
  have t0 : (0 : Int) ≤ (t : Int) := by omega
  go_enter Try.func10, Try.ntmps10
  go_wp2
  go_quiet ((go_at_call 18; exact Calls.quiet_of_same (hrune _)))
  go_wp2
  go_ret
  exact ⟨rfl, below_drewN (Below.refl _ _) _⟩

/-- A quiet call behind an earlier draw. -/
theorem quiet_again {P : Program} {f : FuncId} {args : Array Value} {w : World} {a n : Nat} {v : Value}
    (h : Calls P f args (w.drewN (a + n)) fun e w' => e = .returned v ∧ w' = w.drewN (a + n)) : Calls P f args (w.drewN (a + n)) fun e w'' => e = .returned v ∧ ∃ m, w'' = w.drewN (a + m) :=
  h.mono fun _ _ ⟨he, hm⟩ => ⟨he, n, hm⟩

set_option maxHeartbeats 4000000 in
theorem seis_near (q : ByteArray) (κ p e R : Int) (ub kb ko kc qb qo qc eb eo ec n t : Nat) (w : World) (_hn : n ≤ 1048576) (ht : t < n) (_hq : q.size ≤ 1048576) (hp0 : 0 ≤ p) (hp1 : p ≤ e) (hp2 : e ≤ q.size) (hR0 : 0 ≤ R) (hR1 : R ≤ 1048576) (hκ : (κ == 0) = false)
    (hrune : ∀ w, Calls Try.prog 18 #[.string (q.extract 0 p.toNat)] w fun r w' => r = .returned (.int .i64 R) ∧ w' = w)
    (x0 : w.cell? ⟨ub, 0, none⟩ = some (.string ⟨#[52, 50, 54, 48, 49]⟩)) (x1 : w.cell? ⟨ub, 1, none⟩ = some (.string ((⟨#[115, 121, 110, 116, 97, 120, 32, 101, 114, 114, 111, 114, 32, 97, 116, 32, 111, 114, 32, 110, 101, 97, 114, 32, 34]⟩ : ByteArray) ++ q.extract p.toNat e.toNat ++ ⟨#[34]⟩))) (x2 : w.cell? ⟨ub, 2, none⟩ = some (.string ⟨#[]⟩)) (x3 : w.cell? ⟨ub, 3, none⟩ = some (.string ⟨#[]⟩)) (x4 : w.cell? ⟨ub, 4, none⟩ = some (.int .i64 (R + 1)))
    (c0 : w.cell? ⟨kb, ko + t, none⟩ = some (.int .i64 κ)) (c1 : w.cell? ⟨qb, qo + t, none⟩ = some (.int .i64 p)) (c2 : w.cell? ⟨eb, eo + t, none⟩ = some (.int .i64 e)) :
    Calls Try.prog 10 #[.pointer (some ⟨ub, 0, none⟩), .string q, .slice (some ⟨kb, ko, none⟩) n kc, .slice (some ⟨qb, qo, none⟩) n qc, .slice (some ⟨eb, eo, none⟩) n ec, .int .i64 (t : Int)] w fun r w' => r = .returned (.bool true) ∧ Hid (Below w.heap.size w w') := by
  have t1 : (t : Int) < (n : Int) := by omega
  have t0 : (0 : Int) ≤ (t : Int) := by omega
  have hpq : p ≤ (q.size : Int) := by omega
  go_enter Try.func10, Try.ntmps10
  go_wp2
  go_quiet (fail)
  go_wp2
  go_quiet ((go_at_call 18; exact quiet_again (hrune _)))
  go_wp2
  go_ret
  exact ⟨rfl, below_drewN (below_drewN (Below.refl _ _) _) _⟩

theorem seis_any {τ : TK} (ok : Hid τ.Ok) (ub kb ko kc xb xo qb qo qc eb eo ec t : Nat) (w : World) (ht : t < τ.n) (S : Hid (Src4 τ kb ko xb xo qb qo eb eo w)) (hE : Hid (ErrAt w ub (errMsg τ t) (posn τ.q (τ.ps t)))) :
    Calls Try.prog 10 #[.pointer (some ⟨ub, 0, none⟩), .string τ.q, .slice (some ⟨kb, ko, none⟩) τ.n kc, .slice (some ⟨qb, qo, none⟩) τ.n qc, .slice (some ⟨eb, eo, none⟩) τ.n ec, .int .i64 (t : Int)] w fun r w' => r = .returned (.bool true) ∧ Hid (Below w.heap.size w w') := by
  obtain ⟨x0, x1, x2, x3, x4⟩ := hE.out.cells
  have h0 := ok.out.lo t ht
  have h1 := ok.out.le t ht
  have h2 := ok.out.hi t ht
  have hq := ok.out.qsmall
  have hsz : (τ.q.extract 0 (τ.ps t).toNat).size ≤ 1048576 := by simp; omega
  have hr := Lib.runeCount_le (τ.q.extract 0 (τ.ps t).toNat)
  have hrune : ∀ w, Calls Try.prog 18 #[.string (τ.q.extract 0 (τ.ps t).toNat)] w fun r w' => r = .returned (.int .i64 (Lib.runeCount (τ.q.extract 0 (τ.ps t).toNat) : Int)) ∧ w' = w := fun w => rune_any _ w hsz
  by_cases hk : τ.kd t = 0
  · rw [errMsg, if_pos hk] at x1
    have c0 := S.out.ck t ht
    rw [hk] at c0
    exact seis_end τ.q (τ.ps t) _ ub kb ko kc qb qo qc eb eo ec τ.n t w ok.out.small ht hq h0 (by omega) (by omega) (by omega) hrune x0 x1 x2 x3 x4 c0 (S.out.cp t ht)
  · rw [errMsg, if_neg hk] at x1
    exact seis_near τ.q (τ.kd t) (τ.ps t) (τ.en t) _ ub kb ko kc qb qo qc eb eo ec τ.n t w ok.out.small ht hq h0 h1 h2 (by omega) (by omega) (by simpa using hk) hrune x0 x1 x2 x3 x4 (S.out.ck t ht) (S.out.cp t ht) (S.out.ce t ht)
end Go.Proofs.Qxb6614099a
