import Derived.Test.Qxb6614099aToks
import Derived.Deep.QuietTactic
import Derived.BigQuiet
import Derived.WalkLawsBesides
namespace Go.Proofs.Qxb6614099a
open Go.RowKit

theorem ToksAt.of_filled {τ : TK} {tb : Nat} {W : World} {cs : Array Value} (h : W.heap[tb]? = some (.cells cs 43 (0, 0))) (hf : Filled τ τ.n cs) : ToksAt τ tb W := by
  intro j hj
  obtain ⟨a, b, c, d⟩ := hf j hj
  exact ⟨by rw [cell_of_heap h]; exact a, by rw [cell_of_heap h]; exact b, by rw [cell_of_heap h]; exact c, by rw [cell_of_heap h]; exact d⟩

/-- The error that comes back: nil, or the parse error. -/
def ErrV (w w' : World) (pv : Value) (good : Bool) (msg : ByteArray) (pos : Int) : Prop :=
  (good = true ∧ pv = .pointer none) ∨ (good = false ∧ ∃ eb, pv = .pointer (some ⟨eb, 0, none⟩) ∧ w.heap.size ≤ eb ∧ ErrAt w' eb msg pos)

theorem assert_nil (w : World) : (Instr.typeAssert .nilIface 47 27 true).run Try.prog w = .ok (.tuple #[.pointer none, .bool false]) w := by kernel_rfl
theorem assert_err (a : Addr) (w : World) : (Instr.typeAssert (.iface 27 (.pointer (some a))) 47 27 true).run Try.prog w = .ok (.tuple #[.pointer (some a), .bool true]) w := by kernel_rfl

set_option maxHeartbeats 1000000 in
theorem zztm_any (τ : TK) (ok : Hid τ.Ok) (i : Nat) (ro : Bool) (kb ko kc xb xo xc qb qo qc eb eo ec : Nat) (w : World) (hi : i < τ.n) (S : Hid (Src4 τ kb ko xb xo qb qo eb eo w)) :
    Calls Try.prog 8 #[.string τ.q, .slice (some ⟨kb, ko, none⟩) τ.n kc, .slice (some ⟨xb, xo, none⟩) τ.n xc, .slice (some ⟨qb, qo, none⟩) τ.n qc, .slice (some ⟨eb, eo, none⟩) τ.n ec, .int .i64 (i : Int), .bool ro] w fun r w' =>
      ∃ pv, r = .returned (.tuple #[.int .i64 ((i + (tmF τ i ro).1 : Nat) : Int), .bool (tmF τ i ro).2.1, .bool (!(tmF τ i ro).2.2), pv]) ∧
        Hid (ErrV w w' pv (tmF τ i ro).2.2 (errMsg τ (i + (tmF τ i ro).1)) (posn τ.q (τ.ps (i + (tmF τ i ro).1)))) ∧ Hid (Below w.heap.size w w') := by
  have hn := ok.out.small
  go_enter Try.func8, Try.ntmps8
  go_wp2_with fail
  refine (toks_any τ kb ko kc xb xo xc qb qo qc eb eo ec _ hn S).mono ?_
  rintro r w1 ⟨rfl, ht, hb1⟩
  go_wp2_with fail
  have hps : Hid (PS τ w.heap.size w1.heap.size i ((w1.alloc (.cells #[.string τ.q, .slice (some ⟨w.heap.size, 0, none⟩) τ.n τ.n, .int .i64 (i : Int), .int .i64 0, .int .i64 0, .string ⟨#[]⟩, .int .i64 0, .int .i64 0, .slice none 0 0] 45)).alloc (.cells #[.bool ro] 4))) := by
    obtain ⟨cs, hcs, hf⟩ := ht.out
    have lt := heap_lt hcs
    refine PS.below (W := w1.alloc (.cells (pcells τ.q w.heap.size τ.n i) 45)) ⟨heap_alloc_last _ _, by simp; omega, by omega, ?_⟩ (below_alloc _ _)
    exact (ToksAt.of_filled hcs hf).of_block (Below.heap_alloc _ _ _ lt)
  have hro : Hid (RoAt w.heap.size w1.heap.size (w1.heap.size + 1) ro ((w1.alloc (.cells #[.string τ.q, .slice (some ⟨w.heap.size, 0, none⟩) τ.n τ.n, .int .i64 (i : Int), .int .i64 0, .int .i64 0, .string ⟨#[]⟩, .int .i64 0, .int .i64 0, .slice none 0 0] 45)).alloc (.cells #[.bool ro] 4))) := by
    obtain ⟨cs, hcs, hf⟩ := ht.out
    have lt := heap_lt hcs
    refine ⟨?_, by omega, by omega⟩
    have := heap_alloc_last (w1.alloc (.cells #[.string τ.q, .slice (some ⟨w.heap.size, 0, none⟩) τ.n τ.n, .int .i64 (i : Int), .int .i64 0, .int .i64 0, .string ⟨#[]⟩, .int .i64 0, .int .i64 0, .slice none 0 0] 45)) (.cells #[.bool ro] 4)
    simpa using this
  have hlt : Hid (w.heap.size < w1.heap.size) := by
    obtain ⟨cs, hcs, hf⟩ := ht.out
    exact heap_lt hcs
  clear ht S
  refine (tm_any ok hps hro hi).mono ?_
  rintro r w2 ⟨h4, hr2⟩
  have hr : Hid _ := hr2
  have hbut : Hid (But [w1.heap.size, w1.heap.size + 1] _ w2) := h4.but
  have hpc : Hid (PS τ w.heap.size w1.heap.size (i + (tmF τ i ro).1) w2) := by
    rcases h4 with ⟨_, _, c, _⟩ | ⟨_, _, _, _, _, c, _⟩ <;> exact c
  have c2 := hpc.out.cells.2.1
  have cr : w2.cell? ⟨w1.heap.size + 1, 0, none⟩ = some (.bool (tmF τ i ro).2.1) := by rw [cell_of_heap hr2.1]; rfl
  clear hr2
  have hB : Hid (Below w.heap.size w w2) := by
    have h12 : Below w.heap.size w ((w1.alloc (.cells #[.string τ.q, .slice (some ⟨w.heap.size, 0, none⟩) τ.n τ.n, .int .i64 (i : Int), .int .i64 0, .int .i64 0, .string ⟨#[]⟩, .int .i64 0, .int .i64 0, .slice none 0 0] 45)).alloc (.cells #[.bool ro] 4)) :=
      (hb1.out.alloc hb1.out.size _).alloc (by simp; have := hb1.out.size; omega) _
    refine h12.trans (hbut.out.below w.heap.size h12.size ?_)
    have := hlt.out
    intro k hk
    simp at hk
    omega
  rcases h4 with ⟨hg, rfl, _, _⟩ | ⟨hg, e4, rfl, he, hE, _, _⟩
  · have ha := assert_nil
    go_wp2
    go_quiet (fail)
    go_wp2
    rw [hg]
    refine bodyPost_ret (v := .tuple #[.int .i64 ((i + (tmF τ i ro).1 : Nat) : Int), .bool (tmF τ i ro).2.1, .bool false, .pointer none]) (by simp [results, Try.results8, go_sem]) rfl ⟨_, rfl, .inl ⟨rfl, rfl⟩, ?_⟩
    exact below_drewN hB.out _
  · have ha := assert_err
    go_wp2
    go_quiet (fail)
    go_wp2
    rw [hg]
    refine bodyPost_ret (v := .tuple #[.int .i64 ((i + (tmF τ i ro).1 : Nat) : Int), .bool (tmF τ i ro).2.1, .bool true, .pointer (some ⟨e4, 0, none⟩)]) (by simp [results, Try.results8, go_sem]) rfl ⟨_, rfl, .inr ⟨rfl, e4, rfl, ?_, hE⟩, ?_⟩
    · have := hb1.out.size
      simp at he
      omega
    · exact below_drewN hB.out _

set_option maxHeartbeats 1000000 in
theorem zzunexp_any (τ : TK) (ok : Hid τ.Ok) (i : Nat) (kb ko kc xb xo xc qb qo qc eb eo ec : Nat) (w : World) (hi : i < τ.n) (S : Hid (Src4 τ kb ko xb xo qb qo eb eo w)) :
    Calls Try.prog 12 #[.string τ.q, .slice (some ⟨kb, ko, none⟩) τ.n kc, .slice (some ⟨xb, xo, none⟩) τ.n xc, .slice (some ⟨qb, qo, none⟩) τ.n qc, .slice (some ⟨eb, eo, none⟩) τ.n ec, .int .i64 (i : Int)] w fun r w' =>
      ∃ ub, r = .returned (.pointer (some ⟨ub, 0, none⟩)) ∧ Hid (w.heap.size ≤ ub) ∧ Hid (ErrAt w' ub (errMsg τ i) (posn τ.q (τ.ps i))) ∧ Hid (Below w.heap.size w w') := by
  have hn := ok.out.small
  go_enter Try.func12, Try.ntmps12
  go_wp2_with fail
  refine (toks_any τ kb ko kc xb xo xc qb qo qc eb eo ec _ hn S).mono ?_
  rintro r w1 ⟨rfl, ht, hb1⟩
  go_wp2_with fail
  have hps : Hid (PS τ w.heap.size w1.heap.size i (w1.alloc (.cells #[.string τ.q, .slice (some ⟨w.heap.size, 0, none⟩) τ.n τ.n, .int .i64 (i : Int), .int .i64 0, .int .i64 0, .string ⟨#[]⟩, .int .i64 0, .int .i64 0, .slice none 0 0] 45))) := by
    obtain ⟨cs, hcs, hf⟩ := ht.out
    have lt := heap_lt hcs
    exact ⟨heap_alloc_last _ _, by simp; omega, by omega, (ToksAt.of_filled hcs hf).of_block (Below.heap_alloc _ _ _ lt)⟩
  have hlt : Hid (w.heap.size < w1.heap.size) := by
    obtain ⟨cs, hcs, hf⟩ := ht.out
    exact heap_lt hcs
  clear ht S
  refine (unexp_any ok hps hi).mono ?_
  rintro r w2 ⟨ub, rfl, he, hE, hb2⟩
  go_wp2
  go_ret
  have hs1 := hb1.out.size
  refine ⟨ub, rfl, Nat.le_trans (Nat.le_trans hs1 (by simp)) he.out, hE, (hb1.out.alloc hb1.out.size _).trans (hb2.out.mono (by simp; omega))⟩
end Go.Proofs.Qxb6614099a
