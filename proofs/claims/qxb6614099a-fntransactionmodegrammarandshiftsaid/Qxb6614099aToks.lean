import Derived.Test.Qxb6614099aMode
import Derived.Laws.MakeOwn
namespace Go.Proofs.Qxb6614099a
open Go.RowKit

theorem info43 : (Try.prog.info? 43).map (fun i => (i.zero, i.size, i.bytes)) = some (some (.agg #[.int .i64 0, .string ⟨#[]⟩, .int .i64 0, .int .i64 0]), 4, 40) := by kernel_rfl

def tokRow (n : Nat) : Array Value := madeCells (Value.agg #[.int .i64 0, .string ⟨#[]⟩, .int .i64 0, .int .i64 0]).cells (n * 4)
theorem size_tokRow (n : Nat) : (tokRow n).size = n * 4 := size_madeCells _ _

theorem make_toks (n : Nat) (hn : n ≤ 1048576) (w : World) : (Instr.makeSlice 39 (.int .i64 (n : Int)) (.int .i64 (n : Int))).run Try.prog w = .ok (.slice (some ⟨w.heap.size, 0, none⟩) n n) (w.alloc (.cells (tokRow n) 43)) := by
  obtain ⟨i, hi, hz0, hz1, hz2⟩ := info_parts info43
  have h := run_make (P := Try.prog) w 39 43 i _ Try.underlying39 hi hz0 .i64 .i64 (n : Int) (n : Int) (by omega) (by omega) (by rw [hz2]; omega) (by omega)
  rw [hz1] at h
  simpa [tokRow] using h

/-- The first k tokens are laid. -/
def Filled (τ : TK) (k : Nat) (cs : Array Value) : Prop :=
  ∀ j, j < k → cs[j * 4]? = some (.int .i64 (τ.kd j)) ∧ cs[j * 4 + 1]? = some (.string (τ.tx j)) ∧ cs[j * 4 + 2]? = some (.int .i64 (τ.ps j)) ∧ cs[j * 4 + 3]? = some (.int .i64 (τ.en j))

theorem toks_step (τ : TK) (k n tb : Nat) (cs : Array Value) (wr : World) (hh : wr.heap[tb]? = some (.cells cs 43 (0, 0))) (hsz : cs.size = n * 4) (hf : Filled τ k cs) (hlt : k < n) :
    ∃ cs', ((((wr.setCell ⟨tb, k * 4, none⟩ (.int .i64 (τ.kd k))).setCell ⟨tb, k * 4 + 1, none⟩ (.string (τ.tx k))).setCell ⟨tb, k * 4 + 2, none⟩ (.int .i64 (τ.ps k))).setCell ⟨tb, k * 4 + 3, none⟩ (.int .i64 (τ.en k))).heap[tb]? = some (.cells cs' 43 (0, 0)) ∧
      cs'.size = n * 4 ∧ Filled τ (k + 1) cs' := by
  rw [setCell_eq_setRow wr tb (k * 4) cs 43 (0, 0) _ hh]
  have h1 := setRow_heap wr tb cs (cs.setIfInBounds (k * 4) (.int .i64 (τ.kd k))) 43 (0, 0) hh
  rw [setCell_eq_setRow _ tb (k * 4 + 1) _ 43 (0, 0) _ h1]
  have h2 := setRow_heap _ tb _ ((cs.setIfInBounds (k * 4) (.int .i64 (τ.kd k))).setIfInBounds (k * 4 + 1) (.string (τ.tx k))) 43 (0, 0) h1
  rw [setCell_eq_setRow _ tb (k * 4 + 2) _ 43 (0, 0) _ h2]
  have h3 := setRow_heap _ tb _ (((cs.setIfInBounds (k * 4) (.int .i64 (τ.kd k))).setIfInBounds (k * 4 + 1) (.string (τ.tx k))).setIfInBounds (k * 4 + 2) (.int .i64 (τ.ps k))) 43 (0, 0) h2
  rw [setCell_eq_setRow _ tb (k * 4 + 3) _ 43 (0, 0) _ h3, setRow_heap _ tb _ _ 43 (0, 0) h3]
  refine ⟨_, rfl, by simp [hsz], ?_⟩
  intro j hj
  by_cases hjk : j = k
  · subst hjk
    refine ⟨?_, ?_, ?_, ?_⟩ <;> simp [Array.getElem?_setIfInBounds] <;> omega
  · obtain ⟨g0, g1, g2, g3⟩ := hf j (by omega)
    have n0 : ∀ a b : Nat, a < 4 → b < 4 → ¬ k * 4 + a = j * 4 + b := by intro a b ha hb; omega
    have n00 : ∀ b : Nat, b < 4 → ¬ k * 4 = j * 4 + b := by intro b hb; omega
    have n01 : ∀ a : Nat, a < 4 → ¬ k * 4 + a = j * 4 := by intro a ha; omega
    have n11 : ¬ k * 4 = j * 4 := by omega
    refine ⟨?_, ?_, ?_, ?_⟩
    · rw [Array.getElem?_setIfInBounds, if_neg (n01 3 (by omega)), Array.getElem?_setIfInBounds, if_neg (n01 2 (by omega)), Array.getElem?_setIfInBounds, if_neg (n01 1 (by omega)), Array.getElem?_setIfInBounds, if_neg n11]; exact g0
    · rw [Array.getElem?_setIfInBounds, if_neg (n0 3 1 (by omega) (by omega)), Array.getElem?_setIfInBounds, if_neg (n0 2 1 (by omega) (by omega)), Array.getElem?_setIfInBounds, if_neg (n0 1 1 (by omega) (by omega)), Array.getElem?_setIfInBounds, if_neg (n00 1 (by omega))]; exact g1
    · rw [Array.getElem?_setIfInBounds, if_neg (n0 3 2 (by omega) (by omega)), Array.getElem?_setIfInBounds, if_neg (n0 2 2 (by omega) (by omega)), Array.getElem?_setIfInBounds, if_neg (n0 1 2 (by omega) (by omega)), Array.getElem?_setIfInBounds, if_neg (n00 2 (by omega))]; exact g2
    · rw [Array.getElem?_setIfInBounds, if_neg (n0 3 3 (by omega) (by omega)), Array.getElem?_setIfInBounds, if_neg (n0 2 3 (by omega) (by omega)), Array.getElem?_setIfInBounds, if_neg (n0 1 3 (by omega) (by omega)), Array.getElem?_setIfInBounds, if_neg (n00 3 (by omega))]; exact g3

theorem below_set4 {B k : Nat} {a w : World} (h : Below B a w) (hk : B ≤ k) (i j i' j' : Nat) (u v u' v' : Value) : Below B a ((((w.setCell ⟨k, i, none⟩ u).setCell ⟨k, j, none⟩ v).setCell ⟨k, i', none⟩ u').setCell ⟨k, j', none⟩ v') :=
  (((h.setCell (p := ⟨k, i, none⟩) hk u).setCell (p := ⟨k, j, none⟩) hk v).setCell (p := ⟨k, i', none⟩) hk u').setCell (p := ⟨k, j', none⟩) hk v'

/-- The four slices that the tokens come from. -/
structure Src4 (τ : TK) (kb ko xb xo qb qo eb eo : Nat) (W : World) : Prop where
  ck : ∀ j, j < τ.n → W.cell? ⟨kb, ko + j, none⟩ = some (.int .i64 (τ.kd j))
  cx : ∀ j, j < τ.n → W.cell? ⟨xb, xo + j, none⟩ = some (.string (τ.tx j))
  cp : ∀ j, j < τ.n → W.cell? ⟨qb, qo + j, none⟩ = some (.int .i64 (τ.ps j))
  ce : ∀ j, j < τ.n → W.cell? ⟨eb, eo + j, none⟩ = some (.int .i64 (τ.en j))
  lk : kb < W.heap.size
  lx : xb < W.heap.size
  lp : qb < W.heap.size
  le : eb < W.heap.size

set_option maxHeartbeats 1000000 in
theorem toks_any (τ : TK) (kb ko kc xb xo xc qb qo qc eb eo ec : Nat) (w : World) (hn : τ.n ≤ 1048576) (S : Hid (Src4 τ kb ko xb xo qb qo eb eo w)) :
    Calls Try.prog 15 #[.slice (some ⟨kb, ko, none⟩) τ.n kc, .slice (some ⟨xb, xo, none⟩) τ.n xc, .slice (some ⟨qb, qo, none⟩) τ.n qc, .slice (some ⟨eb, eo, none⟩) τ.n ec] w fun r w' =>
      r = .returned (.slice (some ⟨w.heap.size, 0, none⟩) τ.n τ.n) ∧ Hid (∃ cs, w'.heap[w.heap.size]? = some (.cells cs 43 (0, 0)) ∧ Filled τ τ.n cs) ∧ Hid (Below w.heap.size w w') := by
  have hmk := make_toks τ.n hn
  have nn : (τ.n : Int) ≤ 1048576 := by omega
  go_enter Try.func15, Try.ntmps15
  go_wp2
  go_loopw [10] (fun i wr => ∃ (k : Nat) (cs : Array Value), k ≤ τ.n ∧ i = .int .i64 k ∧ Hid (wr.heap[w.heap.size]? = some (.cells cs 43 (0, 0))) ∧ cs.size = τ.n * 4 ∧ Hid (Filled τ k cs) ∧ Hid (Below w.heap.size w wr)) (fun i _ => τ.n - (intOf i).toNat)
  case atStart => exact ⟨0, tokRow τ.n, Nat.zero_le _, rfl, heap_alloc_last _ _, size_tokRow _, (fun j hj => absurd hj (Nat.not_lt_zero _)), below_alloc _ _⟩
  case round =>
    obtain ⟨k, cs, hk, rfl, hh, hsz, hf, hb⟩ := hrel
    by_cases hlt : k < τ.n
    · have e0 := hb.out.cell (p := ⟨kb, ko + k, none⟩) S.out.lk
      have e1 := hb.out.cell (p := ⟨xb, xo + k, none⟩) S.out.lx
      have e2 := hb.out.cell (p := ⟨qb, qo + k, none⟩) S.out.lp
      have e3 := hb.out.cell (p := ⟨eb, eo + k, none⟩) S.out.le
      rw [S.out.ck k hlt] at e0
      rw [S.out.cx k hlt] at e1
      rw [S.out.cp k hlt] at e2
      rw [S.out.ce k hlt] at e3
      obtain ⟨v0, t0⟩ : ∃ v, wr.cell? ⟨w.heap.size, k * 4, none⟩ = some v := ⟨_, by rw [cell_of_heap hh.out, Array.getElem?_eq_getElem (by omega)]⟩
      obtain ⟨v1, t1⟩ : ∃ v, wr.cell? ⟨w.heap.size, k * 4 + 1, none⟩ = some v := ⟨_, by rw [cell_of_heap hh.out, Array.getElem?_eq_getElem (by omega)]⟩
      obtain ⟨v2, t2⟩ : ∃ v, wr.cell? ⟨w.heap.size, k * 4 + 2, none⟩ = some v := ⟨_, by rw [cell_of_heap hh.out, Array.getElem?_eq_getElem (by omega)]⟩
      obtain ⟨v3, t3⟩ : ∃ v, wr.cell? ⟨w.heap.size, k * 4 + 3, none⟩ = some v := ⟨_, by rw [cell_of_heap hh.out, Array.getElem?_eq_getElem (by omega)]⟩
      have f0 := frozen_of_heap hh.out (k * 4)
      have f1 := frozen_of_heap hh.out (k * 4 + 1)
      have f2 := frozen_of_heap hh.out (k * 4 + 2)
      have f3 := frozen_of_heap hh.out (k * 4 + 3)
      have lt := heap_lt hh.out
      obtain ⟨cs', hh', hsz', hf'⟩ := toks_step τ k τ.n w.heap.size cs wr hh.out hsz hf.out hlt
      have HH : Hid _ := hh'
      have HF : Hid (Filled τ (k + 1) cs') := hf'
      have HB := below_set4 hb.out (Nat.le_refl _) (k * 4) (k * 4 + 1) (k * 4 + 2) (k * 4 + 3) (.int .i64 (τ.kd k)) (.string (τ.tx k)) (.int .i64 (τ.ps k)) (.int .i64 (τ.en k))
      have HB' : Hid _ := HB
      clear hh' hf' HB
      go_wp2
      go_big_region
      go_wp2
      go_roundw
      case rel => exact ⟨k + 1, cs', by omega, by go_num, HH, hsz', HF, HB'.out.drew⟩
      case measure => simp [intOf]; omega
    · have hkn : k = τ.n := by omega
      have HK : Hid _ := hkn
      clear hkn
      go_wp2
      go_ret
      refine ⟨rfl, ⟨cs, hh.out, ?_⟩, hb⟩
      have := hf.out
      rw [HK.out] at this
      exact this
end Go.Proofs.Qxb6614099a
