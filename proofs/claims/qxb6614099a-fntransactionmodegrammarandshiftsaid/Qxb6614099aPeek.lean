import Derived.Test.Qxb6614099aRows
import Derived.WalkKit
import Derived.WalkSpells
import Derived.Laws.Pointers
import Derived.RowKit3
import Derived.RegionTactic
import Derived.BigRegion
namespace Go.Proofs.Qxb6614099a
open Go.RowKit

/-- The query and the tokens, told plainly. -/
structure TK where
  q : ByteArray
  n : Nat
  kd : Nat → Int
  tx : Nat → ByteArray
  ps : Nat → Int
  en : Nat → Int

/-- What 'toksOK' and the size guard give. -/
structure TK.Ok (τ : TK) : Prop where
  pos : 0 < τ.n
  small : τ.n ≤ 1048576
  qsmall : τ.q.size ≤ 1048576
  last : τ.kd (τ.n - 1) = 0
  lo : ∀ j, j < τ.n → 0 ≤ τ.ps j
  le : ∀ j, j < τ.n → τ.ps j ≤ τ.en j
  hi : ∀ j, j < τ.n → τ.en j ≤ τ.q.size

def pcells (q : ByteArray) (tb n : Nat) (i : Int) : Array Value :=
  #[.string q, .slice (some ⟨tb, 0, none⟩) n n, .int .i64 i, .int .i64 0, .int .i64 0, .string ⟨#[]⟩, .int .i64 0, .int .i64 0, .slice none 0 0]

/-- The four cells of each token, in block tb. -/
def ToksAt (τ : TK) (tb : Nat) (W : World) : Prop :=
  ∀ j, j < τ.n → W.cell? ⟨tb, j * 4, none⟩ = some (.int .i64 (τ.kd j)) ∧ W.cell? ⟨tb, j * 4 + 1, none⟩ = some (.string (τ.tx j)) ∧
    W.cell? ⟨tb, j * 4 + 2, none⟩ = some (.int .i64 (τ.ps j)) ∧ W.cell? ⟨tb, j * 4 + 3, none⟩ = some (.int .i64 (τ.en j))

/-- The parser in block pb stands at token i. -/
def PS (τ : TK) (tb pb i : Nat) (W : World) : Prop :=
  W.heap[pb]? = some (.cells (pcells τ.q tb τ.n i) 45 (0, 0)) ∧ tb < W.heap.size ∧ pb ≠ tb ∧ ToksAt τ tb W

theorem heap_lt {w : World} {b : Nat} {o : Obj} (h : w.heap[b]? = some o) : b < w.heap.size := by
  rcases Array.getElem?_eq_some_iff.1 h with ⟨h, _⟩
  exact h
theorem cell_of_heap {w : World} {b : Nat} {cs : Array Value} {t : TypeId} (h : w.heap[b]? = some (.cells cs t (0, 0))) (i : Nat) : w.cell? ⟨b, i, none⟩ = cs[i]? := by
  simp [World.cell?, h]
theorem frozen_of_heap {w : World} {b : Nat} {cs : Array Value} {t : TypeId} (h : w.heap[b]? = some (.cells cs t (0, 0))) (i : Nat) : w.frozen? ⟨b, i, none⟩ = false := by
  simp [World.frozen?, h]
theorem heap_alloc_last (w : World) (o : Obj) : (w.alloc o).heap[w.heap.size]? = some o := by
  show (w.heap.push _)[w.heap.size]? = _; simp
theorem below_alloc (w : World) (o : Obj) : Below w.heap.size w (w.alloc o) := (Below.refl _ _).alloc (Nat.le_refl _) o

/-- The world has turned in the blocks of S alone (and in new ones). -/
structure But (S : List Nat) (W W' : World) : Prop where
  os : W'.os = W.os
  tape : W'.tape = W.tape
  output : W'.output = W.output
  size : W.heap.size ≤ W'.heap.size
  block : ∀ k, k < W.heap.size → k ∉ S → W'.heap[k]? = W.heap[k]?

theorem But.of_below {S : List Nat} {W W' : World} (h : Below W.heap.size W W') : But S W W' := ⟨h.os, h.tape, h.output, h.size, fun k hk _ => h.block k hk⟩
theorem But.trans {S : List Nat} {a b c : World} (h : But S a b) (k : But S b c) : But S a c :=
  ⟨k.os.trans h.os, k.tape.trans h.tape, k.output.trans h.output, Nat.le_trans h.size k.size, fun i hi hn => (k.block i (Nat.lt_of_lt_of_le hi h.size) hn).trans (h.block i hi hn)⟩
theorem But.mono {S S' : List Nat} {W W' : World} (h : But S W W') (hs : ∀ k ∈ S, k ∈ S') : But S' W W' :=
  ⟨h.os, h.tape, h.output, h.size, fun k hk hn => h.block k hk (fun hm => hn (hs k hm))⟩
theorem But.setCell {S : List Nat} (W : World) (b i : Nat) (u : Value) (hb : b ∈ S) : But S W (W.setCell ⟨b, i, none⟩ u) :=
  ⟨rfl, rfl, rfl, by simp [World.setCell], fun k _ hn => Below.heap_setCell _ _ _ _ (fun e => hn (e ▸ hb))⟩
theorem But.below {S : List Nat} {W W' : World} (h : But S W W') (B : Nat) (hB : B ≤ W.heap.size) (hS : ∀ k ∈ S, B ≤ k) : Below B W W' :=
  ⟨h.os, h.tape, h.output, h.size, fun k hk => h.block k (by omega) (fun hm => by have := hS k hm; omega)⟩

theorem ToksAt.of_block {τ : TK} {tb : Nat} {W W' : World} (h : ToksAt τ tb W) (hb : W'.heap[tb]? = W.heap[tb]?) : ToksAt τ tb W' := by
  intro j hj
  obtain ⟨h0, h1, h2, h3⟩ := h j hj
  have e : ∀ o, W'.cell? ⟨tb, o, none⟩ = W.cell? ⟨tb, o, none⟩ := fun o => World.cell?_of_block (w := W) (w' := W') (a := ⟨tb, o, none⟩) hb
  exact ⟨(e _).trans h0, (e _).trans h1, (e _).trans h2, (e _).trans h3⟩

theorem PS.below {τ : TK} {tb pb i : Nat} {W W' : World} (h : PS τ tb pb i W) (hb : Below W.heap.size W W') : PS τ tb pb i W' := by
  obtain ⟨h1, h2, h3, h4⟩ := h
  exact ⟨by rw [hb.block _ (heap_lt h1)]; exact h1, Nat.lt_of_lt_of_le h2 hb.size, h3, h4.of_block (hb.block _ h2)⟩

set_option maxHeartbeats 400000 in
theorem peek_core (pb tb n : Nat) (i : Nat) (k p e : Int) (t : ByteArray) (W : World) (hpb : pb < W.heap.size) (htb : tb < W.heap.size) (hi : i < n) (_hn : n ≤ 1048576) (h1 : W.cell? ⟨pb, 1, none⟩ = some (.slice (some ⟨tb, 0, none⟩) n n)) (h2 : W.cell? ⟨pb, 2, none⟩ = some (.int .i64 (i : Int)))
    (c0 : W.cell? ⟨tb, i * 4, none⟩ = some (.int .i64 k)) (c1 : W.cell? ⟨tb, i * 4 + 1, none⟩ = some (.string t)) (c2 : W.cell? ⟨tb, i * 4 + 2, none⟩ = some (.int .i64 p)) (c3 : W.cell? ⟨tb, i * 4 + 3, none⟩ = some (.int .i64 e)) :
    Calls Try.prog 25 #[.pointer (some ⟨pb, 0, none⟩)] W fun r W' => r = .returned (.agg #[.int .i64 k, .string t, .int .i64 p, .int .i64 e]) ∧ Below W.heap.size W W' := by
  go_enter Try.func25, Try.ntmps25
  go_wp2
  go_region
  go_wp2
  exact bodyPost_ret (v := .agg #[.int .i64 k, .string t, .int .i64 p, .int .i64 e]) (by simp [results, Try.results25, go_sem]) rfl ⟨rfl, (below_alloc _ _).drew⟩

theorem peek_any {τ : TK} {tb pb i : Nat} {W : World} (ok : Hid τ.Ok) (h : Hid (PS τ tb pb i W)) (hi : i < τ.n) :
    Calls Try.prog 25 #[.pointer (some ⟨pb, 0, none⟩)] W fun r W' => r = .returned (.agg #[.int .i64 (τ.kd i), .string (τ.tx i), .int .i64 (τ.ps i), .int .i64 (τ.en i)]) ∧ Hid (Below W.heap.size W W') := by
  obtain ⟨h1, h2, h3, h4⟩ := h.out
  obtain ⟨c0, c1, c2, c3⟩ := h4 i hi
  exact peek_core pb tb τ.n i _ _ _ _ W (heap_lt h1) h2 hi ok.out.small (by rw [cell_of_heap h1]; rfl) (by rw [cell_of_heap h1]; rfl) c0 c1 c2 c3
end Go.Proofs.Qxb6614099a
