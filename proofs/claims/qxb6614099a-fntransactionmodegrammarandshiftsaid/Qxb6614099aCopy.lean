import Derived.Test.Qxb6614099aOk
import Derived.Laws.StructEq
import Derived.Laws.CopyOwn
namespace Go.Proofs.Qxb6614099a
open Go.RowKit

theorem Src4.below {τ : TK} {kb ko xb xo qb qo eb eo : Nat} {W W' : World} (h : Src4 τ kb ko xb xo qb qo eb eo W) (hb : Below W.heap.size W W') : Src4 τ kb ko xb xo qb qo eb eo W' :=
  ⟨fun j hj => by rw [hb.cell (p := ⟨kb, ko + j, none⟩) h.lk]; exact h.ck j hj, fun j hj => by rw [hb.cell (p := ⟨xb, xo + j, none⟩) h.lx]; exact h.cx j hj,
   fun j hj => by rw [hb.cell (p := ⟨qb, qo + j, none⟩) h.lp]; exact h.cp j hj, fun j hj => by rw [hb.cell (p := ⟨eb, eo + j, none⟩) h.le]; exact h.ce j hj,
   Nat.lt_of_lt_of_le h.lk hb.size, Nat.lt_of_lt_of_le h.lx hb.size, Nat.lt_of_lt_of_le h.lp hb.size, Nat.lt_of_lt_of_le h.le hb.size⟩

theorem ErrAt.below {W W' : World} {eb : Nat} {msg : ByteArray} {pos : Int} (h : ErrAt W eb msg pos) (hb : Below W.heap.size W W') : ErrAt W' eb msg pos := by
  unfold ErrAt at h ⊢
  rw [hb.block _ (heap_lt h)]
  exact h

theorem ErrAt.cells {W : World} {eb : Nat} {msg : ByteArray} {pos : Int} (h : ErrAt W eb msg pos) :
    W.cell? ⟨eb, 0, none⟩ = some (.string ⟨#[52, 50, 54, 48, 49]⟩) ∧ W.cell? ⟨eb, 1, none⟩ = some (.string msg) ∧ W.cell? ⟨eb, 2, none⟩ = some (.string ⟨#[]⟩) ∧ W.cell? ⟨eb, 3, none⟩ = some (.string ⟨#[]⟩) ∧ W.cell? ⟨eb, 4, none⟩ = some (.int .i64 pos) := by
  unfold ErrAt at h
  exact ⟨by rw [cell_of_heap h]; rfl, by rw [cell_of_heap h]; rfl, by rw [cell_of_heap h]; rfl, by rw [cell_of_heap h]; rfl, by rw [cell_of_heap h]; rfl⟩

theorem zztm_good (τ : TK) (ok : Hid τ.Ok) (i : Nat) (ro : Bool) (kb ko kc xb xo xc qb qo qc eb eo ec : Nat) (w : World) (hi : i < τ.n) (S : Hid (Src4 τ kb ko xb xo qb qo eb eo w))
    (B : Nat) (ro' : Bool) (h1 : (tmF τ i ro).1 = B) (h2 : (tmF τ i ro).2.1 = ro') (h3 : (tmF τ i ro).2.2 = true) :
    Calls Try.prog 8 #[.string τ.q, .slice (some ⟨kb, ko, none⟩) τ.n kc, .slice (some ⟨xb, xo, none⟩) τ.n xc, .slice (some ⟨qb, qo, none⟩) τ.n qc, .slice (some ⟨eb, eo, none⟩) τ.n ec, .int .i64 (i : Int), .bool ro] w fun r w' =>
      r = .returned (.tuple #[.int .i64 ((i : Int) + (B : Int)), .bool ro', .bool false, .pointer none]) ∧ Hid (Below w.heap.size w w') := by
  refine (zztm_any τ ok i ro kb ko kc xb xo xc qb qo qc eb eo ec w hi S).mono ?_
  rintro r w' ⟨pv, rfl, hE, hb⟩
  rw [h1, h2, h3] at *
  rcases hE.out with ⟨_, rfl⟩ | ⟨h, _⟩
  · exact ⟨rfl, hb⟩
  · cases h

theorem zztm_bad (τ : TK) (ok : Hid τ.Ok) (i : Nat) (ro : Bool) (kb ko kc xb xo xc qb qo qc eb eo ec : Nat) (w : World) (hi : i < τ.n) (S : Hid (Src4 τ kb ko xb xo qb qo eb eo w))
    (B : Nat) (ro' : Bool) (h1 : (tmF τ i ro).1 = B) (h2 : (tmF τ i ro).2.1 = ro') (h3 : (tmF τ i ro).2.2 = false) :
    Calls Try.prog 8 #[.string τ.q, .slice (some ⟨kb, ko, none⟩) τ.n kc, .slice (some ⟨xb, xo, none⟩) τ.n xc, .slice (some ⟨qb, qo, none⟩) τ.n qc, .slice (some ⟨eb, eo, none⟩) τ.n ec, .int .i64 (i : Int), .bool ro] w fun r w' =>
      ∃ ub, r = .returned (.tuple #[.int .i64 ((i : Int) + (B : Int)), .bool ro', .bool true, .pointer (some ⟨ub, 0, none⟩)]) ∧ Hid (ErrAt w' ub (errMsg τ (i + B)) (posn τ.q (τ.ps (i + B)))) ∧ Hid (Below w.heap.size w w') := by
  refine (zztm_any τ ok i ro kb ko kc xb xo xc qb qo qc eb eo ec w hi S).mono ?_
  rintro r w' ⟨pv, rfl, hE, hb⟩
  rw [h1, h2, h3] at *
  rcases hE.out with ⟨h, _⟩ | ⟨_, ub, rfl, _, h⟩
  · cases h
  · exact ⟨ub, rfl, h, hb⟩

theorem eql34 (a b c d : ByteArray) (p : Int) (w : World) : (binOp .eql 34 (.agg #[.string a, .string b, .string c, .string d, .int .i64 p]) (.agg #[.string a, .string b, .string c, .string d, .int .i64 p])).run Try.prog w = .ok (.bool true) w := by
  simp [go_sem]

theorem modify_push_last (a : Array Obj) (x : Obj) (f : Obj → Obj) : (a.push x).modify a.size f = a.push (f x) := by
  apply Array.ext
  · simp
  · intro i h1 h2
    simp only [Array.getElem_modify, Array.getElem_push]
    simp at h1
    by_cases h : i < a.size
    · have : ¬ a.size = i := by omega
      simp [h, this]
    · have : a.size = i := by omega
      simp [this]

/-- 'copy' of a whole row into a row just made. -/
theorem copy_eq (T E : TypeId) (hu : Try.prog.underlying T = some (.slice E)) (hs : (Try.prog.info? E).map (·.size) = some 1) (V : World) (cur : Array Value) (cs : List Value) (kb ko n kc : Nat) (hcur : cur.size = n) (hcs : cs.length = n)
    (hsrc : ∀ j v, cs[j]? = some v → V.cell? ⟨kb, ko + j, none⟩ = some v) (hlt : kb < V.heap.size) (h1 : ∀ v ∈ cs, v.oneCell' = true) :
    (Builtin.copy_ #[T, T] 3 #[.slice (some ⟨V.heap.size, 0, none⟩) n n, .slice (some ⟨kb, ko, none⟩) n kc]).run Try.prog (V.alloc (.cells cur E)) = .ok (.int .i64 (n : Int)) (V.alloc (.cells cs.toArray E)) := by
  have h := run_copy_row (P := Try.prog) (V.alloc (.cells cur E)) T T 3 E V.heap.size 0 n n ⟨kb, ko, none⟩ n kc cur E cs hu hs
    (by show (V.heap.push _)[V.heap.size]? = _; simp) (by rw [hcs]; exact (Nat.min_self n).symm) ?_ (by omega) h1
  · rw [h]
    have e : (cur.toList.take 0 ++ cs ++ cur.toList.drop (0 + cs.length)).toArray = cs.toArray := by
      have : cur.toList.drop (0 + cs.length) = [] := by
        apply List.drop_eq_nil_of_le
        simp
        omega
      rw [this]
      simp
    rw [e, hcs]
    have e2 : (V.alloc (.cells cur E)).setRow V.heap.size cs.toArray = V.alloc (.cells cs.toArray E) := by
      show ({ V with heap := (V.heap.push _).modify _ _ } : World) = { V with heap := V.heap.push _ }
      rw [modify_push_last]
    rw [e2]
    rfl
  · intro j v hj
    rw [show (⟨kb, ko, none⟩ : Addr).add j = ⟨kb, ko + j, none⟩ by simp [Addr.add]]
    rw [World.cell?_alloc_past _ _ _ hlt]
    exact hsrc j v hj

def intRow (n : Nat) : Array Value := madeCells (Value.int .i64 0).cells n
def strRow (n : Nat) : Array Value := madeCells (Value.string ⟨#[]⟩).cells n
def rowI (K : Nat → Int) (n : Nat) : List Value := (List.range n).map fun j => .int .i64 (K j)
def rowS (X : Nat → ByteArray) (n : Nat) : List Value := (List.range n).map fun j => .string (X j)
theorem len_rowI (K : Nat → Int) (n : Nat) : (rowI K n).length = n := by simp [rowI]
theorem len_rowS (X : Nat → ByteArray) (n : Nat) : (rowS X n).length = n := by simp [rowS]
theorem get_rowI (K : Nat → Int) (n j : Nat) (v : Value) (h : (rowI K n)[j]? = some v) : j < n ∧ v = .int .i64 (K j) := by
  have hj : j < n := by
    have := (List.getElem?_eq_some_iff.1 h).1
    rwa [len_rowI] at this
  simp [rowI, hj] at h
  exact ⟨hj, h.symm⟩
theorem get_rowS (X : Nat → ByteArray) (n j : Nat) (v : Value) (h : (rowS X n)[j]? = some v) : j < n ∧ v = .string (X j) := by
  have hj : j < n := by
    have := (List.getElem?_eq_some_iff.1 h).1
    rwa [len_rowS] at this
  simp [rowS, hj] at h
  exact ⟨hj, h.symm⟩
theorem one_rowI (K : Nat → Int) (n : Nat) : ∀ v ∈ rowI K n, v.oneCell' = true := by
  intro v hv
  simp only [rowI, List.mem_map] at hv
  obtain ⟨j, _, rfl⟩ := hv
  rfl
theorem one_rowS (X : Nat → ByteArray) (n : Nat) : ∀ v ∈ rowS X n, v.oneCell' = true := by
  intro v hv
  simp only [rowS, List.mem_map] at hv
  obtain ⟨j, _, rfl⟩ := hv
  rfl

theorem info3 : (Try.prog.info? 3).map (fun i => (i.zero, i.size, i.bytes)) = some (some (.int .i64 0), 1, 8) := by kernel_rfl
theorem info9 : (Try.prog.info? 9).map (fun i => (i.zero, i.size, i.bytes)) = some (some (.string ⟨#[]⟩), 1, 16) := by kernel_rfl
theorem size3 : (Try.prog.info? 3).map (·.size) = some 1 := by kernel_rfl
theorem size9 : (Try.prog.info? 9).map (·.size) = some 1 := by kernel_rfl

theorem make_ints (n : Nat) (hn : n ≤ 1048576) (w : World) : (Instr.makeSlice 22 (.int .i64 (n : Int)) (.int .i64 (n : Int))).run Try.prog w = .ok (.slice (some ⟨w.heap.size, 0, none⟩) n n) (w.alloc (.cells (intRow n) 3)) := by
  obtain ⟨i, hi, hz0, hz1, hz2⟩ := info_parts info3
  have h := run_make (P := Try.prog) w 22 3 i _ Try.underlying22 hi hz0 .i64 .i64 (n : Int) (n : Int) (by omega) (by omega) (by rw [hz2]; omega) (by omega)
  rw [hz1] at h
  simpa [intRow] using h
theorem make_strs (n : Nat) (hn : n ≤ 1048576) (w : World) : (Instr.makeSlice 23 (.int .i64 (n : Int)) (.int .i64 (n : Int))).run Try.prog w = .ok (.slice (some ⟨w.heap.size, 0, none⟩) n n) (w.alloc (.cells (strRow n) 9)) := by
  obtain ⟨i, hi, hz0, hz1, hz2⟩ := info_parts info9
  have h := run_make (P := Try.prog) w 23 9 i _ Try.underlying23 hi hz0 .i64 .i64 (n : Int) (n : Int) (by omega) (by omega) (by rw [hz2]; omega) (by omega)
  rw [hz1] at h
  simpa [strRow] using h

theorem copy_ints (V : World) (K : Nat → Int) (kb ko n kc : Nat) (hlt : kb < V.heap.size) (hc : ∀ j, j < n → V.cell? ⟨kb, ko + j, none⟩ = some (.int .i64 (K j))) :
    (Builtin.copy_ #[22, 22] 3 #[.slice (some ⟨V.heap.size, 0, none⟩) n n, .slice (some ⟨kb, ko, none⟩) n kc]).run Try.prog (V.alloc (.cells (intRow n) 3)) = .ok (.int .i64 (n : Int)) (V.alloc (.cells (rowI K n).toArray 3)) :=
  copy_eq 22 3 Try.underlying22 size3 V (intRow n) (rowI K n) kb ko n kc (size_madeCells _ _) (len_rowI _ _) (fun j v h => by obtain ⟨hj, rfl⟩ := get_rowI K n j v h; exact hc j hj) hlt (one_rowI _ _)
theorem copy_strs (V : World) (X : Nat → ByteArray) (kb ko n kc : Nat) (hlt : kb < V.heap.size) (hc : ∀ j, j < n → V.cell? ⟨kb, ko + j, none⟩ = some (.string (X j))) :
    (Builtin.copy_ #[23, 23] 3 #[.slice (some ⟨V.heap.size, 0, none⟩) n n, .slice (some ⟨kb, ko, none⟩) n kc]).run Try.prog (V.alloc (.cells (strRow n) 9)) = .ok (.int .i64 (n : Int)) (V.alloc (.cells (rowS X n).toArray 9)) :=
  copy_eq 23 9 Try.underlying23 size9 V (strRow n) (rowS X n) kb ko n kc (size_madeCells _ _) (len_rowS _ _) (fun j v h => by obtain ⟨hj, rfl⟩ := get_rowS X n j v h; exact hc j hj) hlt (one_rowS _ _)

/-- The four rows copied, one behind the other. -/
def W4 (w : World) (K : Nat → Int) (X : Nat → ByteArray) (P E : Nat → Int) (n : Nat) : World :=
  (((w.alloc (.cells (rowI K n).toArray 3)).alloc (.cells (rowS X n).toArray 9)).alloc (.cells (rowI P n).toArray 3)).alloc (.cells (rowI E n).toArray 3)
end Go.Proofs.Qxb6614099a
