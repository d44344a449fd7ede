import Derived.Test.Qxb6614099aCopy
namespace Go.Proofs.Qxb6614099a
open Go.RowKit

/-- toksOK's contract, the world behind it a letter. -/
theorem ok_letter (q : ByteArray) (ak ap ae ax : Option Addr) (nk ck nx cx np cp ne ce : Nat) (K P E : Nat → Int) (w : World) (hn : nk ≤ 1048576) (hq : q.size ≤ 1048576)
    (hK : Hid (IntsAt w ak nk K)) (hP : Hid (IntsAt w ap np P)) (hE : Hid (IntsAt w ae ne E)) :
    Calls Try.prog 7 #[.string q, .slice ak nk ck, .slice ax nx cx, .slice ap np cp, .slice ae ne ce] w fun r w' =>
      ∃ b, r = .returned (.bool b) ∧ Hid (w'.heap = w.heap ∧ Below w.heap.size w w') ∧ Hid (b = true → nk ≠ 0 ∧ nx = nk ∧ np = nk ∧ ne = nk ∧ K (nk - 1) = 0 ∧ ∀ j, j < nk → Good q K P E j) := by
  refine (ok_any q ak ap ae ax nk ck nx cx np cp ne ce K P E w hn hq hK hP hE).mono ?_
  rintro r w' ⟨b, d, rfl, rfl, h⟩
  exact ⟨b, rfl, ⟨rfl, below_drewN (Below.refl _ _) _⟩, h⟩

/-- What the laws' walks are told of their arguments. -/
structure Args (q : ByteArray) (ak ax ap ae : Option Addr) (nk nx np ne : Nat) (K : Nat → Int) (X : Nat → ByteArray) (P E : Nat → Int) (w : World) : Prop where
  lq : Ln q.size
  lk : Ln nk
  lx : Ln nx
  lp : Ln np
  le : Ln ne
  hK : IntsAt w ak nk K
  hX : StrsAt w ax nx X
  hP : IntsAt w ap np P
  hE : IntsAt w ae ne E

set_option maxRecDepth 100000 in
set_option maxHeartbeats 1000000 in
theorem stops_out (q : ByteArray) (ak ax ap ae : Option Addr) (nk ck nx cx np cp ne ce : Nat) (K : Nat → Int) (X : Nat → ByteArray) (P E : Nat → Int) (i : Int) (w : World) (A : Hid (Args q ak ax ap ae nk nx np ne K X P E w)) (hi : i < 0 ∨ (nk : Int) ≤ i) :
    Calls Try.prog 4 #[.string q, .slice ak nk ck, .slice ax nx cx, .slice ap np cp, .slice ae ne ce, .int .i64 i] w fun r w' => r = .returned (.bool true) ∧ Below w.heap.size w w' := by
  go_enter Try.func4, Try.ntmps4
  go_wp2_with fail
  refine (bytes11_any q ak ax ap ae nk ck nx cx np cp ne ce X i _ A.out.lq A.out.lk A.out.lx A.out.lp A.out.le A.out.hX).mono ?_
  rintro r w' ⟨b, rfl, rfl, hb⟩
  cases b
  · go_wp2
    go_ret
    exact ⟨rfl, Below.refl _ _⟩
  obtain ⟨bq, bk, -, -, -⟩ := hb rfl
  clear hb
  go_wp2_with fail
  refine (size_any q ak ap ae ax nk ck nx cx np cp ne ce X _ A.out.lq A.out.lk A.out.lx A.out.lp A.out.le A.out.hX).mono ?_
  rintro r w' ⟨v, rfl, rfl, v0, v1⟩
  by_cases hv : 1048576 < v
  · go_wp2
    go_ret
    exact ⟨rfl, Below.refl _ _⟩
  go_wp2_with fail
  refine (ok_letter q ak ap ae ax nk ck nx cx np cp ne ce K P E _ bk bq A.out.hK A.out.hP A.out.hE).mono ?_
  rintro r w1 ⟨b, rfl, hw, hb⟩
  cases b
  · go_wp2
    go_ret
    exact ⟨rfl, hw.out.2⟩
  rcases hi with hi | hi
  · go_wp2
    go_ret
    exact ⟨rfl, hw.out.2⟩
  · go_wp2
    all_goals
      go_ret
      exact ⟨rfl, hw.out.2⟩

theorem mlen_lt {τ : TK} (ok : Hid τ.Ok) : ∀ (ws : List ByteArray) (i : Nat), i < τ.n → i + mlen τ i ws < τ.n
  | [], i, h => by simpa [mlen] using h
  | w :: ws, i, h => by
    unfold mlen
    split
    · rename_i hk
      have := mlen_lt ok ws (i + 1) (kw_next ok h hk)
      omega
    · exact h
theorem best_lt {τ : TK} (ok : Hid τ.Ok) (i : Nat) (h : i < τ.n) : ∀ k, i + bestF τ i k < τ.n
  | 0 => by simpa [bestF] using h
  | k + 1 => by
    have h1 := best_lt ok i h k
    have h2 := mlen_lt ok (words k) i h
    unfold bestF
    split <;> assumption

theorem match_at (τ : TK) (i : Nat) (kb ko kc xb xo xc qb qo eb eo : Nat) (w : World) (hn : τ.n ≤ 1048576) (hi : i < τ.n) (hout : Hid (∀ j, τ.n ≤ j → τ.kd j = 0)) (S : Hid (Src4 τ kb ko xb xo qb qo eb eo w)) (B : Nat) (F : Int) (hB : bestF τ i 8 = B) (hF : fullF τ i 8 = F) :
    Calls Try.prog 9 #[.slice (some ⟨kb, ko, none⟩) τ.n kc, .slice (some ⟨xb, xo, none⟩) τ.n xc, .int .i64 (i : Int)] w fun r w' =>
      r = .returned (.tuple #[.int .i64 (B : Int), .int .i64 F]) ∧ Hid (Below w.heap.size w w') := by
  subst hB hF
  exact match_any τ i kb ko kc xb xo xc qb qo eb eo w hn hi hout S

theorem zzunexp_at (τ : TK) (ok : Hid τ.Ok) (i B : Nat) (kb ko kc xb xo xc qb qo qc eb eo ec : Nat) (w : World) (hi : i + B < τ.n) (S : Hid (Src4 τ kb ko xb xo qb qo eb eo w)) :
    Calls Try.prog 12 #[.string τ.q, .slice (some ⟨kb, ko, none⟩) τ.n kc, .slice (some ⟨xb, xo, none⟩) τ.n xc, .slice (some ⟨qb, qo, none⟩) τ.n qc, .slice (some ⟨eb, eo, none⟩) τ.n ec, .int .i64 ((i : Int) + (B : Int))] w fun r w' =>
      ∃ ub, r = .returned (.pointer (some ⟨ub, 0, none⟩)) ∧ Hid (ErrAt w' ub (errMsg τ (i + B)) (posn τ.q (τ.ps (i + B)))) ∧ Hid (Below w.heap.size w w') := by
  refine (zzunexp_any τ ok (i + B) kb ko kc xb xo xc qb qo qc eb eo ec w hi S).mono ?_
  rintro r w' ⟨ub, rfl, _, hE, hb⟩
  exact ⟨ub, rfl, hE, hb⟩

theorem cell_lt {w : World} {b i : Nat} {v : Value} (h : w.cell? ⟨b, i, none⟩ = some v) : b < w.heap.size := by
  by_cases hb : b < w.heap.size
  · exact hb
  · exfalso
    have : w.heap[b]? = none := by simp; omega
    simp [World.cell?, this] at h

theorem cell_heap {w w1 : World} (h : w1.heap = w.heap) (b o : Nat) : w1.cell? ⟨b, o, none⟩ = w.cell? ⟨b, o, none⟩ := World.cell?_of_block (a := ⟨b, o, none⟩) (by rw [h])

/-- The four rows hold the tokens. -/
theorem src_W4 (τ : TK) (w : World) : Src4 τ w.heap.size 0 (w.heap.size + 1) 0 (w.heap.size + 1 + 1) 0 (w.heap.size + 1 + 1 + 1) 0 (W4 w τ.kd τ.tx τ.ps τ.en τ.n) := by
  have z0 : (W4 w τ.kd τ.tx τ.ps τ.en τ.n).heap[w.heap.size]? = some (.cells (rowI τ.kd τ.n).toArray 3) := by
    unfold W4
    rw [Below.heap_alloc _ _ _ (by simp; omega), Below.heap_alloc _ _ _ (by simp; omega), Below.heap_alloc _ _ _ (by simp), heap_alloc_last]
  have z1 : (W4 w τ.kd τ.tx τ.ps τ.en τ.n).heap[w.heap.size + 1]? = some (.cells (rowS τ.tx τ.n).toArray 9) := by
    unfold W4
    rw [Below.heap_alloc _ _ _ (by simp), Below.heap_alloc _ _ _ (by simp)]
    have := heap_alloc_last (w.alloc (.cells (rowI τ.kd τ.n).toArray 3)) (.cells (rowS τ.tx τ.n).toArray 9)
    simpa using this
  have z2 : (W4 w τ.kd τ.tx τ.ps τ.en τ.n).heap[w.heap.size + 1 + 1]? = some (.cells (rowI τ.ps τ.n).toArray 3) := by
    unfold W4
    rw [Below.heap_alloc _ _ _ (by simp)]
    have := heap_alloc_last ((w.alloc (.cells (rowI τ.kd τ.n).toArray 3)).alloc (.cells (rowS τ.tx τ.n).toArray 9)) (.cells (rowI τ.ps τ.n).toArray 3)
    simpa using this
  have z3 : (W4 w τ.kd τ.tx τ.ps τ.en τ.n).heap[w.heap.size + 1 + 1 + 1]? = some (.cells (rowI τ.en τ.n).toArray 3) := by
    unfold W4
    have := heap_alloc_last (((w.alloc (.cells (rowI τ.kd τ.n).toArray 3)).alloc (.cells (rowS τ.tx τ.n).toArray 9)).alloc (.cells (rowI τ.ps τ.n).toArray 3)) (.cells (rowI τ.en τ.n).toArray 3)
    simpa using this
  refine ⟨?_, ?_, ?_, ?_, heap_lt z0, heap_lt z1, heap_lt z2, heap_lt z3⟩
  · intro j hj; rw [cell_of_heap z0]; simp [rowI, hj]
  · intro j hj; rw [cell_of_heap z1]; simp [rowS, hj]
  · intro j hj; rw [cell_of_heap z2]; simp [rowI, hj]
  · intro j hj; rw [cell_of_heap z3]; simp [rowI, hj]

theorem below_W4 (w : World) (K : Nat → Int) (X : Nat → ByteArray) (P E : Nat → Int) (n : Nat) : Below w.heap.size w (W4 w K X P E n) := by
  unfold W4
  exact ((((Below.refl _ _).alloc (Nat.le_refl _) _).alloc (by simp) _).alloc (by simp; omega) _).alloc (by simp; omega) _

theorem copies4 (τ : TK) (kb ko ck xb xo cx pb po cp eb eo ce : Nat) (w1 : World) (cK : ∀ j, j < τ.n → w1.cell? ⟨kb, ko + j, none⟩ = some (.int .i64 (τ.kd j))) (cX : ∀ j, j < τ.n → w1.cell? ⟨xb, xo + j, none⟩ = some (.string (τ.tx j)))
    (cP : ∀ j, j < τ.n → w1.cell? ⟨pb, po + j, none⟩ = some (.int .i64 (τ.ps j))) (cE : ∀ j, j < τ.n → w1.cell? ⟨eb, eo + j, none⟩ = some (.int .i64 (τ.en j))) (h0 : τ.n ≠ 0) :
    (Builtin.copy_ #[22, 22] 3 #[.slice (some ⟨w1.heap.size, 0, none⟩) τ.n τ.n, .slice (some ⟨kb, ko, none⟩) τ.n ck]).run Try.prog (w1.alloc (.cells (intRow τ.n) 3)) = .ok (.int .i64 (τ.n : Int)) (w1.alloc (.cells (rowI τ.kd τ.n).toArray 3)) ∧
    (Builtin.copy_ #[23, 23] 3 #[.slice (some ⟨w1.heap.size + 1, 0, none⟩) τ.n τ.n, .slice (some ⟨xb, xo, none⟩) τ.n cx]).run Try.prog ((w1.alloc (.cells (rowI τ.kd τ.n).toArray 3)).alloc (.cells (strRow τ.n) 9)) = .ok (.int .i64 (τ.n : Int)) ((w1.alloc (.cells (rowI τ.kd τ.n).toArray 3)).alloc (.cells (rowS τ.tx τ.n).toArray 9)) ∧
    (Builtin.copy_ #[22, 22] 3 #[.slice (some ⟨w1.heap.size + 1 + 1, 0, none⟩) τ.n τ.n, .slice (some ⟨pb, po, none⟩) τ.n cp]).run Try.prog (((w1.alloc (.cells (rowI τ.kd τ.n).toArray 3)).alloc (.cells (rowS τ.tx τ.n).toArray 9)).alloc (.cells (intRow τ.n) 3)) = .ok (.int .i64 (τ.n : Int)) (((w1.alloc (.cells (rowI τ.kd τ.n).toArray 3)).alloc (.cells (rowS τ.tx τ.n).toArray 9)).alloc (.cells (rowI τ.ps τ.n).toArray 3)) ∧
    (Builtin.copy_ #[22, 22] 3 #[.slice (some ⟨w1.heap.size + 1 + 1 + 1, 0, none⟩) τ.n τ.n, .slice (some ⟨eb, eo, none⟩) τ.n ce]).run Try.prog ((((w1.alloc (.cells (rowI τ.kd τ.n).toArray 3)).alloc (.cells (rowS τ.tx τ.n).toArray 9)).alloc (.cells (rowI τ.ps τ.n).toArray 3)).alloc (.cells (intRow τ.n) 3)) = .ok (.int .i64 (τ.n : Int)) ((((w1.alloc (.cells (rowI τ.kd τ.n).toArray 3)).alloc (.cells (rowS τ.tx τ.n).toArray 9)).alloc (.cells (rowI τ.ps τ.n).toArray 3)).alloc (.cells (rowI τ.en τ.n).toArray 3)) := by
  have h1 : 0 < τ.n := by omega
  have lk := cell_lt (cK 0 h1)
  have lx := cell_lt (cX 0 h1)
  have lp := cell_lt (cP 0 h1)
  have le := cell_lt (cE 0 h1)
  have sz : ∀ (V : World) (o : Obj), (V.alloc o).heap.size = V.heap.size + 1 := fun V o => by simp
  refine ⟨copy_ints w1 τ.kd kb ko τ.n ck lk cK, ?_, ?_, ?_⟩
  · have := copy_strs (w1.alloc (.cells (rowI τ.kd τ.n).toArray 3)) τ.tx xb xo τ.n cx (by rw [sz]; omega) (fun j hj => by rw [World.cell?_alloc_past _ _ _ lx]; exact cX j hj)
    rwa [sz] at this
  · have := copy_ints ((w1.alloc (.cells (rowI τ.kd τ.n).toArray 3)).alloc (.cells (rowS τ.tx τ.n).toArray 9)) τ.ps pb po τ.n cp (by rw [sz, sz]; omega) (fun j hj => by rw [World.cell?_alloc_past _ _ _ (by rw [sz]; omega), World.cell?_alloc_past _ _ _ lp]; exact cP j hj)
    rwa [sz, sz] at this
  · have := copy_ints (((w1.alloc (.cells (rowI τ.kd τ.n).toArray 3)).alloc (.cells (rowS τ.tx τ.n).toArray 9)).alloc (.cells (rowI τ.ps τ.n).toArray 3)) τ.en eb eo τ.n ce (by rw [sz, sz, sz]; omega) (fun j hj => by rw [World.cell?_alloc_past _ _ _ (by rw [sz, sz]; omega), World.cell?_alloc_past _ _ _ (by rw [sz]; omega), World.cell?_alloc_past _ _ _ le]; exact cE j hj)
    rwa [sz, sz, sz] at this

set_option maxRecDepth 100000 in
set_option maxHeartbeats 4000000 in
theorem stops_in (τ : TK) (ak ax ap ae : Option Addr) (ck nx cx np cp ne ce : Nat) (m : Nat) (w : World) (A : Hid (Args τ.q ak ax ap ae τ.n nx np ne τ.kd τ.tx τ.ps τ.en w)) (hout : Hid (∀ j, τ.n ≤ j → τ.kd j = 0)) (hm : m < τ.n) :
    Calls Try.prog 4 #[.string τ.q, .slice ak τ.n ck, .slice ax nx cx, .slice ap np cp, .slice ae ne ce, .int .i64 (m : Int)] w fun r w' => r = .returned (.bool true) ∧ Below w.heap.size w w' := by
  go_enter Try.func4, Try.ntmps4
  go_wp2_with fail
  refine (bytes11_any τ.q ak ax ap ae τ.n ck nx cx np cp ne ce τ.tx m _ A.out.lq A.out.lk A.out.lx A.out.lp A.out.le A.out.hX).mono ?_
  rintro r w' ⟨b, rfl, rfl, hb⟩
  cases b
  · go_wp2
    go_ret
    exact ⟨rfl, Below.refl _ _⟩
  obtain ⟨bq, bk, -, -, -⟩ := hb rfl
  clear hb
  go_wp2_with fail
  refine (size_any τ.q ak ap ae ax τ.n ck nx cx np cp ne ce τ.tx _ A.out.lq A.out.lk A.out.lx A.out.lp A.out.le A.out.hX).mono ?_
  rintro r w' ⟨v, rfl, rfl, v0, v1⟩
  by_cases hv : 1048576 < v
  · go_wp2
    go_ret
    exact ⟨rfl, Below.refl _ _⟩
  go_wp2_with fail
  refine (ok_letter τ.q ak ap ae ax τ.n ck nx cx np cp ne ce τ.kd τ.ps τ.en _ bk bq A.out.hK A.out.hP A.out.hE).mono ?_
  rintro r w1 ⟨b, rfl, hw, hb⟩
  cases b
  · go_wp2
    go_ret
    exact ⟨rfl, hw.out.2⟩
  obtain ⟨h0, e1, e2, e3, hl, hg⟩ := hb.out rfl
  clear hb
  have ok : Hid τ.Ok := ⟨by omega, bk, bq, hl, fun j hj => (hg j hj).2.2.1, fun j hj => (hg j hj).2.2.2.1, fun j hj => (hg j hj).2.2.2.2⟩
  clear hl hg
  rcases A.out.hK with h | ⟨kb, ko, rfl, cK⟩
  · exact absurd h h0
  rcases A.out.hX with h | ⟨xb, xo, rfl, cX⟩
  · exact absurd (e1.symm.trans h) h0
  rcases A.out.hP with h | ⟨pb, po, rfl, cP⟩
  · exact absurd (e2.symm.trans h) h0
  rcases A.out.hE with h | ⟨eb, eo, rfl, cE⟩
  · exact absurd (e3.symm.trans h) h0
  subst e1 e2 e3
  have bel1 : Hid (Below w'.heap.size w' w1) := hw.out.2
  have mk22 := make_ints τ.n bk
  have mk23 := make_strs τ.n bk
  have nq22 : ∀ (V : World) (a : Addr) (n c : Nat), (binOp .neq 22 (.slice (some a) n c) (.slice none 0 0)).run Try.prog V = .ok (.bool true) V := fun V a n c => run_neq_slice_nil_any V 22 3 (some a) n c 0 0 Try.underlying22
  have nq23 : ∀ (V : World) (a : Addr) (n c : Nat), (binOp .neq 23 (.slice (some a) n c) (.slice none 0 0)).run Try.prog V = .ok (.bool true) V := fun V a n c => run_neq_slice_nil_any V 23 9 (some a) n c 0 0 Try.underlying23
  obtain ⟨cp1, cp2, cp3, cp4⟩ := copies4 τ kb ko ck xb xo cx pb po cp eb eo ce w1 (fun j hj => by rw [cell_heap hw.out.1]; exact cK j hj) (fun j hj => by rw [cell_heap hw.out.1]; exact (cX j hj).1) (fun j hj => by rw [cell_heap hw.out.1]; exact cP j hj) (fun j hj => by rw [cell_heap hw.out.1]; exact cE j hj) h0
  have S0 : Hid (Src4 τ w1.heap.size 0 (w1.heap.size + 1) 0 (w1.heap.size + 1 + 1) 0 (w1.heap.size + 1 + 1 + 1) 0 (W4 w1 τ.kd τ.tx τ.ps τ.en τ.n)) := src_W4 τ w1
  have b0 : Hid (Below w1.heap.size w1 (W4 w1 τ.kd τ.tx τ.ps τ.en τ.n)) := below_W4 _ _ _ _ _ _
  clear cK cX cP cE hw A
  unfold W4 at S0 b0
  go_wp2_with fail
  have HBn : Hid (m + bestF τ m 8 < τ.n) := best_lt ok m hm 8
  have hB4 := bestF_le τ m 8
  have fb := full_best τ m
  have fbd := (fullF_bd τ m 8).1
  obtain ⟨B, hB'⟩ : ∃ B, bestF τ m 8 = B := ⟨_, rfl⟩
  obtain ⟨F, hF'⟩ : ∃ F, fullF τ m 8 = F := ⟨_, rfl⟩
  rw [hB'] at HBn hB4
  rw [hF'] at fbd
  rw [hB', hF'] at fb
  have hB : Hid (bestF τ m 8 = B) := hB'
  have hF : Hid (fullF τ m 8 = F) := hF'
  have t1 : Hid (∀ ro, (tmF τ m ro).1 = B) := fun ro => (fb ro).1.symm
  have t2 : Hid (∀ ro, 0 ≤ F → (tmF τ m ro).2.2 = true) := fun ro h => (fb ro).2.1.2 h
  have t2' : Hid (∀ ro, ¬ 0 ≤ F → (tmF τ m ro).2.2 = false) := fun ro h => by
    cases e : (tmF τ m ro).2.2
    · rfl
    · exact absurd ((fb ro).2.1.1 e) h
  have t3 : Hid (∀ ro, (tmF τ m ro).2.1 = (if F = 0 then true else if F = 1 then false else ro)) := fun ro => (fb ro).2.2
  clear fb hB' hF'
  have mB : (B : Int) ≤ 4 := by omega
  have mS : (m : Int) < 1048576 := by omega
  by_cases f0 : F = 0
  · have f0' : (F == 0) = true := by simpa using f0
    have fp : 0 ≤ F := by omega
    have FF : Hid (F = 0) := f0
    clear f0
    refine (zztm_good τ ok m false _ _ _ _ _ _ _ _ _ _ _ _ _ hm S0 B true (t1.out _) (by rw [t3.out, if_pos FF.out]) (t2.out _ fp)).mono ?_
    rintro r w2 ⟨rfl, b2⟩
    have S2 : Hid (Src4 τ w1.heap.size 0 (w1.heap.size + 1) 0 (w1.heap.size + 1 + 1) 0 (w1.heap.size + 1 + 1 + 1) 0 w2) := S0.out.below b2.out
    have c2 : Hid (Below w1.heap.size w1 w2) := b0.out.trans (b2.out.mono b0.out.size)
    clear S0 b0 b2
    go_wp2_with fail
    refine (zztm_good τ ok m true _ _ _ _ _ _ _ _ _ _ _ _ _ hm S2 B true (t1.out _) (by rw [t3.out, if_pos FF.out]) (t2.out _ fp)).mono ?_
    rintro r w3 ⟨rfl, b3⟩
    have S3 : Hid (Src4 τ w1.heap.size 0 (w1.heap.size + 1) 0 (w1.heap.size + 1 + 1) 0 (w1.heap.size + 1 + 1 + 1) 0 w3) := S2.out.below b3.out
    have c3 : Hid (Below w1.heap.size w1 w3) := c2.out.trans (b3.out.mono c2.out.size)
    clear S2 c2 b3
    go_wp2_with fail
    refine (match_at τ m _ _ _ _ _ _ _ _ _ _ _ bk hm hout S3 B F hB.out hF.out).mono ?_
    rintro r w4 ⟨rfl, b4⟩
    have c4 : Hid (Below w1.heap.size w1 w4) := c3.out.trans (b4.out.mono c3.out.size)
    clear S3 c3 b4
    go_wp2
    go_ret
    exact ⟨rfl, bel1.out.trans (c4.out.mono bel1.out.size)⟩
  have f0' : (F == 0) = false := by simpa using f0
  by_cases f1 : F = 1
  · have f1' : (F == 1) = true := by simpa using f1
    have fp : 0 ≤ F := by omega
    have FF : Hid (F = 1) := f1
    have FN : Hid (¬ F = 0) := f0
    clear f1 f0
    refine (zztm_good τ ok m false _ _ _ _ _ _ _ _ _ _ _ _ _ hm S0 B false (t1.out _) (by rw [t3.out, if_neg FN.out, if_pos FF.out]) (t2.out _ fp)).mono ?_
    rintro r w2 ⟨rfl, b2⟩
    have S2 : Hid (Src4 τ w1.heap.size 0 (w1.heap.size + 1) 0 (w1.heap.size + 1 + 1) 0 (w1.heap.size + 1 + 1 + 1) 0 w2) := S0.out.below b2.out
    have c2 : Hid (Below w1.heap.size w1 w2) := b0.out.trans (b2.out.mono b0.out.size)
    clear S0 b0 b2
    go_wp2_with fail
    refine (zztm_good τ ok m true _ _ _ _ _ _ _ _ _ _ _ _ _ hm S2 B false (t1.out _) (by rw [t3.out, if_neg FN.out, if_pos FF.out]) (t2.out _ fp)).mono ?_
    rintro r w3 ⟨rfl, b3⟩
    have S3 : Hid (Src4 τ w1.heap.size 0 (w1.heap.size + 1) 0 (w1.heap.size + 1 + 1) 0 (w1.heap.size + 1 + 1 + 1) 0 w3) := S2.out.below b3.out
    have c3 : Hid (Below w1.heap.size w1 w3) := c2.out.trans (b3.out.mono c2.out.size)
    clear S2 c2 b3
    go_wp2_with fail
    refine (match_at τ m _ _ _ _ _ _ _ _ _ _ _ bk hm hout S3 B F hB.out hF.out).mono ?_
    rintro r w4 ⟨rfl, b4⟩
    have c4 : Hid (Below w1.heap.size w1 w4) := c3.out.trans (b4.out.mono c3.out.size)
    clear S3 c3 b4
    go_wp2
    go_ret
    exact ⟨rfl, bel1.out.trans (c4.out.mono bel1.out.size)⟩
  have f1' : (F == 1) = false := by simpa using f1
  by_cases fp : 0 ≤ F
  · have FF : Hid (¬ F = 1) := f1
    have FN : Hid (¬ F = 0) := f0
    clear f1 f0
    refine (zztm_good τ ok m false _ _ _ _ _ _ _ _ _ _ _ _ _ hm S0 B false (t1.out _) (by rw [t3.out, if_neg FN.out, if_neg FF.out]) (t2.out _ fp)).mono ?_
    rintro r w2 ⟨rfl, b2⟩
    have S2 : Hid (Src4 τ w1.heap.size 0 (w1.heap.size + 1) 0 (w1.heap.size + 1 + 1) 0 (w1.heap.size + 1 + 1 + 1) 0 w2) := S0.out.below b2.out
    have c2 : Hid (Below w1.heap.size w1 w2) := b0.out.trans (b2.out.mono b0.out.size)
    clear S0 b0 b2
    go_wp2_with fail
    refine (zztm_good τ ok m true _ _ _ _ _ _ _ _ _ _ _ _ _ hm S2 B true (t1.out _) (by rw [t3.out, if_neg FN.out, if_neg FF.out]) (t2.out _ fp)).mono ?_
    rintro r w3 ⟨rfl, b3⟩
    have S3 : Hid (Src4 τ w1.heap.size 0 (w1.heap.size + 1) 0 (w1.heap.size + 1 + 1) 0 (w1.heap.size + 1 + 1 + 1) 0 w3) := S2.out.below b3.out
    have c3 : Hid (Below w1.heap.size w1 w3) := c2.out.trans (b3.out.mono c2.out.size)
    clear S2 c2 b3
    go_wp2_with fail
    refine (match_at τ m _ _ _ _ _ _ _ _ _ _ _ bk hm hout S3 B F hB.out hF.out).mono ?_
    rintro r w4 ⟨rfl, b4⟩
    have c4 : Hid (Below w1.heap.size w1 w4) := c3.out.trans (b4.out.mono c3.out.size)
    clear S3 c3 b4
    go_wp2
    go_ret
    exact ⟨rfl, bel1.out.trans (c4.out.mono bel1.out.size)⟩
  · have FF : Hid (¬ F = 1) := f1
    have FN : Hid (¬ F = 0) := f0
    have fn : F = -1 := by omega
    have FP : Hid (¬ 0 ≤ F) := fp
    clear f1 f0 fp f0' f1' fbd
    subst fn
    refine (zztm_bad τ ok m false _ _ _ _ _ _ _ _ _ _ _ _ _ hm S0 B false (t1.out _) (by rw [t3.out, if_neg FN.out, if_neg FF.out]) (t2'.out _ FP.out)).mono ?_
    rintro r w2 ⟨u1, rfl, E1, b2⟩
    have S2 : Hid (Src4 τ w1.heap.size 0 (w1.heap.size + 1) 0 (w1.heap.size + 1 + 1) 0 (w1.heap.size + 1 + 1 + 1) 0 w2) := S0.out.below b2.out
    have c2 : Hid (Below w1.heap.size w1 w2) := b0.out.trans (b2.out.mono b0.out.size)
    clear S0 b0 b2
    go_wp2_with fail
    refine (zztm_bad τ ok m true _ _ _ _ _ _ _ _ _ _ _ _ _ hm S2 B true (t1.out _) (by rw [t3.out, if_neg FN.out, if_neg FF.out]) (t2'.out _ FP.out)).mono ?_
    rintro r w3 ⟨u2, rfl, E2, b3⟩
    have S3 : Hid (Src4 τ w1.heap.size 0 (w1.heap.size + 1) 0 (w1.heap.size + 1 + 1) 0 (w1.heap.size + 1 + 1 + 1) 0 w3) := S2.out.below b3.out
    have c3 : Hid (Below w1.heap.size w1 w3) := c2.out.trans (b3.out.mono c2.out.size)
    have E1' : Hid (ErrAt w3 u1 (errMsg τ (m + B)) (posn τ.q (τ.ps (m + B)))) := E1.out.below b3.out
    clear S2 c2 b3 E1
    go_wp2_with fail
    refine (match_at τ m _ _ _ _ _ _ _ _ _ _ _ bk hm hout S3 B (-1) hB.out hF.out).mono ?_
    rintro r w4 ⟨rfl, b4⟩
    have S4 : Hid (Src4 τ w1.heap.size 0 (w1.heap.size + 1) 0 (w1.heap.size + 1 + 1) 0 (w1.heap.size + 1 + 1 + 1) 0 w4) := S3.out.below b4.out
    have c4 : Hid (Below w1.heap.size w1 w4) := c3.out.trans (b4.out.mono c3.out.size)
    have E1 : Hid (ErrAt w4 u1 (errMsg τ (m + B)) (posn τ.q (τ.ps (m + B)))) := E1'.out.below b4.out
    have E2' : Hid (ErrAt w4 u2 (errMsg τ (m + B)) (posn τ.q (τ.ps (m + B)))) := E2.out.below b4.out
    clear S3 c3 b4 E1' E2
    go_wp2_with fail
    refine (zzunexp_at τ ok m B _ _ _ _ _ _ _ _ _ _ _ _ _ HBn.out S4).mono ?_
    rintro r w5 ⟨u3, rfl, E3, b5⟩
    have c5 : Hid (Below w1.heap.size w1 w5) := c4.out.trans (b5.out.mono c4.out.size)
    obtain ⟨x0, x1, x2, x3, x4⟩ := (E1.out.below b5.out).cells
    obtain ⟨y0, y1, y2, y3, y4⟩ := (E2'.out.below b5.out).cells
    obtain ⟨z0, z1, z2, z3, z4⟩ := E3.out.cells
    have heq := eql34
    clear S4 c4 b5 E1 E2' E3
    go_wp2
    go_quiet (fail)
    go_wp2
    go_ret
    exact ⟨rfl, bel1.out.trans ((below_drewN c5.out _).mono bel1.out.size)⟩
end Go.Proofs.Qxb6614099a
