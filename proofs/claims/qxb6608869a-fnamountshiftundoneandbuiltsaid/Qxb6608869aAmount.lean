import Derived.Test.Qxb6608869aShift
import Derived.Deep.RegionHeld3
import Derived.Deep.RegionWith
namespace Go.Proofs.Qxb6608869a
open Go.RowKit

set_option maxHeartbeats 400000 in
theorem newAmount_any (x e y f : Int) (w : World) (hx1 : -9223372036854775808 ≤ x) (hx2 : x ≤ 9223372036854775807) (hy1 : -9223372036854775808 ≤ y) (hy2 : y ≤ 9223372036854775807) :
    Calls Try.prog 7 #[.int .i64 x, .int .i32 e, .int .i64 y, .int .i32 f] w fun r w' => ∃ b1 b2, r = .returned (.agg #[.pointer (some ⟨b1, 0, none⟩), .int .i32 e, .pointer (some ⟨b2, 0, none⟩), .int .i32 f]) ∧ BigAt w' b1 x ∧ BigAt w' b2 y ∧ Below w.heap.size w w' := by
  go_enter Try.func7, Try.ntmps7
  go_wp2_with fail
  refine (new_any x e _ hx1 hx2).mono ?_
  rintro r w1 ⟨b1, rfl, hbig1, hbel1⟩
  go_wp2_with fail
  refine (new_any y f _ hy1 hy2).mono ?_
  rintro r w2 ⟨b2, rfl, hbig2, hbel2⟩
  have hk : w2.heap[w.heap.size]? = some (.cells #[.pointer none, .int .i32 0, .pointer none, .int .i32 0] 30 (0, 0)) := by
    have := hbel1.size
    simp at this
    rw [hbel2.block _ (by omega), hbel1.block _ (by simp), heap_alloc_last]
  have hz : w.heap.size < w2.heap.size := heap_lt hk
  have hk0 : w2.cell? ⟨w.heap.size, 0, none⟩ = some (.pointer none) := by rw [cell_of_heap hk]; rfl
  have hk1 : w2.cell? ⟨w.heap.size, 1, none⟩ = some (.int .i32 0) := by rw [cell_of_heap hk]; rfl
  have hk2 : w2.cell? ⟨w.heap.size, 2, none⟩ = some (.pointer none) := by rw [cell_of_heap hk]; rfl
  have hk3 : w2.cell? ⟨w.heap.size, 3, none⟩ = some (.int .i32 0) := by rw [cell_of_heap hk]; rfl
  have fk0 : w2.frozen? ⟨w.heap.size, 0, none⟩ = false := frozen_of_heap hk 0
  have fk1 : w2.frozen? ⟨w.heap.size, 1, none⟩ = false := frozen_of_heap hk 1
  have fk2 : w2.frozen? ⟨w.heap.size, 2, none⟩ = false := frozen_of_heap hk 2
  have fk3 : w2.frozen? ⟨w.heap.size, 3, none⟩ = false := frozen_of_heap hk 3
  have HB1 : Hid (BigAt w2 b1 x) := hbig1.below hbel2
  have HB2 : Hid (BigAt w2 b2 y) := hbig2
  have HL : Hid (Below w.heap.size w w2) := ((below_alloc _ _).trans (hbel1.mono (by simp))).trans (hbel2.mono (by have := hbel1.size; simp at this; omega))
  have HT : Hid (Tag w2 w.heap.size 30) := ⟨_, _, hk⟩
  clear hk hbig1 hbig2 hbel1 hbel2
  go_wp2
  refine bodyPost_ret (v := .agg #[.pointer (some ⟨b1, 0, none⟩), .int .i32 e, .pointer (some ⟨b2, 0, none⟩), .int .i32 f]) (by simp [results, Try.results7, go_sem, hk0, hk1, hk2, hk3]) rfl ⟨b1, b2, rfl, ?_, ?_, ?_⟩
  · exact HB1.out.setCell4 HT.out (by decide) (by decide) _ _ _ _ _ _ _ _
  · exact HB2.out.setCell4 HT.out (by decide) (by decide) _ _ _ _ _ _ _ _
  · exact below_set4 HL.out (Nat.le_refl _) _ _ _ _ _ _ _ _

theorem shift_in_amount (b b' : Nat) (x y e s : Int) (u0 u1 u2 u3 v0 v1 v2 v3 : Value) (w : World) (hb : BigAt w b x) (hb' : BigAt w b' y) :
    Calls Try.prog 15 #[.agg #[.pointer (some ⟨b, 0, none⟩), .int .i32 e], .int .i32 s] ((w.alloc (.cells #[u0, u1, u2, u3] 30)).alloc (.cells #[v0, v1, v2, v3] 30)).drew fun r w' =>
      ∃ z, r = .returned (.agg #[.pointer (some ⟨z, 0, none⟩), .int .i32 (IntKind.i32.wrap (e + s))]) ∧ Hid (BigAt w' z x) ∧ Hid (BigAt w' b' y) ∧ Hid (Below w.heap.size w w') ∧ Hid (Tag w' (w.heap.size + 1) 30) ∧ w.heap.size + 1 < w'.heap.size ∧
      (w'.cell? ⟨w.heap.size, 0, none⟩ = some u0 ∧ w'.cell? ⟨w.heap.size, 1, none⟩ = some u1 ∧ w'.cell? ⟨w.heap.size, 2, none⟩ = some u2 ∧ w'.cell? ⟨w.heap.size, 3, none⟩ = some u3) ∧
      (w'.cell? ⟨w.heap.size + 1, 0, none⟩ = some v0 ∧ w'.cell? ⟨w.heap.size + 1, 1, none⟩ = some v1 ∧ w'.cell? ⟨w.heap.size + 1, 2, none⟩ = some v2 ∧ w'.cell? ⟨w.heap.size + 1, 3, none⟩ = some v3) ∧
      (w'.frozen? ⟨w.heap.size + 1, 0, none⟩ = false ∧ w'.frozen? ⟨w.heap.size + 1, 1, none⟩ = false ∧ w'.frozen? ⟨w.heap.size + 1, 2, none⟩ = false ∧ w'.frozen? ⟨w.heap.size + 1, 3, none⟩ = false) := by
  have hb2 := (hb.below (below_alloc _ (.cells #[u0, u1, u2, u3] 30))).below (below_alloc _ (.cells #[v0, v1, v2, v3] 30))
  have hb2' := (hb'.below (below_alloc _ (.cells #[u0, u1, u2, u3] 30))).below (below_alloc _ (.cells #[v0, v1, v2, v3] 30))
  refine (shift_any b x e s _ (by exact hb2)).mono ?_
  rintro r w' ⟨z, rfl, hbig, hbel⟩
  have e0 : ((w.alloc (.cells #[u0, u1, u2, u3] 30)).alloc (.cells #[v0, v1, v2, v3] 30)).drew.heap[w.heap.size]? = some (.cells #[u0, u1, u2, u3] 30) := by
    show ((w.alloc _).alloc _).heap[_]? = _
    rw [Below.heap_alloc _ _ _ (by simp), heap_alloc_last]
  have e1 : ((w.alloc (.cells #[u0, u1, u2, u3] 30)).alloc (.cells #[v0, v1, v2, v3] 30)).drew.heap[w.heap.size + 1]? = some (.cells #[v0, v1, v2, v3] 30) := heap_alloc_last1 _ _ _
  have f0 : w'.heap[w.heap.size]? = some (.cells #[u0, u1, u2, u3] 30) := by rw [hbel.block _ (by simp; omega)]; exact e0
  have f1 : w'.heap[w.heap.size + 1]? = some (.cells #[v0, v1, v2, v3] 30) := by rw [hbel.block _ (by simp)]; exact e1
  refine ⟨z, rfl, hbig, BigAt.below (w := ((w.alloc (.cells #[u0, u1, u2, u3] 30)).alloc (.cells #[v0, v1, v2, v3] 30)).drew) hb2' hbel, ?_, ⟨_, _, f1⟩, heap_lt f1, ⟨?_, ?_, ?_, ?_⟩, ⟨?_, ?_, ?_, ?_⟩, ⟨frozen_of_heap f1 0, frozen_of_heap f1 1, frozen_of_heap f1 2, frozen_of_heap f1 3⟩⟩
  · exact (((Below.refl _ _).alloc (Nat.le_refl _) _).alloc (by simp) _).drew.trans (hbel.mono (by simp; omega))
  all_goals first | (rw [cell_of_heap f0]; rfl) | (rw [cell_of_heap f1]; rfl)

set_option maxHeartbeats 1000000 in
theorem amountShift_any (b1 b2 : Nat) (x y e1 e2 s : Int) (w : World) (hb1 : BigAt w b1 x) (hb2 : BigAt w b2 y) :
    Calls Try.prog 9 #[.agg #[.pointer (some ⟨b1, 0, none⟩), .int .i32 e1, .pointer (some ⟨b2, 0, none⟩), .int .i32 e2], .int .i32 s] w fun r w' => ∃ z, r = .returned (.agg #[.pointer (some ⟨z, 0, none⟩), .int .i32 (IntKind.i32.wrap (e1 + s)), .pointer (some ⟨b2, 0, none⟩), .int .i32 e2]) ∧ BigAt w' z x ∧ BigAt w' b2 y ∧ Below w.heap.size w w' := by
  have hsh := shift_in_amount b1 b2 x y e1 s (.pointer (some ⟨b1, 0, none⟩)) (.int .i32 e1) (.pointer (some ⟨b2, 0, none⟩)) (.int .i32 e2) (.pointer none) (.int .i32 0) (.pointer none) (.int .i32 0) w hb1 hb2
  go_enter Try.func9, Try.ntmps9
  go_wp2_with fail
  go_region_held3 (fun w' => w'.cell? ⟨w.heap.size, 0, none⟩ = some (.pointer (some ⟨b1, 0, none⟩)) ∧ w'.cell? ⟨w.heap.size, 1, none⟩ = some (.int .i32 e1) ∧ w'.cell? ⟨w.heap.size, 2, none⟩ = some (.pointer (some ⟨b2, 0, none⟩)) ∧ w'.cell? ⟨w.heap.size, 3, none⟩ = some (.int .i32 e2)) (go_keep)
    (first | (go_at_call 15; refine hsh.mono ?_; rintro r w' ⟨z, rfl, hbig, hbig2, hbel, htag, hsz, ⟨c0, c1, c2, c3⟩, ⟨k0, k1, k2, k3⟩, ⟨fk0, fk1, fk2, fk3⟩⟩))
  go_wp2
  refine bodyPost_ret (v := .agg #[.pointer (some ⟨z, 0, none⟩), .int .i32 (IntKind.i32.wrap (e1 + s)), .pointer (some ⟨b2, 0, none⟩), .int .i32 e2]) (by simp [results, Try.results9, go_sem, k0, k1, k2, k3]) rfl ⟨z, rfl, ?_, ?_, ?_⟩
  · exact hbig.out.setCell4 htag.out (by decide) (by decide) _ _ _ _ _ _ _ _
  · exact hbig2.out.setCell4 htag.out (by decide) (by decide) _ _ _ _ _ _ _ _
  · exact below_set4 hbel.out (by omega) _ _ _ _ _ _ _ _

def Env (w : World) (b1 b2 : Nat) (x y e1 e2 : Int) (W : World) : Prop :=
  BigAt W b1 x ∧ BigAt W b2 y ∧ Below w.heap.size w W ∧ W.heap[w.heap.size]? = some (.cells #[.pointer (some ⟨b1, 0, none⟩), .int .i32 e1, .pointer (some ⟨b2, 0, none⟩), .int .i32 e2] 30 (0, 0))

theorem Env.below {w W W' : World} {b1 b2 : Nat} {x y e1 e2 : Int} (h : Env w b1 b2 x y e1 e2 W) (hb : Below W.heap.size W W') : Env w b1 b2 x y e1 e2 W' := by
  obtain ⟨h1, h2, h3, h4⟩ := h
  exact ⟨h1.below hb, h2.below hb, h3.trans (hb.mono h3.size), by rw [hb.block _ (heap_lt h4)]; exact h4⟩

theorem Env.cells {w W : World} {b1 b2 : Nat} {x y e1 e2 : Int} (h : Hid (Env w b1 b2 x y e1 e2 W)) :
    W.cell? ⟨w.heap.size, 0, none⟩ = some (.pointer (some ⟨b1, 0, none⟩)) ∧ W.cell? ⟨w.heap.size, 1, none⟩ = some (.int .i32 e1) ∧ W.cell? ⟨w.heap.size, 2, none⟩ = some (.pointer (some ⟨b2, 0, none⟩)) ∧ W.cell? ⟨w.heap.size, 3, none⟩ = some (.int .i32 e2) ∧ Hid (Env w b1 b2 x y e1 e2 W) := by
  have h4 := h.out.2.2.2
  exact ⟨by rw [cell_of_heap h4]; rfl, by rw [cell_of_heap h4]; rfl, by rw [cell_of_heap h4]; rfl, by rw [cell_of_heap h4]; rfl, h⟩

theorem coef_a {w W : World} {b1 b2 : Nat} {x y e1 e2 : Int} (h : Hid (Env w b1 b2 x y e1 e2 W)) :
    Calls Try.prog 12 #[.agg #[.pointer (some ⟨b1, 0, none⟩), .int .i32 e1]] W fun r w' => ∃ z, r = .returned (.pointer (some ⟨z, 0, none⟩)) ∧ Hid (BigAt w' z x) ∧ Hid (Env w b1 b2 x y e1 e2 w') := by
  refine (coef_any b1 x e1 W h.out.1).mono ?_
  rintro r w' ⟨z, rfl, hb, hl⟩
  exact ⟨z, rfl, hb, h.out.below hl⟩
theorem coef_b {w W : World} {b1 b2 : Nat} {x y e1 e2 : Int} (h : Hid (Env w b1 b2 x y e1 e2 W)) :
    Calls Try.prog 12 #[.agg #[.pointer (some ⟨b2, 0, none⟩), .int .i32 e2]] W fun r w' => ∃ z, r = .returned (.pointer (some ⟨z, 0, none⟩)) ∧ Hid (BigAt w' z y) ∧ Hid (Env w b1 b2 x y e1 e2 w') := by
  refine (coef_any b2 y e2 W h.out.2.1).mono ?_
  rintro r w' ⟨z, rfl, hb, hl⟩
  exact ⟨z, rfl, hb, h.out.below hl⟩
theorem exp_e {w W : World} {b b1 b2 : Nat} {x y e e1 e2 : Int} (h : Hid (Env w b1 b2 x y e1 e2 W)) :
    Calls Try.prog 14 #[.agg #[.pointer (some ⟨b, 0, none⟩), .int .i32 e]] W fun r w' => r = .returned (.int .i32 e) ∧ Hid (Env w b1 b2 x y e1 e2 w') := by
  refine (exponent_any b e W).mono ?_
  rintro r w' ⟨rfl, hl⟩
  exact ⟨rfl, h.out.below hl⟩
def I64 (x : Int) : Prop := -9223372036854775808 ≤ x ∧ x ≤ 9223372036854775807
theorem int64_h {w W : World} {b b1 b2 : Nat} {x' x y e1 e2 : Int} (h : Hid (BigAt W b x')) (hr : Hid (I64 x')) (he : Hid (Env w b1 b2 x y e1 e2 W)) :
    Calls Try.prog 13 #[.pointer (some ⟨b, 0, none⟩)] W fun r w' => r = .returned (.int .i64 x') ∧ Hid (Env w b1 b2 x y e1 e2 w') := by
  refine (int64_any b x' W h.out hr.out.1 hr.out.2).mono ?_
  rintro r w' ⟨rfl, rfl⟩
  exact ⟨rfl, he⟩

set_option maxHeartbeats 2000000 in
theorem parts_any (b1 b2 : Nat) (x y e1 e2 : Int) (w : World) (hb1 : BigAt w b1 x) (hb2 : BigAt w b2 y) (hx : I64 x) (hy : I64 y) :
    Calls Try.prog 8 #[.agg #[.pointer (some ⟨b1, 0, none⟩), .int .i32 e1, .pointer (some ⟨b2, 0, none⟩), .int .i32 e2]] w fun r w' => r = .returned (.tuple #[.int .i64 x, .int .i32 e1, .int .i64 y, .int .i32 e2]) ∧ Below w.heap.size w w' := by
  have HX : Hid (I64 x) := hx
  have HY : Hid (I64 y) := hy
  have HE : Hid (Env w b1 b2 x y e1 e2 (w.alloc (.cells #[.pointer (some ⟨b1, 0, none⟩), .int .i32 e1, .pointer (some ⟨b2, 0, none⟩), .int .i32 e2] 30))) :=
    ⟨hb1.below (below_alloc _ _), hb2.below (below_alloc _ _), below_alloc _ _, heap_alloc_last _ _⟩
  have HE2 : Hid (Env w b1 b2 x y e1 e2 (w.alloc (.cells #[.pointer (some ⟨b1, 0, none⟩), .int .i32 e1, .pointer (some ⟨b2, 0, none⟩), .int .i32 e2] 30)).drew) :=
    ⟨hb1.below (below_alloc _ _).drew, hb2.below (below_alloc _ _).drew, (below_alloc _ _).drew, heap_alloc_last _ _⟩
  clear hx hy hb1 hb2 HE
  go_enter Try.func8, Try.ntmps8
  go_wp2_with fail
  go_region_held3 (fun W => W.cell? ⟨w.heap.size, 0, none⟩ = some (.pointer (some ⟨b1, 0, none⟩)) ∧ W.cell? ⟨w.heap.size, 1, none⟩ = some (.int .i32 e1) ∧ W.cell? ⟨w.heap.size, 2, none⟩ = some (.pointer (some ⟨b2, 0, none⟩)) ∧ W.cell? ⟨w.heap.size, 3, none⟩ = some (.int .i32 e2) ∧ Hid (Env w b1 b2 x y e1 e2 W)) (first | (refine Env.cells ?_; assumption))
    (first
      | (go_at_call 13; refine (int64_h (w := w) (b1 := b1) (b2 := b2) (x := x) (y := y) (e1 := e1) (e2 := e2) (x' := x) ?_ HX ?_).mono ?_; assumption; assumption; rintro r w' ⟨rfl, he⟩)
      | (go_at_call 13; refine (int64_h (w := w) (b1 := b1) (b2 := b2) (x := x) (y := y) (e1 := e1) (e2 := e2) (x' := y) ?_ HY ?_).mono ?_; assumption; assumption; rintro r w' ⟨rfl, he⟩)
      | (go_at_call 14; refine (exp_e (w := w) (b1 := b1) (b2 := b2) (x := x) (y := y) (e1 := e1) (e2 := e2) ?_).mono ?_; assumption; rintro r w' ⟨rfl, he⟩)
      | (go_at_call_of 12 b1; refine (coef_a (w := w) (b1 := b1) (b2 := b2) (x := x) (y := y) (e1 := e1) (e2 := e2) ?_).mono ?_; assumption; rintro r w' ⟨z, rfl, hz, he⟩)
      | (go_at_call_of 12 b2; refine (coef_b (w := w) (b1 := b1) (b2 := b2) (x := x) (y := y) (e1 := e1) (e2 := e2) ?_).mono ?_; assumption; rintro r w' ⟨z, rfl, hz, he⟩))
  go_wp2
  exact bodyPost_ret (v := .tuple #[.int .i64 x, .int .i32 e1, .int .i64 y, .int .i32 e2]) (by simp [results, Try.results8, go_sem]) rfl ⟨rfl, he.out.2.2.1⟩
end Go.Proofs.Qxb6608869a
