import Derived.Test.Qxb6608869aDec
import Derived.Deep.RegionHeld3
namespace Go.Proofs.Qxb6608869a
open Go.RowKit

theorem below_alloc (w : World) (o : Obj) : Below w.heap.size w (w.alloc o) := (Below.refl _ _).alloc (Nat.le_refl _) o

set_option maxHeartbeats 400000 in
theorem coef_any (b : Nat) (x e : Int) (w : World) (hb : BigAt w b x) :
    Calls Try.prog 12 #[.agg #[.pointer (some ⟨b, 0, none⟩), .int .i32 e]] w fun r w' => ∃ z, r = .returned (.pointer (some ⟨z, 0, none⟩)) ∧ BigAt w' z x ∧ Below w.heap.size w w' := by
  have lb := hb.lt
  have HB : Hid (BigAt w b x) := hb
  clear hb
  go_enter Try.func12, Try.ntmps12
  go_wp2_with fail
  refine (ensure_any w.heap.size b _ (by simp [go_sem])).mono ?_
  rintro r w' ⟨rfl, rfl⟩
  go_wp2_with fail
  refine (set_any (w.heap.size + 1) b x _ (by omega) (heap_alloc_last1 _ _ _) ((HB.out.below (below_alloc _ _)).below (below_alloc _ _))).mono ?_
  rintro r w' ⟨rfl, hbig, hbel⟩
  have HB2 : Hid (BigAt w' (w.heap.size + 1) x) := hbig
  have HL : Hid (Below w.heap.size w w') := (((Below.refl _ _).alloc (Nat.le_refl _) _).alloc (by simp) _).trans (hbel.mono (by omega))
  clear hbig hbel
  go_wp2
  go_ret
  exact ⟨_, rfl, HB2.out, HL.out⟩

theorem heap_alloc_last2 (w : World) (o o' o'' : Obj) : (((w.alloc o).alloc o').alloc o'').heap[w.heap.size + 2]? = some o'' := by
  have := heap_alloc_last1 (w.alloc o) o' o''
  simpa [Nat.add_assoc] using this

/-- big.Int.Set as Decimal.Shift calls it: the receiver is the newest block, two blocks of two cells lie ahead of it. -/
theorem set_in_shift (b : Nat) (x : Int) (u0 u1 v0 v1 : Value) (t : TypeId) (w : World) (hb : BigAt w b x) :
    Calls Try.prog 18 #[.pointer (some ⟨w.heap.size + 2, 0, none⟩), .pointer (some ⟨b, 0, none⟩)] (((w.alloc (.cells #[u0, u1] 26)).alloc (.cells #[v0, v1] t)).alloc (.cells #[.bool false, .slice none 0 0] 50)).drew fun e w' =>
      e = .returned (.pointer (some ⟨w.heap.size + 2, 0, none⟩)) ∧ Hid (BigAt w' (w.heap.size + 2) x) ∧ Hid (Below w.heap.size w w') ∧ Hid (Tag w' (w.heap.size + 1) t) ∧ w.heap.size + 2 < w'.heap.size ∧
      w'.cell? ⟨w.heap.size, 0, none⟩ = some u0 ∧ w'.cell? ⟨w.heap.size, 1, none⟩ = some u1 ∧
      w'.cell? ⟨w.heap.size + 1, 0, none⟩ = some v0 ∧ w'.cell? ⟨w.heap.size + 1, 1, none⟩ = some v1 ∧ w'.frozen? ⟨w.heap.size + 1, 0, none⟩ = false ∧ w'.frozen? ⟨w.heap.size + 1, 1, none⟩ = false := by
  have lb := hb.lt
  have h2 := heap_alloc_last2 w (.cells #[u0, u1] 26) (.cells #[v0, v1] t) (.cells #[.bool false, .slice none 0 0] 50)
  have hb3 := ((hb.below (below_alloc _ (.cells #[u0, u1] 26))).below (below_alloc _ (.cells #[v0, v1] t))).below (below_alloc _ (.cells #[.bool false, .slice none 0 0] 50))
  refine (set_any (w.heap.size + 2) b x _ (by omega) (by exact h2) (by exact hb3)).mono ?_
  rintro r w' ⟨rfl, hbig, hbel⟩
  have e0 : (((w.alloc (.cells #[u0, u1] 26)).alloc (.cells #[v0, v1] t)).alloc (.cells #[.bool false, .slice none 0 0] 50)).drew.heap[w.heap.size]? = some (.cells #[u0, u1] 26) := by
    show (((w.alloc _).alloc _).alloc _).heap[_]? = _
    rw [Below.heap_alloc _ _ _ (by simp; omega), Below.heap_alloc _ _ _ (by simp), heap_alloc_last]
  have e1 : (((w.alloc (.cells #[u0, u1] 26)).alloc (.cells #[v0, v1] t)).alloc (.cells #[.bool false, .slice none 0 0] 50)).drew.heap[w.heap.size + 1]? = some (.cells #[v0, v1] t) := by
    show (((w.alloc _).alloc _).alloc _).heap[_]? = _
    rw [Below.heap_alloc _ _ _ (by simp), heap_alloc_last1]
  have f0 : w'.heap[w.heap.size]? = some (.cells #[u0, u1] 26) := by rw [hbel.block _ (by omega)]; exact e0
  have f1 : w'.heap[w.heap.size + 1]? = some (.cells #[v0, v1] t) := by rw [hbel.block _ (by omega)]; exact e1
  refine ⟨rfl, hbig, ?_, ⟨_, _, f1⟩, hbig.lt, by rw [cell_of_heap f0]; rfl, by rw [cell_of_heap f0]; rfl, by rw [cell_of_heap f1]; rfl, by rw [cell_of_heap f1]; rfl, frozen_of_heap f1 0, frozen_of_heap f1 1⟩
  exact ((((Below.refl _ _).alloc (Nat.le_refl _) _).alloc (by simp) _).alloc (by simp; omega) _).drew.trans (hbel.mono (by omega))

set_option maxHeartbeats 1000000 in
theorem shift_any (b : Nat) (x e s : Int) (w : World) (hb : BigAt w b x) :
    Calls Try.prog 15 #[.agg #[.pointer (some ⟨b, 0, none⟩), .int .i32 e], .int .i32 s] w fun r w' => ∃ z, r = .returned (.agg #[.pointer (some ⟨z, 0, none⟩), .int .i32 (IntKind.i32.wrap (e + s))]) ∧ BigAt w' z x ∧ Below w.heap.size w w' := by
  have hset := set_in_shift b x (.pointer (some ⟨b, 0, none⟩)) (.int .i32 e) (.pointer none) (.int .i32 0) 26 w hb
  go_enter Try.func15, Try.ntmps15
  go_wp2_with fail
  refine (ensure_any w.heap.size b _ (by simp [go_sem, World.cell?_alloc_past])).mono ?_
  rintro r w' ⟨rfl, rfl⟩
  go_wp2_with fail
  go_region_held3 (fun w' => w'.cell? ⟨w.heap.size, 0, none⟩ = some (.pointer (some ⟨b, 0, none⟩)) ∧ w'.cell? ⟨w.heap.size, 1, none⟩ = some (.int .i32 e)) (go_keep)
    (first | (go_at_call 18; refine hset.mono ?_; rintro r w' ⟨rfl, hbig, hbel, htag, hsz, c0, c1, k0, k1, fk0, fk1⟩))
  go_wp2
  refine bodyPost_ret (v := .agg #[.pointer (some ⟨w.heap.size + 2, 0, none⟩), .int .i32 (IntKind.i32.wrap (e + s))]) (by simp [results, Try.results15, go_sem, k0, k1]) rfl ⟨w.heap.size + 2, rfl, ?_, ?_⟩
  · exact hbig.out.setCell2 htag.out (by decide) (by decide) _ _ _ _
  · exact below_set2 hbel.out (by omega) _ _ _ _
end Go.Proofs.Qxb6608869a
