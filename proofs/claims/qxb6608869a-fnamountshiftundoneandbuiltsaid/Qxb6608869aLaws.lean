import Derived.Test.Qxb6608869aAmount
namespace Go.Proofs.Qxb6608869a
open Go.RowKit

/-- What the law's walk holds in each world: the two big.Ints of 'a' and the variable 'a' itself, in block k. -/
def Var (w : World) (k b1 b2 : Nat) (x y e1 e2 : Int) (W : World) : Prop :=
  BigAt W b1 x ∧ BigAt W b2 y ∧ Below w.heap.size w W ∧ W.heap[k]? = some (.cells #[.pointer (some ⟨b1, 0, none⟩), .int .i32 e1, .pointer (some ⟨b2, 0, none⟩), .int .i32 e2] 30 (0, 0))
theorem Var.below {w W W' : World} {k b1 b2 : Nat} {x y e1 e2 : Int} (h : Hid (Var w k b1 b2 x y e1 e2 W)) (hb : Below W.heap.size W W') : Hid (Var w k b1 b2 x y e1 e2 W') := by
  obtain ⟨h1, h2, h3, h4⟩ := h
  exact ⟨h1.below hb, h2.below hb, h3.trans (hb.mono h3.size), by rw [hb.block _ (heap_lt h4)]; exact h4⟩
theorem Var.cells {w W : World} {k b1 b2 : Nat} {x y e1 e2 : Int} (h : Hid (Var w k b1 b2 x y e1 e2 W)) :
    W.cell? ⟨k, 0, none⟩ = some (.pointer (some ⟨b1, 0, none⟩)) ∧ W.cell? ⟨k, 1, none⟩ = some (.int .i32 e1) ∧ W.cell? ⟨k, 2, none⟩ = some (.pointer (some ⟨b2, 0, none⟩)) ∧ W.cell? ⟨k, 3, none⟩ = some (.int .i32 e2) := by
  have h4 := h.out.2.2.2
  exact ⟨by rw [cell_of_heap h4]; rfl, by rw [cell_of_heap h4]; rfl, by rw [cell_of_heap h4]; rfl, by rw [cell_of_heap h4]; rfl⟩

theorem wrap_comp (e s t : Int) : wrap32 (wrap32 (e + s) + t) = wrap32 (e + wrap32 (s + t)) := by
  unfold wrap32; omega
theorem wrap_undo (e s : Int) (he : -2147483648 ≤ e ∧ e ≤ 2147483647) : wrap32 (wrap32 (e + s) + wrap32 (-s)) = e := by
  unfold wrap32; omega

set_option maxHeartbeats 1000000 in
theorem composes (x e y f s t : Int) (hx : I64 x) (hy : I64 y) (hy0 : (y == 0) = false) (w : World) :
    Calls Try.prog 4 #[.int .i64 x, .int .i32 e, .int .i64 y, .int .i32 f, .int .i32 s, .int .i32 t] w fun r w' => r = .returned (.bool true) ∧ Below w.heap.size w w' := by
  have HX : Hid (I64 x) := hx
  have HY : Hid (I64 y) := hy
  clear hx hy
  go_enter Try.func4, Try.ntmps4
  go_wp2_with fail
  refine (newAmount_any x e y f _ HX.out.1 HX.out.2 HY.out.1 HY.out.2).mono ?_
  rintro r w1 ⟨b1, b2, rfl, hB1, hB2, hL⟩
  have HV : Hid (Var w w1.heap.size b1 b2 x y e f (w1.alloc (.cells #[.pointer (some ⟨b1, 0, none⟩), .int .i32 e, .pointer (some ⟨b2, 0, none⟩), .int .i32 f] 30))) :=
    ⟨hB1.below (below_alloc _ _), hB2.below (below_alloc _ _), hL.alloc hL.size _, heap_alloc_last _ _⟩
  clear hB1 hB2 hL
  go_wp2_with fail
  refine (amountShift_any b1 b2 x y e f s _ HV.out.1 HV.out.2.1).mono ?_
  rintro r w2 ⟨z2, rfl, hC1, hC2, hL2⟩
  have HV2 := Var.below HV hL2
  clear HV hL2
  go_wp2_with fail
  refine (amountShift_any z2 b2 x y _ f t _ hC1 hC2).mono ?_
  rintro r w3 ⟨z3, rfl, hC1, hC2, hL3⟩
  have HV3 := Var.below HV2 hL3
  clear HV2 hL3
  go_wp2_with fail
  refine (parts_any z3 b2 x y _ f _ hC1 hC2 HX.out HY.out).mono ?_
  rintro r w4 ⟨rfl, hL4⟩
  have HV4 := Var.below HV3 hL4
  obtain ⟨k0, k1, k2, k3⟩ := Var.cells HV4
  clear HV3 hL4
  go_wp2_with fail
  refine (amountShift_any b1 b2 x y e f _ _ HV4.out.1 HV4.out.2.1).mono ?_
  rintro r w5 ⟨z5, rfl, hC1, hC2, hL5⟩
  have HV5 := Var.below HV4 hL5
  clear HV4 hL5 k0 k1 k2 k3
  go_wp2_with fail
  refine (parts_any z5 b2 x y _ f _ hC1 hC2 HX.out HY.out).mono ?_
  rintro r w6 ⟨rfl, hL6⟩
  have HV6 := Var.below HV5 hL6
  obtain ⟨k0, k1, k2, k3⟩ := Var.cells HV6
  clear HV5 hL6
  go_wp2_with fail
  refine (amountShift_any b1 b2 x y e f s _ HV6.out.1 HV6.out.2.1).mono ?_
  rintro r w7 ⟨z7, rfl, hC1, hC2, hL7⟩
  have HV7 := Var.below HV6 hL7
  clear HV6 hL7 k0 k1 k2 k3
  go_wp2_with fail
  refine (parts_any z7 b2 x y _ f _ hC1 hC2 HX.out HY.out).mono ?_
  rintro r w8 ⟨rfl, hL8⟩
  have HV8 := Var.below HV7 hL8
  clear HV7 hL8
  have hw := wrap_comp e s t
  go_wp2
  go_ret
  exact ⟨rfl, HV8.out.2.2.1⟩

theorem composes0 (x e f s t : Int) (w : World) :
    Calls Try.prog 4 #[.int .i64 x, .int .i32 e, .int .i64 0, .int .i32 f, .int .i32 s, .int .i32 t] w fun r w' => r = .returned (.bool true) ∧ Below w.heap.size w w' := by
  go_enter Try.func4, Try.ntmps4
  go_wp2
  go_ret
  exact ⟨rfl, Below.refl _ _⟩

theorem undone0 (x e f s : Int) (w : World) :
    Calls Try.prog 5 #[.int .i64 x, .int .i32 e, .int .i64 0, .int .i32 f, .int .i32 s] w fun r w' => r = .returned (.bool true) ∧ Below w.heap.size w w' := by
  go_enter Try.func5, Try.ntmps5
  go_wp2
  go_ret
  exact ⟨rfl, Below.refl _ _⟩

set_option maxHeartbeats 1000000 in
theorem undone (x e y f s : Int) (hx : I64 x) (hy : I64 y) (he : -2147483648 ≤ e ∧ e ≤ 2147483647) (hy0 : (y == 0) = false) (w : World) :
    Calls Try.prog 5 #[.int .i64 x, .int .i32 e, .int .i64 y, .int .i32 f, .int .i32 s] w fun r w' => r = .returned (.bool true) ∧ Below w.heap.size w w' := by
  have HX : Hid (I64 x) := hx
  have HY : Hid (I64 y) := hy
  have HE : Hid (-2147483648 ≤ e ∧ e ≤ 2147483647) := he
  clear hx hy he
  go_enter Try.func5, Try.ntmps5
  go_wp2_with fail
  refine (newAmount_any x e y f _ HX.out.1 HX.out.2 HY.out.1 HY.out.2).mono ?_
  rintro r w1 ⟨b1, b2, rfl, hB1, hB2, hL⟩
  have HV : Hid (Var w w1.heap.size b1 b2 x y e f (w1.alloc (.cells #[.pointer (some ⟨b1, 0, none⟩), .int .i32 e, .pointer (some ⟨b2, 0, none⟩), .int .i32 f] 30))) :=
    ⟨hB1.below (below_alloc _ _), hB2.below (below_alloc _ _), hL.alloc hL.size _, heap_alloc_last _ _⟩
  clear hB1 hB2 hL
  go_wp2_with fail
  refine (amountShift_any b1 b2 x y e f s _ HV.out.1 HV.out.2.1).mono ?_
  rintro r w2 ⟨z2, rfl, hC1, hC2, hL2⟩
  have HV2 := Var.below HV hL2
  clear HV hL2
  go_wp2_with fail
  refine (amountShift_any z2 b2 x y _ f _ _ hC1 hC2).mono ?_
  rintro r w3 ⟨z3, rfl, hC1, hC2, hL3⟩
  have HV3 := Var.below HV2 hL3
  clear HV2 hL3
  go_wp2_with fail
  refine (parts_any z3 b2 x y _ f _ hC1 hC2 HX.out HY.out).mono ?_
  rintro r w4 ⟨rfl, hL4⟩
  have HV4 := Var.below HV3 hL4
  obtain ⟨k0, k1, k2, k3⟩ := Var.cells HV4
  clear HV3 hL4
  go_wp2_with fail
  refine (amountShift_any b1 b2 x y e f _ _ HV4.out.1 HV4.out.2.1).mono ?_
  rintro r w5 ⟨z5, rfl, hC1, hC2, hL5⟩
  have HV5 := Var.below HV4 hL5
  clear HV4 hL5 k0 k1 k2 k3
  go_wp2_with fail
  refine (parts_any z5 b2 x y _ f _ hC1 hC2 HX.out HY.out).mono ?_
  rintro r w6 ⟨rfl, hL6⟩
  have HV6 := Var.below HV5 hL6
  clear HV5 hL6
  go_wp2_with fail
  refine (newAmount_any x _ y f _ HX.out.1 HX.out.2 HY.out.1 HY.out.2).mono ?_
  rintro r w7 ⟨b3, b4, rfl, hC1, hC2, hL7⟩
  have HV7 := Var.below HV6 hL7
  clear HV6 hL7
  go_wp2_with fail
  refine (parts_any b3 b4 x y _ f _ hC1 hC2 HX.out HY.out).mono ?_
  rintro r w8 ⟨rfl, hL8⟩
  have HV8 := Var.below HV7 hL8
  clear HV7 hL8
  have hw := wrap_undo e s HE.out
  go_wp2
  go_ret
  exact ⟨rfl, HV8.out.2.2.1⟩
end Go.Proofs.Qxb6608869a
