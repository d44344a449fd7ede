import Derived.Test.Qxb6608869aBig
import Derived.Deep.RegionHeld3
import Derived.LaidEqlPtr
namespace Go.Proofs.Qxb6608869a
open Go.RowKit

theorem run_neq_ptr_other {P : Program} (w : World) {tp te : TypeId} {j : TypeInfo} {a b : Addr} {ca cb : Array Value} {ta tb : TypeId} (hp : P.underlying tp = some (.pointer te)) (hte : P.info? te = some j) (hsz : j.size ≠ 0)
    (hne : a ≠ b) (ha : w.heap[a.block]? = some (.cells ca ta (0, 0))) (hb : w.heap[b.block]? = some (.cells cb tb (0, 0))) :
    (binOp .neq tp (.pointer (some a)) (.pointer (some b))).run P w = .ok (.bool true) w := by
  have h : ∀ d : Nat, (Op.equalIn (d + 1) tp (.pointer (some a)) (.pointer (some b))).run P w = .ok false w := fun d => by
    simp [Op.equalIn, run_underlying hp, sizeOf, typeInfo, hte, hsz, run_sameAddr_other w hne ha hb]
  simp only [binOp]
  simp [Op.equal, Op.maxDepth, h 9999]

theorem neq24 (w : World) {a b : Nat} {ca cb : Array Value} (hne : a ≠ b) (ha : w.heap[a]? = some (.cells ca 50 (0, 0))) (hb : w.heap[b]? = some (.cells cb 50 (0, 0))) :
    (binOp .neq 24 (.pointer (some ⟨a, 0, none⟩)) (.pointer (some ⟨b, 0, none⟩))).run Try.prog w = .ok (.bool true) w := by
  obtain ⟨j, hj, hs⟩ : ∃ j, Try.prog.info? 50 = some j ∧ j.size = 2 := by
    have h : (Try.prog.info? 50).map (·.size) = some 2 := by kernel_rfl
    cases hq : Try.prog.info? 50 with
    | none => simp [hq] at h
    | some j => exact ⟨j, rfl, by simpa [hq] using h⟩
  exact run_neq_ptr_other w Try.underlying24 hj (by omega) (fun h => hne (congrArg Addr.block h)) ha hb

theorem heap_setCell2 (w : World) (z : Nat) (u0 u1 v0 v1 : Value) (t : TypeId) (h : w.heap[z]? = some (.cells #[u0, u1] t (0, 0))) :
    ((w.setCell ⟨z, 1, none⟩ v1).setCell ⟨z, 0, none⟩ v0).heap[z]? = some (.cells #[v0, v1] t (0, 0)) := by
  rw [setCell_eq_setRow w z 1 #[u0, u1] t (0, 0) v1 h]
  have h' := setRow_heap w z #[u0, u1] (#[u0, u1].setIfInBounds 1 v1) t (0, 0) h
  rw [setCell_eq_setRow _ z 0 _ t (0, 0) v0 h', setRow_heap _ z _ _ t (0, 0) h']
  rfl

theorem below_setCell2 (w : World) (z : Nat) (v0 v1 : Value) : Below z w ((w.setCell ⟨z, 1, none⟩ v1).setCell ⟨z, 0, none⟩ v0) :=
  ((Below.refl z w).setCell (p := ⟨z, 1, none⟩) (Nat.le_refl _) v1).setCell (p := ⟨z, 0, none⟩) (Nat.le_refl _) v0
theorem size_setCell2 (w : World) (z : Nat) (v0 v1 : Value) : ((w.setCell ⟨z, 1, none⟩ v1).setCell ⟨z, 0, none⟩ v0).heap.size = w.heap.size := by simp [World.setCell]

set_option maxHeartbeats 1000000 in
theorem set0 (z b : Nat) (s : Bool) (w : World) (hne : z ≠ b) (hz : w.heap[z]? = some (.cells #[.bool false, .slice none 0 0] 50 (0, 0))) (hb : w.heap[b]? = some (.cells #[.bool s, .slice none 0 0] 50 (0, 0))) :
    Calls Try.prog 18 #[.pointer (some ⟨z, 0, none⟩), .pointer (some ⟨b, 0, none⟩)] w fun e w' => e = .returned (.pointer (some ⟨z, 0, none⟩)) ∧
      w'.heap[z]? = some (.cells #[.bool s, .slice none 0 0] 50 (0, 0)) ∧ Below z w w' := by
  have hq := neq24 w hne hz hb
  have hz0 : w.cell? ⟨z, 0, none⟩ = some (.bool false) := by rw [cell_of_heap hz]; rfl
  have hz1 : w.cell? ⟨z, 1, none⟩ = some (.slice none 0 0) := by rw [cell_of_heap hz]; rfl
  have fz0 : w.frozen? ⟨z, 0, none⟩ = false := frozen_of_heap hz 0
  have fz1 : w.frozen? ⟨z, 1, none⟩ = false := frozen_of_heap hz 1
  have hb0 : w.cell? ⟨b, 0, none⟩ = some (.bool s) := by rw [cell_of_heap hb]; rfl
  have hb1 : w.cell? ⟨b, 1, none⟩ = some (.slice none 0 0) := by rw [cell_of_heap hb]; rfl
  have HZ : Hid (w.heap[z]? = some (.cells #[.bool false, .slice none 0 0] 50 (0, 0))) := hz
  clear hz hb
  go_enter Try.func18, Try.ntmps18
  go_wp2_with fail
  go_region_with (go_at_call 26; refine (natset0 _).mono ?_; rintro e w' ⟨rfl, rfl⟩)
  all_goals
    go_wp2
    go_ret
    exact ⟨rfl, heap_setCell2 w z _ _ _ _ 50 HZ.out, (below_setCell2 w z _ _).drew⟩

set_option maxHeartbeats 1000000 in
theorem set1 (z b g : Nat) (n : Int) (s : Bool) (w : World) (hne : z ≠ b) (hz : w.heap[z]? = some (.cells #[.bool false, .slice none 0 0] 50 (0, 0))) (hb : w.heap[b]? = some (.cells #[.bool s, .slice (some ⟨g, 0, none⟩) 1 1] 50 (0, 0)))
    (hg : g < w.heap.size) (hc : w.cell? ⟨g, 0, none⟩ = some (.int .u64 n)) :
    Calls Try.prog 18 #[.pointer (some ⟨z, 0, none⟩), .pointer (some ⟨b, 0, none⟩)] w fun e w' => e = .returned (.pointer (some ⟨z, 0, none⟩)) ∧
      w'.heap[z]? = some (.cells #[.bool s, .slice (some ⟨w.heap.size, 0, none⟩) 1 1] 50 (0, 0)) ∧ w'.heap[w.heap.size]? = some (.cells #[.int .u64 n] 55 (0, 0)) ∧ Below z w w' := by
  have hq := neq24 w hne hz hb
  have hz0 : w.cell? ⟨z, 0, none⟩ = some (.bool false) := by rw [cell_of_heap hz]; rfl
  have hz1 : w.cell? ⟨z, 1, none⟩ = some (.slice none 0 0) := by rw [cell_of_heap hz]; rfl
  have fz0 : w.frozen? ⟨z, 0, none⟩ = false := frozen_of_heap hz 0
  have fz1 : w.frozen? ⟨z, 1, none⟩ = false := frozen_of_heap hz 1
  have hb0 : w.cell? ⟨b, 0, none⟩ = some (.bool s) := by rw [cell_of_heap hb]; rfl
  have hb1 : w.cell? ⟨b, 1, none⟩ = some (.slice (some ⟨g, 0, none⟩) 1 1) := by rw [cell_of_heap hb]; rfl
  have HZ : Hid (w.heap[z]? = some (.cells #[.bool false, .slice none 0 0] 50 (0, 0))) := hz
  have lz := heap_lt hz
  have lb := heap_lt hb
  clear hz hb
  go_enter Try.func18, Try.ntmps18
  go_wp2_with fail
  go_region_with (go_at_call 26; refine (natset1 g n _ (by simpa using hg) (by simpa using hc)).mono ?_; rintro e w' ⟨rfl, rfl⟩)
  all_goals
    go_wp2
    go_ret
    have hb2 := below_setCell2 w z (.bool s) (.slice (some ⟨w.heap.size, 0, none⟩) 1 1)
    have hs2 := size_setCell2 w z (.bool s) (.slice (some ⟨w.heap.size, 0, none⟩) 1 1)
    have hh2 := heap_setCell2 w z _ _ (.bool s) (.slice (some ⟨w.heap.size, 0, none⟩) 1 1) 50 HZ.out
    refine ⟨rfl, ?_, ?_, (hb2.alloc (by rw [hs2]; omega) _).drew⟩
    · show (World.alloc _ _).heap[z]? = _
      rw [Below.heap_alloc _ _ _ (by rw [hs2]; omega)]
      exact hh2
    · show (World.alloc _ _).heap[_]? = _
      have := heap_alloc_last ((w.setCell ⟨z, 1, none⟩ (.slice (some ⟨w.heap.size, 0, none⟩) 1 1)).setCell ⟨z, 0, none⟩ (.bool s)) (.cells #[.int .u64 n] 55)
      rwa [hs2] at this

theorem set_any (z b : Nat) (x : Int) (w : World) (hne : z ≠ b) (hz : w.heap[z]? = some (.cells #[.bool false, .slice none 0 0] 50 (0, 0))) (hb : BigAt w b x) :
    Calls Try.prog 18 #[.pointer (some ⟨z, 0, none⟩), .pointer (some ⟨b, 0, none⟩)] w fun e w' => e = .returned (.pointer (some ⟨z, 0, none⟩)) ∧ BigAt w' z x ∧ Below z w w' := by
  obtain ⟨v, h1, h2⟩ := hb
  rcases h2 with ⟨hn, rfl⟩ | ⟨hn, g, rfl, hc⟩
  · refine (set0 z b _ w hne hz h1).mono ?_
    rintro e w' ⟨he, hh, hbel⟩
    exact ⟨he, ⟨_, hh, .inl ⟨hn, rfl⟩⟩, hbel⟩
  · refine (set1 z b g _ _ w hne hz h1 (heap_lt hc) (by rw [cell_of_heap hc]; rfl)).mono ?_
    rintro e w' ⟨he, hh, hc', hbel⟩
    exact ⟨he, ⟨_, hh, .inr ⟨hn, _, rfl, hc'⟩⟩, hbel⟩
end Go.Proofs.Qxb6608869a
