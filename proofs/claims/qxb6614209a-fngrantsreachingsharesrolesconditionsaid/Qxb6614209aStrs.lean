import Derived.Test.Qxb6614209aRows
import Derived.WalkKit
import Derived.WalkSpells
import Derived.RowKit3
import Derived.Laws.Concat
namespace Go.Proofs.Qxb6614209a
open Go.RowKit

abbrev cC1 : ByteArray := ⟨#[40, 103, 46, 117, 115, 101, 114, 95, 105, 100, 32, 61, 32]⟩
abbrev cC2 : ByteArray := ⟨#[32, 79, 82, 32, 103, 46, 103, 114, 111, 117, 112, 95, 105, 100, 32, 61, 32, 65, 78, 89, 32, 40, 65, 82, 82, 65, 89, 32, 40, 83, 69, 76, 69, 67, 84, 32, 109, 46, 103, 114, 111, 117, 112, 95, 105, 100, 32, 70, 82, 79, 77, 32, 103, 114, 111, 117, 112, 95, 109, 101, 109, 98, 101, 114, 115, 32, 109, 32, 87, 72, 69, 82, 69, 32, 109, 46, 117, 115, 101, 114, 95, 105, 100, 32, 61, 32]⟩
abbrev cC3 : ByteArray := ⟨#[41, 41, 41]⟩
abbrev cD1 : ByteArray := ⟨#[76, 69, 70, 84, 32, 74, 79, 73, 78, 32, 103, 114, 97, 110, 116, 115, 32, 103, 32, 79, 78, 32, 103, 46, 105, 116, 101, 109, 95, 105, 100, 32, 61, 32]⟩
abbrev cD2 : ByteArray := ⟨#[32, 65, 78, 68, 32]⟩
abbrev cR1 : ByteArray := ⟨#[65, 82, 82, 65, 89, 40, 83, 69, 76, 69, 67, 84, 32, 68, 73, 83, 84, 73, 78, 67, 84, 32, 103, 46, 114, 111, 108, 101, 32, 70, 82, 79, 77, 32, 103, 114, 97, 110, 116, 115, 32, 103, 32, 87, 72, 69, 82, 69, 32, 103, 46, 105, 116, 101, 109, 95, 105, 100, 32, 73, 78, 32, 40]⟩
abbrev cR2 : ByteArray := ⟨#[41, 32, 65, 78, 68, 32]⟩
abbrev cR3 : ByteArray := ⟨#[41]⟩
abbrev cO1 : ByteArray := ⟨#[99, 111, 97, 108, 101, 115, 99, 101, 40, 98, 111, 111, 108, 95, 111, 114, 40, 111, 119, 110, 101, 114, 95, 105, 100, 32, 61, 32]⟩
abbrev cO2 : ByteArray := ⟨#[41, 44, 32, 102, 97, 108, 115, 101, 41]⟩
abbrev cK1 : ByteArray := ⟨#[44, 32]⟩
abbrev cS1 : ByteArray := ⟨#[83, 69, 76, 69, 67, 84, 32, 105, 100, 32, 70, 82, 79, 77, 32]⟩
abbrev cL1 : ByteArray := ⟨#[44, 32, 65, 82, 82, 65, 89, 40, 83, 69, 76, 69, 67, 84, 32, 68, 73, 83, 84, 73, 78, 67, 84, 32, 103, 46, 114, 111, 108, 101, 32, 70, 82, 79, 77, 32, 103, 114, 97, 110, 116, 115, 32, 103, 32, 87, 72, 69, 82, 69, 32, 103, 46, 105, 116, 101, 109, 95, 105, 100, 32, 73, 78, 32, 40, 83, 69, 76, 69, 67, 84, 32, 105, 100, 32, 70, 82, 79, 77, 32]⟩

/-- grantedTo -/
def gTo (p : ByteArray) : ByteArray := cC1 ++ p ++ cC2 ++ p ++ cC3
/-- grantsReaching -/
def gReach (on p : ByteArray) : ByteArray := cD1 ++ on ++ cD2 ++ gTo p
/-- grantedRoles -/
def gRoles (on p : ByteArray) : ByteArray := cR1 ++ on ++ cR2 ++ gTo p ++ cR3
/-- ownsAny -/
def gOwns (p : ByteArray) : ByteArray := cO1 ++ p ++ cO2
/-- relationColumns -/
def gCols (wk p : ByteArray) : ByteArray := gOwns p ++ cK1 ++ gRoles (cS1 ++ wk) p

theorem size_gTo (p : ByteArray) : (gTo p).size = 2 * p.size + 102 := by
  unfold gTo
  simp only [ByteArray.size_append]
  have h1 : cC1.size = 13 := rfl
  have h2 : cC2.size = 86 := rfl
  have h3 : cC3.size = 3 := rfl
  omega
theorem size_gRoles (on p : ByteArray) : (gRoles on p).size = on.size + 2 * p.size + 172 := by
  unfold gRoles
  simp only [ByteArray.size_append, size_gTo]
  have h1 : cR1.size = 63 := rfl
  have h2 : cR2.size = 6 := rfl
  have h3 : cR3.size = 1 := rfl
  omega
theorem size_gReach (on p : ByteArray) : (gReach on p).size = on.size + 2 * p.size + 141 := by
  unfold gReach
  simp only [ByteArray.size_append, size_gTo]
  have h1 : cD1.size = 34 := rfl
  have h2 : cD2.size = 5 := rfl
  omega
theorem size_gOwns (p : ByteArray) : (gOwns p).size = p.size + 37 := by
  unfold gOwns
  simp only [ByteArray.size_append]
  have h1 : cO1.size = 28 := rfl
  have h2 : cO2.size = 9 := rfl
  omega

set_option maxHeartbeats 1000000 in
theorem to_any (p : ByteArray) (w : World) (hp : (p.size : Int) ≤ 1048576) : Calls Try.prog 22 #[.string p] w fun r w' => r = .returned (.string (gTo p)) ∧ w' = w := by
  go_enter Try.func22, Try.ntmps22
  go_wp2
  go_ret
  exact ⟨rfl, rfl⟩

set_option maxHeartbeats 1000000 in
theorem reach_any (on p : ByteArray) (w : World) (ho : (on.size : Int) ≤ 1048576) (hp : (p.size : Int) ≤ 1048576) : Calls Try.prog 18 #[.string on, .string p] w fun r w' => r = .returned (.string (gReach on p)) ∧ w' = w := by
  have hs : ((gTo p).size : Int) ≤ 2097500 := by rw [size_gTo]; omega
  go_enter Try.func18, Try.ntmps18
  go_wp2_with (go_at_call 22; refine (to_any p _ hp).mono ?_; rintro e w' ⟨rfl, rfl⟩)
  go_ret
  exact ⟨rfl, rfl⟩

set_option maxHeartbeats 1000000 in
theorem roles_any (on p : ByteArray) (w : World) (ho : (on.size : Int) ≤ 1049000) (hp : (p.size : Int) ≤ 1048576) : Calls Try.prog 19 #[.string on, .string p] w fun r w' => r = .returned (.string (gRoles on p)) ∧ w' = w := by
  have hs : ((gTo p).size : Int) ≤ 2097500 := by rw [size_gTo]; omega
  go_enter Try.func19, Try.ntmps19
  go_wp2_with (go_at_call 22; refine (to_any p _ hp).mono ?_; rintro e w' ⟨rfl, rfl⟩)
  go_ret
  exact ⟨rfl, rfl⟩

set_option maxHeartbeats 1000000 in
theorem owns_any (p : ByteArray) (w : World) (hp : (p.size : Int) ≤ 1048576) : Calls Try.prog 21 #[.string p] w fun r w' => r = .returned (.string (gOwns p)) ∧ w' = w := by
  go_enter Try.func21, Try.ntmps21
  go_wp2
  go_ret
  exact ⟨rfl, rfl⟩

set_option maxHeartbeats 1000000 in
theorem relOf_any (wk p : ByteArray) (w : World) (hk : (wk.size : Int) ≤ 1048576) (hp : (p.size : Int) ≤ 1048576) : Calls Try.prog 23 #[.string wk, .string p] w fun r w' => r = .returned (.tuple #[.string (gOwns p), .string (gRoles (cS1 ++ wk) p)]) ∧ w' = w := by
  have hs : (cS1 ++ wk).size = 15 + wk.size := by rw [ByteArray.size_append, show cS1.size = 15 from rfl]
  go_enter Try.func23, Try.ntmps23
  go_wp2_with fail
  refine (owns_any p _ hp).mono ?_
  rintro e w' ⟨rfl, rfl⟩
  go_wp2_with fail
  refine (roles_any (cS1 ++ wk) p _ (by rw [hs]; omega) hp).mono ?_
  rintro e w' ⟨rfl, rfl⟩
  go_wp2
  go_ret2
  exact ⟨rfl, rfl⟩

set_option maxHeartbeats 1000000 in
theorem cols_any (wk p : ByteArray) (w : World) (hk : (wk.size : Int) ≤ 1048576) (hp : (p.size : Int) ≤ 1048576) : Calls Try.prog 20 #[.string wk, .string p] w fun r w' => r = .returned (.string (gCols wk p)) ∧ w' = w := by
  have hs : (cS1 ++ wk).size = 15 + wk.size := by rw [ByteArray.size_append, show cS1.size = 15 from rfl]
  have h1 : ((gRoles (cS1 ++ wk) p).size : Int) ≤ 4194304 := by rw [size_gRoles, hs]; omega
  have h2 : ((gOwns p).size : Int) ≤ 1049000 := by rw [size_gOwns]; omega
  clear hs
  go_enter Try.func20, Try.ntmps20
  go_wp2_with fail
  refine (relOf_any wk p _ hk hp).mono ?_
  rintro e w' ⟨rfl, rfl⟩
  go_wp2
  go_ret
  exact ⟨rfl, rfl⟩
end Go.Proofs.Qxb6614209a
