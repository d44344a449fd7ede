import Derived.Test.Qxb6614209aPlain
namespace Go.Proofs.Qxb6614209a
open Go.RowKit

abbrev Ln (n : Nat) : Prop := (n : Int) ≤ 9223372036854775807
def SaysB (w : World) (r : Ending) (w' : World) : Prop := ∃ b, r = .returned (.bool b) ∧ w' = w
theorem SaysB.mk {w w' : World} {r : Ending} (b : Bool) (h1 : r = .returned (.bool b)) (h2 : w' = w) : SaysB w r w' := ⟨b, h1, h2⟩

theorem bytes7 (x y : ByteArray) (w : World) (hx : Ln x.size) (hy : Ln y.size) : Calls Try.prog 7 #[.string x, .string y] w fun r w' => SaysB w r w' := by
  go_enter Try.func7, Try.ntmps7
  go_wp2
  all_goals (go_ret; exact SaysB.mk _ rfl rfl)
theorem bytes11 (x y : ByteArray) (w : World) (hx : Ln x.size) (hy : Ln y.size) : Calls Try.prog 11 #[.string x, .string y] w fun r w' => SaysB w r w' := by
  go_enter Try.func11, Try.ntmps11
  go_wp2
  all_goals (go_ret; exact SaysB.mk _ rfl rfl)
theorem bytes14 (x y : ByteArray) (w : World) (hx : Ln x.size) (hy : Ln y.size) : Calls Try.prog 14 #[.string x, .string y] w fun r w' => SaysB w r w' := by
  go_enter Try.func14, Try.ntmps14
  go_wp2
  all_goals (go_ret; exact SaysB.mk _ rfl rfl)
theorem bytes16 (x y z : ByteArray) (w : World) (hx : Ln x.size) (hy : Ln y.size) (hz : Ln z.size) : Calls Try.prog 16 #[.string x, .string y, .string z] w fun r w' => SaysB w r w' := by
  go_enter Try.func16, Try.ntmps16
  go_wp2
  all_goals (go_ret; exact SaysB.mk _ rfl rfl)

theorem zzreach (on p : ByteArray) (w : World) (ho : (on.size : Int) ≤ 1048576) (hp : (p.size : Int) ≤ 1048576) : Calls Try.prog 8 #[.string on, .string p] w fun r w' => r = .returned (.string (gReach on p)) ∧ w' = w := by
  go_enter Try.func8, Try.ntmps8
  go_wp2_with (go_at_call 18; refine (reach_any on p _ ho hp).mono ?_; rintro e w' ⟨rfl, rfl⟩)
  go_ret
  exact ⟨rfl, rfl⟩
theorem zzroles (on p : ByteArray) (w : World) (ho : (on.size : Int) ≤ 1048576) (hp : (p.size : Int) ≤ 1048576) : Calls Try.prog 13 #[.string on, .string p] w fun r w' => r = .returned (.string (gRoles on p)) ∧ w' = w := by
  go_enter Try.func13, Try.ntmps13
  go_wp2_with (go_at_call 19; refine (roles_any on p _ (by omega) hp).mono ?_; rintro e w' ⟨rfl, rfl⟩)
  go_ret
  exact ⟨rfl, rfl⟩
theorem zzcols (on p : ByteArray) (w : World) (ho : (on.size : Int) ≤ 1048576) (hp : (p.size : Int) ≤ 1048576) : Calls Try.prog 15 #[.string on, .string p] w fun r w' => r = .returned (.string (gCols on p)) ∧ w' = w := by
  go_enter Try.func15, Try.ntmps15
  go_wp2_with (go_at_call 20; refine (cols_any on p _ ho hp).mono ?_; rintro e w' ⟨rfl, rfl⟩)
  go_ret
  exact ⟨rfl, rfl⟩
theorem zzowns (p : ByteArray) (w : World) (hp : (p.size : Int) ≤ 1048576) : Calls Try.prog 17 #[.string p] w fun r w' => r = .returned (.string (gOwns p)) ∧ w' = w := by
  go_enter Try.func17, Try.ntmps17
  go_wp2_with (go_at_call 21; refine (owns_any p _ hp).mono ?_; rintro e w' ⟨rfl, rfl⟩)
  go_ret
  exact ⟨rfl, rfl⟩

theorem size_gCols (wk p : ByteArray) : (gCols wk p).size = p.size + (wk.size + 2 * p.size) + 226 := by
  unfold gCols
  rw [ByteArray.size_append, ByteArray.size_append, size_gOwns, size_gRoles, ByteArray.size_append, show cS1.size = 15 from rfl, show cK1.size = 2 from rfl]
  omega

/-- A contract of zzFill at a frame whose filling is known. -/
theorem fill_at (s x y t : ByteArray) (w : World) (hs : s.size ≤ 4096) (hx : x.size ≤ 1048576) (hy : y.size ≤ 1048576) (hf : fillL x y s.data.toList = t.data.toList) (hne : t.data.toList ≠ []) :
    Calls Try.prog 10 #[.string s, .string x, .string y] w fun r w' => r = .returned (.string t) ∧ Hid (Below w.heap.size w w') := by
  have h := fill_any s x y w hs hx hy (by rw [hf]; exact hne)
  rw [hf, mk_data] at h
  exact h
theorem count_at (s : ByteArray) (c : Int) (n : Nat) (w : World) (hs : (s.size : Int) ≤ 4194304) (hn : cnt s.data.toList c = n) :
    Calls Try.prog 9 #[.string s, .int .u8 c] w fun r w' => r = .returned (.int .i64 (n : Int)) ∧ w' = w := by
  subst hn
  exact count_any s c w hs

set_option maxHeartbeats 1000000 in
theorem pastes3 (x y : ByteArray) (w : World) (hx : Ln x.size) (hy : Ln y.size) : Calls Try.prog 3 #[.string x, .string y] w fun r w' => r = .returned (.bool true) ∧ Below w.heap.size w w' := by
  go_enter Try.func3, Try.ntmps3
  go_wp2_with fail
  refine (bytes7 x y _ hx hy).mono ?_
  rintro r w' ⟨b, rfl, rfl⟩
  cases b
  · go_wp2
    go_ret
    exact ⟨rfl, Below.refl _ _⟩
  by_cases h1 : 524288 < (x.size : Int)
  · go_wp2
    go_ret
    exact ⟨rfl, Below.refl _ _⟩
  by_cases h2 : 524288 < (y.size : Int)
  · go_wp2
    go_ret
    exact ⟨rfl, Below.refl _ _⟩
  go_wp2_with fail
  refine (zzreach z0 z1 _ (by decide) (by decide)).mono ?_
  rintro r w' ⟨rfl, rfl⟩
  have hsz : (gReach z0 z1).size ≤ 4096 := by rw [size_gReach]; decide
  have hc0 := cnt_gReach0
  have hc1 := cnt_gReach1
  have hfl := fill_gReach x y
  have hne : (gReach x y).data.toList ≠ [] := by
    intro h
    have h3 : (gReach x y).data.toList.length = (gReach x y).size := len_str _
    rw [h, size_gReach] at h3
    simp at h3
  obtain ⟨f, hf⟩ : ∃ f, f = gReach z0 z1 := ⟨_, rfl⟩
  rw [← hf] at hsz hc0 hc1 hfl ⊢
  have HSZ : Hid (f.size ≤ 4096) := hsz
  have HC0 : Hid (cnt f.data.toList 0 = 1) := hc0
  have HC1 : Hid (cnt f.data.toList 1 = 2) := hc1
  have HFL : Hid (fillL x y f.data.toList = (gReach x y).data.toList) := hfl
  have HNE : Hid ((gReach x y).data.toList ≠ []) := hne
  clear hsz hc0 hc1 hfl hf hne
  go_wp2_with fail
  refine (count_at f 0 1 _ (by have := HSZ.out; omega) HC0.out).mono ?_
  rintro r w' ⟨rfl, rfl⟩
  go_wp2_with fail
  refine (count_at f 1 2 _ (by have := HSZ.out; omega) HC1.out).mono ?_
  rintro r w' ⟨rfl, rfl⟩
  go_wp2_with fail
  refine (fill_at f x y (gReach x y) _ HSZ.out (by omega) (by omega) HFL.out HNE.out).mono ?_
  rintro r w1 ⟨rfl, hb⟩
  go_wp2_with fail
  refine (zzreach x y _ (by omega) (by omega)).mono ?_
  rintro r w' ⟨rfl, rfl⟩
  go_wp2
  go_ret
  exact ⟨rfl, hb.out⟩

set_option maxHeartbeats 1000000 in
theorem pastes5 (x y : ByteArray) (w : World) (hx : Ln x.size) (hy : Ln y.size) : Calls Try.prog 5 #[.string x, .string y] w fun r w' => r = .returned (.bool true) ∧ Below w.heap.size w w' := by
  go_enter Try.func5, Try.ntmps5
  go_wp2_with fail
  refine (bytes14 x y _ hx hy).mono ?_
  rintro r w' ⟨b, rfl, rfl⟩
  cases b
  · go_wp2
    go_ret
    exact ⟨rfl, Below.refl _ _⟩
  by_cases h1 : 524288 < (x.size : Int)
  · go_wp2
    go_ret
    exact ⟨rfl, Below.refl _ _⟩
  by_cases h2 : 524288 < (y.size : Int)
  · go_wp2
    go_ret
    exact ⟨rfl, Below.refl _ _⟩
  go_wp2_with fail
  refine (zzcols z0 z1 _ (by decide) (by decide)).mono ?_
  rintro r w' ⟨rfl, rfl⟩
  have hsz : (gCols z0 z1).size ≤ 4096 := by rw [size_gCols]; decide
  have hc0 := cnt_gCols0
  have hc1 := cnt_gCols1
  have hfl := fill_gCols x y
  have hne : (gCols x y).data.toList ≠ [] := by
    intro h
    have h3 : (gCols x y).data.toList.length = (gCols x y).size := len_str _
    rw [h, size_gCols] at h3
    simp at h3
  obtain ⟨f, hf⟩ : ∃ f, f = gCols z0 z1 := ⟨_, rfl⟩
  rw [← hf] at hsz hc0 hc1 hfl ⊢
  have HSZ : Hid (f.size ≤ 4096) := hsz
  have HC0 : Hid (cnt f.data.toList 0 = 1) := hc0
  have HC1 : Hid (cnt f.data.toList 1 = 3) := hc1
  have HFL : Hid (fillL x y f.data.toList = (gCols x y).data.toList) := hfl
  have HNE : Hid ((gCols x y).data.toList ≠ []) := hne
  clear hsz hc0 hc1 hfl hf hne
  go_wp2_with fail
  refine (count_at f 0 1 _ (by have := HSZ.out; omega) HC0.out).mono ?_
  rintro r w' ⟨rfl, rfl⟩
  go_wp2_with fail
  refine (count_at f 1 3 _ (by have := HSZ.out; omega) HC1.out).mono ?_
  rintro r w' ⟨rfl, rfl⟩
  go_wp2_with fail
  refine (fill_at f x y (gCols x y) _ HSZ.out (by omega) (by omega) HFL.out HNE.out).mono ?_
  rintro r w1 ⟨rfl, hb⟩
  go_wp2_with fail
  refine (zzcols x y _ (by omega) (by omega)).mono ?_
  rintro r w' ⟨rfl, rfl⟩
  go_wp2
  go_ret
  exact ⟨rfl, hb.out⟩

end Go.Proofs.Qxb6614209a
