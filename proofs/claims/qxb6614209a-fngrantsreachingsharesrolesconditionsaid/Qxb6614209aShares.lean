import Derived.Test.Qxb6614209aPastes
import Derived.Lib.IndexBytes
namespace Go.Proofs.Qxb6614209a
open Go.RowKit

theorem pref_any (s p : ByteArray) (w : World) (_hs : (s.size : Int) ≤ 4194304) (hle : p.size ≤ s.size) (hext : s.extract 0 p.size = p) :
    Calls Try.prog 12 #[.string s, .string p] w fun r w' => r = .returned (.bool true) ∧ w' = w := by
  have h1 : (p.size : Int) ≤ (s.size : Int) := by omega
  go_enter Try.func12, Try.ntmps12
  go_wp2
  go_ret
  exact ⟨rfl, rfl⟩

theorem ext_left (a b : ByteArray) : (a ++ b).extract 0 a.size = a := by
  apply ByteArray.ext
  rw [ByteArray.data_extract, ByteArray.data_append]
  show (a.data ++ b.data).extract 0 a.data.size = a.data
  simp
theorem ext_right (a b : ByteArray) : (a ++ b).extract a.size (a ++ b).size = b := by
  apply ByteArray.ext
  apply Array.ext'
  rw [Lib.extract_to_end, data_append]
  have h : a.size = a.data.toList.length := (len_str a).symm
  rw [h, List.drop_left]

theorem cond_eq (x y : ByteArray) : (gReach x y).extract (34 + x.size + 5) (gReach x y).size = gTo y := by
  have h := ext_right (cD1 ++ x ++ cD2) (gTo y)
  rw [show (cD1 ++ x ++ cD2).size = 34 + x.size + 5 by rw [ByteArray.size_append, ByteArray.size_append]; rfl] at h
  exact h

set_option maxHeartbeats 1000000 in
theorem shares4 (x y : ByteArray) (w : World) (hx : Ln x.size) (hy : Ln y.size) : Calls Try.prog 4 #[.string x, .string y] w fun r w' => r = .returned (.bool true) ∧ Below w.heap.size w w' := by
  go_enter Try.func4, Try.ntmps4
  go_wp2_with fail
  refine (bytes11 x y _ hx hy).mono ?_
  rintro r w' ⟨b, rfl, rfl⟩
  cases b
  · go_wp2
    go_ret
    exact ⟨rfl, Below.refl _ _⟩
  by_cases h1 : 524288 < (x.size : Int)
  · go_wp2
    go_ret
    exact ⟨rfl, Below.refl _ _⟩
  by_cases h2 : 524288 < (y.size : Int)
  · go_wp2
    go_ret
    exact ⟨rfl, Below.refl _ _⟩
  go_wp2_with fail
  refine (zzreach x y _ (by omega) (by omega)).mono ?_
  rintro r w' ⟨rfl, rfl⟩
  have hpre : (gReach x y).extract 0 (cD1 ++ x ++ cD2).size = cD1 ++ x ++ cD2 := ext_left (cD1 ++ x ++ cD2) (gTo y)
  have hsz := size_gReach x y
  have hps : (cD1 ++ x ++ cD2).size ≤ (gReach x y).size := by
    have h : (gReach x y).size = (cD1 ++ x ++ cD2).size + (gTo y).size := ByteArray.size_append
    omega
  have HP : Hid _ := hpre
  have HPS : Hid _ := hps
  have HSZ : Hid _ := hsz
  clear hpre hps hsz
  go_wp2_with fail
  refine (pref_any (gReach x y) (cD1 ++ x ++ cD2) _ (by rw [HSZ.out]; omega) HPS.out HP.out).mono ?_
  rintro r w' ⟨rfl, rfl⟩
  have hce := cond_eq x y
  have hcs : ((gTo y).size : Int) ≤ 2097500 := by rw [size_gTo]; omega
  have hle : 34 + (x.size : Int) + 5 ≤ ((gReach x y).size : Int) := by rw [HSZ.out]; omega
  have hle2 : ((gReach x y).size : Int) ≤ 4194304 := by rw [HSZ.out]; omega
  clear HP HPS HSZ
  go_wp2_with fail
  have hr := zzroles x y w' (by omega) (by omega)
  unfold gRoles at hr
  refine hr.mono ?_
  rintro r w' ⟨rfl, rfl⟩
  clear hr
  go_wp2
  go_ret
  exact ⟨rfl, Below.refl _ _⟩

theorem cols_eq (wk p : ByteArray) : gCols wk p = gOwns p ++ cL1 ++ wk ++ cR2 ++ gTo p ++ cR3 := by
  apply ByteArray.ext
  apply Array.ext'
  simp only [gCols, gRoles, data_append]
  simp only [List.append_assoc]
  congr 1

set_option maxHeartbeats 1000000 in
theorem agree6 (wk x y : ByteArray) (w : World) (hk : Ln wk.size) (hx : Ln x.size) (hy : Ln y.size) : Calls Try.prog 6 #[.string wk, .string x, .string y] w fun r w' => r = .returned (.bool true) ∧ Below w.heap.size w w' := by
  go_enter Try.func6, Try.ntmps6
  go_wp2_with fail
  refine (bytes16 wk x y _ hk hx hy).mono ?_
  rintro r w' ⟨b, rfl, rfl⟩
  cases b
  · go_wp2
    go_ret
    exact ⟨rfl, Below.refl _ _⟩
  by_cases h0 : 262144 < (wk.size : Int)
  · go_wp2
    go_ret
    exact ⟨rfl, Below.refl _ _⟩
  by_cases h1 : 262144 < (x.size : Int)
  · go_wp2
    go_ret
    exact ⟨rfl, Below.refl _ _⟩
  by_cases h2 : 262144 < (y.size : Int)
  · go_wp2
    go_ret
    exact ⟨rfl, Below.refl _ _⟩
  go_wp2_with fail
  refine (zzreach x y _ (by omega) (by omega)).mono ?_
  rintro r w' ⟨rfl, rfl⟩
  have hpre : (gReach x y).extract 0 (cD1 ++ x ++ cD2).size = cD1 ++ x ++ cD2 := ext_left (cD1 ++ x ++ cD2) (gTo y)
  have hsz := size_gReach x y
  have hps : (cD1 ++ x ++ cD2).size ≤ (gReach x y).size := by
    have h : (gReach x y).size = (cD1 ++ x ++ cD2).size + (gTo y).size := ByteArray.size_append
    omega
  have HP : Hid _ := hpre
  have HPS : Hid _ := hps
  have HSZ : Hid _ := hsz
  clear hpre hps hsz
  go_wp2_with fail
  refine (pref_any (gReach x y) (cD1 ++ x ++ cD2) _ (by rw [HSZ.out]; omega) HPS.out HP.out).mono ?_
  rintro r w' ⟨rfl, rfl⟩
  have hce := cond_eq x y
  have hcs : ((gTo y).size : Int) ≤ 2097500 := by rw [size_gTo]; omega
  have hle : 34 + (x.size : Int) + 5 ≤ ((gReach x y).size : Int) := by rw [HSZ.out]; omega
  have hle2 : ((gReach x y).size : Int) ≤ 4194304 := by rw [HSZ.out]; omega
  clear HP HPS HSZ
  go_wp2_with fail
  have hr := zzcols wk y w' (by omega) (by omega)
  rw [cols_eq] at hr
  refine hr.mono ?_
  rintro r w' ⟨rfl, rfl⟩
  clear hr
  have ho : ((gOwns y).size : Int) ≤ 262200 := by rw [size_gOwns]; omega
  go_wp2_with fail
  refine (zzowns y _ (by omega)).mono ?_
  rintro r w' ⟨rfl, rfl⟩
  go_wp2
  go_ret
  exact ⟨rfl, Below.refl _ _⟩
end Go.Proofs.Qxb6614209a
