import Derived.Test.Qxb6614209aFill
namespace Go.Proofs.Qxb6614209a
open Go.RowKit

/-! ### The plain laws -/
def NoMark (l : List UInt8) : Prop := ∀ b ∈ l, 2 ≤ b.toNat
theorem fillL_append (x y : ByteArray) (l m : List UInt8) : fillL x y (l ++ m) = fillL x y l ++ fillL x y m := by simp [fillL]
theorem fillL_plain (x y : ByteArray) : ∀ l : List UInt8, NoMark l → fillL x y l = l
  | [], _ => rfl
  | b :: l, h => by
    have hb := h b (by simp)
    have ih := fillL_plain x y l (fun c hc => h c (by simp [hc]))
    show fill1 x y b ++ fillL x y l = _
    rw [ih, fill1, if_neg (by omega), if_neg (by omega)]
    rfl
theorem cnt_append (l m : List UInt8) (c : Int) : cnt (l ++ m) c = cnt l c + cnt m c := by simp [cnt]
theorem cnt_plain (c : Int) (hc : c < 2) : ∀ l : List UInt8, NoMark l → cnt l c = 0
  | [], _ => rfl
  | b :: l, h => by
    have hb := h b (by simp)
    have ih := cnt_plain c hc l (fun d hd => h d (by simp [hd]))
    have e : ¬ (b.toNat : Int) = c := by omega
    unfold cnt at ih ⊢
    rw [List.filter_cons_of_neg (by simpa using e)]
    exact ih

theorem data_append (a b : ByteArray) : (a ++ b).data.toList = a.data.toList ++ b.data.toList := by simp [ByteArray.data_append]

theorem nC1 : NoMark cC1.data.toList := by unfold NoMark; decide
theorem nC2 : NoMark cC2.data.toList := by unfold NoMark; decide
theorem nC3 : NoMark cC3.data.toList := by unfold NoMark; decide
theorem nD1 : NoMark cD1.data.toList := by unfold NoMark; decide
theorem nD2 : NoMark cD2.data.toList := by unfold NoMark; decide
theorem nR1 : NoMark cR1.data.toList := by unfold NoMark; decide
theorem nR2 : NoMark cR2.data.toList := by unfold NoMark; decide
theorem nR3 : NoMark cR3.data.toList := by unfold NoMark; decide
theorem nO1 : NoMark cO1.data.toList := by unfold NoMark; decide
theorem nO2 : NoMark cO2.data.toList := by unfold NoMark; decide
theorem nK1 : NoMark cK1.data.toList := by unfold NoMark; decide
theorem nS1 : NoMark cS1.data.toList := by unfold NoMark; decide

theorem data_gTo (p : ByteArray) : (gTo p).data.toList = cC1.data.toList ++ p.data.toList ++ cC2.data.toList ++ p.data.toList ++ cC3.data.toList := by
  simp only [gTo, data_append]
theorem data_gReach (on p : ByteArray) : (gReach on p).data.toList = cD1.data.toList ++ on.data.toList ++ cD2.data.toList ++ (gTo p).data.toList := by
  simp only [gReach, data_append]
theorem data_gRoles (on p : ByteArray) : (gRoles on p).data.toList = cR1.data.toList ++ on.data.toList ++ cR2.data.toList ++ (gTo p).data.toList ++ cR3.data.toList := by
  simp only [gRoles, data_append]
theorem data_gCols (wk p : ByteArray) : (gCols wk p).data.toList = cO1.data.toList ++ p.data.toList ++ cO2.data.toList ++ cK1.data.toList ++ (cR1.data.toList ++ (cS1.data.toList ++ wk.data.toList) ++ cR2.data.toList ++ (gTo p).data.toList ++ cR3.data.toList) := by
  simp only [gCols, gOwns, data_append, data_gRoles]

abbrev z0 : ByteArray := ⟨#[0]⟩
abbrev z1 : ByteArray := ⟨#[1]⟩
theorem f0 (x y : ByteArray) : fillL x y [0] = x.data.toList := by simp [fillL, fill1]
theorem f1 (x y : ByteArray) : fillL x y [1] = y.data.toList := by simp [fillL, fill1]
theorem c00 : cnt [0] 0 = 1 := by decide
theorem c01 : cnt [0] 1 = 0 := by decide
theorem c10 : cnt [1] 0 = 0 := by decide
theorem c11 : cnt [1] 1 = 1 := by decide

theorem fill_gTo (x y : ByteArray) : fillL x y (gTo z1).data.toList = (gTo y).data.toList := by
  simp only [data_gTo, fillL_append, fillL_plain x y _ nC1, fillL_plain x y _ nC2, fillL_plain x y _ nC3, f1]
theorem fill_gReach (x y : ByteArray) : fillL x y (gReach z0 z1).data.toList = (gReach x y).data.toList := by
  simp only [data_gReach, fillL_append, fillL_plain x y _ nD1, fillL_plain x y _ nD2, f0, fill_gTo]
theorem fill_gCols (x y : ByteArray) : fillL x y (gCols z0 z1).data.toList = (gCols x y).data.toList := by
  simp only [data_gCols, fillL_append, fillL_plain x y _ nO1, fillL_plain x y _ nO2, fillL_plain x y _ nK1, fillL_plain x y _ nR1, fillL_plain x y _ nR2, fillL_plain x y _ nR3, fillL_plain x y _ nS1, f0, f1, fill_gTo]
theorem cnt_gTo0 : cnt (gTo z1).data.toList 0 = 0 := by
  simp only [data_gTo, cnt_append, cnt_plain 0 (by decide) _ nC1, cnt_plain 0 (by decide) _ nC2, cnt_plain 0 (by decide) _ nC3, c10]
theorem cnt_gTo1 : cnt (gTo z1).data.toList 1 = 2 := by
  simp only [data_gTo, cnt_append, cnt_plain 1 (by decide) _ nC1, cnt_plain 1 (by decide) _ nC2, cnt_plain 1 (by decide) _ nC3, c11]
theorem cnt_gReach0 : cnt (gReach z0 z1).data.toList 0 = 1 := by
  simp only [data_gReach, cnt_append, cnt_plain 0 (by decide) _ nD1, cnt_plain 0 (by decide) _ nD2, c00, cnt_gTo0]
theorem cnt_gReach1 : cnt (gReach z0 z1).data.toList 1 = 2 := by
  simp only [data_gReach, cnt_append, cnt_plain 1 (by decide) _ nD1, cnt_plain 1 (by decide) _ nD2, c01, cnt_gTo1]
theorem cnt_gCols0 : cnt (gCols z0 z1).data.toList 0 = 1 := by
  simp only [data_gCols, cnt_append, cnt_plain 0 (by decide) _ nO1, cnt_plain 0 (by decide) _ nO2, cnt_plain 0 (by decide) _ nK1, cnt_plain 0 (by decide) _ nR1, cnt_plain 0 (by decide) _ nR2, cnt_plain 0 (by decide) _ nR3, cnt_plain 0 (by decide) _ nS1, c00, c10, cnt_gTo0]
theorem cnt_gCols1 : cnt (gCols z0 z1).data.toList 1 = 3 := by
  simp only [data_gCols, cnt_append, cnt_plain 1 (by decide) _ nO1, cnt_plain 1 (by decide) _ nO2, cnt_plain 1 (by decide) _ nK1, cnt_plain 1 (by decide) _ nR1, cnt_plain 1 (by decide) _ nR2, cnt_plain 1 (by decide) _ nR3, cnt_plain 1 (by decide) _ nS1, c01, c11, cnt_gTo1]

theorem mk_data (a : ByteArray) : (⟨a.data.toList.toArray⟩ : ByteArray) = a := by cases a; simp
end Go.Proofs.Qxb6614209a
