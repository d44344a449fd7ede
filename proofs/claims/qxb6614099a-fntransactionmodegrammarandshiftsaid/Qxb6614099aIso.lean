import Derived.Test.Qxb6614099aUnexp
import Derived.Laws.Tables
namespace Go.Proofs.Qxb6614099a
open Go.RowKit

theorem PS.step {τ : TK} {tb pb i : Nat} {W : World} (h : PS τ tb pb i W) : PS τ tb pb (i + 1) (W.setCell ⟨pb, 2, none⟩ (.int .i64 ((i : Int) + 1))) := by
  obtain ⟨h1, h2, h3, h4⟩ := h
  refine ⟨?_, by simpa [World.setCell] using h2, h3, h4.of_block (Below.heap_setCell _ _ _ _ (fun e => h3 e.symm))⟩
  rw [setCell_eq_setRow W pb 2 _ 45 (0, 0) _ h1, setRow_heap W pb _ _ 45 (0, 0) h1]
  rfl

theorem small_of {τ : TK} {i : Nat} (ok : Hid τ.Ok) (hi : i < τ.n) : (i : Int) < 1048576 := by
  have := ok.out.small; omega

set_option maxHeartbeats 400000 in
theorem ek_yes {τ : TK} {tb pb i : Nat} {W : World} (kw : ByteArray) (ok : Hid τ.Ok) (h : Hid (PS τ tb pb i W)) (hi : i < τ.n) (hk : kwB τ i kw = true) :
    Calls Try.prog 22 #[.pointer (some ⟨pb, 0, none⟩), .string kw] W fun r W' => r = .returned .nilIface ∧ Hid (PS τ tb pb (i + 1) W') ∧ Hid (But [pb] W W') := by
  have hsm := small_of ok hi
  go_enter Try.func22, Try.ntmps22
  go_wp2_with fail
  refine (kw_any kw ok h hi).mono ?_
  rintro r w1 ⟨rfl, h1, hb⟩
  obtain ⟨c0, c2, f2, lt⟩ := h1.out.cells
  clear c0
  go_wp2
  go_ret
  exact ⟨rfl, h1.out.step, (But.of_below hb.out).trans (But.setCell _ _ _ _ (by simp))⟩

set_option maxHeartbeats 400000 in
theorem ek_no {τ : TK} {tb pb i : Nat} {W : World} (kw : ByteArray) (ok : Hid τ.Ok) (h : Hid (PS τ tb pb i W)) (hi : i < τ.n) (hk : kwB τ i kw = false) :
    Calls Try.prog 22 #[.pointer (some ⟨pb, 0, none⟩), .string kw] W fun r W' => ∃ eb, r = .returned (.iface 27 (.pointer (some ⟨eb, 0, none⟩))) ∧ Hid (W.heap.size ≤ eb) ∧ Hid (ErrAt W' eb (errMsg τ i) (posn τ.q (τ.ps i))) ∧ Hid (PS τ tb pb i W') ∧ Hid (But [pb] W W') := by
  go_enter Try.func22, Try.ntmps22
  go_wp2_with fail
  refine (kw_any kw ok h hi).mono ?_
  rintro r w1 ⟨rfl, h1, hb⟩
  go_wp2_with fail
  refine (unexp_any ok h1 hi).mono ?_
  rintro r w2 ⟨eb, rfl, he, hE, hb2⟩
  go_wp2
  go_ret
  exact ⟨eb, rfl, Nat.le_trans hb.out.size he.out, hE, h1.out.below hb2.out, (But.of_below hb.out).trans (But.of_below hb2.out)⟩

set_option maxHeartbeats 1000000 in
/-- 'next' at a token that is a word. -/
theorem next_kw {τ : TK} {tb pb i : Nat} {W : World} (ok : Hid τ.Ok) (h : Hid (PS τ tb pb i W)) (hi : i < τ.n) (hk : τ.kd i = 1) :
    Calls Try.prog 21 #[.pointer (some ⟨pb, 0, none⟩)] W fun r W' => r = .returned (.agg #[.int .i64 1, .string (τ.tx i), .int .i64 (τ.ps i), .int .i64 (τ.en i)]) ∧ Hid (PS τ tb pb (i + 1) W') ∧ Hid (But [pb] W W') := by
  have hsm := small_of ok hi
  obtain ⟨g1, g2, g3, g4⟩ := h.out
  obtain ⟨c0, c1, c2, c3⟩ := g4 i hi
  rw [hk] at c0
  have p1 : W.cell? ⟨pb, 1, none⟩ = some (.slice (some ⟨tb, 0, none⟩) τ.n τ.n) := by rw [cell_of_heap g1]; rfl
  obtain ⟨_, p2, pf, plt⟩ := h.out.cells
  clear g1 g3 g4 hk
  go_enter Try.func21, Try.ntmps21
  go_wp2
  go_region
  go_wp2
  refine bodyPost_ret (v := .agg #[.int .i64 1, .string (τ.tx i), .int .i64 (τ.ps i), .int .i64 (τ.en i)]) (by simp [results, Try.results21, go_sem]) rfl ⟨rfl, ?_, ?_⟩
  · exact (h.out.step.below (below_alloc _ _)).below (below_alloc _ _).drew
  · exact ((But.setCell _ _ _ _ (by simp)).trans (But.of_below (below_alloc _ _))).trans (But.of_below (below_alloc _ _).drew)

/-- How a reader of the parser's ends: at token j, without an error, or with the parse error at that token. -/
def Res (τ : TK) (tb pb : Nat) (S : List Nat) (W : World) (j : Nat) (good : Bool) (r : Ending) (W' : World) : Prop :=
  (good = true ∧ r = .returned .nilIface ∧ PS τ tb pb j W' ∧ But S W W') ∨
  (good = false ∧ ∃ eb, r = .returned (.iface 27 (.pointer (some ⟨eb, 0, none⟩))) ∧ W.heap.size ≤ eb ∧ ErrAt W' eb (errMsg τ j) (posn τ.q (τ.ps j)) ∧ PS τ tb pb j W' ∧ But S W W')

theorem kw_next {τ : TK} {i : Nat} {kw : ByteArray} (ok : Hid τ.Ok) (hi : i < τ.n) (hk : kwB τ i kw = true) : i + 1 < τ.n := by
  by_cases h : i + 1 < τ.n
  · exact h
  · have e : i = τ.n - 1 := by omega
    have := ok.out.last
    rw [← e] at this
    simp [kwB, this] at hk

abbrev kRead : ByteArray := ⟨#[114, 101, 97, 100]⟩
abbrev kOnly : ByteArray := ⟨#[111, 110, 108, 121]⟩
abbrev kWrite : ByteArray := ⟨#[119, 114, 105, 116, 101]⟩
abbrev kIsolation : ByteArray := ⟨#[105, 115, 111, 108, 97, 116, 105, 111, 110]⟩
abbrev kLevel : ByteArray := ⟨#[108, 101, 118, 101, 108]⟩
abbrev kNot : ByteArray := ⟨#[110, 111, 116]⟩
abbrev kDeferrable : ByteArray := ⟨#[100, 101, 102, 101, 114, 114, 97, 98, 108, 101]⟩
abbrev kSerializable : ByteArray := ⟨#[115, 101, 114, 105, 97, 108, 105, 122, 97, 98, 108, 101]⟩
abbrev kRepeatable : ByteArray := ⟨#[114, 101, 112, 101, 97, 116, 97, 98, 108, 101]⟩
abbrev kCommitted : ByteArray := ⟨#[99, 111, 109, 109, 105, 116, 116, 101, 100]⟩
abbrev kUncommitted : ByteArray := ⟨#[117, 110, 99, 111, 109, 109, 105, 116, 116, 101, 100]⟩

set_option maxHeartbeats 400000 in
theorem iso_ser {τ : TK} {tb pb i : Nat} {W : World} (ok : Hid τ.Ok) (h : Hid (PS τ tb pb i W)) (hi : i < τ.n) (k1 : kwB τ i kSerializable = true) :
    Calls Try.prog 23 #[.pointer (some ⟨pb, 0, none⟩)] W fun r W' => Res τ tb pb [pb] W (i + 1) true r W' := by
  have hsm := small_of ok hi
  go_enter Try.func23, Try.ntmps23
  go_wp2_with fail
  refine (kw_any _ ok h hi).mono ?_
  rintro r w1 ⟨rfl, h1, b1⟩
  obtain ⟨c0, c2, f2, lt⟩ := h1.out.cells
  clear c0
  go_wp2
  go_ret
  exact .inl ⟨rfl, rfl, h1.out.step, (But.of_below b1.out).trans (But.setCell _ _ _ _ (by simp))⟩

set_option maxHeartbeats 400000 in
theorem iso_rep_yes {τ : TK} {tb pb i : Nat} {W : World} (ok : Hid τ.Ok) (h : Hid (PS τ tb pb i W)) (hi : i < τ.n) (k1 : kwB τ i kSerializable = false) (k2 : kwB τ i kRepeatable = true) (k3 : kwB τ (i + 1) kRead = true) :
    Calls Try.prog 23 #[.pointer (some ⟨pb, 0, none⟩)] W fun r W' => Res τ tb pb [pb] W (i + 2) true r W' := by
  have hsm := small_of ok hi
  go_enter Try.func23, Try.ntmps23
  go_wp2_with fail
  refine (kw_any _ ok h hi).mono ?_
  rintro r w1 ⟨rfl, h1, b1⟩
  go_wp2_with fail
  refine (kw_any _ ok h1 hi).mono ?_
  rintro r w2 ⟨rfl, h2, b2⟩
  obtain ⟨c0, c2, f2, lt⟩ := h2.out.cells
  clear c0
  have s2 : Hid (PS τ tb pb (i + 1) (w2.setCell ⟨pb, 2, none⟩ (.int .i64 ((i : Int) + 1)))) := h2.out.step
  have g2 : Hid (But [pb] w2 (w2.setCell ⟨pb, 2, none⟩ (.int .i64 ((i : Int) + 1)))) := But.setCell _ _ _ _ (by simp)
  have hn := kw_next ok hi k2
  go_wp2_with fail
  refine (ek_yes _ ok s2 hn k3).mono ?_
  rintro r w3 ⟨rfl, h3, b3⟩
  go_wp2
  go_ret
  exact .inl ⟨rfl, rfl, h3.out, (((But.of_below b1.out).trans (But.of_below b2.out)).trans g2.out).trans b3.out⟩

set_option maxHeartbeats 400000 in
theorem iso_rep_no {τ : TK} {tb pb i : Nat} {W : World} (ok : Hid τ.Ok) (h : Hid (PS τ tb pb i W)) (hi : i < τ.n) (k1 : kwB τ i kSerializable = false) (k2 : kwB τ i kRepeatable = true) (k3 : kwB τ (i + 1) kRead = false) :
    Calls Try.prog 23 #[.pointer (some ⟨pb, 0, none⟩)] W fun r W' => Res τ tb pb [pb] W (i + 1) false r W' := by
  have hsm := small_of ok hi
  go_enter Try.func23, Try.ntmps23
  go_wp2_with fail
  refine (kw_any _ ok h hi).mono ?_
  rintro r w1 ⟨rfl, h1, b1⟩
  go_wp2_with fail
  refine (kw_any _ ok h1 hi).mono ?_
  rintro r w2 ⟨rfl, h2, b2⟩
  obtain ⟨c0, c2, f2, lt⟩ := h2.out.cells
  clear c0
  have s2 : Hid (PS τ tb pb (i + 1) (w2.setCell ⟨pb, 2, none⟩ (.int .i64 ((i : Int) + 1)))) := h2.out.step
  have g2 : Hid (But [pb] w2 (w2.setCell ⟨pb, 2, none⟩ (.int .i64 ((i : Int) + 1)))) := But.setCell _ _ _ _ (by simp)
  have hn := kw_next ok hi k2
  go_wp2_with fail
  refine (ek_no _ ok s2 hn k3).mono ?_
  rintro r w3 ⟨eb, rfl, he, hE, h3, b3⟩
  go_wp2
  go_ret
  exact .inr ⟨rfl, eb, rfl, Nat.le_trans (Nat.le_trans b1.out.size (Nat.le_trans b2.out.size g2.out.size)) he.out, hE.out, h3.out, (((But.of_below b1.out).trans (But.of_below b2.out)).trans g2.out).trans b3.out⟩

set_option maxHeartbeats 400000 in
theorem iso_read_c {τ : TK} {tb pb i : Nat} {W : World} (ok : Hid τ.Ok) (h : Hid (PS τ tb pb i W)) (hi : i < τ.n) (k1 : kwB τ i kSerializable = false) (k2 : kwB τ i kRepeatable = false) (k3 : kwB τ i kRead = true) (k4 : kwB τ (i + 1) kCommitted = true) :
    Calls Try.prog 23 #[.pointer (some ⟨pb, 0, none⟩)] W fun r W' => Res τ tb pb [pb] W (i + 2) true r W' := by
  have hsm := small_of ok hi
  go_enter Try.func23, Try.ntmps23
  go_wp2_with fail
  refine (kw_any _ ok h hi).mono ?_
  rintro r w1 ⟨rfl, h1, b1⟩
  go_wp2_with fail
  refine (kw_any _ ok h1 hi).mono ?_
  rintro r w2 ⟨rfl, h2, b2⟩
  go_wp2_with fail
  refine (kw_any _ ok h2 hi).mono ?_
  rintro r w3 ⟨rfl, h3, b3⟩
  obtain ⟨c0, c2, f2, lt⟩ := h3.out.cells
  clear c0
  have s3 : Hid (PS τ tb pb (i + 1) (w3.setCell ⟨pb, 2, none⟩ (.int .i64 ((i : Int) + 1)))) := h3.out.step
  have g3 : Hid (But [pb] w3 (w3.setCell ⟨pb, 2, none⟩ (.int .i64 ((i : Int) + 1)))) := But.setCell _ _ _ _ (by simp)
  have hn := kw_next ok hi k3
  have hsn := small_of ok hn
  go_wp2_with fail
  refine (kw_any _ ok s3 hn).mono ?_
  rintro r w4 ⟨rfl, h4, b4⟩
  obtain ⟨c0, d2, e2, lt4⟩ := h4.out.cells
  clear c0
  have e2c : ((i + 1 : Nat) : Int) = (i : Int) + 1 := rfl
  rw [e2c] at d2
  clear e2c
  go_wp2
  go_ret
  exact .inl ⟨rfl, rfl, h4.out.step, (((((But.of_below b1.out).trans (But.of_below b2.out)).trans (But.of_below b3.out)).trans g3.out).trans (But.of_below b4.out)).trans (But.setCell _ _ _ _ (by simp))⟩

set_option maxHeartbeats 400000 in
theorem iso_read_u {τ : TK} {tb pb i : Nat} {W : World} (ok : Hid τ.Ok) (h : Hid (PS τ tb pb i W)) (hi : i < τ.n) (k1 : kwB τ i kSerializable = false) (k2 : kwB τ i kRepeatable = false) (k3 : kwB τ i kRead = true) (k4 : kwB τ (i + 1) kCommitted = false) (k5 : kwB τ (i + 1) kUncommitted = true) :
    Calls Try.prog 23 #[.pointer (some ⟨pb, 0, none⟩)] W fun r W' => Res τ tb pb [pb] W (i + 2) true r W' := by
  have hsm := small_of ok hi
  go_enter Try.func23, Try.ntmps23
  go_wp2_with fail
  refine (kw_any _ ok h hi).mono ?_
  rintro r w1 ⟨rfl, h1, b1⟩
  go_wp2_with fail
  refine (kw_any _ ok h1 hi).mono ?_
  rintro r w2 ⟨rfl, h2, b2⟩
  go_wp2_with fail
  refine (kw_any _ ok h2 hi).mono ?_
  rintro r w3 ⟨rfl, h3, b3⟩
  obtain ⟨c0, c2, f2, lt⟩ := h3.out.cells
  clear c0
  have s3 : Hid (PS τ tb pb (i + 1) (w3.setCell ⟨pb, 2, none⟩ (.int .i64 ((i : Int) + 1)))) := h3.out.step
  have g3 : Hid (But [pb] w3 (w3.setCell ⟨pb, 2, none⟩ (.int .i64 ((i : Int) + 1)))) := But.setCell _ _ _ _ (by simp)
  have hn := kw_next ok hi k3
  have hsn := small_of ok hn
  go_wp2_with fail
  refine (kw_any _ ok s3 hn).mono ?_
  rintro r w4 ⟨rfl, h4, b4⟩
  go_wp2_with fail
  refine (kw_any _ ok h4 hn).mono ?_
  rintro r w5 ⟨rfl, h5, b5⟩
  obtain ⟨c0, d2, e2, lt4⟩ := h5.out.cells
  clear c0
  have e2c : ((i + 1 : Nat) : Int) = (i : Int) + 1 := rfl
  rw [e2c] at d2
  clear e2c
  go_wp2
  go_ret
  exact .inl ⟨rfl, rfl, h5.out.step, ((((((But.of_below b1.out).trans (But.of_below b2.out)).trans (But.of_below b3.out)).trans g3.out).trans (But.of_below b4.out)).trans (But.of_below b5.out)).trans (But.setCell _ _ _ _ (by simp))⟩

set_option maxHeartbeats 400000 in
theorem iso_read_no {τ : TK} {tb pb i : Nat} {W : World} (ok : Hid τ.Ok) (h : Hid (PS τ tb pb i W)) (hi : i < τ.n) (k1 : kwB τ i kSerializable = false) (k2 : kwB τ i kRepeatable = false) (k3 : kwB τ i kRead = true) (k4 : kwB τ (i + 1) kCommitted = false) (k5 : kwB τ (i + 1) kUncommitted = false) :
    Calls Try.prog 23 #[.pointer (some ⟨pb, 0, none⟩)] W fun r W' => Res τ tb pb [pb] W (i + 1) false r W' := by
  have hsm := small_of ok hi
  go_enter Try.func23, Try.ntmps23
  go_wp2_with fail
  refine (kw_any _ ok h hi).mono ?_
  rintro r w1 ⟨rfl, h1, b1⟩
  go_wp2_with fail
  refine (kw_any _ ok h1 hi).mono ?_
  rintro r w2 ⟨rfl, h2, b2⟩
  go_wp2_with fail
  refine (kw_any _ ok h2 hi).mono ?_
  rintro r w3 ⟨rfl, h3, b3⟩
  obtain ⟨c0, c2, f2, lt⟩ := h3.out.cells
  clear c0
  have s3 : Hid (PS τ tb pb (i + 1) (w3.setCell ⟨pb, 2, none⟩ (.int .i64 ((i : Int) + 1)))) := h3.out.step
  have g3 : Hid (But [pb] w3 (w3.setCell ⟨pb, 2, none⟩ (.int .i64 ((i : Int) + 1)))) := But.setCell _ _ _ _ (by simp)
  have hn := kw_next ok hi k3
  have hsn := small_of ok hn
  go_wp2_with fail
  refine (kw_any _ ok s3 hn).mono ?_
  rintro r w4 ⟨rfl, h4, b4⟩
  go_wp2_with fail
  refine (kw_any _ ok h4 hn).mono ?_
  rintro r w5 ⟨rfl, h5, b5⟩
  go_wp2_with fail
  refine (unexp_any ok h5 hn).mono ?_
  rintro r w6 ⟨eb, rfl, he, hE, b6⟩
  go_wp2
  go_ret
  have hbut : But [pb] W w5 := ((((((But.of_below b1.out).trans (But.of_below b2.out)).trans (But.of_below b3.out)).trans g3.out).trans (But.of_below b4.out)).trans (But.of_below b5.out))
  exact .inr ⟨rfl, eb, rfl, Nat.le_trans hbut.size he.out, hE.out, h5.out.below b6.out, hbut.trans (But.of_below b6.out)⟩

set_option maxHeartbeats 400000 in
theorem iso_none {τ : TK} {tb pb i : Nat} {W : World} (ok : Hid τ.Ok) (h : Hid (PS τ tb pb i W)) (hi : i < τ.n) (k1 : kwB τ i kSerializable = false) (k2 : kwB τ i kRepeatable = false) (k3 : kwB τ i kRead = false) :
    Calls Try.prog 23 #[.pointer (some ⟨pb, 0, none⟩)] W fun r W' => Res τ tb pb [pb] W i false r W' := by
  have hsm := small_of ok hi
  go_enter Try.func23, Try.ntmps23
  go_wp2_with fail
  refine (kw_any _ ok h hi).mono ?_
  rintro r w1 ⟨rfl, h1, b1⟩
  go_wp2_with fail
  refine (kw_any _ ok h1 hi).mono ?_
  rintro r w2 ⟨rfl, h2, b2⟩
  go_wp2_with fail
  refine (kw_any _ ok h2 hi).mono ?_
  rintro r w3 ⟨rfl, h3, b3⟩
  go_wp2_with fail
  refine (unexp_any ok h3 hi).mono ?_
  rintro r w6 ⟨eb, rfl, he, hE, b6⟩
  go_wp2
  go_ret
  have hbut : But [pb] W w3 := ((But.of_below b1.out).trans (But.of_below b2.out)).trans (But.of_below b3.out)
  exact .inr ⟨rfl, eb, rfl, Nat.le_trans hbut.size he.out, hE.out, h3.out.below b6.out, hbut.trans (But.of_below b6.out)⟩

end Go.Proofs.Qxb6614099a
