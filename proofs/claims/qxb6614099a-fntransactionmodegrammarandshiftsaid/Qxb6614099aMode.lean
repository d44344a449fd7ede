import Derived.Test.Qxb6614099aIso
namespace Go.Proofs.Qxb6614099a
open Go.RowKit

/-- Of isolationLevel: how many tokens it moves on, and whether it ends well. -/
def isoF (τ : TK) (i : Nat) : Nat × Bool :=
  if kwB τ i kSerializable then (1, true)
  else if kwB τ i kRepeatable then (if kwB τ (i + 1) kRead then (2, true) else (1, false))
  else if kwB τ i kRead then (if kwB τ (i + 1) kCommitted then (2, true) else if kwB τ (i + 1) kUncommitted then (2, true) else (1, false))
  else (0, false)

theorem iso_any {τ : TK} {tb pb i : Nat} {W : World} (ok : Hid τ.Ok) (h : Hid (PS τ tb pb i W)) (hi : i < τ.n) :
    Calls Try.prog 23 #[.pointer (some ⟨pb, 0, none⟩)] W fun r W' => Res τ tb pb [pb] W (i + (isoF τ i).1) (isoF τ i).2 r W' := by
  unfold isoF
  cases k1 : kwB τ i kSerializable
  · cases k2 : kwB τ i kRepeatable
    · cases k3 : kwB τ i kRead
      · exact iso_none ok h hi k1 k2 k3
      · cases k4 : kwB τ (i + 1) kCommitted
        · cases k5 : kwB τ (i + 1) kUncommitted
          · exact iso_read_no ok h hi k1 k2 k3 k4 k5
          · exact iso_read_u ok h hi k1 k2 k3 k4 k5
        · exact iso_read_c ok h hi k1 k2 k3 k4
    · cases k3 : kwB τ (i + 1) kRead
      · exact iso_rep_no ok h hi k1 k2 k3
      · exact iso_rep_yes ok h hi k1 k2 k3
  · exact iso_ser ok h hi k1

/-- The flag that readOnly points to. -/
def RoAt (tb pb rb : Nat) (ro : Bool) (W : World) : Prop := W.heap[rb]? = some (.cells #[.bool ro] 4 (0, 0)) ∧ rb ≠ pb ∧ rb ≠ tb

theorem RoAt.below {tb pb rb : Nat} {ro : Bool} {W W' : World} (h : RoAt tb pb rb ro W) (hb : Below W.heap.size W W') : RoAt tb pb rb ro W' :=
  ⟨by rw [hb.block _ (heap_lt h.1)]; exact h.1, h.2⟩
theorem RoAt.but {tb pb rb : Nat} {ro : Bool} {W W' : World} (h : RoAt tb pb rb ro W) (hb : But [pb] W W') : RoAt tb pb rb ro W' :=
  ⟨by rw [hb.block _ (heap_lt h.1) (by simp; exact h.2.1)]; exact h.1, h.2⟩
theorem PS.setRo {τ : TK} {tb pb rb i : Nat} {W : World} (h : PS τ tb pb i W) (h1 : rb ≠ pb) (h2 : rb ≠ tb) (u : Value) : PS τ tb pb i (W.setCell ⟨rb, 0, none⟩ u) := by
  obtain ⟨a, b, c, d⟩ := h
  exact ⟨by rw [Below.heap_setCell _ _ _ _ (fun e => h1 e.symm)]; exact a, by simpa [World.setCell] using b, c, d.of_block (Below.heap_setCell _ _ _ _ (fun e => h2 e.symm))⟩
theorem RoAt.set {tb pb rb : Nat} {ro : Bool} {W : World} (h : RoAt tb pb rb ro W) (x : Bool) : RoAt tb pb rb x (W.setCell ⟨rb, 0, none⟩ (.bool x)) := by
  refine ⟨?_, h.2⟩
  rw [setCell_eq_setRow W rb 0 _ 4 (0, 0) _ h.1, setRow_heap W rb _ _ 4 (0, 0) h.1]
  rfl

/-- How transactionMode ends. -/
def TRes (τ : TK) (tb pb rb : Nat) (W : World) (j : Nat) (ro : Bool) (good : Bool) (r : Ending) (W' : World) : Prop :=
  Res τ tb pb [pb, rb] W j good r W' ∧ RoAt tb pb rb ro W'

theorem Res.more {τ : TK} {tb pb rb : Nat} {W W' : World} {j : Nat} {good : Bool} {r : Ending} (h : Res τ tb pb [pb] W j good r W') : Res τ tb pb [pb, rb] W j good r W' := by
  rcases h with ⟨a, b, c, d⟩ | ⟨a, eb, b, c, d, e, f⟩
  · exact .inl ⟨a, b, c, d.mono (by simp)⟩
  · exact .inr ⟨a, eb, b, c, d, e, f.mono (by simp)⟩
theorem Res.but {τ : TK} {tb pb : Nat} {S : List Nat} {W W' : World} {j : Nat} {good : Bool} {r : Ending} (h : Res τ tb pb S W j good r W') : But S W W' := by
  rcases h with ⟨a, b, c, d⟩ | ⟨a, eb, b, c, d, e, f⟩
  · exact d
  · exact f
theorem Res.ahead {τ : TK} {tb pb : Nat} {S : List Nat} {V W W' : World} {j : Nat} {good : Bool} {r : Ending} (hb : But S V W) (h : Res τ tb pb S W j good r W') : Res τ tb pb S V j good r W' := by
  rcases h with ⟨a, b, c, d⟩ | ⟨a, eb, b, c, d, e, f⟩
  · exact .inl ⟨a, b, c, hb.trans d⟩
  · exact .inr ⟨a, eb, b, Nat.le_trans hb.size c, d, e, hb.trans f⟩

theorem field43 (k p e : Int) (t : ByteArray) (w : World) : (Instr.field 43 (.agg #[.int .i64 k, .string t, .int .i64 p, .int .i64 e]) 1).run Try.prog w = .ok (.string t) w := by kernel_rfl

set_option maxHeartbeats 400000 in
theorem tm_read_only {τ : TK} {tb pb rb i : Nat} {ro : Bool} {W : World} (ok : Hid τ.Ok) (h : Hid (PS τ tb pb i W)) (hr : Hid (RoAt tb pb rb ro W)) (hi : i < τ.n) (k1 : kwB τ i kRead = true) (k2 : kwB τ (i + 1) kOnly = true) :
    Calls Try.prog 16 #[.pointer (some ⟨pb, 0, none⟩), .pointer (some ⟨rb, 0, none⟩)] W fun r W' => TRes τ tb pb rb W (i + 2) true true r W' := by
  have hsm := small_of ok hi
  have hn := kw_next ok hi k1
  have hsn := small_of ok hn
  have e1 : τ.kd (i + 1) = 1 := by simp [kwB] at k2; exact k2.1
  have E1 : Hid _ := e1
  have ex0 : ((τ.tx (i + 1)).toList == [111, 110, 108, 121]) = true := by simp [kwB] at k2; simpa using k2.2
  have ex : Hid (((τ.tx (i + 1)).toList == [111, 110, 108, 121]) = true) := ex0
  clear ex0
  clear e1
  have hfield := field43
  go_enter Try.func16, Try.ntmps16
  go_wp2_with fail
  refine (kw_any _ ok h hi).mono ?_
  rintro r w1 ⟨rfl, h1, b1⟩
  obtain ⟨c0, c2, f2, lt⟩ := h1.out.cells
  clear c0
  have s1 : Hid (PS τ tb pb (i + 1) (w1.setCell ⟨pb, 2, none⟩ (.int .i64 ((i : Int) + 1)))) := h1.out.step
  have g1 : Hid (But [pb] w1 (w1.setCell ⟨pb, 2, none⟩ (.int .i64 ((i : Int) + 1)))) := But.setCell _ _ _ _ (by simp)
  go_wp2_with fail
  refine (kw_any _ ok s1 hn).mono ?_
  rintro r w2 ⟨rfl, h2, b2⟩
  go_wp2_with fail
  refine (next_kw ok h2 hn E1.out).mono ?_
  rintro r w9 ⟨rfl, h9, b9⟩
  have r9 : RoAt tb pb rb ro w9 := (((hr.out.below b1.out).but g1.out).below b2.out).but b9.out
  have rc : w9.cell? ⟨rb, 0, none⟩ = some (.bool ro) := by rw [cell_of_heap r9.1]; rfl
  have rf : w9.frozen? ⟨rb, 0, none⟩ = false := frozen_of_heap r9.1 0
  have R9 : Hid (RoAt tb pb rb ro w9) := r9
  clear r9
  go_wp2
  go_ret
  rw [ex.out]
  have hbut : But [pb] W w9 := (((But.of_below b1.out).trans g1.out).trans (But.of_below b2.out)).trans b9.out
  exact ⟨.inl ⟨rfl, rfl, h9.out.setRo R9.out.2.1 R9.out.2.2 _, (hbut.mono (by simp)).trans (But.setCell _ _ _ _ (by simp))⟩, R9.out.set _⟩

set_option maxHeartbeats 400000 in
theorem tm_read_write {τ : TK} {tb pb rb i : Nat} {ro : Bool} {W : World} (ok : Hid τ.Ok) (h : Hid (PS τ tb pb i W)) (hr : Hid (RoAt tb pb rb ro W)) (hi : i < τ.n) (k1 : kwB τ i kRead = true) (k2 : kwB τ (i + 1) kOnly = false) (k3 : kwB τ (i + 1) kWrite = true) :
    Calls Try.prog 16 #[.pointer (some ⟨pb, 0, none⟩), .pointer (some ⟨rb, 0, none⟩)] W fun r W' => TRes τ tb pb rb W (i + 2) false true r W' := by
  have hsm := small_of ok hi
  have hn := kw_next ok hi k1
  have hsn := small_of ok hn
  have e1 : τ.kd (i + 1) = 1 := by simp [kwB] at k3; exact k3.1
  have E1 : Hid _ := e1
  have ex0 : ((τ.tx (i + 1)).toList == [111, 110, 108, 121]) = false := by simp [kwB] at k2 k3; simpa using k2 k3.1
  have ex : Hid (((τ.tx (i + 1)).toList == [111, 110, 108, 121]) = false) := ex0
  clear ex0
  clear e1
  have hfield := field43
  go_enter Try.func16, Try.ntmps16
  go_wp2_with fail
  refine (kw_any _ ok h hi).mono ?_
  rintro r w1 ⟨rfl, h1, b1⟩
  obtain ⟨c0, c2, f2, lt⟩ := h1.out.cells
  clear c0
  have s1 : Hid (PS τ tb pb (i + 1) (w1.setCell ⟨pb, 2, none⟩ (.int .i64 ((i : Int) + 1)))) := h1.out.step
  have g1 : Hid (But [pb] w1 (w1.setCell ⟨pb, 2, none⟩ (.int .i64 ((i : Int) + 1)))) := But.setCell _ _ _ _ (by simp)
  go_wp2_with fail
  refine (kw_any _ ok s1 hn).mono ?_
  rintro r w2 ⟨rfl, h2, b2⟩
  go_wp2_with fail
  refine (kw_any _ ok h2 hn).mono ?_
  rintro r w3 ⟨rfl, h3, b3⟩
  go_wp2_with fail
  refine (next_kw ok h3 hn E1.out).mono ?_
  rintro r w9 ⟨rfl, h9, b9⟩
  have r9 : RoAt tb pb rb ro w9 := ((((hr.out.below b1.out).but g1.out).below b2.out).below b3.out).but b9.out
  have rc : w9.cell? ⟨rb, 0, none⟩ = some (.bool ro) := by rw [cell_of_heap r9.1]; rfl
  have rf : w9.frozen? ⟨rb, 0, none⟩ = false := frozen_of_heap r9.1 0
  have R9 : Hid (RoAt tb pb rb ro w9) := r9
  clear r9
  go_wp2
  go_ret
  rw [ex.out]
  have hbut : But [pb] W w9 := ((((But.of_below b1.out).trans g1.out).trans (But.of_below b2.out)).trans (But.of_below b3.out)).trans b9.out
  exact ⟨.inl ⟨rfl, rfl, h9.out.setRo R9.out.2.1 R9.out.2.2 _, (hbut.mono (by simp)).trans (But.setCell _ _ _ _ (by simp))⟩, R9.out.set _⟩

set_option maxHeartbeats 400000 in
theorem tm_read_no {τ : TK} {tb pb rb i : Nat} {ro : Bool} {W : World} (ok : Hid τ.Ok) (h : Hid (PS τ tb pb i W)) (hr : Hid (RoAt tb pb rb ro W)) (hi : i < τ.n) (k1 : kwB τ i kRead = true) (k2 : kwB τ (i + 1) kOnly = false) (k3 : kwB τ (i + 1) kWrite = false) :
    Calls Try.prog 16 #[.pointer (some ⟨pb, 0, none⟩), .pointer (some ⟨rb, 0, none⟩)] W fun r W' => TRes τ tb pb rb W (i + 1) ro false r W' := by
  have hsm := small_of ok hi
  have hn := kw_next ok hi k1
  have hsn := small_of ok hn
  go_enter Try.func16, Try.ntmps16
  go_wp2_with fail
  refine (kw_any _ ok h hi).mono ?_
  rintro r w1 ⟨rfl, h1, b1⟩
  obtain ⟨c0, c2, f2, lt⟩ := h1.out.cells
  clear c0
  have s1 : Hid (PS τ tb pb (i + 1) (w1.setCell ⟨pb, 2, none⟩ (.int .i64 ((i : Int) + 1)))) := h1.out.step
  have g1 : Hid (But [pb] w1 (w1.setCell ⟨pb, 2, none⟩ (.int .i64 ((i : Int) + 1)))) := But.setCell _ _ _ _ (by simp)
  go_wp2_with fail
  refine (kw_any _ ok s1 hn).mono ?_
  rintro r w2 ⟨rfl, h2, b2⟩
  go_wp2_with fail
  refine (kw_any _ ok h2 hn).mono ?_
  rintro r w3 ⟨rfl, h3, b3⟩
  go_wp2_with fail
  refine (unexp_any ok h3 hn).mono ?_
  rintro r w6 ⟨eb, rfl, he, hE, b6⟩
  go_wp2
  go_ret
  have hbut : But [pb] W w3 := (((But.of_below b1.out).trans g1.out).trans (But.of_below b2.out)).trans (But.of_below b3.out)
  exact ⟨.inr ⟨rfl, eb, rfl, Nat.le_trans hbut.size he.out, hE.out, h3.out.below b6.out, (hbut.trans (But.of_below b6.out)).mono (by simp)⟩, (hr.out.but hbut).below b6.out⟩

set_option maxHeartbeats 400000 in
theorem tm_iso_no {τ : TK} {tb pb rb i : Nat} {ro : Bool} {W : World} (ok : Hid τ.Ok) (h : Hid (PS τ tb pb i W)) (hr : Hid (RoAt tb pb rb ro W)) (hi : i < τ.n) (k1 : kwB τ i kRead = false) (k2 : kwB τ i kIsolation = true) (k3 : kwB τ (i + 1) kLevel = false) :
    Calls Try.prog 16 #[.pointer (some ⟨pb, 0, none⟩), .pointer (some ⟨rb, 0, none⟩)] W fun r W' => TRes τ tb pb rb W (i + 1) ro false r W' := by
  have hsm := small_of ok hi
  have hn := kw_next ok hi k2
  have hsn := small_of ok hn
  go_enter Try.func16, Try.ntmps16
  go_wp2_with fail
  refine (kw_any _ ok h hi).mono ?_
  rintro r w1 ⟨rfl, h1, b1⟩
  go_wp2_with fail
  refine (kw_any _ ok h1 hi).mono ?_
  rintro r w2 ⟨rfl, h2, b2⟩
  obtain ⟨c0, c2, f2, lt⟩ := h2.out.cells
  clear c0
  have s2 : Hid (PS τ tb pb (i + 1) (w2.setCell ⟨pb, 2, none⟩ (.int .i64 ((i : Int) + 1)))) := h2.out.step
  have g2 : Hid (But [pb] w2 (w2.setCell ⟨pb, 2, none⟩ (.int .i64 ((i : Int) + 1)))) := But.setCell _ _ _ _ (by simp)
  have hbut2 : Hid (But [pb] W (w2.setCell ⟨pb, 2, none⟩ (.int .i64 ((i : Int) + 1)))) := ((But.of_below b1.out).trans (But.of_below b2.out)).trans g2.out
  go_wp2_with fail
  refine (ek_no _ ok s2 hn k3).mono ?_
  rintro r w3 ⟨eb, rfl, he, hE, h3, b3⟩
  go_wp2
  go_ret
  exact ⟨.inr ⟨rfl, eb, rfl, Nat.le_trans hbut2.out.size he.out, hE.out, h3.out, (hbut2.out.trans b3.out).mono (by simp)⟩, (hr.out.but hbut2.out).but b3.out⟩

set_option maxHeartbeats 400000 in
theorem tm_iso {τ : TK} {tb pb rb i : Nat} {ro : Bool} {W : World} (ok : Hid τ.Ok) (h : Hid (PS τ tb pb i W)) (hr : Hid (RoAt tb pb rb ro W)) (hi : i < τ.n) (k1 : kwB τ i kRead = false) (k2 : kwB τ i kIsolation = true) (k3 : kwB τ (i + 1) kLevel = true) :
    Calls Try.prog 16 #[.pointer (some ⟨pb, 0, none⟩), .pointer (some ⟨rb, 0, none⟩)] W fun r W' => TRes τ tb pb rb W (i + 2 + (isoF τ (i + 2)).1) ro (isoF τ (i + 2)).2 r W' := by
  have hsm := small_of ok hi
  have hn := kw_next ok hi k2
  have hsn := small_of ok hn
  go_enter Try.func16, Try.ntmps16
  go_wp2_with fail
  refine (kw_any _ ok h hi).mono ?_
  rintro r w1 ⟨rfl, h1, b1⟩
  go_wp2_with fail
  refine (kw_any _ ok h1 hi).mono ?_
  rintro r w2 ⟨rfl, h2, b2⟩
  obtain ⟨c0, c2, f2, lt⟩ := h2.out.cells
  clear c0
  have s2 : Hid (PS τ tb pb (i + 1) (w2.setCell ⟨pb, 2, none⟩ (.int .i64 ((i : Int) + 1)))) := h2.out.step
  have g2 : Hid (But [pb] w2 (w2.setCell ⟨pb, 2, none⟩ (.int .i64 ((i : Int) + 1)))) := But.setCell _ _ _ _ (by simp)
  have hbut2 : Hid (But [pb] W (w2.setCell ⟨pb, 2, none⟩ (.int .i64 ((i : Int) + 1)))) := ((But.of_below b1.out).trans (But.of_below b2.out)).trans g2.out
  have hn2 := kw_next ok hn k3
  go_wp2_with fail
  refine (ek_yes _ ok s2 hn k3).mono ?_
  rintro r w3 ⟨rfl, h3, b3⟩
  go_wp2_with fail
  refine (iso_any ok h3 hn2).mono ?_
  rintro r w4 h4
  have hb4 := h4.but
  have hro : Hid (RoAt tb pb rb ro w4) := ((hr.out.but hbut2.out).but b3.out).but hb4
  have H4 : Hid (Res τ tb pb [pb] W (i + 2 + (isoF τ (i + 2)).1) (isoF τ (i + 2)).2 r w4) := Res.ahead (hbut2.out.trans b3.out) h4
  have hv : (∃ eb, r = .returned (.iface 27 (.pointer (some ⟨eb, 0, none⟩)))) ∨ r = .returned .nilIface := by
    rcases h4 with ⟨a, b, _⟩ | ⟨a, eb, b, _⟩
    · exact .inr b
    · exact .inl ⟨eb, b⟩
  clear h4 hb4
  rcases hv with ⟨eb, rfl⟩ | rfl
  all_goals
    go_wp2
    go_ret
    exact ⟨H4.out.more, hro.out⟩

set_option maxHeartbeats 400000 in
theorem tm_not_no {τ : TK} {tb pb rb i : Nat} {ro : Bool} {W : World} (ok : Hid τ.Ok) (h : Hid (PS τ tb pb i W)) (hr : Hid (RoAt tb pb rb ro W)) (hi : i < τ.n) (k1 : kwB τ i kRead = false) (k2 : kwB τ i kIsolation = false) (k3 : kwB τ i kNot = true) (k4 : kwB τ (i + 1) kDeferrable = false) :
    Calls Try.prog 16 #[.pointer (some ⟨pb, 0, none⟩), .pointer (some ⟨rb, 0, none⟩)] W fun r W' => TRes τ tb pb rb W (i + 1) ro false r W' := by
  have hsm := small_of ok hi
  have hn := kw_next ok hi k3
  have hsn := small_of ok hn
  go_enter Try.func16, Try.ntmps16
  go_wp2_with fail
  refine (kw_any _ ok h hi).mono ?_
  rintro r w1 ⟨rfl, h1, b1⟩
  go_wp2_with fail
  refine (kw_any _ ok h1 hi).mono ?_
  rintro r w2 ⟨rfl, h2, b2⟩
  go_wp2_with fail
  refine (kw_any _ ok h2 hi).mono ?_
  rintro r w3 ⟨rfl, h3, b3⟩
  obtain ⟨c0, c2, f2, lt⟩ := h3.out.cells
  clear c0
  have s3 : Hid (PS τ tb pb (i + 1) (w3.setCell ⟨pb, 2, none⟩ (.int .i64 ((i : Int) + 1)))) := h3.out.step
  have g3 : Hid (But [pb] w3 (w3.setCell ⟨pb, 2, none⟩ (.int .i64 ((i : Int) + 1)))) := But.setCell _ _ _ _ (by simp)
  have hbut3 : Hid (But [pb] W (w3.setCell ⟨pb, 2, none⟩ (.int .i64 ((i : Int) + 1)))) := (((But.of_below b1.out).trans (But.of_below b2.out)).trans (But.of_below b3.out)).trans g3.out
  go_wp2_with fail
  refine (ek_no _ ok s3 hn k4).mono ?_
  rintro r w4 ⟨eb, rfl, he, hE, h4, b4⟩
  go_wp2
  go_ret
  exact ⟨.inr ⟨rfl, eb, rfl, Nat.le_trans hbut3.out.size he.out, hE.out, h4.out, (hbut3.out.trans b4.out).mono (by simp)⟩, (hr.out.but hbut3.out).but b4.out⟩

set_option maxHeartbeats 400000 in
theorem tm_not_yes {τ : TK} {tb pb rb i : Nat} {ro : Bool} {W : World} (ok : Hid τ.Ok) (h : Hid (PS τ tb pb i W)) (hr : Hid (RoAt tb pb rb ro W)) (hi : i < τ.n) (k1 : kwB τ i kRead = false) (k2 : kwB τ i kIsolation = false) (k3 : kwB τ i kNot = true) (k4 : kwB τ (i + 1) kDeferrable = true) :
    Calls Try.prog 16 #[.pointer (some ⟨pb, 0, none⟩), .pointer (some ⟨rb, 0, none⟩)] W fun r W' => TRes τ tb pb rb W (i + 2) ro true r W' := by
  have hsm := small_of ok hi
  have hn := kw_next ok hi k3
  have hsn := small_of ok hn
  go_enter Try.func16, Try.ntmps16
  go_wp2_with fail
  refine (kw_any _ ok h hi).mono ?_
  rintro r w1 ⟨rfl, h1, b1⟩
  go_wp2_with fail
  refine (kw_any _ ok h1 hi).mono ?_
  rintro r w2 ⟨rfl, h2, b2⟩
  go_wp2_with fail
  refine (kw_any _ ok h2 hi).mono ?_
  rintro r w3 ⟨rfl, h3, b3⟩
  obtain ⟨c0, c2, f2, lt⟩ := h3.out.cells
  clear c0
  have s3 : Hid (PS τ tb pb (i + 1) (w3.setCell ⟨pb, 2, none⟩ (.int .i64 ((i : Int) + 1)))) := h3.out.step
  have g3 : Hid (But [pb] w3 (w3.setCell ⟨pb, 2, none⟩ (.int .i64 ((i : Int) + 1)))) := But.setCell _ _ _ _ (by simp)
  have hbut3 : Hid (But [pb] W (w3.setCell ⟨pb, 2, none⟩ (.int .i64 ((i : Int) + 1)))) := (((But.of_below b1.out).trans (But.of_below b2.out)).trans (But.of_below b3.out)).trans g3.out
  go_wp2_with fail
  refine (ek_yes _ ok s3 hn k4).mono ?_
  rintro r w4 ⟨rfl, h4, b4⟩
  go_wp2
  go_ret
  exact ⟨.inl ⟨rfl, rfl, h4.out, (hbut3.out.trans b4.out).mono (by simp)⟩, (hr.out.but hbut3.out).but b4.out⟩

set_option maxHeartbeats 400000 in
theorem tm_def {τ : TK} {tb pb rb i : Nat} {ro : Bool} {W : World} (ok : Hid τ.Ok) (h : Hid (PS τ tb pb i W)) (hr : Hid (RoAt tb pb rb ro W)) (hi : i < τ.n) (k1 : kwB τ i kRead = false) (k2 : kwB τ i kIsolation = false) (k3 : kwB τ i kNot = false) (k4 : kwB τ i kDeferrable = true) :
    Calls Try.prog 16 #[.pointer (some ⟨pb, 0, none⟩), .pointer (some ⟨rb, 0, none⟩)] W fun r W' => TRes τ tb pb rb W (i + 1) ro true r W' := by
  have hsm := small_of ok hi
  go_enter Try.func16, Try.ntmps16
  go_wp2_with fail
  refine (kw_any _ ok h hi).mono ?_
  rintro r w1 ⟨rfl, h1, b1⟩
  go_wp2_with fail
  refine (kw_any _ ok h1 hi).mono ?_
  rintro r w2 ⟨rfl, h2, b2⟩
  go_wp2_with fail
  refine (kw_any _ ok h2 hi).mono ?_
  rintro r w3 ⟨rfl, h3, b3⟩
  go_wp2_with fail
  refine (kw_any _ ok h3 hi).mono ?_
  rintro r w4 ⟨rfl, h4, b4⟩
  obtain ⟨c0, c2, f2, lt⟩ := h4.out.cells
  clear c0
  have s4 : Hid (PS τ tb pb (i + 1) (w4.setCell ⟨pb, 2, none⟩ (.int .i64 ((i : Int) + 1)))) := h4.out.step
  have g4 : Hid (But [pb] w4 (w4.setCell ⟨pb, 2, none⟩ (.int .i64 ((i : Int) + 1)))) := But.setCell _ _ _ _ (by simp)
  have hbut4 : Hid (But [pb] W (w4.setCell ⟨pb, 2, none⟩ (.int .i64 ((i : Int) + 1)))) := ((((But.of_below b1.out).trans (But.of_below b2.out)).trans (But.of_below b3.out)).trans (But.of_below b4.out)).trans g4.out
  go_wp2
  go_ret
  exact ⟨.inl ⟨rfl, rfl, s4.out, hbut4.out.mono (by simp)⟩, hr.out.but hbut4.out⟩

set_option maxHeartbeats 400000 in
theorem tm_none {τ : TK} {tb pb rb i : Nat} {ro : Bool} {W : World} (ok : Hid τ.Ok) (h : Hid (PS τ tb pb i W)) (hr : Hid (RoAt tb pb rb ro W)) (hi : i < τ.n) (k1 : kwB τ i kRead = false) (k2 : kwB τ i kIsolation = false) (k3 : kwB τ i kNot = false) (k4 : kwB τ i kDeferrable = false) :
    Calls Try.prog 16 #[.pointer (some ⟨pb, 0, none⟩), .pointer (some ⟨rb, 0, none⟩)] W fun r W' => TRes τ tb pb rb W i ro false r W' := by
  have hsm := small_of ok hi
  go_enter Try.func16, Try.ntmps16
  go_wp2_with fail
  refine (kw_any _ ok h hi).mono ?_
  rintro r w1 ⟨rfl, h1, b1⟩
  go_wp2_with fail
  refine (kw_any _ ok h1 hi).mono ?_
  rintro r w2 ⟨rfl, h2, b2⟩
  go_wp2_with fail
  refine (kw_any _ ok h2 hi).mono ?_
  rintro r w3 ⟨rfl, h3, b3⟩
  go_wp2_with fail
  refine (kw_any _ ok h3 hi).mono ?_
  rintro r w4 ⟨rfl, h4, b4⟩
  go_wp2_with fail
  refine (unexp_any ok h4 hi).mono ?_
  rintro r w6 ⟨eb, rfl, he, hE, b6⟩
  go_wp2
  go_ret
  have hbut : But [pb] W w4 := (((But.of_below b1.out).trans (But.of_below b2.out)).trans (But.of_below b3.out)).trans (But.of_below b4.out)
  exact ⟨.inr ⟨rfl, eb, rfl, Nat.le_trans hbut.size he.out, hE.out, h4.out.below b6.out, (hbut.trans (But.of_below b6.out)).mono (by simp)⟩, (hr.out.but hbut).below b6.out⟩

/-- Of transactionMode: how many tokens it moves on, what the flag holds then, and whether it ends well. -/
def tmF (τ : TK) (i : Nat) (ro : Bool) : Nat × Bool × Bool :=
  if kwB τ i kRead then (if kwB τ (i + 1) kOnly then (2, true, true) else if kwB τ (i + 1) kWrite then (2, false, true) else (1, ro, false))
  else if kwB τ i kIsolation then (if kwB τ (i + 1) kLevel then (2 + (isoF τ (i + 2)).1, ro, (isoF τ (i + 2)).2) else (1, ro, false))
  else if kwB τ i kNot then (if kwB τ (i + 1) kDeferrable then (2, ro, true) else (1, ro, false))
  else if kwB τ i kDeferrable then (1, ro, true) else (0, ro, false)

theorem tm_any {τ : TK} {tb pb rb i : Nat} {ro : Bool} {W : World} (ok : Hid τ.Ok) (h : Hid (PS τ tb pb i W)) (hr : Hid (RoAt tb pb rb ro W)) (hi : i < τ.n) :
    Calls Try.prog 16 #[.pointer (some ⟨pb, 0, none⟩), .pointer (some ⟨rb, 0, none⟩)] W fun r W' => TRes τ tb pb rb W (i + (tmF τ i ro).1) (tmF τ i ro).2.1 (tmF τ i ro).2.2 r W' := by
  unfold tmF
  cases k1 : kwB τ i kRead
  · cases k2 : kwB τ i kIsolation
    · cases k3 : kwB τ i kNot
      · cases k4 : kwB τ i kDeferrable
        · exact tm_none ok h hr hi k1 k2 k3 k4
        · exact tm_def ok h hr hi k1 k2 k3 k4
      · cases k4 : kwB τ (i + 1) kDeferrable
        · exact tm_not_no ok h hr hi k1 k2 k3 k4
        · exact tm_not_yes ok h hr hi k1 k2 k3 k4
    · cases k3 : kwB τ (i + 1) kLevel
      · exact tm_iso_no ok h hr hi k1 k2 k3
      · have := tm_iso ok h hr hi k1 k2 k3
        rw [Nat.add_assoc] at this
        exact this
  · cases k2 : kwB τ (i + 1) kOnly
    · cases k3 : kwB τ (i + 1) kWrite
      · exact tm_read_no ok h hr hi k1 k2 k3
      · exact tm_read_write ok h hr hi k1 k2 k3
    · exact tm_read_only ok h hr hi k1 k2
end Go.Proofs.Qxb6614099a
