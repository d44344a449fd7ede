import Derived.Test.Qxb6614099aShiftT
import Derived.Deep.RegionHeld3
namespace Go.Proofs.Qxb6614099a
open Go.RowKit

set_option maxRecDepth 100000 in
set_option maxHeartbeats 1000000 in
theorem gram_out (q : ByteArray) (ak ax ap ae : Option Addr) (nk ck nx cx np cp ne ce : Nat) (K : Nat → Int) (X : Nat → ByteArray) (P E : Nat → Int) (i : Int) (ro : Bool) (w : World) (A : Hid (Args q ak ax ap ae nk nx np ne K X P E w)) (hi : i < 0 ∨ (nk : Int) ≤ i) :
    Calls Try.prog 3 #[.string q, .slice ak nk ck, .slice ax nx cx, .slice ap np cp, .slice ae ne ce, .int .i64 i, .bool ro] w fun r w' => r = .returned (.bool true) ∧ Below w.heap.size w w' := by
  go_enter Try.func3, Try.ntmps3
  go_wp2_with fail
  refine (bytes5_any q ak ax ap ae nk ck nx cx np cp ne ce X i ro _ A.out.lq A.out.lk A.out.lx A.out.lp A.out.le A.out.hX).mono ?_
  rintro r w' ⟨b, rfl, rfl, hb⟩
  cases b
  · go_wp2
    go_ret
    exact ⟨rfl, Below.refl _ _⟩
  obtain ⟨bq, bk, -, -, -⟩ := hb rfl
  clear hb
  go_wp2_with fail
  refine (size_any q ak ap ae ax nk ck nx cx np cp ne ce X _ A.out.lq A.out.lk A.out.lx A.out.lp A.out.le A.out.hX).mono ?_
  rintro r w' ⟨v, rfl, rfl, v0, v1⟩
  by_cases hv : 1048576 < v
  · go_wp2
    go_ret
    exact ⟨rfl, Below.refl _ _⟩
  go_wp2_with fail
  refine (ok_letter q ak ap ae ax nk ck nx cx np cp ne ce K P E _ bk bq A.out.hK A.out.hP A.out.hE).mono ?_
  rintro r w1 ⟨b, rfl, hw, hb⟩
  cases b
  · go_wp2
    go_ret
    exact ⟨rfl, hw.out.2⟩
  rcases hi with hi | hi
  · go_wp2
    go_ret
    exact ⟨rfl, hw.out.2⟩
  · go_wp2
    all_goals
      go_ret
      exact ⟨rfl, hw.out.2⟩

set_option maxRecDepth 100000 in
set_option maxHeartbeats 4000000 in
theorem gram_in (τ : TK) (ak ax ap ae : Option Addr) (ck nx cx np cp ne ce : Nat) (m : Nat) (ro : Bool) (w : World) (A : Hid (Args τ.q ak ax ap ae τ.n nx np ne τ.kd τ.tx τ.ps τ.en w)) (hout : Hid (∀ j, τ.n ≤ j → τ.kd j = 0)) (hm : m < τ.n) :
    Calls Try.prog 3 #[.string τ.q, .slice ak τ.n ck, .slice ax nx cx, .slice ap np cp, .slice ae ne ce, .int .i64 (m : Int), .bool ro] w fun r w' => r = .returned (.bool true) ∧ Below w.heap.size w w' := by
  go_enter Try.func3, Try.ntmps3
  go_wp2_with fail
  refine (bytes5_any τ.q ak ax ap ae τ.n ck nx cx np cp ne ce τ.tx m ro _ A.out.lq A.out.lk A.out.lx A.out.lp A.out.le A.out.hX).mono ?_
  rintro r w' ⟨b, rfl, rfl, hb⟩
  cases b
  · go_wp2
    go_ret
    exact ⟨rfl, Below.refl _ _⟩
  obtain ⟨bq, bk, -, -, -⟩ := hb rfl
  clear hb
  go_wp2_with fail
  refine (size_any τ.q ak ap ae ax τ.n ck nx cx np cp ne ce τ.tx _ A.out.lq A.out.lk A.out.lx A.out.lp A.out.le A.out.hX).mono ?_
  rintro r w' ⟨v, rfl, rfl, v0, v1⟩
  by_cases hv : 1048576 < v
  · go_wp2
    go_ret
    exact ⟨rfl, Below.refl _ _⟩
  go_wp2_with fail
  refine (ok_letter τ.q ak ap ae ax τ.n ck nx cx np cp ne ce τ.kd τ.ps τ.en _ bk bq A.out.hK A.out.hP A.out.hE).mono ?_
  rintro r w1 ⟨b, rfl, hw, hb⟩
  cases b
  · go_wp2
    go_ret
    exact ⟨rfl, hw.out.2⟩
  obtain ⟨h0, e1, e2, e3, hl, hg⟩ := hb.out rfl
  clear hb
  have ok : Hid τ.Ok := ⟨by omega, bk, bq, hl, fun j hj => (hg j hj).2.2.1, fun j hj => (hg j hj).2.2.2.1, fun j hj => (hg j hj).2.2.2.2⟩
  clear hl hg
  rcases A.out.hK with h | ⟨kb, ko, rfl, cK⟩
  · exact absurd h h0
  rcases A.out.hX with h | ⟨xb, xo, rfl, cX⟩
  · exact absurd (e1.symm.trans h) h0
  rcases A.out.hP with h | ⟨pb, po, rfl, cP⟩
  · exact absurd (e2.symm.trans h) h0
  rcases A.out.hE with h | ⟨eb, eo, rfl, cE⟩
  · exact absurd (e3.symm.trans h) h0
  subst e1 e2 e3
  have bel1 : Hid (Below w'.heap.size w' w1) := hw.out.2
  have mk22 := make_ints τ.n bk
  have mk23 := make_strs τ.n bk
  have nq22 : ∀ (V : World) (a : Addr) (n c : Nat), (binOp .neq 22 (.slice (some a) n c) (.slice none 0 0)).run Try.prog V = .ok (.bool true) V := fun V a n c => run_neq_slice_nil_any V 22 3 (some a) n c 0 0 Try.underlying22
  have nq23 : ∀ (V : World) (a : Addr) (n c : Nat), (binOp .neq 23 (.slice (some a) n c) (.slice none 0 0)).run Try.prog V = .ok (.bool true) V := fun V a n c => run_neq_slice_nil_any V 23 9 (some a) n c 0 0 Try.underlying23
  obtain ⟨cp1, cp2, cp3, cp4⟩ := copies4 τ kb ko ck xb xo cx pb po cp eb eo ce w1 (fun j hj => by rw [cell_heap hw.out.1]; exact cK j hj) (fun j hj => by rw [cell_heap hw.out.1]; exact (cX j hj).1) (fun j hj => by rw [cell_heap hw.out.1]; exact cP j hj) (fun j hj => by rw [cell_heap hw.out.1]; exact cE j hj) h0
  have S0 : Hid (Src4 τ w1.heap.size 0 (w1.heap.size + 1) 0 (w1.heap.size + 1 + 1) 0 (w1.heap.size + 1 + 1 + 1) 0 (W4 w1 τ.kd τ.tx τ.ps τ.en τ.n)) := src_W4 τ w1
  have b0 : Hid (Below w1.heap.size w1 (W4 w1 τ.kd τ.tx τ.ps τ.en τ.n)) := below_W4 _ _ _ _ _ _
  clear cK cX cP cE hw A
  unfold W4 at S0 b0
  go_wp2_with fail
  have HBn : Hid (m + bestF τ m 8 < τ.n) := best_lt ok m hm 8
  have hB4 := bestF_le τ m 8
  have fb := full_best τ m
  have fbd := (fullF_bd τ m 8).1
  obtain ⟨B, hB'⟩ : ∃ B, bestF τ m 8 = B := ⟨_, rfl⟩
  obtain ⟨F, hF'⟩ : ∃ F, fullF τ m 8 = F := ⟨_, rfl⟩
  rw [hB'] at HBn hB4
  rw [hF'] at fbd
  rw [hB', hF'] at fb
  have hB : Hid (bestF τ m 8 = B) := hB'
  have hF : Hid (fullF τ m 8 = F) := hF'
  have t1 : Hid (∀ ro, (tmF τ m ro).1 = B) := fun ro => (fb ro).1.symm
  have t2 : Hid (∀ ro, 0 ≤ F → (tmF τ m ro).2.2 = true) := fun ro h => (fb ro).2.1.2 h
  have t2' : Hid (∀ ro, ¬ 0 ≤ F → (tmF τ m ro).2.2 = false) := fun ro h => by
    cases e : (tmF τ m ro).2.2
    · rfl
    · exact absurd ((fb ro).2.1.1 e) h
  have t3 : Hid (∀ ro, (tmF τ m ro).2.1 = (if F = 0 then true else if F = 1 then false else ro)) := fun ro => (fb ro).2.2
  clear fb hB' hF'
  have mB : (B : Int) ≤ 4 := by omega
  have mS : (m : Int) < 1048576 := by omega
  by_cases f0 : F = 0
  · have f0' : (F == 0) = true := by simpa using f0
    have f1' : (F == 1) = false := by simp; omega
    have fp : 0 ≤ F := by omega
    have FF : Hid (F = 0) := f0
    clear f0
    refine (zztm_good τ ok m ro _ _ _ _ _ _ _ _ _ _ _ _ _ hm S0 B true (t1.out _) (by rw [t3.out, if_pos FF.out]) (t2.out _ fp)).mono ?_
    rintro r w2 ⟨rfl, b2⟩
    have S2 : Hid (Src4 τ w1.heap.size 0 (w1.heap.size + 1) 0 (w1.heap.size + 1 + 1) 0 (w1.heap.size + 1 + 1 + 1) 0 w2) := S0.out.below b2.out
    have c2 : Hid (Below w1.heap.size w1 w2) := b0.out.trans (b2.out.mono b0.out.size)
    clear S0 b0 b2
    go_wp2_with fail
    refine (match_at τ m _ _ _ _ _ _ _ _ _ _ _ bk hm hout S2 B F hB.out hF.out).mono ?_
    rintro r w3 ⟨rfl, b3⟩
    have S3 : Hid (Src4 τ w1.heap.size 0 (w1.heap.size + 1) 0 (w1.heap.size + 1 + 1) 0 (w1.heap.size + 1 + 1 + 1) 0 w3) := S2.out.below b3.out
    have c3 : Hid (Below w1.heap.size w1 w3) := c2.out.trans (b3.out.mono c2.out.size)
    clear S2 c2 b3
    have S3d : Hid (Src4 τ w1.heap.size 0 (w1.heap.size + 1) 0 (w1.heap.size + 1 + 1) 0 (w1.heap.size + 1 + 1 + 1) 0 w3.drew) := S3.out.below (Below.refl _ _).drew
    have hsg := shift_good τ ok m ro _ _ _ _ _ hm S3d B true (t1.out _) (by rw [t3.out, if_pos FF.out]) (t2.out _ fp)
    have m0 : (0 : Int) ≤ (m : Int) := by omega
    have m1 : (m : Int) ≤ (τ.n : Int) := by omega
    have mne : ¬ τ.n = m := by omega
    go_wp2_with fail
    go_region_held3 (fun V => Hid (Src4 τ w1.heap.size 0 (w1.heap.size + 1) 0 (w1.heap.size + 1 + 1) 0 (w1.heap.size + 1 + 1 + 1) 0 V)) (first | assumption | exact S3d.out.below b4.out)
      (first | (go_at_call 8; (try simp only [if_neg mne]); refine hsg.mono ?_; rintro r w4 ⟨rfl, b4⟩))
    have c4 : Hid (Below w1.heap.size w1 w4) := c3.out.drew.trans (b4.out.mono c3.out.size)
    clear S3 S3d c3 b4 hsg m0 m1 mne
    have hcomm : (B : Int) + (m : Int) = (m : Int) + (B : Int) := Int.add_comm _ _
    go_wp2
    go_quiet (fail)
    go_wp2
    go_ret
    exact ⟨rfl, bel1.out.trans ((below_drewN c4.out _).mono bel1.out.size)⟩
  have f0' : (F == 0) = false := by simpa using f0
  by_cases f1 : F = 1
  · have f1' : (F == 1) = true := by simpa using f1
    have fp : 0 ≤ F := by omega
    have FF : Hid (F = 1) := f1
    have FN : Hid (¬ F = 0) := f0
    clear f1 f0
    refine (zztm_good τ ok m ro _ _ _ _ _ _ _ _ _ _ _ _ _ hm S0 B false (t1.out _) (by rw [t3.out, if_neg FN.out, if_pos FF.out]) (t2.out _ fp)).mono ?_
    rintro r w2 ⟨rfl, b2⟩
    have S2 : Hid (Src4 τ w1.heap.size 0 (w1.heap.size + 1) 0 (w1.heap.size + 1 + 1) 0 (w1.heap.size + 1 + 1 + 1) 0 w2) := S0.out.below b2.out
    have c2 : Hid (Below w1.heap.size w1 w2) := b0.out.trans (b2.out.mono b0.out.size)
    clear S0 b0 b2
    go_wp2_with fail
    refine (match_at τ m _ _ _ _ _ _ _ _ _ _ _ bk hm hout S2 B F hB.out hF.out).mono ?_
    rintro r w3 ⟨rfl, b3⟩
    have S3 : Hid (Src4 τ w1.heap.size 0 (w1.heap.size + 1) 0 (w1.heap.size + 1 + 1) 0 (w1.heap.size + 1 + 1 + 1) 0 w3) := S2.out.below b3.out
    have c3 : Hid (Below w1.heap.size w1 w3) := c2.out.trans (b3.out.mono c2.out.size)
    clear S2 c2 b3
    have S3d : Hid (Src4 τ w1.heap.size 0 (w1.heap.size + 1) 0 (w1.heap.size + 1 + 1) 0 (w1.heap.size + 1 + 1 + 1) 0 w3.drew) := S3.out.below (Below.refl _ _).drew
    have hsg := shift_good τ ok m ro _ _ _ _ _ hm S3d B false (t1.out _) (by rw [t3.out, if_neg FN.out, if_pos FF.out]) (t2.out _ fp)
    have m0 : (0 : Int) ≤ (m : Int) := by omega
    have m1 : (m : Int) ≤ (τ.n : Int) := by omega
    have mne : ¬ τ.n = m := by omega
    go_wp2_with fail
    go_region_held3 (fun V => Hid (Src4 τ w1.heap.size 0 (w1.heap.size + 1) 0 (w1.heap.size + 1 + 1) 0 (w1.heap.size + 1 + 1 + 1) 0 V)) (first | assumption | exact S3d.out.below b4.out)
      (first | (go_at_call 8; (try simp only [if_neg mne]); refine hsg.mono ?_; rintro r w4 ⟨rfl, b4⟩))
    have c4 : Hid (Below w1.heap.size w1 w4) := c3.out.drew.trans (b4.out.mono c3.out.size)
    clear S3 S3d c3 b4 hsg m0 m1 mne
    have hcomm : (B : Int) + (m : Int) = (m : Int) + (B : Int) := Int.add_comm _ _
    go_wp2
    go_quiet (fail)
    go_wp2
    go_ret
    exact ⟨rfl, bel1.out.trans ((below_drewN c4.out _).mono bel1.out.size)⟩
  have f1' : (F == 1) = false := by simpa using f1
  by_cases fp : 0 ≤ F
  · have FF : Hid (¬ F = 1) := f1
    have FN : Hid (¬ F = 0) := f0
    clear f1 f0
    refine (zztm_good τ ok m ro _ _ _ _ _ _ _ _ _ _ _ _ _ hm S0 B ro (t1.out _) (by rw [t3.out, if_neg FN.out, if_neg FF.out]) (t2.out _ fp)).mono ?_
    rintro r w2 ⟨rfl, b2⟩
    have S2 : Hid (Src4 τ w1.heap.size 0 (w1.heap.size + 1) 0 (w1.heap.size + 1 + 1) 0 (w1.heap.size + 1 + 1 + 1) 0 w2) := S0.out.below b2.out
    have c2 : Hid (Below w1.heap.size w1 w2) := b0.out.trans (b2.out.mono b0.out.size)
    clear S0 b0 b2
    go_wp2_with fail
    refine (match_at τ m _ _ _ _ _ _ _ _ _ _ _ bk hm hout S2 B F hB.out hF.out).mono ?_
    rintro r w3 ⟨rfl, b3⟩
    have S3 : Hid (Src4 τ w1.heap.size 0 (w1.heap.size + 1) 0 (w1.heap.size + 1 + 1) 0 (w1.heap.size + 1 + 1 + 1) 0 w3) := S2.out.below b3.out
    have c3 : Hid (Below w1.heap.size w1 w3) := c2.out.trans (b3.out.mono c2.out.size)
    clear S2 c2 b3
    have S3d : Hid (Src4 τ w1.heap.size 0 (w1.heap.size + 1) 0 (w1.heap.size + 1 + 1) 0 (w1.heap.size + 1 + 1 + 1) 0 w3.drew) := S3.out.below (Below.refl _ _).drew
    have hsg := shift_good τ ok m ro _ _ _ _ _ hm S3d B ro (t1.out _) (by rw [t3.out, if_neg FN.out, if_neg FF.out]) (t2.out _ fp)
    have m0 : (0 : Int) ≤ (m : Int) := by omega
    have m1 : (m : Int) ≤ (τ.n : Int) := by omega
    have mne : ¬ τ.n = m := by omega
    go_wp2_with fail
    go_region_held3 (fun V => Hid (Src4 τ w1.heap.size 0 (w1.heap.size + 1) 0 (w1.heap.size + 1 + 1) 0 (w1.heap.size + 1 + 1 + 1) 0 V)) (first | assumption | exact S3d.out.below b4.out)
      (first | (go_at_call 8; (try simp only [if_neg mne]); refine hsg.mono ?_; rintro r w4 ⟨rfl, b4⟩))
    have c4 : Hid (Below w1.heap.size w1 w4) := c3.out.drew.trans (b4.out.mono c3.out.size)
    clear S3 S3d c3 b4 hsg m0 m1 mne
    have hcomm : (B : Int) + (m : Int) = (m : Int) + (B : Int) := Int.add_comm _ _
    go_wp2
    go_quiet (fail)
    go_wp2
    go_ret
    exact ⟨rfl, bel1.out.trans ((below_drewN c4.out _).mono bel1.out.size)⟩
  · have FF : Hid (¬ F = 1) := f1
    have FN : Hid (¬ F = 0) := f0
    have fn : F = -1 := by omega
    have FP : Hid (¬ 0 ≤ F) := fp
    clear f1 f0 fp f0' f1' fbd
    subst fn
    refine (zztm_bad τ ok m ro _ _ _ _ _ _ _ _ _ _ _ _ _ hm S0 B ro (t1.out _) (by rw [t3.out, if_neg FN.out, if_neg FF.out]) (t2'.out _ FP.out)).mono ?_
    rintro r w2 ⟨u1, rfl, E1, b2⟩
    have S2 : Hid (Src4 τ w1.heap.size 0 (w1.heap.size + 1) 0 (w1.heap.size + 1 + 1) 0 (w1.heap.size + 1 + 1 + 1) 0 w2) := S0.out.below b2.out
    have c2 : Hid (Below w1.heap.size w1 w2) := b0.out.trans (b2.out.mono b0.out.size)
    clear S0 b0 b2
    go_wp2_with fail
    refine (match_at τ m _ _ _ _ _ _ _ _ _ _ _ bk hm hout S2 B (-1) hB.out hF.out).mono ?_
    rintro r w3 ⟨rfl, b3⟩
    have S3 : Hid (Src4 τ w1.heap.size 0 (w1.heap.size + 1) 0 (w1.heap.size + 1 + 1) 0 (w1.heap.size + 1 + 1 + 1) 0 w3) := S2.out.below b3.out
    have c3 : Hid (Below w1.heap.size w1 w3) := c2.out.trans (b3.out.mono c2.out.size)
    have E3 : Hid (ErrAt w3 u1 (errMsg τ (m + B)) (posn τ.q (τ.ps (m + B)))) := E1.out.below b3.out
    clear S2 c2 b3 E1
    go_wp2_with fail
    refine (seis_at ok u1 _ _ _ _ _ _ _ _ _ _ _ m B _ HBn.out S3 E3).mono ?_
    rintro r w4 ⟨rfl, b4⟩
    have S4 : Hid (Src4 τ w1.heap.size 0 (w1.heap.size + 1) 0 (w1.heap.size + 1 + 1) 0 (w1.heap.size + 1 + 1 + 1) 0 w4) := S3.out.below b4.out
    have c4 : Hid (Below w1.heap.size w1 w4) := c3.out.trans (b4.out.mono c3.out.size)
    have E4 : Hid (ErrAt w4 u1 (errMsg τ (m + B)) (posn τ.q (τ.ps (m + B)))) := E3.out.below b4.out
    clear S3 c3 b4 E3
    have S4d : Hid (Src4 τ w1.heap.size 0 (w1.heap.size + 1) 0 (w1.heap.size + 1 + 1) 0 (w1.heap.size + 1 + 1 + 1) 0 w4.drew) := S4.out.below (Below.refl _ _).drew
    have E4d : Hid (ErrAt w4.drew u1 (errMsg τ (m + B)) (posn τ.q (τ.ps (m + B)))) := E4.out.below (Below.refl _ _).drew
    have hsg := shift_bad τ ok m ro _ _ _ _ _ hm S4d B ro (t1.out _) (by rw [t3.out, if_neg FN.out, if_neg FF.out]) (t2'.out _ FP.out)
    have m0 : (0 : Int) ≤ (m : Int) := by omega
    have m1 : (m : Int) ≤ (τ.n : Int) := by omega
    have mne : ¬ τ.n = m := by omega
    go_wp2_with fail
    go_region_held3 (fun V => Hid (Src4 τ w1.heap.size 0 (w1.heap.size + 1) 0 (w1.heap.size + 1 + 1) 0 (w1.heap.size + 1 + 1 + 1) 0 V)) (first | assumption | exact S4d.out.below b5.out)
      (first | (go_at_call 8; (try simp only [if_neg mne]); refine hsg.mono ?_; rintro r w5 ⟨u2, rfl, E5, b5⟩))
    have c5 : Hid (Below w1.heap.size w1 w5) := c4.out.drew.trans (b5.out.mono c4.out.size)
    obtain ⟨x0, x1, x2, x3, x4⟩ := (E4d.out.below b5.out).cells
    obtain ⟨y0, y1, y2, y3, y4⟩ := E5.out.cells
    have heq := eql34
    clear S4 S4d c4 b5 hsg m0 m1 mne E4 E4d E5
    have hcomm : (B : Int) + (m : Int) = (m : Int) + (B : Int) := Int.add_comm _ _
    go_wp2
    go_quiet (fail)
    go_wp2
    go_ret
    exact ⟨rfl, bel1.out.trans ((below_drewN c5.out _).mono bel1.out.size)⟩
end Go.Proofs.Qxb6614099a
