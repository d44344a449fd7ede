import Derived.Test.Qxb6614099aSize
namespace Go.Proofs.Qxb6614099a
open Go.RowKit

/-- It answers a bool; it may have drawn; where it says yes P holds. -/
def SaysD (w : World) (P : Prop) (r : Ending) (w' : World) : Prop := ∃ b d, r = .returned (.bool b) ∧ w' = w.drewN d ∧ (b = true → P)
theorem SaysD.mk {w w' : World} {P : Prop} {r : Ending} (b : Bool) (d : Nat) (h1 : r = .returned (.bool b)) (h2 : w' = w.drewN d) (h3 : b = true → P) : SaysD w P r w' := ⟨b, d, h1, h2, h3⟩

/-- The numbers of a []int that came in. -/
def IntsAt (w : World) (ak : Option Addr) (nk : Nat) (K : Nat → Int) : Prop :=
  nk = 0 ∨ ∃ kb ko, ak = some ⟨kb, ko, none⟩ ∧ ∀ j, j < nk → w.cell? ⟨kb, ko + j, none⟩ = some (.int .i64 (K j))

/-- Token j is in order. -/
def Good (q : ByteArray) (K P E : Nat → Int) (j : Nat) : Prop := 0 ≤ K j ∧ K j ≤ 7 ∧ 0 ≤ P j ∧ P j ≤ E j ∧ E j ≤ q.size

theorem ok_nil (q : ByteArray) (ak ap ae ax : Option Addr) (ck nx cx np cp ne ce : Nat) (w : World) (P : Prop) :
    Calls Try.prog 7 #[.string q, .slice ak 0 ck, .slice ax nx cx, .slice ap np cp, .slice ae ne ce] w fun r w' => SaysD w P r w' := by
  go_enter Try.func7, Try.ntmps7
  go_wp2
  go_ret
  exact SaysD.mk false 0 rfl rfl (by simp)

theorem ok_len (q : ByteArray) (ak ap ae ax : Option Addr) (nk ck nx cx np cp ne ce : Nat) (w : World) (P : Prop) (h0 : nk ≠ 0) (h : nx ≠ nk ∨ np ≠ nk ∨ ne ≠ nk) :
    Calls Try.prog 7 #[.string q, .slice ak nk ck, .slice ax nx cx, .slice ap np cp, .slice ae ne ce] w fun r w' => SaysD w P r w' := by
  have g0 : ((nk : Int) == 0) = false := by simp; omega
  by_cases h1 : nx = nk
  · subst h1
    by_cases h2 : np = nx
    · subst h2
      have h3 : ne ≠ np := by simpa using h
      have g3 : ((ne : Int) == (np : Int)) = false := by simp; omega
      go_enter Try.func7, Try.ntmps7
      go_wp2
      go_ret
      exact SaysD.mk false 0 rfl rfl (by simp)
    · have g2 : ((np : Int) == (nx : Int)) = false := by simp; omega
      go_enter Try.func7, Try.ntmps7
      go_wp2
      go_ret
      exact SaysD.mk false 0 rfl rfl (by simp)
  · have g1 : ((nx : Int) == (nk : Int)) = false := by simp; omega
    go_enter Try.func7, Try.ntmps7
    go_wp2
    go_ret
    exact SaysD.mk false 0 rfl rfl (by simp)

set_option maxHeartbeats 4000000 in
theorem ok_main (q : ByteArray) (ax : Option Addr) (n ck cx cp ce kb ko pb po eb eo : Nat) (K P E : Nat → Int) (w : World) (h0 : n ≠ 0) (hn : n ≤ 1048576) (_hq : q.size ≤ 1048576)
    (hK : Hid (∀ j, j < n → w.cell? ⟨kb, ko + j, none⟩ = some (.int .i64 (K j)))) (hP : Hid (∀ j, j < n → w.cell? ⟨pb, po + j, none⟩ = some (.int .i64 (P j)))) (hE : Hid (∀ j, j < n → w.cell? ⟨eb, eo + j, none⟩ = some (.int .i64 (E j)))) :
    Calls Try.prog 7 #[.string q, .slice (some ⟨kb, ko, none⟩) n ck, .slice ax n cx, .slice (some ⟨pb, po, none⟩) n cp, .slice (some ⟨eb, eo, none⟩) n ce] w fun r w' => SaysD w (K (n - 1) = 0 ∧ ∀ j, j < n → Good q K P E j) r w' := by
  have g0 : ((n : Int) == 0) = false := by simp; omega
  have gp : (1 : Int) ≤ (n : Int) := by omega
  have gn : (n : Int) ≤ 1048576 := by omega
  obtain ⟨l, hl⟩ : ∃ l, l = K (n - 1) := ⟨_, rfl⟩
  have cl : w.cell? ⟨kb, ko + (n - 1), none⟩ = some (.int .i64 l) := by rw [hl]; exact hK.out _ (by omega)
  have HL : Hid (l = K (n - 1)) := hl
  clear hl
  by_cases hl0 : l = 0
  · subst hl0
    go_enter Try.func7, Try.ntmps7
    go_wp2
    go_loopw [12] (fun t wr => ∃ k d : Nat, k ≤ n ∧ t = .int .i64 k ∧ wr = w.drewN d ∧ Hid (∀ j, j < k → Good q K P E j)) (fun t _ => n - (intOf t).toNat)
    case atStart => exact ⟨0, 0, Nat.zero_le _, rfl, rfl, fun j hj => absurd hj (Nat.not_lt_zero _)⟩
    case round =>
      obtain ⟨k, d, hk, rfl, rfl, hg⟩ := hrel
      by_cases hlt : k < n
      · have hlt' : (k : Int) < (n : Int) := by omega
        obtain ⟨κ, eκ⟩ : ∃ κ, κ = K k := ⟨_, rfl⟩
        obtain ⟨π, eπ⟩ : ∃ π, π = P k := ⟨_, rfl⟩
        obtain ⟨ε, eε⟩ : ∃ ε, ε = E k := ⟨_, rfl⟩
        have c0 : w.cell? ⟨kb, ko + k, none⟩ = some (.int .i64 κ) := by rw [eκ]; exact hK.out _ hlt
        have c1 : w.cell? ⟨pb, po + k, none⟩ = some (.int .i64 π) := by rw [eπ]; exact hP.out _ hlt
        have c2 : w.cell? ⟨eb, eo + k, none⟩ = some (.int .i64 ε) := by rw [eε]; exact hE.out _ hlt
        have Eκ : Hid (κ = K k) := eκ
        have Eπ : Hid (π = P k) := eπ
        have Eε : Hid (ε = E k) := eε
        clear eκ eπ eε cl
        by_cases h1 : κ < 0
        · have g1 : decide (κ < 0) = true := by simpa using h1
          go_wp2
          go_quiet (fail)
          go_wp2
          go_ret
          exact SaysD.mk false _ rfl (World.drewN_drewN ..) (by simp)
        have g1 : decide (κ < 0) = false := by simpa using h1
        by_cases h2 : 7 < κ
        · have g2 : decide (7 < κ) = true := by simpa using h2
          go_wp2
          go_quiet (fail)
          go_wp2
          go_ret
          exact SaysD.mk false _ rfl (World.drewN_drewN ..) (by simp)
        have g2 : decide (7 < κ) = false := by simpa using h2
        by_cases h3 : π < 0
        · have g3 : decide (π < 0) = true := by simpa using h3
          go_wp2
          go_quiet (fail)
          go_wp2
          go_ret
          exact SaysD.mk false _ rfl (World.drewN_drewN ..) (by simp)
        have g3 : decide (π < 0) = false := by simpa using h3
        by_cases h4 : ε < π
        · have g4 : decide (ε < π) = true := by simpa using h4
          go_wp2
          go_quiet (fail)
          go_wp2
          go_ret
          exact SaysD.mk false _ rfl (World.drewN_drewN ..) (by simp)
        have g4 : decide (ε < π) = false := by simpa using h4
        by_cases h5 : (q.size : Int) < ε
        · have g5 : decide ((q.size : Int) < ε) = true := by simpa using h5
          go_wp2
          go_quiet (fail)
          go_wp2
          go_ret
          exact SaysD.mk false _ rfl (World.drewN_drewN ..) (by simp)
        have g5 : decide ((q.size : Int) < ε) = false := by simpa using h5
        have hg' : Hid (∀ j, j < k + 1 → Good q K P E j) := by
          intro j hj
          by_cases e : j = k
          · subst e
            refine ⟨?_, ?_, ?_, ?_, ?_⟩
            · rw [← Eκ.out]; omega
            · rw [← Eκ.out]; omega
            · rw [← Eπ.out]; omega
            · rw [← Eπ.out, ← Eε.out]; omega
            · rw [← Eε.out]; omega
          · exact hg.out j (by omega)
        go_wp2
        go_quiet (fail)
        go_wp2
        go_roundw
        case rel => exact ⟨k + 1, _, by omega, by go_num, rfl, hg'⟩
        case measure => simp [intOf]; omega
      · have hkn : k = n := by omega
        have HK : Hid (k = n) := hkn
        clear hkn
        go_wp2
        go_ret
        refine SaysD.mk true _ rfl rfl (fun _ => ⟨HL.out.symm, ?_⟩)
        have := hg.out
        rw [HK.out] at this
        exact this
  · have gl : (l == 0) = false := by simpa using hl0
    go_enter Try.func7, Try.ntmps7
    go_wp2
    go_ret
    exact SaysD.mk false 0 rfl rfl (by simp)

theorem ok_any (q : ByteArray) (ak ap ae ax : Option Addr) (nk ck nx cx np cp ne ce : Nat) (K P E : Nat → Int) (w : World) (hn : nk ≤ 1048576) (hq : q.size ≤ 1048576)
    (hK : Hid (IntsAt w ak nk K)) (hP : Hid (IntsAt w ap np P)) (hE : Hid (IntsAt w ae ne E)) :
    Calls Try.prog 7 #[.string q, .slice ak nk ck, .slice ax nx cx, .slice ap np cp, .slice ae ne ce] w fun r w' =>
      SaysD w (nk ≠ 0 ∧ nx = nk ∧ np = nk ∧ ne = nk ∧ K (nk - 1) = 0 ∧ ∀ j, j < nk → Good q K P E j) r w' := by
  by_cases h0 : nk = 0
  · subst h0
    exact ok_nil q ak ap ae ax ck nx cx np cp ne ce w _
  · by_cases h : nx ≠ nk ∨ np ≠ nk ∨ ne ≠ nk
    · exact ok_len q ak ap ae ax nk ck nx cx np cp ne ce w _ h0 h
    · obtain ⟨rfl, rfl, rfl⟩ : nx = nk ∧ np = nk ∧ ne = nk := by omega
      rcases hK.out with h1 | ⟨kb, ko, rfl, cK⟩
      · exact absurd h1 h0
      rcases hP.out with h1 | ⟨pb, po, rfl, cP⟩
      · exact absurd h1 h0
      rcases hE.out with h1 | ⟨eb, eo, rfl, cE⟩
      · exact absurd h1 h0
      refine (ok_main q ax _ ck cx cp ce kb ko pb po eb eo K P E w h0 hn hq cK cP cE).mono ?_
      rintro r w' ⟨b, d, h1, h2, h3⟩
      exact ⟨b, d, h1, h2, fun hb => ⟨h0, rfl, rfl, rfl, h3 hb⟩⟩
end Go.Proofs.Qxb6614099a
