import Derived.Test.Qxb6614099aPlain
import Derived.LoopTactic
namespace Go.Proofs.Qxb6614099a
open Go.RowKit

/-- A length that comes in. -/
abbrev Ln (n : Nat) : Prop := (n : Int) ≤ 9223372036854775807

/-- It answers a bool, the world as it was; where it says yes P holds. -/
def Says (w : World) (P : Prop) (r : Ending) (w' : World) : Prop := ∃ b, r = .returned (.bool b) ∧ w' = w ∧ (b = true → P)
theorem Says.mk {w w' : World} {P : Prop} {r : Ending} (b : Bool) (h1 : r = .returned (.bool b)) (h2 : w' = w) (h3 : b = true → P) : Says w P r w' := ⟨b, h1, h2, h3⟩

/-- The strings of a []string that came in. -/
def StrsAt (w : World) (ax : Option Addr) (nx : Nat) (X : Nat → ByteArray) : Prop :=
  nx = 0 ∨ ∃ xb xo, ax = some ⟨xb, xo, none⟩ ∧ ∀ j, j < nx → w.cell? ⟨xb, xo + j, none⟩ = some (.string (X j)) ∧ Ln (X j).size

set_option maxHeartbeats 2000000 in
theorem bytes5_some (q : ByteArray) (ak ap ae : Option Addr) (nk ck nx cx np cp ne ce : Nat) (xb xo : Nat) (X : Nat → ByteArray) (i : Int) (ro : Bool) (w : World)
    (hq : Ln q.size) (hk : Ln nk) (hx : Ln nx) (hp : Ln np) (he : Ln ne)
    (hX : ∀ j, j < nx → w.cell? ⟨xb, xo + j, none⟩ = some (.string (X j)) ∧ Ln (X j).size) :
    Calls Try.prog 5 #[.string q, .slice ak nk ck, .slice (some ⟨xb, xo, none⟩) nx cx, .slice ap np cp, .slice ae ne ce, .int .i64 i, .bool ro] w fun r w' =>
      Says w (q.size ≤ 1048576 ∧ nk ≤ 1048576 ∧ nx ≤ 1048576 ∧ np ≤ 1048576 ∧ ne ≤ 1048576) r w' := by
  go_enter Try.func5, Try.ntmps5
  go_wp2
  all_goals first | (go_ret; exact Says.mk false rfl rfl (by simp)) | skip
  go_loop [15, 16] (fun z t => ∃ k s : Nat, k ≤ nx ∧ t = .int .i64 k ∧ z = .int .i64 s ∧ s ≤ 1048576) (fun _ t => nx - (intOf t).toNat)
  case atStart => exact ⟨0, q.size + nk + nx, Nat.zero_le _, rfl, rfl, by omega⟩
  case round =>
    obtain ⟨k, s, hkn, rfl, rfl, hs⟩ := hrel
    by_cases hlt : k < nx
    · obtain ⟨hc, hl⟩ := hX k hlt
      go_wp2
      all_goals first
        | (go_ret; exact Says.mk false rfl rfl (by simp))
        | (go_round
           case rel => exact ⟨k + 1, s + (X k).size, by omega, by go_num, by go_num, by omega⟩
           case measure => simp [intOf]; omega)
    · go_wp2
      all_goals first
        | (go_ret; exact Says.mk false rfl rfl (by simp))
        | (go_ret; exact Says.mk true rfl rfl (by intro _; omega))

set_option maxHeartbeats 2000000 in
theorem bytes5_none (q : ByteArray) (ak ax ap ae : Option Addr) (nk ck cx np cp ne ce : Nat) (i : Int) (ro : Bool) (w : World)
    (hq : Ln q.size) (hk : Ln nk) (hp : Ln np) (he : Ln ne) :
    Calls Try.prog 5 #[.string q, .slice ak nk ck, .slice ax 0 cx, .slice ap np cp, .slice ae ne ce, .int .i64 i, .bool ro] w fun r w' =>
      Says w (q.size ≤ 1048576 ∧ nk ≤ 1048576 ∧ 0 ≤ 1048576 ∧ np ≤ 1048576 ∧ ne ≤ 1048576) r w' := by
  go_enter Try.func5, Try.ntmps5
  go_wp2
  all_goals first | (go_ret; exact Says.mk false rfl rfl (by simp)) | skip
  go_loop [15, 16] (fun z t => ∃ s : Nat, t = .int .i64 0 ∧ z = .int .i64 s ∧ s ≤ 1048576) (fun _ _ => 0)
  case atStart => exact ⟨q.size + nk, rfl, rfl, by omega⟩
  case round =>
    obtain ⟨s, rfl, rfl, hs⟩ := hrel
    go_wp2
    all_goals first
      | (go_ret; exact Says.mk false rfl rfl (by simp))
      | (go_ret; exact Says.mk true rfl rfl (by intro _; omega))

theorem bytes5_any (q : ByteArray) (ak ax ap ae : Option Addr) (nk ck nx cx np cp ne ce : Nat) (X : Nat → ByteArray) (i : Int) (ro : Bool) (w : World)
    (hq : Ln q.size) (hk : Ln nk) (hx : Ln nx) (hp : Ln np) (he : Ln ne) (hX : Hid (StrsAt w ax nx X)) :
    Calls Try.prog 5 #[.string q, .slice ak nk ck, .slice ax nx cx, .slice ap np cp, .slice ae ne ce, .int .i64 i, .bool ro] w fun r w' =>
      Says w (q.size ≤ 1048576 ∧ nk ≤ 1048576 ∧ nx ≤ 1048576 ∧ np ≤ 1048576 ∧ ne ≤ 1048576) r w' := by
  rcases hX.out with rfl | ⟨xb, xo, rfl, h⟩
  · exact bytes5_none q ak ax ap ae nk ck cx np cp ne ce i ro w hq hk hp he
  · exact bytes5_some q ak ap ae nk ck nx cx np cp ne ce xb xo X i ro w hq hk hx hp he h

set_option maxHeartbeats 2000000 in
theorem bytes11_some (q : ByteArray) (ak ap ae : Option Addr) (nk ck nx cx np cp ne ce : Nat) (xb xo : Nat) (X : Nat → ByteArray) (i : Int) (w : World)
    (hq : Ln q.size) (hk : Ln nk) (hx : Ln nx) (hp : Ln np) (he : Ln ne)
    (hX : ∀ j, j < nx → w.cell? ⟨xb, xo + j, none⟩ = some (.string (X j)) ∧ Ln (X j).size) :
    Calls Try.prog 11 #[.string q, .slice ak nk ck, .slice (some ⟨xb, xo, none⟩) nx cx, .slice ap np cp, .slice ae ne ce, .int .i64 i] w fun r w' =>
      Says w (q.size ≤ 1048576 ∧ nk ≤ 1048576 ∧ nx ≤ 1048576 ∧ np ≤ 1048576 ∧ ne ≤ 1048576) r w' := by
  go_enter Try.func11, Try.ntmps11
  go_wp2
  all_goals first | (go_ret; exact Says.mk false rfl rfl (by simp)) | skip
  go_loop [13, 14] (fun z t => ∃ k s : Nat, k ≤ nx ∧ t = .int .i64 k ∧ z = .int .i64 s ∧ s ≤ 1048576) (fun _ t => nx - (intOf t).toNat)
  case atStart => exact ⟨0, q.size + nk + nx, Nat.zero_le _, rfl, rfl, by omega⟩
  case round =>
    obtain ⟨k, s, hkn, rfl, rfl, hs⟩ := hrel
    by_cases hlt : k < nx
    · obtain ⟨hc, hl⟩ := hX k hlt
      go_wp2
      all_goals first
        | (go_ret; exact Says.mk false rfl rfl (by simp))
        | (go_round
           case rel => exact ⟨k + 1, s + (X k).size, by omega, by go_num, by go_num, by omega⟩
           case measure => simp [intOf]; omega)
    · go_wp2
      all_goals first
        | (go_ret; exact Says.mk false rfl rfl (by simp))
        | (go_ret; exact Says.mk true rfl rfl (by intro _; omega))

set_option maxHeartbeats 2000000 in
theorem bytes11_none (q : ByteArray) (ak ax ap ae : Option Addr) (nk ck cx np cp ne ce : Nat) (i : Int) (w : World)
    (hq : Ln q.size) (hk : Ln nk) (hp : Ln np) (he : Ln ne) :
    Calls Try.prog 11 #[.string q, .slice ak nk ck, .slice ax 0 cx, .slice ap np cp, .slice ae ne ce, .int .i64 i] w fun r w' =>
      Says w (q.size ≤ 1048576 ∧ nk ≤ 1048576 ∧ 0 ≤ 1048576 ∧ np ≤ 1048576 ∧ ne ≤ 1048576) r w' := by
  go_enter Try.func11, Try.ntmps11
  go_wp2
  all_goals first | (go_ret; exact Says.mk false rfl rfl (by simp)) | skip
  go_loop [13, 14] (fun z t => ∃ s : Nat, t = .int .i64 0 ∧ z = .int .i64 s ∧ s ≤ 1048576) (fun _ _ => 0)
  case atStart => exact ⟨q.size + nk, rfl, rfl, by omega⟩
  case round =>
    obtain ⟨s, rfl, rfl, hs⟩ := hrel
    go_wp2
    all_goals first
      | (go_ret; exact Says.mk false rfl rfl (by simp))
      | (go_ret; exact Says.mk true rfl rfl (by intro _; omega))

theorem bytes11_any (q : ByteArray) (ak ax ap ae : Option Addr) (nk ck nx cx np cp ne ce : Nat) (X : Nat → ByteArray) (i : Int) (w : World)
    (hq : Ln q.size) (hk : Ln nk) (hx : Ln nx) (hp : Ln np) (he : Ln ne) (hX : Hid (StrsAt w ax nx X)) :
    Calls Try.prog 11 #[.string q, .slice ak nk ck, .slice ax nx cx, .slice ap np cp, .slice ae ne ce, .int .i64 i] w fun r w' =>
      Says w (q.size ≤ 1048576 ∧ nk ≤ 1048576 ∧ nx ≤ 1048576 ∧ np ≤ 1048576 ∧ ne ≤ 1048576) r w' := by
  rcases hX.out with rfl | ⟨xb, xo, rfl, h⟩
  · exact bytes11_none q ak ax ap ae nk ck cx np cp ne ce i w hq hk hp he
  · exact bytes11_some q ak ap ae nk ck nx cx np cp ne ce xb xo X i w hq hk hx hp he h

end Go.Proofs.Qxb6614099a
