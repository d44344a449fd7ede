import Derived.Test.Qxb6614099aBytes
namespace Go.Proofs.Qxb6614099a
open Go.RowKit

/-- It answers a small number, the world as it was. -/
def SaysInt (w : World) (r : Ending) (w' : World) : Prop := ∃ v : Int, r = .returned (.int .i64 v) ∧ w' = w ∧ 0 ≤ v ∧ v ≤ 2097152
theorem SaysInt.mk {w w' : World} {r : Ending} (v : Int) (h1 : r = .returned (.int .i64 v)) (h2 : w' = w) (h3 : 0 ≤ v) (h4 : v ≤ 2097152) : SaysInt w r w' := ⟨v, h1, h2, h3, h4⟩

theorem addLen_any (a n : Int) (w : World) (h0 : 0 ≤ a) (_h1 : a ≤ 2097152) (h2 : 0 ≤ n) (_h3 : n ≤ 9223372036854775807) :
    Calls Try.prog 13 #[.int .i64 a, .int .i64 n] w fun r w' => SaysInt w r w' := by
  go_enter Try.func13, Try.ntmps13
  go_wp2
  all_goals
    go_ret
    exact SaysInt.mk _ rfl rfl (by omega) (by omega)

theorem addWords_any (a n : Int) (w : World) (h0 : 0 ≤ a) (h1 : a ≤ 2097152) (h2 : 0 ≤ n) (h3 : n ≤ 9223372036854775807) :
    Calls Try.prog 14 #[.int .i64 a, .int .i64 n] w fun r w' => SaysInt w r w' := by
  by_cases hb : 131072 < n
  · go_enter Try.func14, Try.ntmps14
    go_wp2
    go_ret
    exact SaysInt.mk _ rfl rfl (by omega) (by omega)
  · go_enter Try.func14, Try.ntmps14
    go_wp2_with fail
    refine (addLen_any a (8 * n) _ h0 h1 (by omega) (by omega)).mono ?_
    rintro r w' ⟨v, rfl, rfl, v0, v1⟩
    go_wp2
    go_ret
    exact SaysInt.mk v rfl rfl v0 v1

set_option maxHeartbeats 2000000 in
theorem size_any (q : ByteArray) (ak ap ae ax : Option Addr) (nk ck nx cx np cp ne ce : Nat) (X : Nat → ByteArray) (w : World)
    (hq : Ln q.size) (hk : Ln nk) (hx : Ln nx) (hp : Ln np) (he : Ln ne) (hX : Hid (StrsAt w ax nx X)) :
    Calls Try.prog 6 #[.string q, .slice ak nk ck, .slice ax nx cx, .slice ap np cp, .slice ae ne ce] w fun r w' => SaysInt w r w' := by
  go_enter Try.func6, Try.ntmps6
  go_wp2_with fail
  refine (addLen_any 0 _ _ (by omega) (by omega) (by omega) hq).mono ?_
  rintro r w' ⟨v1, rfl, rfl, a1, b1⟩
  go_wp2_with fail
  refine (addWords_any v1 _ _ a1 b1 (by omega) hk).mono ?_
  rintro r w' ⟨v2, rfl, rfl, a2, b2⟩
  clear a1 b1
  go_wp2_with fail
  refine (addWords_any v2 _ _ a2 b2 (by omega) hp).mono ?_
  rintro r w' ⟨v3, rfl, rfl, a3, b3⟩
  clear a2 b2
  go_wp2_with fail
  refine (addWords_any v3 _ _ a3 b3 (by omega) he).mono ?_
  rintro r w' ⟨v4, rfl, rfl, a4, b4⟩
  clear a3 b3
  go_wp2_with fail
  refine (addWords_any v4 _ _ a4 b4 (by omega) hx).mono ?_
  rintro r w' ⟨v5, rfl, rfl, a5, b5⟩
  clear a4 b4
  go_wp2_with fail
  refine (addWords_any v5 _ _ a5 b5 (by omega) hx).mono ?_
  rintro r w' ⟨v6, rfl, rfl, a6, b6⟩
  clear a5 b5
  go_wp2
  rcases hX.out with rfl | ⟨xb, xo, rfl, hX'⟩
  · go_loop [11, 12] (fun z t => ∃ s : Int, t = .int .i64 0 ∧ z = .int .i64 s ∧ 0 ≤ s ∧ s ≤ 2097152) (fun _ _ => 0)
    case atStart => exact ⟨v6, rfl, rfl, a6, b6⟩
    case round =>
      obtain ⟨s, rfl, rfl, s0, s1⟩ := hrel
      go_wp2
      go_ret
      exact SaysInt.mk s rfl rfl s0 s1
  · go_loop [11, 12] (fun z t => ∃ (k : Nat) (s : Int), k ≤ nx ∧ t = .int .i64 k ∧ z = .int .i64 s ∧ 0 ≤ s ∧ s ≤ 2097152) (fun _ t => nx - (intOf t).toNat)
    case atStart => exact ⟨0, v6, Nat.zero_le _, rfl, rfl, a6, b6⟩
    case round =>
      obtain ⟨k, s, hkn, rfl, rfl, s0, s1⟩ := hrel
      by_cases hlt : k < nx
      · obtain ⟨hc, hl⟩ := hX' k hlt
        by_cases hs : s ≤ 1048576
        · go_wp2_with fail
          refine (addLen_any s _ _ s0 s1 (by omega) hl).mono ?_
          rintro r w'' ⟨v7, rfl, rfl, a7, b7⟩
          go_wp2
          go_round
          case rel => exact ⟨k + 1, v7, by omega, by go_num, rfl, a7, b7⟩
          case measure => simp [intOf]; omega
        · go_wp2
          go_ret
          exact SaysInt.mk s rfl rfl s0 s1
      · go_wp2
        go_ret
        exact SaysInt.mk s rfl rfl s0 s1
end Go.Proofs.Qxb6614099a
