import Derived.Test.Qxb6614099aCopy
import Derived.Lib.DecodeNEq
namespace Go.Proofs.Qxb6614099a
open Go.RowKit

/-- The byte at place j (0 beyond the end). -/
def byt (s : ByteArray) (j : Nat) : Nat := (s.get! j).toNat
theorem byt_eq {s : ByteArray} {j : Nat} (h : j < s.size) : byt s j = (s[j]'h).toNat := by
  unfold byt
  have := get_at s j h
  rw [Nat.add_zero] at this
  rw [this]
theorem byt_lt (s : ByteArray) (j : Nat) : byt s j < 256 := (s.get! j).toNat_lt

/-- 's[i]' yields byte b. -/
abbrev Idx (s : ByteArray) (i b : Int) : Prop := ∀ w, (Instr.index 9 (.string s) (.int .i64 i)).run Try.prog w = .ok (.int .u8 b) w

theorem idx_of {s : ByteArray} {j : Nat} (h : j < s.size) : Idx s (j : Int) (byt s j : Int) := by
  intro w
  rw [run_index_string w 9 s .i64 (j : Int) Try.underlying9]
  simp [h, byt_eq h]

theorem ret_int {k : IntKind} {a b : Int} (h : a = b) : Ending.returned (.int k a) = .returned (.int k b) := by rw [h]

theorem seq_low (s : ByteArray) (k : Int) (c : Int) (w : World) (h : c < 194 ∨ 244 < c) (i0 : Idx s k c) :
    Calls Try.prog 24 #[.string s, .int .i64 k] w fun r w' => r = .returned (.int .i64 1) ∧ w' = w := by
  rcases h with h | h
  · by_cases h' : c < 128
    · go_enter Try.func24, Try.ntmps24
      go_wp2
      go_ret
      exact ⟨rfl, rfl⟩
    · go_enter Try.func24, Try.ntmps24
      go_wp2
      go_ret
      exact ⟨rfl, rfl⟩
  · go_enter Try.func24, Try.ntmps24
    go_wp2
    go_ret
    exact ⟨rfl, rfl⟩

set_option maxHeartbeats 1000000 in
theorem seq_C2_short (s : ByteArray) (k : Nat) (c : Int) (w : World) (_hs : s.size ≤ 1048576) (_hk : k < s.size) (h1 : 194 ≤ c) (h2 : c < 224) (hsh : (s.size : Int) ≤ (k : Int) + 1) (i0 : Idx s k c) :
    Calls Try.prog 24 #[.string s, .int .i64 (k : Int)] w fun r w' => r = .returned (.int .i64 1) ∧ w' = w := by
  go_enter Try.func24, Try.ntmps24
  go_wp2
  go_ret
  exact ⟨rfl, rfl⟩
set_option maxHeartbeats 1000000 in
theorem seq_C2_b1 (s : ByteArray) (k : Nat) (c : Int) (b1 : Int) (w : World) (_hs : s.size ≤ 1048576) (h1 : 194 ≤ c) (h2 : c < 224) (hsh : (k : Int) + 1 < (s.size : Int)) (i0 : Idx s k c) (i1 : Idx s ((k : Int) + 1) b1) (hb : b1 < 128 ∨ 191 < b1) :
    Calls Try.prog 24 #[.string s, .int .i64 (k : Int)] w fun r w' => r = .returned (.int .i64 1) ∧ w' = w := by
  rcases hb with hb | hb
  · go_enter Try.func24, Try.ntmps24
    go_wp2
    go_ret
    exact ⟨rfl, rfl⟩
  · go_enter Try.func24, Try.ntmps24
    go_wp2
    go_ret
    exact ⟨rfl, rfl⟩
set_option maxHeartbeats 1000000 in
theorem seq_C2_rest (s : ByteArray) (k : Nat) (c : Int) (b1 : Int) (b : Nat → Int) (V : Int) (w : World) (_hs : s.size ≤ 1048576) (h1 : 194 ≤ c) (h2 : c < 224) (hsh : (k : Int) + 1 < (s.size : Int)) (i0 : Idx s k c) (i1 : Idx s ((k : Int) + 1) b1) (hb1 : 128 ≤ b1) (hb2 : b1 ≤ 191)
    (_im : Hid (∀ j : Nat, 2 ≤ j → j ≤ 1 → Idx s ((k : Int) + (j : Int)) (b j))) (_hbad : Hid (∀ j : Nat, 2 ≤ j → j ≤ 1 → (b j < 128 ∨ 191 < b j) → V = 1)) (hgood : Hid ((∀ j : Nat, 2 ≤ j → j ≤ 1 → 128 ≤ b j ∧ b j ≤ 191) → V = 1 + 1)) :
    Calls Try.prog 24 #[.string s, .int .i64 (k : Int)] w fun r w' => r = .returned (.int .i64 V) ∧ w' = w := by
  go_enter Try.func24, Try.ntmps24
  go_wp2
  go_loop [9, 10] (fun bb t => ∃ (m : Nat) (bv : Int), bb = .int .u8 bv ∧ 2 ≤ m ∧ m ≤ 1 + 1 ∧ t = .int .i64 m ∧ Hid (∀ j : Nat, 2 ≤ j → j < m → 128 ≤ b j ∧ b j ≤ 191)) (fun _ t => 1 + 1 - (intOf t).toNat)
  case atStart => exact ⟨2, b1, rfl, by omega, by omega, rfl, fun j h1 h2 => absurd h2 (by omega)⟩
  case round =>
    obtain ⟨m, bv, rfl, hm2, hmn, rfl, hg⟩ := hrel
    by_cases hle : m ≤ 1
    · exact absurd (Nat.le_trans hm2 hle) (by omega)
    · have hV : V = 1 + 1 := hgood.out (fun j h1 h2 => hg.out j h1 (by omega))
      have HV : Hid (V = 1 + 1) := hV
      clear hV
      go_wp2
      go_ret
      exact ⟨ret_int HV.out.symm, rfl⟩

set_option maxHeartbeats 1000000 in
theorem seq_E0_short (s : ByteArray) (k : Nat) (w : World) (_hs : s.size ≤ 1048576) (_hk : k < s.size)  (hsh : (s.size : Int) ≤ (k : Int) + 2) (i0 : Idx s k 224) :
    Calls Try.prog 24 #[.string s, .int .i64 (k : Int)] w fun r w' => r = .returned (.int .i64 1) ∧ w' = w := by
  go_enter Try.func24, Try.ntmps24
  go_wp2
  go_ret
  exact ⟨rfl, rfl⟩
set_option maxHeartbeats 1000000 in
theorem seq_E0_b1 (s : ByteArray) (k : Nat) (b1 : Int) (w : World) (_hs : s.size ≤ 1048576)  (hsh : (k : Int) + 2 < (s.size : Int)) (i0 : Idx s k 224) (i1 : Idx s ((k : Int) + 1) b1) (hb : b1 < 160 ∨ 191 < b1) :
    Calls Try.prog 24 #[.string s, .int .i64 (k : Int)] w fun r w' => r = .returned (.int .i64 1) ∧ w' = w := by
  rcases hb with hb | hb
  · go_enter Try.func24, Try.ntmps24
    go_wp2
    go_ret
    exact ⟨rfl, rfl⟩
  · go_enter Try.func24, Try.ntmps24
    go_wp2
    go_ret
    exact ⟨rfl, rfl⟩
set_option maxHeartbeats 1000000 in
theorem seq_E0_rest (s : ByteArray) (k : Nat) (b1 : Int) (b : Nat → Int) (V : Int) (w : World) (_hs : s.size ≤ 1048576)  (hsh : (k : Int) + 2 < (s.size : Int)) (i0 : Idx s k 224) (i1 : Idx s ((k : Int) + 1) b1) (hb1 : 160 ≤ b1) (hb2 : b1 ≤ 191)
    (im : Hid (∀ j : Nat, 2 ≤ j → j ≤ 2 → Idx s ((k : Int) + (j : Int)) (b j))) (hbad : Hid (∀ j : Nat, 2 ≤ j → j ≤ 2 → (b j < 128 ∨ 191 < b j) → V = 1)) (hgood : Hid ((∀ j : Nat, 2 ≤ j → j ≤ 2 → 128 ≤ b j ∧ b j ≤ 191) → V = 2 + 1)) :
    Calls Try.prog 24 #[.string s, .int .i64 (k : Int)] w fun r w' => r = .returned (.int .i64 V) ∧ w' = w := by
  go_enter Try.func24, Try.ntmps24
  go_wp2
  go_loop [9, 10] (fun bb t => ∃ (m : Nat) (bv : Int), bb = .int .u8 bv ∧ 2 ≤ m ∧ m ≤ 2 + 1 ∧ t = .int .i64 m ∧ Hid (∀ j : Nat, 2 ≤ j → j < m → 128 ≤ b j ∧ b j ≤ 191)) (fun _ t => 2 + 1 - (intOf t).toNat)
  case atStart => exact ⟨2, b1, rfl, by omega, by omega, rfl, fun j h1 h2 => absurd h2 (by omega)⟩
  case round =>
    obtain ⟨m, bv, rfl, hm2, hmn, rfl, hg⟩ := hrel
    by_cases hle : m ≤ 2
    · have ij := im.out m hm2 hle
      obtain ⟨bm, hbm⟩ : ∃ bm, bm = b m := ⟨_, rfl⟩
      rw [← hbm] at ij
      have HB : Hid (bm = b m) := hbm
      clear hbm
      by_cases q1 : bm < 128
      · have hV : V = 1 := hbad.out m hm2 hle (by rw [← HB.out]; exact .inl q1)
        have HV : Hid (V = 1) := hV
        clear hV
        go_wp2
        go_ret
        exact ⟨ret_int HV.out.symm, rfl⟩
      by_cases q2 : 191 < bm
      · have hV : V = 1 := hbad.out m hm2 hle (by rw [← HB.out]; exact .inr q2)
        have HV : Hid (V = 1) := hV
        clear hV
        go_wp2
        go_ret
        exact ⟨ret_int HV.out.symm, rfl⟩
      · have hg' : Hid (∀ j : Nat, 2 ≤ j → j < m + 1 → 128 ≤ b j ∧ b j ≤ 191) := by
          intro j h1 h2
          by_cases e : j = m
          · rw [e, ← HB.out]; omega
          · exact hg.out j h1 (by omega)
        go_wp2
        go_round
        case rel => exact ⟨m + 1, bm, rfl, by omega, by omega, by go_num, hg'⟩
        case measure => simp [intOf]; omega
    · have hV : V = 2 + 1 := hgood.out (fun j h1 h2 => hg.out j h1 (by omega))
      have HV : Hid (V = 2 + 1) := hV
      clear hV
      go_wp2
      go_ret
      exact ⟨ret_int HV.out.symm, rfl⟩

set_option maxHeartbeats 1000000 in
theorem seq_E1a_short (s : ByteArray) (k : Nat) (c : Int) (w : World) (_hs : s.size ≤ 1048576) (_hk : k < s.size) (h1 : 225 ≤ c) (h2 : c < 237) (hsh : (s.size : Int) ≤ (k : Int) + 2) (i0 : Idx s k c) :
    Calls Try.prog 24 #[.string s, .int .i64 (k : Int)] w fun r w' => r = .returned (.int .i64 1) ∧ w' = w := by
  go_enter Try.func24, Try.ntmps24
  go_wp2
  go_ret
  exact ⟨rfl, rfl⟩
set_option maxHeartbeats 1000000 in
theorem seq_E1a_b1 (s : ByteArray) (k : Nat) (c : Int) (b1 : Int) (w : World) (_hs : s.size ≤ 1048576) (h1 : 225 ≤ c) (h2 : c < 237) (hsh : (k : Int) + 2 < (s.size : Int)) (i0 : Idx s k c) (i1 : Idx s ((k : Int) + 1) b1) (hb : b1 < 128 ∨ 191 < b1) :
    Calls Try.prog 24 #[.string s, .int .i64 (k : Int)] w fun r w' => r = .returned (.int .i64 1) ∧ w' = w := by
  rcases hb with hb | hb
  · go_enter Try.func24, Try.ntmps24
    go_wp2
    go_ret
    exact ⟨rfl, rfl⟩
  · go_enter Try.func24, Try.ntmps24
    go_wp2
    go_ret
    exact ⟨rfl, rfl⟩
set_option maxHeartbeats 1000000 in
theorem seq_E1a_rest (s : ByteArray) (k : Nat) (c : Int) (b1 : Int) (b : Nat → Int) (V : Int) (w : World) (_hs : s.size ≤ 1048576) (h1 : 225 ≤ c) (h2 : c < 237) (hsh : (k : Int) + 2 < (s.size : Int)) (i0 : Idx s k c) (i1 : Idx s ((k : Int) + 1) b1) (hb1 : 128 ≤ b1) (hb2 : b1 ≤ 191)
    (im : Hid (∀ j : Nat, 2 ≤ j → j ≤ 2 → Idx s ((k : Int) + (j : Int)) (b j))) (hbad : Hid (∀ j : Nat, 2 ≤ j → j ≤ 2 → (b j < 128 ∨ 191 < b j) → V = 1)) (hgood : Hid ((∀ j : Nat, 2 ≤ j → j ≤ 2 → 128 ≤ b j ∧ b j ≤ 191) → V = 2 + 1)) :
    Calls Try.prog 24 #[.string s, .int .i64 (k : Int)] w fun r w' => r = .returned (.int .i64 V) ∧ w' = w := by
  go_enter Try.func24, Try.ntmps24
  go_wp2
  go_loop [9, 10] (fun bb t => ∃ (m : Nat) (bv : Int), bb = .int .u8 bv ∧ 2 ≤ m ∧ m ≤ 2 + 1 ∧ t = .int .i64 m ∧ Hid (∀ j : Nat, 2 ≤ j → j < m → 128 ≤ b j ∧ b j ≤ 191)) (fun _ t => 2 + 1 - (intOf t).toNat)
  case atStart => exact ⟨2, b1, rfl, by omega, by omega, rfl, fun j h1 h2 => absurd h2 (by omega)⟩
  case round =>
    obtain ⟨m, bv, rfl, hm2, hmn, rfl, hg⟩ := hrel
    by_cases hle : m ≤ 2
    · have ij := im.out m hm2 hle
      obtain ⟨bm, hbm⟩ : ∃ bm, bm = b m := ⟨_, rfl⟩
      rw [← hbm] at ij
      have HB : Hid (bm = b m) := hbm
      clear hbm
      by_cases q1 : bm < 128
      · have hV : V = 1 := hbad.out m hm2 hle (by rw [← HB.out]; exact .inl q1)
        have HV : Hid (V = 1) := hV
        clear hV
        go_wp2
        go_ret
        exact ⟨ret_int HV.out.symm, rfl⟩
      by_cases q2 : 191 < bm
      · have hV : V = 1 := hbad.out m hm2 hle (by rw [← HB.out]; exact .inr q2)
        have HV : Hid (V = 1) := hV
        clear hV
        go_wp2
        go_ret
        exact ⟨ret_int HV.out.symm, rfl⟩
      · have hg' : Hid (∀ j : Nat, 2 ≤ j → j < m + 1 → 128 ≤ b j ∧ b j ≤ 191) := by
          intro j h1 h2
          by_cases e : j = m
          · rw [e, ← HB.out]; omega
          · exact hg.out j h1 (by omega)
        go_wp2
        go_round
        case rel => exact ⟨m + 1, bm, rfl, by omega, by omega, by go_num, hg'⟩
        case measure => simp [intOf]; omega
    · have hV : V = 2 + 1 := hgood.out (fun j h1 h2 => hg.out j h1 (by omega))
      have HV : Hid (V = 2 + 1) := hV
      clear hV
      go_wp2
      go_ret
      exact ⟨ret_int HV.out.symm, rfl⟩

set_option maxHeartbeats 1000000 in
theorem seq_ED_short (s : ByteArray) (k : Nat) (w : World) (_hs : s.size ≤ 1048576) (_hk : k < s.size)  (hsh : (s.size : Int) ≤ (k : Int) + 2) (i0 : Idx s k 237) :
    Calls Try.prog 24 #[.string s, .int .i64 (k : Int)] w fun r w' => r = .returned (.int .i64 1) ∧ w' = w := by
  go_enter Try.func24, Try.ntmps24
  go_wp2
  go_ret
  exact ⟨rfl, rfl⟩
set_option maxHeartbeats 1000000 in
theorem seq_ED_b1 (s : ByteArray) (k : Nat) (b1 : Int) (w : World) (_hs : s.size ≤ 1048576)  (hsh : (k : Int) + 2 < (s.size : Int)) (i0 : Idx s k 237) (i1 : Idx s ((k : Int) + 1) b1) (hb : b1 < 128 ∨ 159 < b1) :
    Calls Try.prog 24 #[.string s, .int .i64 (k : Int)] w fun r w' => r = .returned (.int .i64 1) ∧ w' = w := by
  rcases hb with hb | hb
  · go_enter Try.func24, Try.ntmps24
    go_wp2
    go_ret
    exact ⟨rfl, rfl⟩
  · go_enter Try.func24, Try.ntmps24
    go_wp2
    go_ret
    exact ⟨rfl, rfl⟩
set_option maxHeartbeats 1000000 in
theorem seq_ED_rest (s : ByteArray) (k : Nat) (b1 : Int) (b : Nat → Int) (V : Int) (w : World) (_hs : s.size ≤ 1048576)  (hsh : (k : Int) + 2 < (s.size : Int)) (i0 : Idx s k 237) (i1 : Idx s ((k : Int) + 1) b1) (hb1 : 128 ≤ b1) (hb2 : b1 ≤ 159)
    (im : Hid (∀ j : Nat, 2 ≤ j → j ≤ 2 → Idx s ((k : Int) + (j : Int)) (b j))) (hbad : Hid (∀ j : Nat, 2 ≤ j → j ≤ 2 → (b j < 128 ∨ 191 < b j) → V = 1)) (hgood : Hid ((∀ j : Nat, 2 ≤ j → j ≤ 2 → 128 ≤ b j ∧ b j ≤ 191) → V = 2 + 1)) :
    Calls Try.prog 24 #[.string s, .int .i64 (k : Int)] w fun r w' => r = .returned (.int .i64 V) ∧ w' = w := by
  go_enter Try.func24, Try.ntmps24
  go_wp2
  go_loop [9, 10] (fun bb t => ∃ (m : Nat) (bv : Int), bb = .int .u8 bv ∧ 2 ≤ m ∧ m ≤ 2 + 1 ∧ t = .int .i64 m ∧ Hid (∀ j : Nat, 2 ≤ j → j < m → 128 ≤ b j ∧ b j ≤ 191)) (fun _ t => 2 + 1 - (intOf t).toNat)
  case atStart => exact ⟨2, b1, rfl, by omega, by omega, rfl, fun j h1 h2 => absurd h2 (by omega)⟩
  case round =>
    obtain ⟨m, bv, rfl, hm2, hmn, rfl, hg⟩ := hrel
    by_cases hle : m ≤ 2
    · have ij := im.out m hm2 hle
      obtain ⟨bm, hbm⟩ : ∃ bm, bm = b m := ⟨_, rfl⟩
      rw [← hbm] at ij
      have HB : Hid (bm = b m) := hbm
      clear hbm
      by_cases q1 : bm < 128
      · have hV : V = 1 := hbad.out m hm2 hle (by rw [← HB.out]; exact .inl q1)
        have HV : Hid (V = 1) := hV
        clear hV
        go_wp2
        go_ret
        exact ⟨ret_int HV.out.symm, rfl⟩
      by_cases q2 : 191 < bm
      · have hV : V = 1 := hbad.out m hm2 hle (by rw [← HB.out]; exact .inr q2)
        have HV : Hid (V = 1) := hV
        clear hV
        go_wp2
        go_ret
        exact ⟨ret_int HV.out.symm, rfl⟩
      · have hg' : Hid (∀ j : Nat, 2 ≤ j → j < m + 1 → 128 ≤ b j ∧ b j ≤ 191) := by
          intro j h1 h2
          by_cases e : j = m
          · rw [e, ← HB.out]; omega
          · exact hg.out j h1 (by omega)
        go_wp2
        go_round
        case rel => exact ⟨m + 1, bm, rfl, by omega, by omega, by go_num, hg'⟩
        case measure => simp [intOf]; omega
    · have hV : V = 2 + 1 := hgood.out (fun j h1 h2 => hg.out j h1 (by omega))
      have HV : Hid (V = 2 + 1) := hV
      clear hV
      go_wp2
      go_ret
      exact ⟨ret_int HV.out.symm, rfl⟩

set_option maxHeartbeats 1000000 in
theorem seq_E1b_short (s : ByteArray) (k : Nat) (c : Int) (w : World) (_hs : s.size ≤ 1048576) (_hk : k < s.size) (h1 : 238 ≤ c) (h2 : c < 240) (hsh : (s.size : Int) ≤ (k : Int) + 2) (i0 : Idx s k c) :
    Calls Try.prog 24 #[.string s, .int .i64 (k : Int)] w fun r w' => r = .returned (.int .i64 1) ∧ w' = w := by
  go_enter Try.func24, Try.ntmps24
  go_wp2
  go_ret
  exact ⟨rfl, rfl⟩
set_option maxHeartbeats 1000000 in
theorem seq_E1b_b1 (s : ByteArray) (k : Nat) (c : Int) (b1 : Int) (w : World) (_hs : s.size ≤ 1048576) (h1 : 238 ≤ c) (h2 : c < 240) (hsh : (k : Int) + 2 < (s.size : Int)) (i0 : Idx s k c) (i1 : Idx s ((k : Int) + 1) b1) (hb : b1 < 128 ∨ 191 < b1) :
    Calls Try.prog 24 #[.string s, .int .i64 (k : Int)] w fun r w' => r = .returned (.int .i64 1) ∧ w' = w := by
  rcases hb with hb | hb
  · go_enter Try.func24, Try.ntmps24
    go_wp2
    go_ret
    exact ⟨rfl, rfl⟩
  · go_enter Try.func24, Try.ntmps24
    go_wp2
    go_ret
    exact ⟨rfl, rfl⟩
set_option maxHeartbeats 1000000 in
theorem seq_E1b_rest (s : ByteArray) (k : Nat) (c : Int) (b1 : Int) (b : Nat → Int) (V : Int) (w : World) (_hs : s.size ≤ 1048576) (h1 : 238 ≤ c) (h2 : c < 240) (hsh : (k : Int) + 2 < (s.size : Int)) (i0 : Idx s k c) (i1 : Idx s ((k : Int) + 1) b1) (hb1 : 128 ≤ b1) (hb2 : b1 ≤ 191)
    (im : Hid (∀ j : Nat, 2 ≤ j → j ≤ 2 → Idx s ((k : Int) + (j : Int)) (b j))) (hbad : Hid (∀ j : Nat, 2 ≤ j → j ≤ 2 → (b j < 128 ∨ 191 < b j) → V = 1)) (hgood : Hid ((∀ j : Nat, 2 ≤ j → j ≤ 2 → 128 ≤ b j ∧ b j ≤ 191) → V = 2 + 1)) :
    Calls Try.prog 24 #[.string s, .int .i64 (k : Int)] w fun r w' => r = .returned (.int .i64 V) ∧ w' = w := by
  go_enter Try.func24, Try.ntmps24
  go_wp2
  go_loop [9, 10] (fun bb t => ∃ (m : Nat) (bv : Int), bb = .int .u8 bv ∧ 2 ≤ m ∧ m ≤ 2 + 1 ∧ t = .int .i64 m ∧ Hid (∀ j : Nat, 2 ≤ j → j < m → 128 ≤ b j ∧ b j ≤ 191)) (fun _ t => 2 + 1 - (intOf t).toNat)
  case atStart => exact ⟨2, b1, rfl, by omega, by omega, rfl, fun j h1 h2 => absurd h2 (by omega)⟩
  case round =>
    obtain ⟨m, bv, rfl, hm2, hmn, rfl, hg⟩ := hrel
    by_cases hle : m ≤ 2
    · have ij := im.out m hm2 hle
      obtain ⟨bm, hbm⟩ : ∃ bm, bm = b m := ⟨_, rfl⟩
      rw [← hbm] at ij
      have HB : Hid (bm = b m) := hbm
      clear hbm
      by_cases q1 : bm < 128
      · have hV : V = 1 := hbad.out m hm2 hle (by rw [← HB.out]; exact .inl q1)
        have HV : Hid (V = 1) := hV
        clear hV
        go_wp2
        go_ret
        exact ⟨ret_int HV.out.symm, rfl⟩
      by_cases q2 : 191 < bm
      · have hV : V = 1 := hbad.out m hm2 hle (by rw [← HB.out]; exact .inr q2)
        have HV : Hid (V = 1) := hV
        clear hV
        go_wp2
        go_ret
        exact ⟨ret_int HV.out.symm, rfl⟩
      · have hg' : Hid (∀ j : Nat, 2 ≤ j → j < m + 1 → 128 ≤ b j ∧ b j ≤ 191) := by
          intro j h1 h2
          by_cases e : j = m
          · rw [e, ← HB.out]; omega
          · exact hg.out j h1 (by omega)
        go_wp2
        go_round
        case rel => exact ⟨m + 1, bm, rfl, by omega, by omega, by go_num, hg'⟩
        case measure => simp [intOf]; omega
    · have hV : V = 2 + 1 := hgood.out (fun j h1 h2 => hg.out j h1 (by omega))
      have HV : Hid (V = 2 + 1) := hV
      clear hV
      go_wp2
      go_ret
      exact ⟨ret_int HV.out.symm, rfl⟩

set_option maxHeartbeats 1000000 in
theorem seq_F0_short (s : ByteArray) (k : Nat) (w : World) (_hs : s.size ≤ 1048576) (_hk : k < s.size)  (hsh : (s.size : Int) ≤ (k : Int) + 3) (i0 : Idx s k 240) :
    Calls Try.prog 24 #[.string s, .int .i64 (k : Int)] w fun r w' => r = .returned (.int .i64 1) ∧ w' = w := by
  go_enter Try.func24, Try.ntmps24
  go_wp2
  go_ret
  exact ⟨rfl, rfl⟩
set_option maxHeartbeats 1000000 in
theorem seq_F0_b1 (s : ByteArray) (k : Nat) (b1 : Int) (w : World) (_hs : s.size ≤ 1048576)  (hsh : (k : Int) + 3 < (s.size : Int)) (i0 : Idx s k 240) (i1 : Idx s ((k : Int) + 1) b1) (hb : b1 < 144 ∨ 191 < b1) :
    Calls Try.prog 24 #[.string s, .int .i64 (k : Int)] w fun r w' => r = .returned (.int .i64 1) ∧ w' = w := by
  rcases hb with hb | hb
  · go_enter Try.func24, Try.ntmps24
    go_wp2
    go_ret
    exact ⟨rfl, rfl⟩
  · go_enter Try.func24, Try.ntmps24
    go_wp2
    go_ret
    exact ⟨rfl, rfl⟩
set_option maxHeartbeats 1000000 in
theorem seq_F0_rest (s : ByteArray) (k : Nat) (b1 : Int) (b : Nat → Int) (V : Int) (w : World) (_hs : s.size ≤ 1048576)  (hsh : (k : Int) + 3 < (s.size : Int)) (i0 : Idx s k 240) (i1 : Idx s ((k : Int) + 1) b1) (hb1 : 144 ≤ b1) (hb2 : b1 ≤ 191)
    (im : Hid (∀ j : Nat, 2 ≤ j → j ≤ 3 → Idx s ((k : Int) + (j : Int)) (b j))) (hbad : Hid (∀ j : Nat, 2 ≤ j → j ≤ 3 → (b j < 128 ∨ 191 < b j) → V = 1)) (hgood : Hid ((∀ j : Nat, 2 ≤ j → j ≤ 3 → 128 ≤ b j ∧ b j ≤ 191) → V = 3 + 1)) :
    Calls Try.prog 24 #[.string s, .int .i64 (k : Int)] w fun r w' => r = .returned (.int .i64 V) ∧ w' = w := by
  go_enter Try.func24, Try.ntmps24
  go_wp2
  go_loop [9, 10] (fun bb t => ∃ (m : Nat) (bv : Int), bb = .int .u8 bv ∧ 2 ≤ m ∧ m ≤ 3 + 1 ∧ t = .int .i64 m ∧ Hid (∀ j : Nat, 2 ≤ j → j < m → 128 ≤ b j ∧ b j ≤ 191)) (fun _ t => 3 + 1 - (intOf t).toNat)
  case atStart => exact ⟨2, b1, rfl, by omega, by omega, rfl, fun j h1 h2 => absurd h2 (by omega)⟩
  case round =>
    obtain ⟨m, bv, rfl, hm2, hmn, rfl, hg⟩ := hrel
    by_cases hle : m ≤ 3
    · have ij := im.out m hm2 hle
      obtain ⟨bm, hbm⟩ : ∃ bm, bm = b m := ⟨_, rfl⟩
      rw [← hbm] at ij
      have HB : Hid (bm = b m) := hbm
      clear hbm
      by_cases q1 : bm < 128
      · have hV : V = 1 := hbad.out m hm2 hle (by rw [← HB.out]; exact .inl q1)
        have HV : Hid (V = 1) := hV
        clear hV
        go_wp2
        go_ret
        exact ⟨ret_int HV.out.symm, rfl⟩
      by_cases q2 : 191 < bm
      · have hV : V = 1 := hbad.out m hm2 hle (by rw [← HB.out]; exact .inr q2)
        have HV : Hid (V = 1) := hV
        clear hV
        go_wp2
        go_ret
        exact ⟨ret_int HV.out.symm, rfl⟩
      · have hg' : Hid (∀ j : Nat, 2 ≤ j → j < m + 1 → 128 ≤ b j ∧ b j ≤ 191) := by
          intro j h1 h2
          by_cases e : j = m
          · rw [e, ← HB.out]; omega
          · exact hg.out j h1 (by omega)
        go_wp2
        go_round
        case rel => exact ⟨m + 1, bm, rfl, by omega, by omega, by go_num, hg'⟩
        case measure => simp [intOf]; omega
    · have hV : V = 3 + 1 := hgood.out (fun j h1 h2 => hg.out j h1 (by omega))
      have HV : Hid (V = 3 + 1) := hV
      clear hV
      go_wp2
      go_ret
      exact ⟨ret_int HV.out.symm, rfl⟩

set_option maxHeartbeats 1000000 in
theorem seq_F1_short (s : ByteArray) (k : Nat) (c : Int) (w : World) (_hs : s.size ≤ 1048576) (_hk : k < s.size) (h1 : 241 ≤ c) (h2 : c < 244) (hsh : (s.size : Int) ≤ (k : Int) + 3) (i0 : Idx s k c) :
    Calls Try.prog 24 #[.string s, .int .i64 (k : Int)] w fun r w' => r = .returned (.int .i64 1) ∧ w' = w := by
  go_enter Try.func24, Try.ntmps24
  go_wp2
  go_ret
  exact ⟨rfl, rfl⟩
set_option maxHeartbeats 1000000 in
theorem seq_F1_b1 (s : ByteArray) (k : Nat) (c : Int) (b1 : Int) (w : World) (_hs : s.size ≤ 1048576) (h1 : 241 ≤ c) (h2 : c < 244) (hsh : (k : Int) + 3 < (s.size : Int)) (i0 : Idx s k c) (i1 : Idx s ((k : Int) + 1) b1) (hb : b1 < 128 ∨ 191 < b1) :
    Calls Try.prog 24 #[.string s, .int .i64 (k : Int)] w fun r w' => r = .returned (.int .i64 1) ∧ w' = w := by
  rcases hb with hb | hb
  · go_enter Try.func24, Try.ntmps24
    go_wp2
    go_ret
    exact ⟨rfl, rfl⟩
  · go_enter Try.func24, Try.ntmps24
    go_wp2
    go_ret
    exact ⟨rfl, rfl⟩
set_option maxHeartbeats 1000000 in
theorem seq_F1_rest (s : ByteArray) (k : Nat) (c : Int) (b1 : Int) (b : Nat → Int) (V : Int) (w : World) (_hs : s.size ≤ 1048576) (h1 : 241 ≤ c) (h2 : c < 244) (hsh : (k : Int) + 3 < (s.size : Int)) (i0 : Idx s k c) (i1 : Idx s ((k : Int) + 1) b1) (hb1 : 128 ≤ b1) (hb2 : b1 ≤ 191)
    (im : Hid (∀ j : Nat, 2 ≤ j → j ≤ 3 → Idx s ((k : Int) + (j : Int)) (b j))) (hbad : Hid (∀ j : Nat, 2 ≤ j → j ≤ 3 → (b j < 128 ∨ 191 < b j) → V = 1)) (hgood : Hid ((∀ j : Nat, 2 ≤ j → j ≤ 3 → 128 ≤ b j ∧ b j ≤ 191) → V = 3 + 1)) :
    Calls Try.prog 24 #[.string s, .int .i64 (k : Int)] w fun r w' => r = .returned (.int .i64 V) ∧ w' = w := by
  go_enter Try.func24, Try.ntmps24
  go_wp2
  go_loop [9, 10] (fun bb t => ∃ (m : Nat) (bv : Int), bb = .int .u8 bv ∧ 2 ≤ m ∧ m ≤ 3 + 1 ∧ t = .int .i64 m ∧ Hid (∀ j : Nat, 2 ≤ j → j < m → 128 ≤ b j ∧ b j ≤ 191)) (fun _ t => 3 + 1 - (intOf t).toNat)
  case atStart => exact ⟨2, b1, rfl, by omega, by omega, rfl, fun j h1 h2 => absurd h2 (by omega)⟩
  case round =>
    obtain ⟨m, bv, rfl, hm2, hmn, rfl, hg⟩ := hrel
    by_cases hle : m ≤ 3
    · have ij := im.out m hm2 hle
      obtain ⟨bm, hbm⟩ : ∃ bm, bm = b m := ⟨_, rfl⟩
      rw [← hbm] at ij
      have HB : Hid (bm = b m) := hbm
      clear hbm
      by_cases q1 : bm < 128
      · have hV : V = 1 := hbad.out m hm2 hle (by rw [← HB.out]; exact .inl q1)
        have HV : Hid (V = 1) := hV
        clear hV
        go_wp2
        go_ret
        exact ⟨ret_int HV.out.symm, rfl⟩
      by_cases q2 : 191 < bm
      · have hV : V = 1 := hbad.out m hm2 hle (by rw [← HB.out]; exact .inr q2)
        have HV : Hid (V = 1) := hV
        clear hV
        go_wp2
        go_ret
        exact ⟨ret_int HV.out.symm, rfl⟩
      · have hg' : Hid (∀ j : Nat, 2 ≤ j → j < m + 1 → 128 ≤ b j ∧ b j ≤ 191) := by
          intro j h1 h2
          by_cases e : j = m
          · rw [e, ← HB.out]; omega
          · exact hg.out j h1 (by omega)
        go_wp2
        go_round
        case rel => exact ⟨m + 1, bm, rfl, by omega, by omega, by go_num, hg'⟩
        case measure => simp [intOf]; omega
    · have hV : V = 3 + 1 := hgood.out (fun j h1 h2 => hg.out j h1 (by omega))
      have HV : Hid (V = 3 + 1) := hV
      clear hV
      go_wp2
      go_ret
      exact ⟨ret_int HV.out.symm, rfl⟩

set_option maxHeartbeats 1000000 in
theorem seq_F4_short (s : ByteArray) (k : Nat) (w : World) (_hs : s.size ≤ 1048576) (_hk : k < s.size)  (hsh : (s.size : Int) ≤ (k : Int) + 3) (i0 : Idx s k 244) :
    Calls Try.prog 24 #[.string s, .int .i64 (k : Int)] w fun r w' => r = .returned (.int .i64 1) ∧ w' = w := by
  go_enter Try.func24, Try.ntmps24
  go_wp2
  go_ret
  exact ⟨rfl, rfl⟩
set_option maxHeartbeats 1000000 in
theorem seq_F4_b1 (s : ByteArray) (k : Nat) (b1 : Int) (w : World) (_hs : s.size ≤ 1048576)  (hsh : (k : Int) + 3 < (s.size : Int)) (i0 : Idx s k 244) (i1 : Idx s ((k : Int) + 1) b1) (hb : b1 < 128 ∨ 143 < b1) :
    Calls Try.prog 24 #[.string s, .int .i64 (k : Int)] w fun r w' => r = .returned (.int .i64 1) ∧ w' = w := by
  rcases hb with hb | hb
  · go_enter Try.func24, Try.ntmps24
    go_wp2
    go_ret
    exact ⟨rfl, rfl⟩
  · go_enter Try.func24, Try.ntmps24
    go_wp2
    go_ret
    exact ⟨rfl, rfl⟩
set_option maxHeartbeats 1000000 in
theorem seq_F4_rest (s : ByteArray) (k : Nat) (b1 : Int) (b : Nat → Int) (V : Int) (w : World) (_hs : s.size ≤ 1048576)  (hsh : (k : Int) + 3 < (s.size : Int)) (i0 : Idx s k 244) (i1 : Idx s ((k : Int) + 1) b1) (hb1 : 128 ≤ b1) (hb2 : b1 ≤ 143)
    (im : Hid (∀ j : Nat, 2 ≤ j → j ≤ 3 → Idx s ((k : Int) + (j : Int)) (b j))) (hbad : Hid (∀ j : Nat, 2 ≤ j → j ≤ 3 → (b j < 128 ∨ 191 < b j) → V = 1)) (hgood : Hid ((∀ j : Nat, 2 ≤ j → j ≤ 3 → 128 ≤ b j ∧ b j ≤ 191) → V = 3 + 1)) :
    Calls Try.prog 24 #[.string s, .int .i64 (k : Int)] w fun r w' => r = .returned (.int .i64 V) ∧ w' = w := by
  go_enter Try.func24, Try.ntmps24
  go_wp2
  go_loop [9, 10] (fun bb t => ∃ (m : Nat) (bv : Int), bb = .int .u8 bv ∧ 2 ≤ m ∧ m ≤ 3 + 1 ∧ t = .int .i64 m ∧ Hid (∀ j : Nat, 2 ≤ j → j < m → 128 ≤ b j ∧ b j ≤ 191)) (fun _ t => 3 + 1 - (intOf t).toNat)
  case atStart => exact ⟨2, b1, rfl, by omega, by omega, rfl, fun j h1 h2 => absurd h2 (by omega)⟩
  case round =>
    obtain ⟨m, bv, rfl, hm2, hmn, rfl, hg⟩ := hrel
    by_cases hle : m ≤ 3
    · have ij := im.out m hm2 hle
      obtain ⟨bm, hbm⟩ : ∃ bm, bm = b m := ⟨_, rfl⟩
      rw [← hbm] at ij
      have HB : Hid (bm = b m) := hbm
      clear hbm
      by_cases q1 : bm < 128
      · have hV : V = 1 := hbad.out m hm2 hle (by rw [← HB.out]; exact .inl q1)
        have HV : Hid (V = 1) := hV
        clear hV
        go_wp2
        go_ret
        exact ⟨ret_int HV.out.symm, rfl⟩
      by_cases q2 : 191 < bm
      · have hV : V = 1 := hbad.out m hm2 hle (by rw [← HB.out]; exact .inr q2)
        have HV : Hid (V = 1) := hV
        clear hV
        go_wp2
        go_ret
        exact ⟨ret_int HV.out.symm, rfl⟩
      · have hg' : Hid (∀ j : Nat, 2 ≤ j → j < m + 1 → 128 ≤ b j ∧ b j ≤ 191) := by
          intro j h1 h2
          by_cases e : j = m
          · rw [e, ← HB.out]; omega
          · exact hg.out j h1 (by omega)
        go_wp2
        go_round
        case rel => exact ⟨m + 1, bm, rfl, by omega, by omega, by go_num, hg'⟩
        case measure => simp [intOf]; omega
    · have hV : V = 3 + 1 := hgood.out (fun j h1 h2 => hg.out j h1 (by omega))
      have HV : Hid (V = 3 + 1) := hV
      clear hV
      go_wp2
      go_ret
      exact ⟨ret_int HV.out.symm, rfl⟩

end Go.Proofs.Qxb6614099a
