import Derived.Test.Qxb6614099aSeq
import Derived.Lib.RuneCount
namespace Go.Proofs.Qxb6614099a
open Go.RowKit

theorem width_at (s : ByteArray) (k : Nat) : (Utf8.decode s k).2 = (Lib.decodeN (s.size - k) (byt s k) (byt s (k + 1)) (byt s (k + 2)) (byt s (k + 3))).2 := by
  rw [Lib.decode_at]; rfl

theorem width_low (s : ByteArray) (k : Nat) (h : byt s k < 194 ∨ 244 < byt s k) : (Utf8.decode s k).2 = 1 := by
  rw [width_at]
  have h0 := byt_lt s k
  by_cases h1 : byt s k < 128
  · rw [Lib.ascii_eq _ _ _ _ _ (by simp [Lib.firstT, h1])]
  · have hx : Lib.firstT (byt s k) = 241 := by
      unfold Lib.firstT
      repeat' split
      all_goals omega
    rw [Lib.bad_eq _ _ _ _ _ h0 hx]

theorem slow_sh (n b0 b1 b2 b3 sz lo hi : Nat) (h : n < sz) : (Lib.slowN n b0 b1 b2 b3 sz lo hi).2 = 1 := by
  unfold Lib.slowN; rw [if_pos h]
theorem slow_b1 (n b0 b1 b2 b3 sz lo hi : Nat) (h : ¬ n < sz) (h1 : b1 < lo ∨ hi < b1) : (Lib.slowN n b0 b1 b2 b3 sz lo hi).2 = 1 := by
  unfold Lib.slowN; rw [if_neg h, if_pos h1]
theorem slow2 (n b0 b1 b2 b3 lo hi : Nat) (h : ¬ n < 2) (h1 : ¬ (b1 < lo ∨ hi < b1)) : (Lib.slowN n b0 b1 b2 b3 2 lo hi).2 = 2 := by
  unfold Lib.slowN; rw [if_neg h, if_neg h1, if_pos (by omega)]
theorem slow3 (n b0 b1 b2 b3 lo hi : Nat) (h : ¬ n < 3) (h1 : ¬ (b1 < lo ∨ hi < b1)) : (Lib.slowN n b0 b1 b2 b3 3 lo hi).2 = if b2 < 128 ∨ 191 < b2 then 1 else 3 := by
  unfold Lib.slowN; rw [if_neg h, if_neg h1, if_neg (by omega)]
  by_cases q : b2 < 128 ∨ 191 < b2
  · rw [if_pos q, if_pos q]
  · rw [if_neg q, if_neg q, if_pos (by omega)]
theorem slow4 (n b0 b1 b2 b3 lo hi : Nat) (h : ¬ n < 4) (h1 : ¬ (b1 < lo ∨ hi < b1)) : (Lib.slowN n b0 b1 b2 b3 4 lo hi).2 = if b2 < 128 ∨ 191 < b2 then 1 else if b3 < 128 ∨ 191 < b3 then 1 else 4 := by
  unfold Lib.slowN; rw [if_neg h, if_neg h1, if_neg (by omega)]
  by_cases q : b2 < 128 ∨ 191 < b2
  · rw [if_pos q, if_pos q]
  · rw [if_neg q, if_neg q, if_neg (by omega)]
    by_cases q' : b3 < 128 ∨ 191 < b3
    · rw [if_pos q', if_pos q']
    · rw [if_neg q', if_neg q']
theorem wseq_C2 (s : ByteArray) (k : Nat) (w : World) (hs : s.size ≤ 1048576) (hk : k < s.size) (h : 194 ≤ byt s k ∧ byt s k < 224) :
    Calls Try.prog 24 #[.string s, .int .i64 (k : Int)] w fun r w' => r = .returned (.int .i64 ((Utf8.decode s k).2 : Int)) ∧ w' = w := by
  have hw : (Utf8.decode s k).2 = (Lib.slowN (s.size - k) (byt s k) (byt s (k + 1)) (byt s (k + 2)) (byt s (k + 3)) 2 128 191).2 := by
    rw [width_at, Lib.slow_C2 _ _ _ _ _ (by omega) (byt_lt _ _) (byt_lt _ _) (byt_lt _ _) h]
  have i0 := idx_of hk
  by_cases hsh : s.size ≤ k + 1
  · rw [hw, slow_sh _ _ _ _ _ _ _ _ (by omega)]
    exact seq_C2_short s k _ w hs hk (by omega) (by omega) (by omega) i0
  · have i1 : Idx s ((k : Int) + 1) (byt s (k + 1) : Int) := idx_of (j := k + 1) (by omega)
    by_cases hb : byt s (k + 1) < 128 ∨ 191 < byt s (k + 1)
    · rw [hw, slow_b1 _ _ _ _ _ _ _ _ (by omega) hb]
      exact seq_C2_b1 s k _ _ w hs (by omega) (by omega) (by omega) i0 i1 (by omega)
    refine seq_C2_rest s k _ _ (fun j => (byt s (k + j) : Int)) _ w hs (by omega) (by omega) (by omega) i0 i1 (by omega) (by omega) (fun j h1 h2 => absurd (Nat.le_trans h1 h2) (by omega)) (fun j h1 h2 => absurd (Nat.le_trans h1 h2) (by omega)) (fun _ => ?_)
    rw [hw, slow2 _ _ _ _ _ _ _ (by omega) hb]; rfl

theorem wseq_E0 (s : ByteArray) (k : Nat) (w : World) (hs : s.size ≤ 1048576) (hk : k < s.size) (h : byt s k = 224) :
    Calls Try.prog 24 #[.string s, .int .i64 (k : Int)] w fun r w' => r = .returned (.int .i64 ((Utf8.decode s k).2 : Int)) ∧ w' = w := by
  have hw : (Utf8.decode s k).2 = (Lib.slowN (s.size - k) (byt s k) (byt s (k + 1)) (byt s (k + 2)) (byt s (k + 3)) 3 160 191).2 := by
    rw [width_at, Lib.slow_E0 _ _ _ _ _ (by omega) (byt_lt _ _) (byt_lt _ _) (byt_lt _ _) h]
  have i0 := idx_of hk
  rw [h] at i0
  by_cases hsh : s.size ≤ k + 2
  · rw [hw, slow_sh _ _ _ _ _ _ _ _ (by omega)]
    exact seq_E0_short s k w hs hk (by omega) i0
  · have i1 : Idx s ((k : Int) + 1) (byt s (k + 1) : Int) := idx_of (j := k + 1) (by omega)
    by_cases hb : byt s (k + 1) < 160 ∨ 191 < byt s (k + 1)
    · rw [hw, slow_b1 _ _ _ _ _ _ _ _ (by omega) hb]
      exact seq_E0_b1 s k _ w hs (by omega) i0 i1 (by omega)
    have hv := slow3 (s.size - k) (byt s k) (byt s (k + 1)) (byt s (k + 2)) (byt s (k + 3)) 160 191 (by omega) hb
    refine seq_E0_rest s k _ (fun j => (byt s (k + j) : Int)) _ w hs (by omega) i0 i1 (by omega) (by omega) (fun j h1 h2 => idx_of (j := k + j) (by omega)) (fun j h1 h2 hb' => ?_) (fun hg => ?_)
    · obtain rfl : j = 2 := by omega
      rw [hw, hv, if_pos (by omega)]; rfl
    · have h2 := hg 2 (by omega) (by omega)
      rw [hw, hv, if_neg (by omega)]; rfl

theorem wseq_E1a (s : ByteArray) (k : Nat) (w : World) (hs : s.size ≤ 1048576) (hk : k < s.size) (h : 225 ≤ byt s k ∧ byt s k < 237) :
    Calls Try.prog 24 #[.string s, .int .i64 (k : Int)] w fun r w' => r = .returned (.int .i64 ((Utf8.decode s k).2 : Int)) ∧ w' = w := by
  have hw : (Utf8.decode s k).2 = (Lib.slowN (s.size - k) (byt s k) (byt s (k + 1)) (byt s (k + 2)) (byt s (k + 3)) 3 128 191).2 := by
    rw [width_at, Lib.slow_E1 _ _ _ _ _ (by omega) (byt_lt _ _) (byt_lt _ _) (byt_lt _ _) (.inl h)]
  have i0 := idx_of hk
  by_cases hsh : s.size ≤ k + 2
  · rw [hw, slow_sh _ _ _ _ _ _ _ _ (by omega)]
    exact seq_E1a_short s k _ w hs hk (by omega) (by omega) (by omega) i0
  · have i1 : Idx s ((k : Int) + 1) (byt s (k + 1) : Int) := idx_of (j := k + 1) (by omega)
    by_cases hb : byt s (k + 1) < 128 ∨ 191 < byt s (k + 1)
    · rw [hw, slow_b1 _ _ _ _ _ _ _ _ (by omega) hb]
      exact seq_E1a_b1 s k _ _ w hs (by omega) (by omega) (by omega) i0 i1 (by omega)
    have hv := slow3 (s.size - k) (byt s k) (byt s (k + 1)) (byt s (k + 2)) (byt s (k + 3)) 128 191 (by omega) hb
    refine seq_E1a_rest s k _ _ (fun j => (byt s (k + j) : Int)) _ w hs (by omega) (by omega) (by omega) i0 i1 (by omega) (by omega) (fun j h1 h2 => idx_of (j := k + j) (by omega)) (fun j h1 h2 hb' => ?_) (fun hg => ?_)
    · obtain rfl : j = 2 := by omega
      rw [hw, hv, if_pos (by omega)]; rfl
    · have h2 := hg 2 (by omega) (by omega)
      rw [hw, hv, if_neg (by omega)]; rfl

theorem wseq_ED (s : ByteArray) (k : Nat) (w : World) (hs : s.size ≤ 1048576) (hk : k < s.size) (h : byt s k = 237) :
    Calls Try.prog 24 #[.string s, .int .i64 (k : Int)] w fun r w' => r = .returned (.int .i64 ((Utf8.decode s k).2 : Int)) ∧ w' = w := by
  have hw : (Utf8.decode s k).2 = (Lib.slowN (s.size - k) (byt s k) (byt s (k + 1)) (byt s (k + 2)) (byt s (k + 3)) 3 128 159).2 := by
    rw [width_at, Lib.slow_ED _ _ _ _ _ (by omega) (byt_lt _ _) (byt_lt _ _) (byt_lt _ _) h]
  have i0 := idx_of hk
  rw [h] at i0
  by_cases hsh : s.size ≤ k + 2
  · rw [hw, slow_sh _ _ _ _ _ _ _ _ (by omega)]
    exact seq_ED_short s k w hs hk (by omega) i0
  · have i1 : Idx s ((k : Int) + 1) (byt s (k + 1) : Int) := idx_of (j := k + 1) (by omega)
    by_cases hb : byt s (k + 1) < 128 ∨ 159 < byt s (k + 1)
    · rw [hw, slow_b1 _ _ _ _ _ _ _ _ (by omega) hb]
      exact seq_ED_b1 s k _ w hs (by omega) i0 i1 (by omega)
    have hv := slow3 (s.size - k) (byt s k) (byt s (k + 1)) (byt s (k + 2)) (byt s (k + 3)) 128 159 (by omega) hb
    refine seq_ED_rest s k _ (fun j => (byt s (k + j) : Int)) _ w hs (by omega) i0 i1 (by omega) (by omega) (fun j h1 h2 => idx_of (j := k + j) (by omega)) (fun j h1 h2 hb' => ?_) (fun hg => ?_)
    · obtain rfl : j = 2 := by omega
      rw [hw, hv, if_pos (by omega)]; rfl
    · have h2 := hg 2 (by omega) (by omega)
      rw [hw, hv, if_neg (by omega)]; rfl

theorem wseq_E1b (s : ByteArray) (k : Nat) (w : World) (hs : s.size ≤ 1048576) (hk : k < s.size) (h : 238 ≤ byt s k ∧ byt s k < 240) :
    Calls Try.prog 24 #[.string s, .int .i64 (k : Int)] w fun r w' => r = .returned (.int .i64 ((Utf8.decode s k).2 : Int)) ∧ w' = w := by
  have hw : (Utf8.decode s k).2 = (Lib.slowN (s.size - k) (byt s k) (byt s (k + 1)) (byt s (k + 2)) (byt s (k + 3)) 3 128 191).2 := by
    rw [width_at, Lib.slow_E1 _ _ _ _ _ (by omega) (byt_lt _ _) (byt_lt _ _) (byt_lt _ _) (.inr h)]
  have i0 := idx_of hk
  by_cases hsh : s.size ≤ k + 2
  · rw [hw, slow_sh _ _ _ _ _ _ _ _ (by omega)]
    exact seq_E1b_short s k _ w hs hk (by omega) (by omega) (by omega) i0
  · have i1 : Idx s ((k : Int) + 1) (byt s (k + 1) : Int) := idx_of (j := k + 1) (by omega)
    by_cases hb : byt s (k + 1) < 128 ∨ 191 < byt s (k + 1)
    · rw [hw, slow_b1 _ _ _ _ _ _ _ _ (by omega) hb]
      exact seq_E1b_b1 s k _ _ w hs (by omega) (by omega) (by omega) i0 i1 (by omega)
    have hv := slow3 (s.size - k) (byt s k) (byt s (k + 1)) (byt s (k + 2)) (byt s (k + 3)) 128 191 (by omega) hb
    refine seq_E1b_rest s k _ _ (fun j => (byt s (k + j) : Int)) _ w hs (by omega) (by omega) (by omega) i0 i1 (by omega) (by omega) (fun j h1 h2 => idx_of (j := k + j) (by omega)) (fun j h1 h2 hb' => ?_) (fun hg => ?_)
    · obtain rfl : j = 2 := by omega
      rw [hw, hv, if_pos (by omega)]; rfl
    · have h2 := hg 2 (by omega) (by omega)
      rw [hw, hv, if_neg (by omega)]; rfl

theorem wseq_F0 (s : ByteArray) (k : Nat) (w : World) (hs : s.size ≤ 1048576) (hk : k < s.size) (h : byt s k = 240) :
    Calls Try.prog 24 #[.string s, .int .i64 (k : Int)] w fun r w' => r = .returned (.int .i64 ((Utf8.decode s k).2 : Int)) ∧ w' = w := by
  have hw : (Utf8.decode s k).2 = (Lib.slowN (s.size - k) (byt s k) (byt s (k + 1)) (byt s (k + 2)) (byt s (k + 3)) 4 144 191).2 := by
    rw [width_at, Lib.slow_F0 _ _ _ _ _ (by omega) (byt_lt _ _) (byt_lt _ _) (byt_lt _ _) h]
  have i0 := idx_of hk
  rw [h] at i0
  by_cases hsh : s.size ≤ k + 3
  · rw [hw, slow_sh _ _ _ _ _ _ _ _ (by omega)]
    exact seq_F0_short s k w hs hk (by omega) i0
  · have i1 : Idx s ((k : Int) + 1) (byt s (k + 1) : Int) := idx_of (j := k + 1) (by omega)
    by_cases hb : byt s (k + 1) < 144 ∨ 191 < byt s (k + 1)
    · rw [hw, slow_b1 _ _ _ _ _ _ _ _ (by omega) hb]
      exact seq_F0_b1 s k _ w hs (by omega) i0 i1 (by omega)
    have hv := slow4 (s.size - k) (byt s k) (byt s (k + 1)) (byt s (k + 2)) (byt s (k + 3)) 144 191 (by omega) hb
    refine seq_F0_rest s k _ (fun j => (byt s (k + j) : Int)) _ w hs (by omega) i0 i1 (by omega) (by omega) (fun j h1 h2 => idx_of (j := k + j) (by omega)) (fun j h1 h2 hb' => ?_) (fun hg => ?_)
    · rw [hw, hv]
      by_cases q : byt s (k + 2) < 128 ∨ 191 < byt s (k + 2)
      · rw [if_pos q]; rfl
      · rw [if_neg q]
        obtain rfl : j = 3 := by
          by_cases e : j = 2
          · subst e; exact absurd hb' (by simp; omega)
          · omega
        rw [if_pos (by omega)]; rfl
    · have h2 := hg 2 (by omega) (by omega)
      have h3 := hg 3 (by omega) (by omega)
      rw [hw, hv, if_neg (by omega), if_neg (by omega)]; rfl

theorem wseq_F1 (s : ByteArray) (k : Nat) (w : World) (hs : s.size ≤ 1048576) (hk : k < s.size) (h : 241 ≤ byt s k ∧ byt s k < 244) :
    Calls Try.prog 24 #[.string s, .int .i64 (k : Int)] w fun r w' => r = .returned (.int .i64 ((Utf8.decode s k).2 : Int)) ∧ w' = w := by
  have hw : (Utf8.decode s k).2 = (Lib.slowN (s.size - k) (byt s k) (byt s (k + 1)) (byt s (k + 2)) (byt s (k + 3)) 4 128 191).2 := by
    rw [width_at, Lib.slow_F1 _ _ _ _ _ (by omega) (byt_lt _ _) (byt_lt _ _) (byt_lt _ _) h]
  have i0 := idx_of hk
  by_cases hsh : s.size ≤ k + 3
  · rw [hw, slow_sh _ _ _ _ _ _ _ _ (by omega)]
    exact seq_F1_short s k _ w hs hk (by omega) (by omega) (by omega) i0
  · have i1 : Idx s ((k : Int) + 1) (byt s (k + 1) : Int) := idx_of (j := k + 1) (by omega)
    by_cases hb : byt s (k + 1) < 128 ∨ 191 < byt s (k + 1)
    · rw [hw, slow_b1 _ _ _ _ _ _ _ _ (by omega) hb]
      exact seq_F1_b1 s k _ _ w hs (by omega) (by omega) (by omega) i0 i1 (by omega)
    have hv := slow4 (s.size - k) (byt s k) (byt s (k + 1)) (byt s (k + 2)) (byt s (k + 3)) 128 191 (by omega) hb
    refine seq_F1_rest s k _ _ (fun j => (byt s (k + j) : Int)) _ w hs (by omega) (by omega) (by omega) i0 i1 (by omega) (by omega) (fun j h1 h2 => idx_of (j := k + j) (by omega)) (fun j h1 h2 hb' => ?_) (fun hg => ?_)
    · rw [hw, hv]
      by_cases q : byt s (k + 2) < 128 ∨ 191 < byt s (k + 2)
      · rw [if_pos q]; rfl
      · rw [if_neg q]
        obtain rfl : j = 3 := by
          by_cases e : j = 2
          · subst e; exact absurd hb' (by simp; omega)
          · omega
        rw [if_pos (by omega)]; rfl
    · have h2 := hg 2 (by omega) (by omega)
      have h3 := hg 3 (by omega) (by omega)
      rw [hw, hv, if_neg (by omega), if_neg (by omega)]; rfl

theorem wseq_F4 (s : ByteArray) (k : Nat) (w : World) (hs : s.size ≤ 1048576) (hk : k < s.size) (h : byt s k = 244) :
    Calls Try.prog 24 #[.string s, .int .i64 (k : Int)] w fun r w' => r = .returned (.int .i64 ((Utf8.decode s k).2 : Int)) ∧ w' = w := by
  have hw : (Utf8.decode s k).2 = (Lib.slowN (s.size - k) (byt s k) (byt s (k + 1)) (byt s (k + 2)) (byt s (k + 3)) 4 128 143).2 := by
    rw [width_at, Lib.slow_F4 _ _ _ _ _ (by omega) (byt_lt _ _) (byt_lt _ _) (byt_lt _ _) h]
  have i0 := idx_of hk
  rw [h] at i0
  by_cases hsh : s.size ≤ k + 3
  · rw [hw, slow_sh _ _ _ _ _ _ _ _ (by omega)]
    exact seq_F4_short s k w hs hk (by omega) i0
  · have i1 : Idx s ((k : Int) + 1) (byt s (k + 1) : Int) := idx_of (j := k + 1) (by omega)
    by_cases hb : byt s (k + 1) < 128 ∨ 143 < byt s (k + 1)
    · rw [hw, slow_b1 _ _ _ _ _ _ _ _ (by omega) hb]
      exact seq_F4_b1 s k _ w hs (by omega) i0 i1 (by omega)
    have hv := slow4 (s.size - k) (byt s k) (byt s (k + 1)) (byt s (k + 2)) (byt s (k + 3)) 128 143 (by omega) hb
    refine seq_F4_rest s k _ (fun j => (byt s (k + j) : Int)) _ w hs (by omega) i0 i1 (by omega) (by omega) (fun j h1 h2 => idx_of (j := k + j) (by omega)) (fun j h1 h2 hb' => ?_) (fun hg => ?_)
    · rw [hw, hv]
      by_cases q : byt s (k + 2) < 128 ∨ 191 < byt s (k + 2)
      · rw [if_pos q]; rfl
      · rw [if_neg q]
        obtain rfl : j = 3 := by
          by_cases e : j = 2
          · subst e; exact absurd hb' (by simp; omega)
          · omega
        rw [if_pos (by omega)]; rfl
    · have h2 := hg 2 (by omega) (by omega)
      have h3 := hg 3 (by omega) (by omega)
      rw [hw, hv, if_neg (by omega), if_neg (by omega)]; rfl

theorem seq_any (s : ByteArray) (k : Nat) (w : World) (hs : s.size ≤ 1048576) (hk : k < s.size) :
    Calls Try.prog 24 #[.string s, .int .i64 (k : Int)] w fun r w' => r = .returned (.int .i64 ((Utf8.decode s k).2 : Int)) ∧ w' = w := by
  by_cases h : byt s k < 194 ∨ 244 < byt s k
  · rw [width_low s k h]
    exact seq_low s k _ w (by omega) (idx_of hk)
  by_cases h1 : byt s k < 224
  · exact wseq_C2 s k w hs hk (by omega)
  by_cases h2 : byt s k = 224
  · exact wseq_E0 s k w hs hk h2
  by_cases h3 : byt s k < 237
  · exact wseq_E1a s k w hs hk (by omega)
  by_cases h4 : byt s k = 237
  · exact wseq_ED s k w hs hk h4
  by_cases h5 : byt s k < 240
  · exact wseq_E1b s k w hs hk (by omega)
  by_cases h6 : byt s k = 240
  · exact wseq_F0 s k w hs hk h6
  by_cases h7 : byt s k < 244
  · exact wseq_F1 s k w hs hk (by omega)
  · exact wseq_F4 s k w hs hk (by omega)

theorem width_le (s : ByteArray) (k : Nat) : (Utf8.decode s k).2 ≤ 4 := by
  unfold Utf8.decode
  simp only
  repeat' split
  all_goals simp

set_option maxHeartbeats 1000000 in
theorem rune_any (s : ByteArray) (w : World) (hs : s.size ≤ 1048576) : Calls Try.prog 18 #[.string s] w fun r w' => r = .returned (.int .i64 (Lib.runeCount s : Int)) ∧ w' = w := by
  go_enter Try.func18, Try.ntmps18
  go_wp2
  go_loop [3, 4] (fun n t => ∃ (pos b acc : Nat), t = .int .i64 pos ∧ n = .int .i64 acc ∧ Hid (acc + Lib.runeCountFrom s b pos = Lib.runeCount s) ∧ s.size ≤ pos + b ∧ acc ≤ pos ∧ pos ≤ s.size + 3) (fun _ t => s.size - (intOf t).toNat)
  case atStart => exact ⟨0, s.size, 0, rfl, rfl, by show 0 + _ = _; simp [Lib.runeCount], by omega, Nat.le_refl _, by omega⟩
  case round =>
    obtain ⟨pos, b, acc, rfl, rfl, hc, hb, ha, hp3⟩ := hrel
    by_cases hp : pos < s.size
    · have hwd := Lib.decode_width_pos s pos hp
      have hwl := width_le s pos
      obtain ⟨wd, hwd'⟩ : ∃ wd, (Utf8.decode s pos).2 = wd := ⟨_, rfl⟩
      rw [hwd'] at hwd hwl
      have HW : Hid ((Utf8.decode s pos).2 = wd) := hwd'
      clear hwd'
      go_wp2_with fail
      refine (seq_any s pos _ hs hp).mono ?_
      rw [HW.out]
      rintro r w' ⟨rfl, rfl⟩
      go_wp2
      go_round
      case rel =>
        cases b with
        | zero => omega
        | succ b =>
          refine ⟨pos + wd, b, acc + 1, by go_num, by go_num, ?_, by omega, by omega, by omega⟩
          have := hc.out
          show acc + 1 + _ = _
          rw [← this]
          simp only [Lib.runeCountFrom, if_pos hp, HW.out]
          omega
      case measure => simp [intOf]; omega
    · go_wp2
      go_ret
      have := hc.out
      rw [Lib.runeCountFrom_end s b pos hp, Nat.add_zero] at this
      rw [← this]
      exact ⟨rfl, rfl⟩
end Go.Proofs.Qxb6614099a
