import Derived.Test.Qxb6614099aPeek
import Derived.Lib.RuneCount
import Derived.Laws.RangeString
import Derived.Laws.RangeAny
import Derived.LoopTactic
namespace Go.Proofs.Qxb6614099a
open Go.RowKit

/-- Is token i the bare word kw? -/
def kwB (τ : TK) (i : Nat) (kw : ByteArray) : Bool := τ.kd i == 1 && (τ.tx i).toList == kw.toList

set_option maxHeartbeats 400000 in
theorem kw_core (pb : Nat) (k p e : Int) (t kw : ByteArray) (W : World)
    (hpk : Calls Try.prog 25 #[.pointer (some ⟨pb, 0, none⟩)] W fun r W' => r = .returned (.agg #[.int .i64 k, .string t, .int .i64 p, .int .i64 e]) ∧ Hid (Below W.heap.size W W')) :
    Calls Try.prog 20 #[.pointer (some ⟨pb, 0, none⟩), .string kw] W fun r W' => r = .returned (.bool (k == 1 && t.toList == kw.toList)) ∧ Hid (Below W.heap.size W W') := by
  by_cases hk : k = 1
  all_goals
    go_enter Try.func20, Try.ntmps20
    go_wp2_with fail
    refine hpk.mono ?_
    rintro r w1 ⟨rfl, hb⟩
    go_wp2
    go_ret
    exact ⟨by simp [hk], hb.out.trans ((below_alloc _ _).mono hb.out.size)⟩

theorem kw_any {τ : TK} {tb pb i : Nat} {W : World} (kw : ByteArray) (ok : Hid τ.Ok) (h : Hid (PS τ tb pb i W)) (hi : i < τ.n) :
    Calls Try.prog 20 #[.pointer (some ⟨pb, 0, none⟩), .string kw] W fun r W' => r = .returned (.bool (kwB τ i kw)) ∧ Hid (PS τ tb pb i W') ∧ Hid (Below W.heap.size W W') := by
  refine (kw_core pb _ _ _ _ kw W (peek_any ok h hi)).mono ?_
  rintro r W' ⟨rfl, hb⟩
  exact ⟨rfl, h.out.below hb.out, hb⟩

theorem below_iter (w : World) (s : ByteArray) (pos : Nat) : Below w.heap.size w (w.iter s pos) := below_alloc w _

set_option maxHeartbeats 1000000 in
theorem runes_any (s : ByteArray) (w : World) (hs : s.size < 9223372036854775807) :
    Calls Try.prog 29 #[.string s] w fun e w' => e = .returned (.int .i64 (Lib.runeCount s)) ∧ Hid (Below w.heap.size w w') := by
  go_enter Try.func29, Try.ntmps29
  go_wp2
  go_loopw [2] (fun n w' => ∃ (pos b acc : Nat), w' = w.iter s pos ∧ n = .int .i64 acc ∧ acc + Lib.runeCountFrom s b pos = Lib.runeCount s ∧ s.size ≤ pos + b ∧ acc ≤ pos) (fun _ w' => s.size - w'.iterPos w.heap.size)
  case atStart => exact ⟨0, s.size, 0, rfl, rfl, by simp [Lib.runeCount], by omega, Nat.le_refl _⟩
  case round =>
    obtain ⟨pos, b, acc, rfl, rfl, hc, hb, ha⟩ := hrel
    by_cases hp : pos < s.size
    · have hnx : ∀ ty, (Instr.next (.pointer (some ⟨w.heap.size, 0, none⟩)) true ty).run Try.prog (w.iter s pos) = _ := fun ty => run_next_any w s pos ty hp
      have hwd := Lib.decode_width_pos s pos hp
      go_wp2
      go_roundw
      case rel =>
        cases b with
        | zero => omega
        | succ b =>
          refine ⟨pos + (Utf8.decode s pos).2, b, acc + 1, rfl, by go_num, ?_, by omega, by omega⟩
          rw [← hc]
          simp [Lib.runeCountFrom, hp]
          omega
      case measure =>
        simp
        omega
    · have hnx : ∀ ty, (Instr.next (.pointer (some ⟨w.heap.size, 0, none⟩)) true ty).run Try.prog (w.iter s pos) = _ := fun ty => run_next_end w s pos ty hp
      go_wp2
      go_ret
      rw [Lib.runeCountFrom_end s b pos hp, Nat.add_zero] at hc
      subst hc
      exact ⟨rfl, below_iter _ _ _⟩

/-- PostgreSQL's position of byte offset p in q. -/
def posn (q : ByteArray) (p : Int) : Int := (Lib.runeCount (q.extract 0 p.toNat) : Int) + 1

set_option maxHeartbeats 400000 in
theorem position_any (q : ByteArray) (p : Int) (w : World) (hq : q.size ≤ 1048576) (h0 : 0 ≤ p) (h1 : p ≤ q.size) :
    Calls Try.prog 28 #[.string q, .int .i64 p] w fun e w' => e = .returned (.int .i64 (posn q p)) ∧ Hid (Below w.heap.size w w') := by
  have hle := Lib.runeCount_le (q.extract 0 p.toNat)
  have hsz : (q.extract 0 p.toNat).size ≤ 1048576 := by simp; omega
  have hle2 : (Lib.runeCount (q.extract 0 p.toNat) : Int) ≤ 1048576 := by omega
  clear hle
  go_enter Try.func28, Try.ntmps28
  go_wp2_with fail
  refine (runes_any _ _ (by omega)).mono ?_
  rintro r w1 ⟨rfl, hb⟩
  go_wp2
  go_ret
  exact ⟨rfl, hb⟩

/-- A parse error lies in block eb. -/
def ErrAt (W : World) (eb : Nat) (msg : ByteArray) (pos : Int) : Prop :=
  W.heap[eb]? = some (.cells #[.string ⟨#[52, 50, 54, 48, 49]⟩, .string msg, .string ⟨#[]⟩, .string ⟨#[]⟩, .int .i64 pos] 34 (0, 0))

set_option maxHeartbeats 400000 in
theorem errAt_any (q : ByteArray) (p : Int) (msg : ByteArray) (w : World) (hq : q.size ≤ 1048576) (h0 : 0 ≤ p) (h1 : p ≤ q.size) :
    Calls Try.prog 26 #[.string q, .int .i64 p, .string msg] w fun e w' => ∃ eb, e = .returned (.pointer (some ⟨eb, 0, none⟩)) ∧ Hid (w.heap.size ≤ eb) ∧ Hid (ErrAt w' eb msg (posn q p)) ∧ Hid (Below w.heap.size w w') := by
  go_enter Try.func26, Try.ntmps26
  go_wp2_with fail
  refine (position_any q p _ hq h0 h1).mono ?_
  rintro r w1 ⟨rfl, hb⟩
  go_wp2
  go_ret
  exact ⟨w1.heap.size, rfl, hb.out.size, heap_alloc_last _ _, hb.out.trans ((below_alloc _ _).mono hb.out.size)⟩

/-- The message that names the bytes q[p:e]. -/
def nearMsg (q : ByteArray) (p e : Int) : ByteArray := (⟨#[115, 121, 110, 116, 97, 120, 32, 101, 114, 114, 111, 114, 32, 97, 116, 32, 111, 114, 32, 110, 101, 97, 114, 32, 34]⟩ : ByteArray) ++ q.extract p.toNat e.toNat ++ ⟨#[34]⟩
def endMsg : ByteArray := ⟨#[115, 121, 110, 116, 97, 120, 32, 101, 114, 114, 111, 114, 32, 97, 116, 32, 101, 110, 100, 32, 111, 102, 32, 105, 110, 112, 117, 116]⟩

set_option maxHeartbeats 400000 in
theorem errNear_any (q : ByteArray) (p e : Int) (w : World) (hq : q.size ≤ 1048576) (h0 : 0 ≤ p) (h1 : p ≤ e) (h2 : e ≤ q.size) :
    Calls Try.prog 27 #[.string q, .int .i64 p, .int .i64 e] w fun r w' => ∃ eb, r = .returned (.pointer (some ⟨eb, 0, none⟩)) ∧ Hid (w.heap.size ≤ eb) ∧ Hid (ErrAt w' eb (nearMsg q p e) (posn q p)) ∧ Hid (Below w.heap.size w w') := by
  go_enter Try.func27, Try.ntmps27
  go_wp2_with fail
  refine (errAt_any q p (nearMsg q p e) _ hq h0 (by omega)).mono ?_
  rintro r w1 ⟨eb, rfl, he, hE, hb⟩
  go_wp2
  go_ret
  exact ⟨eb, rfl, he, hE, hb⟩

/-- The message of the parse error at token i. -/
def errMsg (τ : TK) (i : Nat) : ByteArray := if τ.kd i = 0 then endMsg else nearMsg τ.q (τ.ps i) (τ.en i)

end Go.Proofs.Qxb6614099a
