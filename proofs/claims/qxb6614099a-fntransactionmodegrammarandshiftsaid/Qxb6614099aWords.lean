import Derived.Test.Qxb6614099aZz
namespace Go.Proofs.Qxb6614099a
open Go.RowKit

/-- The eight modes, as words. -/
def words : Nat → List ByteArray
  | 0 => [kRead, kOnly]
  | 1 => [kRead, kWrite]
  | 2 => [kIsolation, kLevel, kSerializable]
  | 3 => [kIsolation, kLevel, kRepeatable, kRead]
  | 4 => [kIsolation, kLevel, kRead, kCommitted]
  | 5 => [kIsolation, kLevel, kRead, kUncommitted]
  | 6 => [kNot, kDeferrable]
  | _ => [kDeferrable]

/-- What phraseWords leaves: the words in a new block. -/
def WordsAt (k b : Nat) (W : World) : Prop := W.heap[b]? = some (.cells ((words k).map Value.string).toArray 9 (0, 0))

set_option maxHeartbeats 1000000 in
theorem words_any (k : Nat) (hk : k < 8) (w : World) : Calls Try.prog 17 #[.int .i64 (k : Int)] w fun r w' =>
    r = .returned (.slice (some ⟨w.heap.size, 0, none⟩) (words k).length (words k).length) ∧ Hid (WordsAt k w.heap.size w') ∧ Hid (Below w.heap.size w w') := by
  match k, hk with
  | 0, _ | 1, _ | 2, _ | 3, _ | 4, _ | 5, _ | 6, _ | 7, _ =>
    go_enter Try.func17, Try.ntmps17
    go_wp2
    go_ret
    exact ⟨rfl, heap_alloc_last _ _, below_alloc _ _⟩
end Go.Proofs.Qxb6614099a
