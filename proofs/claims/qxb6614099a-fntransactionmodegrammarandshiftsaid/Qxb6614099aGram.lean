import Derived.Test.Qxb6614099aGramWalk
import Derived.Test.Qxb6614099aOpen
namespace Go.Proofs.Qxb6614099a
open Go.RowKit

theorem gram_any (q : ByteArray) (ak ax ap ae : Option Addr) (nk ck nx cx np cp ne ce : Nat) (K : Nat → Int) (X : Nat → ByteArray) (P E : Nat → Int) (i : Int) (ro : Bool) (w : World) (A : Args q ak ax ap ae nk nx np ne K X P E w) (hout : ∀ j, nk ≤ j → K j = 0) :
    Calls Try.prog 3 #[.string q, .slice ak nk ck, .slice ax nx cx, .slice ap np cp, .slice ae ne ce, .int .i64 i, .bool ro] w fun r w' => r = .returned (.bool true) ∧ Below w.heap.size w w' := by
  by_cases hi : i < 0 ∨ (nk : Int) ≤ i
  · exact gram_out q ak ax ap ae nk ck nx cx np cp ne ce K X P E i ro w A hi
  · obtain ⟨m, rfl⟩ := Int.eq_ofNat_of_zero_le (show 0 ≤ i by omega)
    exact gram_in (mkTK q nk K X P E) ak ax ap ae ck nx cx np cp ne ce m ro w A hout (show m < nk by omega)
end Go.Proofs.Qxb6614099a
