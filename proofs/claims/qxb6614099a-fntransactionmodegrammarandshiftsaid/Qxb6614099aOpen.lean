import Derived.Test.Qxb6614099aStops
import Derived.WalkKit
import Derived.ProofKit
import Derived.OpenShut
import Derived.ShutString
import Derived.ChangeOld
import Derived.Below
import Derived.SliceStrings
namespace Go.Proofs.Qxb6614099a
open Go.ChangeShapes Go.WideShapes Go.ChangeAt Go.RowKit

theorem own : ownKnob Try.prog.godebug = none := by kernel_rfl
theorem laidOut : laidOutB Try.prog = true := by kernel_rfl

theorem ln_of {n : Nat} (h : n ≤ maxLen) : Ln n := by unfold maxLen at h; unfold Ln; omega

/-- What a slice of ints that came in gives. -/
theorem ints_of {w : World} {x : Addr} {n cap : Nat} {zs : List Int} (hl : n ≤ cap) (hz : zs.length = cap) (hcell : ∀ i, i < zs.length → w.cell? (x.add i) = some (.int .i64 (zs.getD i 0))) :
    IntsAt w (some x) n (fun j => if j < n then zs.getD j 0 else 0) := by
  by_cases h0 : n = 0
  · exact .inl h0
  · obtain ⟨b, off, spot⟩ := x
    have hc := hcell 0 (by omega)
    have hspot : spot = none := by simpa [Addr.add] using World.cell?_spot hc
    subst hspot
    refine .inr ⟨b, off, rfl, fun j hj => ?_⟩
    have := hcell j (by omega)
    rw [Addr.add_lit] at this
    simp only [if_pos hj]
    exact this
theorem strs_of {w : World} {x : Addr} {n cap : Nat} {ss : List ByteArray} (hl : n ≤ cap) (hz : ss.length = cap) (hcell : ∀ i, i < ss.length → w.cell? (x.add i) = some (.string (ss.getD i ByteArray.empty))) (hw : ∀ s ∈ ss, s.size ≤ maxLen) :
    StrsAt w (some x) n (fun j => ss.getD j ByteArray.empty) := by
  by_cases h0 : n = 0
  · exact .inl h0
  · obtain ⟨b, off, spot⟩ := x
    have hc := hcell 0 (by omega)
    have hspot : spot = none := by simpa [Addr.add] using World.cell?_spot hc
    subst hspot
    refine .inr ⟨b, off, rfl, fun j hj => ?_⟩
    have h1 := hcell j (by omega)
    rw [Addr.add_lit] at h1
    refine ⟨h1, ln_of (hw _ ?_)⟩
    have hj' : j < ss.length := by omega
    show ss.getD j ByteArray.empty ∈ ss
    rw [List.getD_eq_getElem?_getD, List.getElem?_eq_getElem hj']
    exact List.getElem_mem hj'

/-- The tokens, told by four readings. -/
def mkTK (q : ByteArray) (n : Nat) (K : Nat → Int) (X : Nat → ByteArray) (P E : Nat → Int) : TK := ⟨q, n, K, X, P, E⟩

theorem stops_any (q : ByteArray) (ak ax ap ae : Option Addr) (nk ck nx cx np cp ne ce : Nat) (K : Nat → Int) (X : Nat → ByteArray) (P E : Nat → Int) (i : Int) (w : World) (A : Args q ak ax ap ae nk nx np ne K X P E w) (hout : ∀ j, nk ≤ j → K j = 0) :
    Calls Try.prog 4 #[.string q, .slice ak nk ck, .slice ax nx cx, .slice ap np cp, .slice ae ne ce, .int .i64 i] w fun r w' => r = .returned (.bool true) ∧ Below w.heap.size w w' := by
  by_cases hi : i < 0 ∨ (nk : Int) ≤ i
  · exact stops_out q ak ax ap ae nk ck nx cx np cp ne ce K X P E i w A hi
  · obtain ⟨m, rfl⟩ := Int.eq_ofNat_of_zero_le (show 0 ≤ i by omega)
    exact stops_in (mkTK q nk K X P E) ak ax ap ae ck nx cx np cp ne ce m w A hout (show m < nk by omega)
end Go.Proofs.Qxb6614099a
