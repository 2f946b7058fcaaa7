/-
  No cell of these rows narrows 'for every input' (looked for: loops, veiled, ifaces, maps, wideKeys, modest, calm, conditions, laid).
  DERIVED. THE GIVEN ROWS OF THIS SEAT. 2 by the template 'for every input the law returns true; each argument reads behind the call as it read before'; 0 by the template 'total and deterministic' (their statements: Qxb6612998aTotals.lean).
  GIVEN WITH THE SEED: the statements are not yours to turn. If you find one false, say at which input.
  Laid BY PROGRAM, IN A SANDBOX (cutbox-rows.mjs): the forced cells as the released guide's own fill.sh prints them over the translation f24a2a4561743fc4… (all of the seat's roots in one cut). By AI agents, Wed Nov 11 2026. No macro, syntax, notation, axiom, sorry.
-/
import Derived.Test.Qxb6612998aChecked
import GoSem.Claim
import GoSem.ClaimJoined
import GoSem.ClaimMapViews
import Derived.JoinedTies
import Derived.KernelRfl
namespace Go.Proofs.Qxb6612998a
/- THE CELL 'sum', in the pinned program and in every row, IS THE sha256 OF THE DUMP (.gsa) THAT Qxb6612998aProg.lean LOADS. Nothing in Lean hashes anything: it is a label: what it is worth is what the hold of that sum in a sandbox is worth. -/
noncomputable def Try.pinned : Pinned := { name := "qxb6612998a", sum := "f24a2a4561743fc4743f1da480b9626bfbef5f57460598e1f2293a0981a4090f", checked := Try.checked }
namespace Rows
def none {H : Type} : Left H := { results := [], args := [] }

/-- 'zzlaws_pkg_g2_b1.FnGUIDStringRoundTripAndOrder': WHATEVER THE INPUT: true; the input reads as it did. -/
def fnGUIDStringRoundTripAndOrderSpec : ChangeSpec := { name := "fnGUIDStringRoundTripAndOrder", fn := fun _ => fun
  | [d1, d2] => { results := [.lit (.bool true)], args := [d1, d2] }
  | _ => none }
def fnGUIDStringRoundTripAndOrderRow : OpenClaim := { program := "qxb6612998a", sum := "f24a2a4561743fc4743f1da480b9626bfbef5f57460598e1f2293a0981a4090f", func := "example.com/hubward/hubward/zzlaws_pkg_g2_b1.FnGUIDStringRoundTripAndOrder", spec := "fnGUIDStringRoundTripAndOrder", apart := false }
def FnGUIDStringRoundTripAndOrderSaid : Prop := fnGUIDStringRoundTripAndOrderRow.holds Try.pinned (OpenSpec.ofChange fnGUIDStringRoundTripAndOrderSpec)

/-- ITS FALSE NEIGHBOUR: 'it returns false'. Refute it at one input. -/
def fnGUIDStringRoundTripAndOrderWrong : ChangeSpec := { name := "fnGUIDStringRoundTripAndOrder", fn := fun _ => fun
  | [d1, d2] => { results := [.lit (.bool false)], args := [d1, d2] }
  | _ => none }
def FnGUIDStringRoundTripAndOrderWrongFalsely : Prop := fnGUIDStringRoundTripAndOrderRow.holds Try.pinned (OpenSpec.ofChange fnGUIDStringRoundTripAndOrderWrong)

/-- 'zzlaws_pkg_g2_b1.FnGUIDStringOneByteChangesTwoDigits': WHATEVER THE INPUT: true; the input reads as it did. -/
def fnGUIDStringOneByteChangesTwoDigitsSpec : ChangeSpec := { name := "fnGUIDStringOneByteChangesTwoDigits", fn := fun _ => fun
  | [d1, d2, d3] => { results := [.lit (.bool true)], args := [d1, d2, d3] }
  | _ => none }
def fnGUIDStringOneByteChangesTwoDigitsRow : OpenClaim := { program := "qxb6612998a", sum := "f24a2a4561743fc4743f1da480b9626bfbef5f57460598e1f2293a0981a4090f", func := "example.com/hubward/hubward/zzlaws_pkg_g2_b1.FnGUIDStringOneByteChangesTwoDigits", spec := "fnGUIDStringOneByteChangesTwoDigits", apart := false }
def FnGUIDStringOneByteChangesTwoDigitsSaid : Prop := fnGUIDStringOneByteChangesTwoDigitsRow.holds Try.pinned (OpenSpec.ofChange fnGUIDStringOneByteChangesTwoDigitsSpec)

/-- ITS FALSE NEIGHBOUR: 'it returns false'. Refute it at one input. -/
def fnGUIDStringOneByteChangesTwoDigitsWrong : ChangeSpec := { name := "fnGUIDStringOneByteChangesTwoDigits", fn := fun _ => fun
  | [d1, d2, d3] => { results := [.lit (.bool false)], args := [d1, d2, d3] }
  | _ => none }
def FnGUIDStringOneByteChangesTwoDigitsWrongFalsely : Prop := fnGUIDStringOneByteChangesTwoDigitsRow.holds Try.pinned (OpenSpec.ofChange fnGUIDStringOneByteChangesTwoDigitsWrong)

end Rows
end Go.Proofs.Qxb6612998a
