/-
  No cell of these rows narrows 'for every input' (looked for: loops, veiled, ifaces, maps, wideKeys, modest, calm, conditions, laid).
  DERIVED. THE GIVEN ROWS OF THIS SEAT. 2 by the template 'for every input the law returns true; each argument reads behind the call as it read before'; 0 by the template 'total and deterministic' (their statements: Qxb6612998aFmtTotals.lean).
  GIVEN WITH THE SEED: the statements are not yours to turn. If you find one false, say at which input.
  Laid BY PROGRAM, IN A SANDBOX (cutbox-rows.mjs): the forced cells as the released guide's own fill.sh prints them over the translation 7254eab813ef4562… (all of the seat's roots in one cut). By AI agents, Wed Nov 11 2026. No macro, syntax, notation, axiom, sorry.
-/
import Derived.Test.Qxb6612998aFmtChecked
import GoSem.Claim
import GoSem.ClaimJoined
import GoSem.ClaimMapViews
import Derived.JoinedTies
import Derived.KernelRfl
namespace Go.Proofs.Qxb6612998aFmt
/- THE CELL 'sum', in the pinned program and in every row, IS THE sha256 OF THE DUMP (.gsa) THAT Qxb6612998aFmtProg.lean LOADS. Nothing in Lean hashes anything: it is a label: what it is worth is what the hold of that sum in a sandbox is worth. -/
noncomputable def Tryf.pinned : Pinned := { name := "qxb6612998afmt", sum := "7254eab813ef4562cfc469f5a08ff44451d1294f3d45b5116035ffe1a841f13d", checked := Tryf.checked }
namespace Rows
def none {H : Type} : Left H := { results := [], args := [] }

/-- 'zzlaws_pkg_g2_b1.FnCollectMatchesModel': WHATEVER THE INPUT: true; the input reads as it did. -/
def fnCollectMatchesModelSpec : ChangeSpec := { name := "fnCollectMatchesModel", fn := fun _ => fun
  | [d1, d2, d3, d4] => { results := [.lit (.bool true)], args := [d1, d2, d3, d4] }
  | _ => none }
def fnCollectMatchesModelRow : OpenClaim := { program := "qxb6612998afmt", sum := "7254eab813ef4562cfc469f5a08ff44451d1294f3d45b5116035ffe1a841f13d", func := "example.com/hubward/hubward/zzlaws_pkg_g2_b1.FnCollectMatchesModel", spec := "fnCollectMatchesModel", stops := ["fmt.errorf"], inPlace := ["fmt.errorf"], unfollowed := true, recurses := true, plainKeys := false, apart := false }
/-- NO THEOREM (fmt's text is open here; it may be false): for the released tool's asking of the row's closed facts alone. THE STATEMENT IS 'FnCollectMatchesModelToldSaid' (Qxb6612998aFmtCards.lean). -/
def FnCollectMatchesModelFormAsk : Prop := fnCollectMatchesModelRow.holds Tryf.pinned (OpenSpec.ofChange fnCollectMatchesModelSpec)

/-- ITS FALSE NEIGHBOUR: 'it returns false'. Refute it at one input. -/
def fnCollectMatchesModelWrong : ChangeSpec := { name := "fnCollectMatchesModel", fn := fun _ => fun
  | [d1, d2, d3, d4] => { results := [.lit (.bool false)], args := [d1, d2, d3, d4] }
  | _ => none }
def FnCollectMatchesModelWrongFormAsk : Prop := fnCollectMatchesModelRow.holds Tryf.pinned (OpenSpec.ofChange fnCollectMatchesModelWrong)

/-- 'zzlaws_pkg_g2_b1.FnDropForgetsOneMessage': WHATEVER THE INPUT: true; the input reads as it did. -/
def fnDropForgetsOneMessageSpec : ChangeSpec := { name := "fnDropForgetsOneMessage", fn := fun _ => fun
  | [d1, d2, d3, d4, d5, d6, d7] => { results := [.lit (.bool true)], args := [d1, d2, d3, d4, d5, d6, d7] }
  | _ => none }
def fnDropForgetsOneMessageRow : OpenClaim := { program := "qxb6612998afmt", sum := "7254eab813ef4562cfc469f5a08ff44451d1294f3d45b5116035ffe1a841f13d", func := "example.com/hubward/hubward/zzlaws_pkg_g2_b1.FnDropForgetsOneMessage", spec := "fnDropForgetsOneMessage", stops := ["fmt.errorf"], inPlace := ["fmt.errorf"], unfollowed := true, recurses := true, plainKeys := false, apart := false }
/-- NO THEOREM (fmt's text is open here; it may be false): for the released tool's asking of the row's closed facts alone. THE STATEMENT IS 'FnDropForgetsOneMessageToldSaid' (Qxb6612998aFmtCards.lean). -/
def FnDropForgetsOneMessageFormAsk : Prop := fnDropForgetsOneMessageRow.holds Tryf.pinned (OpenSpec.ofChange fnDropForgetsOneMessageSpec)

/-- ITS FALSE NEIGHBOUR: 'it returns false'. Refute it at one input. -/
def fnDropForgetsOneMessageWrong : ChangeSpec := { name := "fnDropForgetsOneMessage", fn := fun _ => fun
  | [d1, d2, d3, d4, d5, d6, d7] => { results := [.lit (.bool false)], args := [d1, d2, d3, d4, d5, d6, d7] }
  | _ => none }
def FnDropForgetsOneMessageWrongFormAsk : Prop := fnDropForgetsOneMessageRow.holds Tryf.pinned (OpenSpec.ofChange fnDropForgetsOneMessageWrong)

end Rows
end Go.Proofs.Qxb6612998aFmt
