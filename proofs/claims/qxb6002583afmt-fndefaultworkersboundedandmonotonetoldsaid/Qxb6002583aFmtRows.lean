/-
  No cell of these rows narrows 'for every input' (looked for: loops, veiled, ifaces, maps, wideKeys, modest, calm, conditions, laid).
  DERIVED. THE GIVEN ROWS OF THIS SEAT. 1 by the template 'for every input the law returns true; each argument reads behind the call as it read before'; 0 by the template 'total and deterministic' (their statements: Qxb6002583aFmtTotals.lean).
  GIVEN WITH THE SEED: the statements are not yours to turn. If you find one false, say at which input.
  Laid BY PROGRAM, IN A SANDBOX (cutbox-rows.mjs): the forced cells as the released guide's own fill.sh prints them over the translation 9eeb739e94f8b85c… (all of the seat's roots in one cut). By AI agents, Wed Nov 11 2026. No macro, syntax, notation, axiom, sorry.
-/
import Derived.Test.Qxb6002583aFmtChecked
import GoSem.Claim
import GoSem.ClaimJoined
import GoSem.ClaimMapViews
import Derived.JoinedTies
import Derived.KernelRfl
namespace Go.Proofs.Qxb6002583aFmt
/- THE CELL 'sum', in the pinned program and in every row, IS THE sha256 OF THE DUMP (.gsa) THAT Qxb6002583aFmtProg.lean LOADS. Nothing in Lean hashes anything: it is a label: what it is worth is what the hold of that sum in a sandbox is worth. -/
noncomputable def Tryf.pinned : Pinned := { name := "qxb6002583afmt", sum := "9eeb739e94f8b85c7a9a544d59953584268fa15c6c904b4a7e29f6a9eaa4bfe4", checked := Tryf.checked }
namespace Rows
def none {H : Type} : Left H := { results := [], args := [] }

/-- 'zzlaws_root_e1.FnDefaultWorkersBoundedAndMonotone': WHATEVER THE INPUT: true; the input reads as it did. -/
def fnDefaultWorkersBoundedAndMonotoneSpec : ChangeSpec := { name := "fnDefaultWorkersBoundedAndMonotone", fn := fun _ => fun
  | [d1, d2] => { results := [.lit (.bool true)], args := [d1, d2] }
  | _ => none }
def fnDefaultWorkersBoundedAndMonotoneRow : OpenClaim := { program := "qxb6002583afmt", sum := "9eeb739e94f8b85c7a9a544d59953584268fa15c6c904b4a7e29f6a9eaa4bfe4", func := "example.com/bounded-pool/bounded-pool/zzlaws_root_e1.FnDefaultWorkersBoundedAndMonotone", spec := "fnDefaultWorkersBoundedAndMonotone", stops := ["fmt.errorf"], inPlace := ["fmt.errorf"], apart := false }
/-- NO THEOREM (fmt's text is open here; it may be false): for the released tool's asking of the row's closed facts alone. THE STATEMENT IS 'FnDefaultWorkersBoundedAndMonotoneToldSaid' (Qxb6002583aFmtCards.lean). -/
def FnDefaultWorkersBoundedAndMonotoneFormAsk : Prop := fnDefaultWorkersBoundedAndMonotoneRow.holds Tryf.pinned (OpenSpec.ofChange fnDefaultWorkersBoundedAndMonotoneSpec)

/-- ITS FALSE NEIGHBOUR: 'it returns false'. Refute it at one input. -/
def fnDefaultWorkersBoundedAndMonotoneWrong : ChangeSpec := { name := "fnDefaultWorkersBoundedAndMonotone", fn := fun _ => fun
  | [d1, d2] => { results := [.lit (.bool false)], args := [d1, d2] }
  | _ => none }
def FnDefaultWorkersBoundedAndMonotoneWrongFormAsk : Prop := fnDefaultWorkersBoundedAndMonotoneRow.holds Tryf.pinned (OpenSpec.ofChange fnDefaultWorkersBoundedAndMonotoneWrong)

end Rows
end Go.Proofs.Qxb6002583aFmt
