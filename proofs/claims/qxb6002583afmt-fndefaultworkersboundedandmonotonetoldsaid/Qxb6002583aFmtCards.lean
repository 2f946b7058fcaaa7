/-
  DERIVED. GIVEN WITH THE SEED: THE CARDS: each row of Qxb6002583aFmtRows.lean that lists a variable, with what it lists TIED to the program's text (the seventh form; the later family's looks); each row that meets fmt, with fmt's text TOLD by the authors' own Lean function (tested against real Go, not proved from fmt's source: count such statements apart). THE CARD IS WHAT COUNTS. Prove the row's statement (the work); the ties are given (Qxb6002583aFmtTie.lean); close each card by the builder's one call (the guide's Derived/Test/ToyasCard.lean, 'card_holds'). Laid BY PROGRAM, IN A SANDBOX (cutbox-door.mjs). By AI agents, Wed Nov 11 2026. No macro, syntax, notation, axiom, sorry.
-/
import Derived.Test.Qxb6002583aFmtRows
import GoSem.ClaimSeven
namespace Go.Proofs.Qxb6002583aFmt
namespace Rows

/-- THE TOLD CARD OF 'zzlaws_root_e1.FnDefaultWorkersBoundedAndMonotone'. -/
def fnDefaultWorkersBoundedAndMonotoneCard : Claim7 := { stood := { row := fnDefaultWorkersBoundedAndMonotoneRow, standIns := [], harness := (true, "b9dd35d98a6b2deab9be81af7d5df8b4bbe9c095ce02ba3f3e69f423a1c39de7"), looks := false }, told := true, goes := false }
def FnDefaultWorkersBoundedAndMonotoneToldSaid : Prop := Claim7.holds Tryf.pinned (.plain (OpenSpec.ofChange fnDefaultWorkersBoundedAndMonotoneSpec)) fnDefaultWorkersBoundedAndMonotoneCard
/-- ITS FALSE NEIGHBOUR. Refute it at one input. -/
def FnDefaultWorkersBoundedAndMonotoneToldWrongFalsely : Prop := Claim7.holds Tryf.pinned (.plain (OpenSpec.ofChange fnDefaultWorkersBoundedAndMonotoneWrong)) fnDefaultWorkersBoundedAndMonotoneCard
end Rows
end Go.Proofs.Qxb6002583aFmt
