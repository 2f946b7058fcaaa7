/-
  DERIVED. GIVEN WITH THE SEED: THE CARDS: each row of Qxb6612998aFmtRows.lean that lists a variable, with what it lists TIED to the program's text (the seventh form; the later family's looks); each row that meets fmt, with fmt's text TOLD by the authors' own Lean function (tested against real Go, not proved from fmt's source: count such statements apart). THE CARD IS WHAT COUNTS. Prove the row's statement (the work); the ties are given (Qxb6612998aFmtTie.lean); close each card by the builder's one call (the guide's Derived/Test/ToyasCard.lean, 'card_holds'). Laid BY PROGRAM, IN A SANDBOX (cutbox-door.mjs). By AI agents, Wed Nov 11 2026. No macro, syntax, notation, axiom, sorry.
-/
import Derived.Test.Qxb6612998aFmtRows
import GoSem.ClaimSeven
namespace Go.Proofs.Qxb6612998aFmt
namespace Rows

/-- THE TOLD CARD OF 'zzlaws_pkg_g2_b1.FnCollectMatchesModel'. -/
def fnCollectMatchesModelCard : Claim7 := { stood := { row := fnCollectMatchesModelRow, standIns := [], harness := (true, "77cc9f1b903d64909214f255616edfc8fe5ecaa1009db05018f35e68fee5a182"), looks := true }, told := true, goes := false }
def FnCollectMatchesModelToldSaid : Prop := Claim7.holds Tryf.pinned (.plain (OpenSpec.ofChange fnCollectMatchesModelSpec)) fnCollectMatchesModelCard
/-- ITS FALSE NEIGHBOUR. Refute it at one input. -/
def FnCollectMatchesModelToldWrongFalsely : Prop := Claim7.holds Tryf.pinned (.plain (OpenSpec.ofChange fnCollectMatchesModelWrong)) fnCollectMatchesModelCard

/-- THE TOLD CARD OF 'zzlaws_pkg_g2_b1.FnDropForgetsOneMessage'. -/
def fnDropForgetsOneMessageCard : Claim7 := { stood := { row := fnDropForgetsOneMessageRow, standIns := [], harness := (true, "77cc9f1b903d64909214f255616edfc8fe5ecaa1009db05018f35e68fee5a182"), looks := true }, told := true, goes := false }
def FnDropForgetsOneMessageToldSaid : Prop := Claim7.holds Tryf.pinned (.plain (OpenSpec.ofChange fnDropForgetsOneMessageSpec)) fnDropForgetsOneMessageCard
/-- ITS FALSE NEIGHBOUR. Refute it at one input. -/
def FnDropForgetsOneMessageToldWrongFalsely : Prop := Claim7.holds Tryf.pinned (.plain (OpenSpec.ofChange fnDropForgetsOneMessageWrong)) fnDropForgetsOneMessageCard
end Rows
end Go.Proofs.Qxb6612998aFmt
