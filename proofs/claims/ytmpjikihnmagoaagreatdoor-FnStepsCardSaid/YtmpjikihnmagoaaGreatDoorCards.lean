/-
  DERIVED. GIVEN WITH THE SEED: THE CARDS: each row of YtmpjikihnmagoaaGreatDoorRows.lean that lists a variable, with what it lists TIED to the program's text (the seventh form; the later family's looks); each row that meets fmt, with fmt's text TOLD by the authors' own Lean function (tested against real Go, not proved from fmt's source: count such statements apart). THE CARD IS WHAT COUNTS. Prove the row's statement (the work); the ties are given (YtmpjikihnmagoaaGreatDoorTie.lean); close each card by the builder's one call (the guide's Derived/Test/ToyasCard.lean, 'card_holds'). Laid BY PROGRAM, IN A SANDBOX (cutbox-door.mjs). By AI agents, Wed Nov 11 2026. No macro, syntax, notation, axiom, sorry.
-/
import Derived.Test.YtmpjikihnmagoaaGreatDoorRows
import GoSem.ClaimSeven
namespace Go.Proofs.YtmpjikihnmagoaaGreatDoor
namespace Rows

/-- THE TIED CARD OF 'laws.FnRecordsKind'. -/
def fnRecordsKindCard : Claim7 := { stood := { row := fnRecordsKindRow, standIns := [], harness := (true, "0fbacbd6ce9866663aaa65caede64f0450324cb9a2a72af28607c1b39ab10573"), looks := true }, kinds := [], alts := [], laidByText := true, laidKinds := [.sentinel], laidTests := true, laidLooks := .later }
def FnRecordsKindCardSaid : Prop := Claim7.holds Tryz.pinned (.plain (OpenSpec.ofChange fnRecordsKindSpec)) fnRecordsKindCard

/-- THE TIED CARD OF 'laws.FnStepsCut'. -/
def fnStepsCutCard : Claim7 := { stood := { row := fnStepsCutRow, standIns := [], harness := (true, "0fbacbd6ce9866663aaa65caede64f0450324cb9a2a72af28607c1b39ab10573"), looks := true }, kinds := [], alts := [], laidByText := true, laidKinds := [.sentinel], laidTests := true, laidLooks := .later }
def FnStepsCutCardSaid : Prop := Claim7.holds Tryz.pinned (.plain (OpenSpec.ofChange fnStepsCutSpec)) fnStepsCutCard

/-- THE TIED CARD OF 'laws.FnSteps'. -/
def fnStepsCard : Claim7 := { stood := { row := fnStepsRow, standIns := [], harness := (true, "0fbacbd6ce9866663aaa65caede64f0450324cb9a2a72af28607c1b39ab10573"), looks := true }, kinds := [], alts := [], laidByText := true, laidKinds := [.sentinel], laidTests := true, laidLooks := .later }
def FnStepsCardSaid : Prop := Claim7.holds Tryz.pinned (.plain (OpenSpec.ofChange fnStepsSpec)) fnStepsCard

/-- THE SECOND FORM's CARD OF 'laws.FnRecordsKind'. -/
def fnRecordsKindUptoCard : Claim7 := { stood := { row := fnRecordsKindUptoRow, standIns := [], harness := (true, "0fbacbd6ce9866663aaa65caede64f0450324cb9a2a72af28607c1b39ab10573"), looks := true }, kinds := [], alts := [], laidByText := true, laidKinds := [.sentinel], laidTests := true, laidLooks := .later }
def FnRecordsKindUptoCardSaid : Prop := Claim7.holds Tryz.pinned (.plain (OpenSpec.upto fnRecordsKindSpec)) fnRecordsKindUptoCard

/-- THE SECOND FORM's CARD OF 'laws.FnStepsCut'. -/
def fnStepsCutUptoCard : Claim7 := { stood := { row := fnStepsCutUptoRow, standIns := [], harness := (true, "0fbacbd6ce9866663aaa65caede64f0450324cb9a2a72af28607c1b39ab10573"), looks := true }, kinds := [], alts := [], laidByText := true, laidKinds := [.sentinel], laidTests := true, laidLooks := .later }
def FnStepsCutUptoCardSaid : Prop := Claim7.holds Tryz.pinned (.plain (OpenSpec.upto fnStepsCutSpec)) fnStepsCutUptoCard

/-- THE SECOND FORM's CARD OF 'laws.FnSteps'. -/
def fnStepsUptoCard : Claim7 := { stood := { row := fnStepsUptoRow, standIns := [], harness := (true, "0fbacbd6ce9866663aaa65caede64f0450324cb9a2a72af28607c1b39ab10573"), looks := true }, kinds := [], alts := [], laidByText := true, laidKinds := [.sentinel], laidTests := true, laidLooks := .later }
def FnStepsUptoCardSaid : Prop := Claim7.holds Tryz.pinned (.plain (OpenSpec.upto fnStepsSpec)) fnStepsUptoCard
end Rows
end Go.Proofs.YtmpjikihnmagoaaGreatDoor
