/-
  NARROWER THAN 'FOR EVERY INPUT', by the rows' own cells (each row's printed sentence says how): FnRecordsKind: laid · FnStepsCut: laid · FnSteps: laid.
  DERIVED. THE GIVEN ROWS OF THIS SEAT. 3 by the template 'for every input the law returns true; each argument reads behind the call as it read before'; 0 by the template 'total and deterministic' (their statements: YtmpjikihnmagoaaGreatDoorTotals.lean).
  GIVEN WITH THE SEED: the statements are not yours to turn. If you find one false, say at which input.
  Laid BY PROGRAM, IN A SANDBOX (cutbox-rows.mjs): the forced cells as the released guide's own fill.sh prints them over the translation b9dc5b5ac23ae7b1… (all of the seat's roots in one cut). By AI agents, Wed Nov 11 2026. No macro, syntax, notation, axiom, sorry.
-/
import Derived.Test.YtmpjikihnmagoaaGreatDoorChecked
import GoSem.Claim
import GoSem.ClaimJoined
import GoSem.ClaimMapViews
import Derived.JoinedTies
import Derived.KernelRfl
namespace Go.Proofs.YtmpjikihnmagoaaGreatDoor
/- THE CELL 'sum', in the pinned program and in every row, IS THE sha256 OF THE DUMP (.gsa) THAT YtmpjikihnmagoaaGreatDoorProg.lean LOADS. Nothing in Lean hashes anything: it is a label: what it is worth is what the hold of that sum in a sandbox is worth. -/
noncomputable def Tryz.pinned : Pinned := { name := "ytmpjikihnmagoaagreatdoor", sum := "b9dc5b5ac23ae7b107c96baae726f85d3154767e2fa4dcc214645a347bdcc853", checked := Tryz.checked }
namespace Rows
def none {H : Type} : Left H := { results := [], args := [] }

/- WHAT THE LISTED PACKAGE-LEVEL VARIABLES READ AS WHEN THE CALL BEGINS. Each datum BY PROGRAM (the guide's laid-datum.mjs) off the statement by which the dump's own 'gosem.cut.vars' lays the variable. In a bare row this is a premise. The card (YtmpjikihnmagoaaGreatDoorCards.lean) ties it to the program's text. -/
def laid_pub_kestrel_pub_sarama_ErrUnknownMessage {H : Type} : DataW H := .iface "*errors.errorString" (.ptr (.agg [.lit (.string [107, 97, 102, 107, 97, 58, 32, 117, 110, 107, 110, 111, 119, 110, 32, 112, 114, 111, 116, 111, 99, 111, 108, 32, 109, 101, 115, 115, 97, 103, 101, 32, 107, 101, 121])]))

/-- 'laws.FnRecordsKind': WHATEVER THE INPUT: true; the input reads as it did. -/
def fnRecordsKindSpec : ChangeSpec := { name := "fnRecordsKind", fn := fun _ => fun
  | [d1, d2] => { results := [.lit (.bool true)], args := [d1, d2] }
  | _ => none }
def fnRecordsKindRow : OpenClaim := { program := "ytmpjikihnmagoaagreatdoor", sum := "b9dc5b5ac23ae7b107c96baae726f85d3154767e2fa4dcc214645a347bdcc853", func := "pub-kestrel/laws.FnRecordsKind", spec := "fnRecordsKind", unfollowed := true, recurses := true, named := ["pub-kestrel/pub/sarama.ErrUnknownMessage"], apart := false, laid := [("pub-kestrel/pub/sarama.ErrUnknownMessage", laid_pub_kestrel_pub_sarama_ErrUnknownMessage)] }
def FnRecordsKindSaid : Prop := fnRecordsKindRow.holds Tryz.pinned (OpenSpec.ofChange fnRecordsKindSpec)

/-- ITS FALSE NEIGHBOUR: 'it returns false'. Refute it at one input. -/
def fnRecordsKindWrong : ChangeSpec := { name := "fnRecordsKind", fn := fun _ => fun
  | [d1, d2] => { results := [.lit (.bool false)], args := [d1, d2] }
  | _ => none }
def FnRecordsKindWrongFalsely : Prop := fnRecordsKindRow.holds Tryz.pinned (OpenSpec.ofChange fnRecordsKindWrong)

/-- 'laws.FnStepsCut': WHATEVER THE INPUT: true; the input reads as it did. -/
def fnStepsCutSpec : ChangeSpec := { name := "fnStepsCut", fn := fun _ => fun
  | [d1, d2, d3] => { results := [.lit (.bool true)], args := [d1, d2, d3] }
  | _ => none }
def fnStepsCutRow : OpenClaim := { program := "ytmpjikihnmagoaagreatdoor", sum := "b9dc5b5ac23ae7b107c96baae726f85d3154767e2fa4dcc214645a347bdcc853", func := "pub-kestrel/laws.FnStepsCut", spec := "fnStepsCut", inPlace := ["math.Float64bits"], unfollowed := true, recurses := true, named := ["pub-kestrel/pub/sarama.ErrUnknownMessage"], apart := false, laid := [("pub-kestrel/pub/sarama.ErrUnknownMessage", laid_pub_kestrel_pub_sarama_ErrUnknownMessage)] }
def FnStepsCutSaid : Prop := fnStepsCutRow.holds Tryz.pinned (OpenSpec.ofChange fnStepsCutSpec)

/-- ITS FALSE NEIGHBOUR: 'it returns false'. Refute it at one input. -/
def fnStepsCutWrong : ChangeSpec := { name := "fnStepsCut", fn := fun _ => fun
  | [d1, d2, d3] => { results := [.lit (.bool false)], args := [d1, d2, d3] }
  | _ => none }
def FnStepsCutWrongFalsely : Prop := fnStepsCutRow.holds Tryz.pinned (OpenSpec.ofChange fnStepsCutWrong)

/-- 'laws.FnSteps': WHATEVER THE INPUT: true; the input reads as it did. -/
def fnStepsSpec : ChangeSpec := { name := "fnSteps", fn := fun _ => fun
  | [d1, d2] => { results := [.lit (.bool true)], args := [d1, d2] }
  | _ => none }
def fnStepsRow : OpenClaim := { program := "ytmpjikihnmagoaagreatdoor", sum := "b9dc5b5ac23ae7b107c96baae726f85d3154767e2fa4dcc214645a347bdcc853", func := "pub-kestrel/laws.FnSteps", spec := "fnSteps", inPlace := ["math.Float64frombits", "math.Float64bits"], unfollowed := true, recurses := true, named := ["pub-kestrel/pub/sarama.ErrUnknownMessage"], apart := false, laid := [("pub-kestrel/pub/sarama.ErrUnknownMessage", laid_pub_kestrel_pub_sarama_ErrUnknownMessage)] }
def FnStepsSaid : Prop := fnStepsRow.holds Tryz.pinned (OpenSpec.ofChange fnStepsSpec)

/-- ITS FALSE NEIGHBOUR: 'it returns false'. Refute it at one input. -/
def fnStepsWrong : ChangeSpec := { name := "fnSteps", fn := fun _ => fun
  | [d1, d2] => { results := [.lit (.bool false)], args := [d1, d2] }
  | _ => none }
def FnStepsWrongFalsely : Prop := fnStepsRow.holds Tryz.pinned (OpenSpec.ofChange fnStepsWrong)

/- THE SECOND FORM. 'bulk': how many values and letters a reading holds, each counted each time it is reached (what is shared counts as often as it is met; a slice's spare places count too). A statement '..UptoSaid' is the law's where the arguments, and the package variables that the reading takes, are together of bulk at most 1048576: NARROWER than '..Said'. Prove '..Said' where nothing that the law and all that it calls make is longer than what came in: it says more and counts as full. Else prove '..UptoSaid'. A law counts once. -/
mutual
def uptoBulk {H : Type} : DataW H → Nat
  | .lit (.string bytes) => bytes.length + 1
  | .lit _ => 1
  | .nil => 1
  | .ptr d => uptoBulk d + 1
  | .slice elems spare => uptoBulkAll elems + uptoBulkAll spare + 1
  | .agg parts => uptoBulkAll parts + 1
  | .iface _ d => uptoBulk d + 1
  | .map entries => uptoBulkEntries entries + 1
  | .held _ => 1
def uptoBulkAll {H : Type} : List (DataW H) → Nat
  | [] => 0
  | d :: r => uptoBulk d + uptoBulkAll r
def uptoBulkEntries {H : Type} : List (Lit × DataW H) → Nat
  | [] => 0
  | x :: r => uptoBulkEntry x + uptoBulkEntries r
def uptoBulkEntry {H : Type} : Lit × DataW H → Nat
  | (.string bytes, d) => bytes.length + uptoBulk d + 1
  | (_, d) => uptoBulk d + 1
 end
def uptoSmall : (H : Type) → List (DataW H) → Bool := fun _ ds => decide (uptoBulkAll ds ≤ 1048576)
def OpenSpec.upto (s : _root_.Go.ChangeSpec) : _root_.Go.OpenSpec := { _root_.Go.OpenSpec.ofChange s with cond := some uptoSmall }

/-- 'laws.FnRecordsKind', WHERE WHAT IT READS IS OF BULK AT MOST 1048576: true; the input reads as it did. -/
def fnRecordsKindUptoRow : OpenClaim := { program := "ytmpjikihnmagoaagreatdoor", sum := "b9dc5b5ac23ae7b107c96baae726f85d3154767e2fa4dcc214645a347bdcc853", func := "pub-kestrel/laws.FnRecordsKind", spec := "fnRecordsKind", unfollowed := true, recurses := true, named := ["pub-kestrel/pub/sarama.ErrUnknownMessage"], apart := false, laid := [("pub-kestrel/pub/sarama.ErrUnknownMessage", laid_pub_kestrel_pub_sarama_ErrUnknownMessage)], narrowed := true }
def FnRecordsKindUptoSaid : Prop := fnRecordsKindUptoRow.holds Tryz.pinned (OpenSpec.upto fnRecordsKindSpec)

/-- 'laws.FnStepsCut', WHERE WHAT IT READS IS OF BULK AT MOST 1048576: true; the input reads as it did. -/
def fnStepsCutUptoRow : OpenClaim := { program := "ytmpjikihnmagoaagreatdoor", sum := "b9dc5b5ac23ae7b107c96baae726f85d3154767e2fa4dcc214645a347bdcc853", func := "pub-kestrel/laws.FnStepsCut", spec := "fnStepsCut", inPlace := ["math.Float64bits"], unfollowed := true, recurses := true, named := ["pub-kestrel/pub/sarama.ErrUnknownMessage"], apart := false, laid := [("pub-kestrel/pub/sarama.ErrUnknownMessage", laid_pub_kestrel_pub_sarama_ErrUnknownMessage)], narrowed := true }
def FnStepsCutUptoSaid : Prop := fnStepsCutUptoRow.holds Tryz.pinned (OpenSpec.upto fnStepsCutSpec)

/-- 'laws.FnSteps', WHERE WHAT IT READS IS OF BULK AT MOST 1048576: true; the input reads as it did. -/
def fnStepsUptoRow : OpenClaim := { program := "ytmpjikihnmagoaagreatdoor", sum := "b9dc5b5ac23ae7b107c96baae726f85d3154767e2fa4dcc214645a347bdcc853", func := "pub-kestrel/laws.FnSteps", spec := "fnSteps", inPlace := ["math.Float64frombits", "math.Float64bits"], unfollowed := true, recurses := true, named := ["pub-kestrel/pub/sarama.ErrUnknownMessage"], apart := false, laid := [("pub-kestrel/pub/sarama.ErrUnknownMessage", laid_pub_kestrel_pub_sarama_ErrUnknownMessage)], narrowed := true }
def FnStepsUptoSaid : Prop := fnStepsUptoRow.holds Tryz.pinned (OpenSpec.upto fnStepsSpec)

end Rows
end Go.Proofs.YtmpjikihnmagoaaGreatDoor
