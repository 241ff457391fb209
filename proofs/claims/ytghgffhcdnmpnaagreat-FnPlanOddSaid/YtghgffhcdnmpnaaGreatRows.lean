/-
  No cell of these rows narrows 'for every input' (looked for: loops, veiled, ifaces, maps, wideKeys, modest, calm, conditions, laid).
  DERIVED. THE GIVEN ROWS OF THIS SEAT. 9 by the template 'for every input the law returns true; each argument reads behind the call as it read before'; 0 by the template 'total and deterministic' (their statements: YtghgffhcdnmpnaaGreatTotals.lean).
  GIVEN WITH THE SEED: the statements are not yours to turn. If you find one false, say at which input.
  Laid BY PROGRAM, IN A SANDBOX (cutbox-rows.mjs): the forced cells as the released guide's own fill.sh prints them over the translation d6a3816d4438f2f9… (all of the seat's roots in one cut). By AI agents, Wed Nov 11 2026. No macro, syntax, notation, axiom, sorry.
-/
import Derived.Test.YtghgffhcdnmpnaaGreatChecked
import GoSem.Claim
import GoSem.ClaimJoined
import GoSem.ClaimMapViews
import Derived.JoinedTies
import Derived.KernelRfl
namespace Go.Proofs.YtghgffhcdnmpnaaGreat
/- THE CELL 'sum', in the pinned program and in every row, IS THE sha256 OF THE DUMP (.gsa) THAT YtghgffhcdnmpnaaGreatProg.lean LOADS. Nothing in Lean hashes anything: it is a label: what it is worth is what the hold of that sum in a sandbox is worth. -/
noncomputable def Tryz.pinned : Pinned := { name := "ytghgffhcdnmpnaagreat", sum := "d6a3816d4438f2f9fcccc4d558219dcbb8531b2083067dcf44737a345128c57f", checked := Tryz.checked }
namespace Rows
def none {H : Type} : Left H := { results := [], args := [] }

/-- 'laws.FnHashes': WHATEVER THE INPUT: true; the input reads as it did. -/
def fnHashesSpec : ChangeSpec := { name := "fnHashes", fn := fun _ => fun
  | [d1, d2, d3, d4, d5] => { results := [.lit (.bool true)], args := [d1, d2, d3, d4, d5] }
  | _ => none }
def fnHashesRow : OpenClaim := { program := "ytghgffhcdnmpnaagreat", sum := "d6a3816d4438f2f9fcccc4d558219dcbb8531b2083067dcf44737a345128c57f", func := "pub-kestrel/laws.FnHashes", spec := "fnHashes", inPlace := ["math.archMin", "math.Float64bits", "math.Float64frombits"], unfollowed := true, recurses := true, plainKeys := false, apart := false }
def FnHashesSaid : Prop := fnHashesRow.holds Tryz.pinned (OpenSpec.ofChange fnHashesSpec)

/-- ITS FALSE NEIGHBOUR: 'it returns false'. Refute it at one input. -/
def fnHashesWrong : ChangeSpec := { name := "fnHashes", fn := fun _ => fun
  | [d1, d2, d3, d4, d5] => { results := [.lit (.bool false)], args := [d1, d2, d3, d4, d5] }
  | _ => none }
def FnHashesWrongFalsely : Prop := fnHashesRow.holds Tryz.pinned (OpenSpec.ofChange fnHashesWrong)

/-- 'laws.FnPartition': WHATEVER THE INPUT: true; the input reads as it did. -/
def fnPartitionSpec : ChangeSpec := { name := "fnPartition", fn := fun _ => fun
  | [d1, d2, d3, d4] => { results := [.lit (.bool true)], args := [d1, d2, d3, d4] }
  | _ => none }
def fnPartitionRow : OpenClaim := { program := "ytghgffhcdnmpnaagreat", sum := "d6a3816d4438f2f9fcccc4d558219dcbb8531b2083067dcf44737a345128c57f", func := "pub-kestrel/laws.FnPartition", spec := "fnPartition", inPlace := ["math.archMin", "math.Float64bits", "math.Float64frombits"], unfollowed := true, recurses := true, plainKeys := false, apart := false }
def FnPartitionSaid : Prop := fnPartitionRow.holds Tryz.pinned (OpenSpec.ofChange fnPartitionSpec)

/-- ITS FALSE NEIGHBOUR: 'it returns false'. Refute it at one input. -/
def fnPartitionWrong : ChangeSpec := { name := "fnPartition", fn := fun _ => fun
  | [d1, d2, d3, d4] => { results := [.lit (.bool false)], args := [d1, d2, d3, d4] }
  | _ => none }
def FnPartitionWrongFalsely : Prop := fnPartitionRow.holds Tryz.pinned (OpenSpec.ofChange fnPartitionWrong)

/-- 'laws.FnPlanEven': WHATEVER THE INPUT: true; the input reads as it did. -/
def fnPlanEvenSpec : ChangeSpec := { name := "fnPlanEven", fn := fun _ => fun
  | [d1, d2, d3] => { results := [.lit (.bool true)], args := [d1, d2, d3] }
  | _ => none }
def fnPlanEvenRow : OpenClaim := { program := "ytghgffhcdnmpnaagreat", sum := "d6a3816d4438f2f9fcccc4d558219dcbb8531b2083067dcf44737a345128c57f", func := "pub-kestrel/laws.FnPlanEven", spec := "fnPlanEven", inPlace := ["math.archMin", "math.Float64bits", "math.Float64frombits"], unfollowed := true, recurses := true, plainKeys := false, apart := false }
def FnPlanEvenSaid : Prop := fnPlanEvenRow.holds Tryz.pinned (OpenSpec.ofChange fnPlanEvenSpec)

/-- ITS FALSE NEIGHBOUR: 'it returns false'. Refute it at one input. -/
def fnPlanEvenWrong : ChangeSpec := { name := "fnPlanEven", fn := fun _ => fun
  | [d1, d2, d3] => { results := [.lit (.bool false)], args := [d1, d2, d3] }
  | _ => none }
def FnPlanEvenWrongFalsely : Prop := fnPlanEvenRow.holds Tryz.pinned (OpenSpec.ofChange fnPlanEvenWrong)

/-- 'laws.FnPlanOdd': WHATEVER THE INPUT: true; the input reads as it did. -/
def fnPlanOddSpec : ChangeSpec := { name := "fnPlanOdd", fn := fun _ => fun
  | [d1, d2, d3] => { results := [.lit (.bool true)], args := [d1, d2, d3] }
  | _ => none }
def fnPlanOddRow : OpenClaim := { program := "ytghgffhcdnmpnaagreat", sum := "d6a3816d4438f2f9fcccc4d558219dcbb8531b2083067dcf44737a345128c57f", func := "pub-kestrel/laws.FnPlanOdd", spec := "fnPlanOdd", inPlace := ["math.archMin", "math.Float64bits", "math.Float64frombits"], unfollowed := true, recurses := true, plainKeys := false, apart := false }
def FnPlanOddSaid : Prop := fnPlanOddRow.holds Tryz.pinned (OpenSpec.ofChange fnPlanOddSpec)

/-- ITS FALSE NEIGHBOUR: 'it returns false'. Refute it at one input. -/
def fnPlanOddWrong : ChangeSpec := { name := "fnPlanOdd", fn := fun _ => fun
  | [d1, d2, d3] => { results := [.lit (.bool false)], args := [d1, d2, d3] }
  | _ => none }
def FnPlanOddWrongFalsely : Prop := fnPlanOddRow.holds Tryz.pinned (OpenSpec.ofChange fnPlanOddWrong)

/-- 'laws.FnPlanOnce': WHATEVER THE INPUT: true; the input reads as it did. -/
def fnPlanOnceSpec : ChangeSpec := { name := "fnPlanOnce", fn := fun _ => fun
  | [d1, d2, d3] => { results := [.lit (.bool true)], args := [d1, d2, d3] }
  | _ => none }
def fnPlanOnceRow : OpenClaim := { program := "ytghgffhcdnmpnaagreat", sum := "d6a3816d4438f2f9fcccc4d558219dcbb8531b2083067dcf44737a345128c57f", func := "pub-kestrel/laws.FnPlanOnce", spec := "fnPlanOnce", inPlace := ["math.archMin", "math.Float64bits", "math.Float64frombits"], unfollowed := true, recurses := true, plainKeys := false, apart := false }
def FnPlanOnceSaid : Prop := fnPlanOnceRow.holds Tryz.pinned (OpenSpec.ofChange fnPlanOnceSpec)

/-- ITS FALSE NEIGHBOUR: 'it returns false'. Refute it at one input. -/
def fnPlanOnceWrong : ChangeSpec := { name := "fnPlanOnce", fn := fun _ => fun
  | [d1, d2, d3] => { results := [.lit (.bool false)], args := [d1, d2, d3] }
  | _ => none }
def FnPlanOnceWrongFalsely : Prop := fnPlanOnceRow.holds Tryz.pinned (OpenSpec.ofChange fnPlanOnceWrong)

/-- 'laws.FnPlanRange': WHATEVER THE INPUT: true; the input reads as it did. -/
def fnPlanRangeSpec : ChangeSpec := { name := "fnPlanRange", fn := fun _ => fun
  | [d1, d2] => { results := [.lit (.bool true)], args := [d1, d2] }
  | _ => none }
def fnPlanRangeRow : OpenClaim := { program := "ytghgffhcdnmpnaagreat", sum := "d6a3816d4438f2f9fcccc4d558219dcbb8531b2083067dcf44737a345128c57f", func := "pub-kestrel/laws.FnPlanRange", spec := "fnPlanRange", inPlace := ["math.archMin", "math.Float64bits", "math.Float64frombits"], unfollowed := true, recurses := true, plainKeys := false, apart := false }
def FnPlanRangeSaid : Prop := fnPlanRangeRow.holds Tryz.pinned (OpenSpec.ofChange fnPlanRangeSpec)

/-- ITS FALSE NEIGHBOUR: 'it returns false'. Refute it at one input. -/
def fnPlanRangeWrong : ChangeSpec := { name := "fnPlanRange", fn := fun _ => fun
  | [d1, d2] => { results := [.lit (.bool false)], args := [d1, d2] }
  | _ => none }
def FnPlanRangeWrongFalsely : Prop := fnPlanRangeRow.holds Tryz.pinned (OpenSpec.ofChange fnPlanRangeWrong)

/-- 'laws.FnPlanRound': WHATEVER THE INPUT: true; the input reads as it did. -/
def fnPlanRoundSpec : ChangeSpec := { name := "fnPlanRound", fn := fun _ => fun
  | [d1, d2] => { results := [.lit (.bool true)], args := [d1, d2] }
  | _ => none }
def fnPlanRoundRow : OpenClaim := { program := "ytghgffhcdnmpnaagreat", sum := "d6a3816d4438f2f9fcccc4d558219dcbb8531b2083067dcf44737a345128c57f", func := "pub-kestrel/laws.FnPlanRound", spec := "fnPlanRound", inPlace := ["math.archMin", "math.Float64bits", "math.Float64frombits"], unfollowed := true, recurses := true, plainKeys := false, apart := false }
def FnPlanRoundSaid : Prop := fnPlanRoundRow.holds Tryz.pinned (OpenSpec.ofChange fnPlanRoundSpec)

/-- ITS FALSE NEIGHBOUR: 'it returns false'. Refute it at one input. -/
def fnPlanRoundWrong : ChangeSpec := { name := "fnPlanRound", fn := fun _ => fun
  | [d1, d2] => { results := [.lit (.bool false)], args := [d1, d2] }
  | _ => none }
def FnPlanRoundWrongFalsely : Prop := fnPlanRoundRow.holds Tryz.pinned (OpenSpec.ofChange fnPlanRoundWrong)

/-- 'laws.FnPlanShuffled': WHATEVER THE INPUT: true; the input reads as it did. -/
def fnPlanShuffledSpec : ChangeSpec := { name := "fnPlanShuffled", fn := fun _ => fun
  | [d1, d2, d3, d4] => { results := [.lit (.bool true)], args := [d1, d2, d3, d4] }
  | _ => none }
def fnPlanShuffledRow : OpenClaim := { program := "ytghgffhcdnmpnaagreat", sum := "d6a3816d4438f2f9fcccc4d558219dcbb8531b2083067dcf44737a345128c57f", func := "pub-kestrel/laws.FnPlanShuffled", spec := "fnPlanShuffled", inPlace := ["math.archMin", "math.Float64bits", "math.Float64frombits"], unfollowed := true, recurses := true, plainKeys := false, apart := false }
def FnPlanShuffledSaid : Prop := fnPlanShuffledRow.holds Tryz.pinned (OpenSpec.ofChange fnPlanShuffledSpec)

/-- ITS FALSE NEIGHBOUR: 'it returns false'. Refute it at one input. -/
def fnPlanShuffledWrong : ChangeSpec := { name := "fnPlanShuffled", fn := fun _ => fun
  | [d1, d2, d3, d4] => { results := [.lit (.bool false)], args := [d1, d2, d3, d4] }
  | _ => none }
def FnPlanShuffledWrongFalsely : Prop := fnPlanShuffledRow.holds Tryz.pinned (OpenSpec.ofChange fnPlanShuffledWrong)

/-- 'laws.FnPartitionRound': WHATEVER THE INPUT: true; the input reads as it did. -/
def fnPartitionRoundSpec : ChangeSpec := { name := "fnPartitionRound", fn := fun _ => fun
  | [d] => { results := [.lit (.bool true)], args := [d] }
  | _ => none }
def fnPartitionRoundRow : OpenClaim := { program := "ytghgffhcdnmpnaagreat", sum := "d6a3816d4438f2f9fcccc4d558219dcbb8531b2083067dcf44737a345128c57f", func := "pub-kestrel/laws.FnPartitionRound", spec := "fnPartitionRound", inPlace := ["math.archMin", "math.Float64bits", "math.Float64frombits"], unfollowed := true, recurses := true, plainKeys := false, apart := false }
def FnPartitionRoundSaid : Prop := fnPartitionRoundRow.holds Tryz.pinned (OpenSpec.ofChange fnPartitionRoundSpec)

/-- ITS FALSE NEIGHBOUR: 'it returns false'. Refute it at one input. -/
def fnPartitionRoundWrong : ChangeSpec := { name := "fnPartitionRound", fn := fun _ => fun
  | [d] => { results := [.lit (.bool false)], args := [d] }
  | _ => none }
def FnPartitionRoundWrongFalsely : Prop := fnPartitionRoundRow.holds Tryz.pinned (OpenSpec.ofChange fnPartitionRoundWrong)

/- THE SECOND FORM. 'bulk': how many values and letters a reading holds, each counted each time it is reached (what is shared counts as often as it is met; a slice's spare places count too). A statement '..UptoSaid' is the law's where the arguments, and the package variables that the reading takes, are together of bulk at most 1048576: NARROWER than '..Said'. Prove '..Said' where nothing that the law and all that it calls make is longer than what came in: it says more and counts as full. Else prove '..UptoSaid'. A law counts once. -/
mutual
def uptoBulk {H : Type} : DataW H → Nat
  | .lit (.string bytes) => bytes.length + 1
  | .lit _ => 1
  | .nil => 1
  | .ptr d => uptoBulk d + 1
  | .slice elems spare => uptoBulkAll elems + uptoBulkAll spare + 1
  | .agg parts => uptoBulkAll parts + 1
  | .iface _ d => uptoBulk d + 1
  | .map entries => uptoBulkEntries entries + 1
  | .held _ => 1
def uptoBulkAll {H : Type} : List (DataW H) → Nat
  | [] => 0
  | d :: r => uptoBulk d + uptoBulkAll r
def uptoBulkEntries {H : Type} : List (Lit × DataW H) → Nat
  | [] => 0
  | x :: r => uptoBulkEntry x + uptoBulkEntries r
def uptoBulkEntry {H : Type} : Lit × DataW H → Nat
  | (.string bytes, d) => bytes.length + uptoBulk d + 1
  | (_, d) => uptoBulk d + 1
 end
def uptoSmall : (H : Type) → List (DataW H) → Bool := fun _ ds => decide (uptoBulkAll ds ≤ 1048576)
def OpenSpec.upto (s : _root_.Go.ChangeSpec) : _root_.Go.OpenSpec := { _root_.Go.OpenSpec.ofChange s with cond := some uptoSmall }

/-- 'laws.FnHashes', WHERE WHAT IT READS IS OF BULK AT MOST 1048576: true; the input reads as it did. -/
def fnHashesUptoRow : OpenClaim := { program := "ytghgffhcdnmpnaagreat", sum := "d6a3816d4438f2f9fcccc4d558219dcbb8531b2083067dcf44737a345128c57f", func := "pub-kestrel/laws.FnHashes", spec := "fnHashes", inPlace := ["math.archMin", "math.Float64bits", "math.Float64frombits"], unfollowed := true, recurses := true, plainKeys := false, apart := false, narrowed := true }
def FnHashesUptoSaid : Prop := fnHashesUptoRow.holds Tryz.pinned (OpenSpec.upto fnHashesSpec)

/-- 'laws.FnPartition', WHERE WHAT IT READS IS OF BULK AT MOST 1048576: true; the input reads as it did. -/
def fnPartitionUptoRow : OpenClaim := { program := "ytghgffhcdnmpnaagreat", sum := "d6a3816d4438f2f9fcccc4d558219dcbb8531b2083067dcf44737a345128c57f", func := "pub-kestrel/laws.FnPartition", spec := "fnPartition", inPlace := ["math.archMin", "math.Float64bits", "math.Float64frombits"], unfollowed := true, recurses := true, plainKeys := false, apart := false, narrowed := true }
def FnPartitionUptoSaid : Prop := fnPartitionUptoRow.holds Tryz.pinned (OpenSpec.upto fnPartitionSpec)

/-- 'laws.FnPlanEven', WHERE WHAT IT READS IS OF BULK AT MOST 1048576: true; the input reads as it did. -/
def fnPlanEvenUptoRow : OpenClaim := { program := "ytghgffhcdnmpnaagreat", sum := "d6a3816d4438f2f9fcccc4d558219dcbb8531b2083067dcf44737a345128c57f", func := "pub-kestrel/laws.FnPlanEven", spec := "fnPlanEven", inPlace := ["math.archMin", "math.Float64bits", "math.Float64frombits"], unfollowed := true, recurses := true, plainKeys := false, apart := false, narrowed := true }
def FnPlanEvenUptoSaid : Prop := fnPlanEvenUptoRow.holds Tryz.pinned (OpenSpec.upto fnPlanEvenSpec)

/-- 'laws.FnPlanOdd', WHERE WHAT IT READS IS OF BULK AT MOST 1048576: true; the input reads as it did. -/
def fnPlanOddUptoRow : OpenClaim := { program := "ytghgffhcdnmpnaagreat", sum := "d6a3816d4438f2f9fcccc4d558219dcbb8531b2083067dcf44737a345128c57f", func := "pub-kestrel/laws.FnPlanOdd", spec := "fnPlanOdd", inPlace := ["math.archMin", "math.Float64bits", "math.Float64frombits"], unfollowed := true, recurses := true, plainKeys := false, apart := false, narrowed := true }
def FnPlanOddUptoSaid : Prop := fnPlanOddUptoRow.holds Tryz.pinned (OpenSpec.upto fnPlanOddSpec)

/-- 'laws.FnPlanOnce', WHERE WHAT IT READS IS OF BULK AT MOST 1048576: true; the input reads as it did. -/
def fnPlanOnceUptoRow : OpenClaim := { program := "ytghgffhcdnmpnaagreat", sum := "d6a3816d4438f2f9fcccc4d558219dcbb8531b2083067dcf44737a345128c57f", func := "pub-kestrel/laws.FnPlanOnce", spec := "fnPlanOnce", inPlace := ["math.archMin", "math.Float64bits", "math.Float64frombits"], unfollowed := true, recurses := true, plainKeys := false, apart := false, narrowed := true }
def FnPlanOnceUptoSaid : Prop := fnPlanOnceUptoRow.holds Tryz.pinned (OpenSpec.upto fnPlanOnceSpec)

/-- 'laws.FnPlanRange', WHERE WHAT IT READS IS OF BULK AT MOST 1048576: true; the input reads as it did. -/
def fnPlanRangeUptoRow : OpenClaim := { program := "ytghgffhcdnmpnaagreat", sum := "d6a3816d4438f2f9fcccc4d558219dcbb8531b2083067dcf44737a345128c57f", func := "pub-kestrel/laws.FnPlanRange", spec := "fnPlanRange", inPlace := ["math.archMin", "math.Float64bits", "math.Float64frombits"], unfollowed := true, recurses := true, plainKeys := false, apart := false, narrowed := true }
def FnPlanRangeUptoSaid : Prop := fnPlanRangeUptoRow.holds Tryz.pinned (OpenSpec.upto fnPlanRangeSpec)

/-- 'laws.FnPlanRound', WHERE WHAT IT READS IS OF BULK AT MOST 1048576: true; the input reads as it did. -/
def fnPlanRoundUptoRow : OpenClaim := { program := "ytghgffhcdnmpnaagreat", sum := "d6a3816d4438f2f9fcccc4d558219dcbb8531b2083067dcf44737a345128c57f", func := "pub-kestrel/laws.FnPlanRound", spec := "fnPlanRound", inPlace := ["math.archMin", "math.Float64bits", "math.Float64frombits"], unfollowed := true, recurses := true, plainKeys := false, apart := false, narrowed := true }
def FnPlanRoundUptoSaid : Prop := fnPlanRoundUptoRow.holds Tryz.pinned (OpenSpec.upto fnPlanRoundSpec)

/-- 'laws.FnPlanShuffled', WHERE WHAT IT READS IS OF BULK AT MOST 1048576: true; the input reads as it did. -/
def fnPlanShuffledUptoRow : OpenClaim := { program := "ytghgffhcdnmpnaagreat", sum := "d6a3816d4438f2f9fcccc4d558219dcbb8531b2083067dcf44737a345128c57f", func := "pub-kestrel/laws.FnPlanShuffled", spec := "fnPlanShuffled", inPlace := ["math.archMin", "math.Float64bits", "math.Float64frombits"], unfollowed := true, recurses := true, plainKeys := false, apart := false, narrowed := true }
def FnPlanShuffledUptoSaid : Prop := fnPlanShuffledUptoRow.holds Tryz.pinned (OpenSpec.upto fnPlanShuffledSpec)

/-- 'laws.FnPartitionRound', WHERE WHAT IT READS IS OF BULK AT MOST 1048576: true; the input reads as it did. -/
def fnPartitionRoundUptoRow : OpenClaim := { program := "ytghgffhcdnmpnaagreat", sum := "d6a3816d4438f2f9fcccc4d558219dcbb8531b2083067dcf44737a345128c57f", func := "pub-kestrel/laws.FnPartitionRound", spec := "fnPartitionRound", inPlace := ["math.archMin", "math.Float64bits", "math.Float64frombits"], unfollowed := true, recurses := true, plainKeys := false, apart := false, narrowed := true }
def FnPartitionRoundUptoSaid : Prop := fnPartitionRoundUptoRow.holds Tryz.pinned (OpenSpec.upto fnPartitionRoundSpec)

end Rows
end Go.Proofs.YtghgffhcdnmpnaaGreat
