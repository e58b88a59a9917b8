/-
  No cell of these rows narrows 'for every input' (looked for: loops, veiled, ifaces, maps, wideKeys, modest, calm, conditions, laid).
  DERIVED. THE GIVEN ROWS OF THIS SEAT. 7 by the template 'for every input the law returns true; each argument reads behind the call as it read before'; 0 by the template 'total and deterministic' (their statements: YtnmbjalojgccmaaGreatTotals.lean).
  GIVEN WITH THE SEED: the statements are not yours to turn. If you find one false, say at which input.
  Laid BY PROGRAM, IN A SANDBOX (cutbox-rows.mjs): the forced cells as the released guide's own fill.sh prints them over the translation 4727394b46f2551c… (all of the seat's roots in one cut). By AI agents, Wed Nov 11 2026. No macro, syntax, notation, axiom, sorry.
-/
import Derived.Test.YtnmbjalojgccmaaGreatChecked
import GoSem.Claim
import GoSem.ClaimJoined
import GoSem.ClaimMapViews
import Derived.JoinedTies
import Derived.KernelRfl
namespace Go.Proofs.YtnmbjalojgccmaaGreat
/- THE CELL 'sum', in the pinned program and in every row, IS THE sha256 OF THE DUMP (.gsa) THAT YtnmbjalojgccmaaGreatProg.lean LOADS. Nothing in Lean hashes anything: it is a label: what it is worth is what the hold of that sum in a sandbox is worth. -/
noncomputable def Tryz.pinned : Pinned := { name := "ytnmbjalojgccmaagreat", sum := "4727394b46f2551cc2f7bddf03cf414ab05c2f565f1b1a7f85521c1144a72c6c", checked := Tryz.checked }
namespace Rows
def none {H : Type} : Left H := { results := [], args := [] }

/-- 'laws.FnRanks': WHATEVER THE INPUT: true; the input reads as it did. -/
def fnRanksSpec : ChangeSpec := { name := "fnRanks", fn := fun _ => fun
  | [d1, d2, d3, d4] => { results := [.lit (.bool true)], args := [d1, d2, d3, d4] }
  | _ => none }
def fnRanksRow : OpenClaim := { program := "ytnmbjalojgccmaagreat", sum := "4727394b46f2551cc2f7bddf03cf414ab05c2f565f1b1a7f85521c1144a72c6c", func := "ddsketch/laws.FnRanks", spec := "fnRanks", unfollowed := true, recurses := true, apart := false }
def FnRanksSaid : Prop := fnRanksRow.holds Tryz.pinned (OpenSpec.ofChange fnRanksSpec)

/-- ITS FALSE NEIGHBOUR: 'it returns false'. Refute it at one input. -/
def fnRanksWrong : ChangeSpec := { name := "fnRanks", fn := fun _ => fun
  | [d1, d2, d3, d4] => { results := [.lit (.bool false)], args := [d1, d2, d3, d4] }
  | _ => none }
def FnRanksWrongFalsely : Prop := fnRanksRow.holds Tryz.pinned (OpenSpec.ofChange fnRanksWrong)

/-- 'laws.FnStore': WHATEVER THE INPUT: true; the input reads as it did. -/
def fnStoreSpec : ChangeSpec := { name := "fnStore", fn := fun _ => fun
  | [d1, d2, d3] => { results := [.lit (.bool true)], args := [d1, d2, d3] }
  | _ => none }
def fnStoreRow : OpenClaim := { program := "ytnmbjalojgccmaagreat", sum := "4727394b46f2551cc2f7bddf03cf414ab05c2f565f1b1a7f85521c1144a72c6c", func := "ddsketch/laws.FnStore", spec := "fnStore", unfollowed := true, recurses := true, apart := false }
def FnStoreSaid : Prop := fnStoreRow.holds Tryz.pinned (OpenSpec.ofChange fnStoreSpec)

/-- ITS FALSE NEIGHBOUR: 'it returns false'. Refute it at one input. -/
def fnStoreWrong : ChangeSpec := { name := "fnStore", fn := fun _ => fun
  | [d1, d2, d3] => { results := [.lit (.bool false)], args := [d1, d2, d3] }
  | _ => none }
def FnStoreWrongFalsely : Prop := fnStoreRow.holds Tryz.pinned (OpenSpec.ofChange fnStoreWrong)

/-- 'laws.FnWeighed': WHATEVER THE INPUT: true; the input reads as it did. -/
def fnWeighedSpec : ChangeSpec := { name := "fnWeighed", fn := fun _ => fun
  | [d1, d2, d3, d4] => { results := [.lit (.bool true)], args := [d1, d2, d3, d4] }
  | _ => none }
def fnWeighedRow : OpenClaim := { program := "ytnmbjalojgccmaagreat", sum := "4727394b46f2551cc2f7bddf03cf414ab05c2f565f1b1a7f85521c1144a72c6c", func := "ddsketch/laws.FnWeighed", spec := "fnWeighed", unfollowed := true, recurses := true, apart := false }
def FnWeighedSaid : Prop := fnWeighedRow.holds Tryz.pinned (OpenSpec.ofChange fnWeighedSpec)

/-- ITS FALSE NEIGHBOUR: 'it returns false'. Refute it at one input. -/
def fnWeighedWrong : ChangeSpec := { name := "fnWeighed", fn := fun _ => fun
  | [d1, d2, d3, d4] => { results := [.lit (.bool false)], args := [d1, d2, d3, d4] }
  | _ => none }
def FnWeighedWrongFalsely : Prop := fnWeighedRow.holds Tryz.pinned (OpenSpec.ofChange fnWeighedWrong)

/-- 'laws.FnMerged': WHATEVER THE INPUT: true; the input reads as it did. -/
def fnMergedSpec : ChangeSpec := { name := "fnMerged", fn := fun _ => fun
  | [d1, d2, d3, d4, d5, d6] => { results := [.lit (.bool true)], args := [d1, d2, d3, d4, d5, d6] }
  | _ => none }
def fnMergedRow : OpenClaim := { program := "ytnmbjalojgccmaagreat", sum := "4727394b46f2551cc2f7bddf03cf414ab05c2f565f1b1a7f85521c1144a72c6c", func := "ddsketch/laws.FnMerged", spec := "fnMerged", unfollowed := true, recurses := true, apart := false }
def FnMergedSaid : Prop := fnMergedRow.holds Tryz.pinned (OpenSpec.ofChange fnMergedSpec)

/-- ITS FALSE NEIGHBOUR: 'it returns false'. Refute it at one input. -/
def fnMergedWrong : ChangeSpec := { name := "fnMerged", fn := fun _ => fun
  | [d1, d2, d3, d4, d5, d6] => { results := [.lit (.bool false)], args := [d1, d2, d3, d4, d5, d6] }
  | _ => none }
def FnMergedWrongFalsely : Prop := fnMergedRow.holds Tryz.pinned (OpenSpec.ofChange fnMergedWrong)

/-- 'laws.FnQuantiles': WHATEVER THE INPUT: true; the input reads as it did. -/
def fnQuantilesSpec : ChangeSpec := { name := "fnQuantiles", fn := fun _ => fun
  | [d1, d2, d3, d4, d5] => { results := [.lit (.bool true)], args := [d1, d2, d3, d4, d5] }
  | _ => none }
def fnQuantilesRow : OpenClaim := { program := "ytnmbjalojgccmaagreat", sum := "4727394b46f2551cc2f7bddf03cf414ab05c2f565f1b1a7f85521c1144a72c6c", func := "ddsketch/laws.FnQuantiles", spec := "fnQuantiles", inPlace := ["math.Float64bits", "math.Float64frombits"], unfollowed := true, recurses := true, apart := false }
def FnQuantilesSaid : Prop := fnQuantilesRow.holds Tryz.pinned (OpenSpec.ofChange fnQuantilesSpec)

/-- ITS FALSE NEIGHBOUR: 'it returns false'. Refute it at one input. -/
def fnQuantilesWrong : ChangeSpec := { name := "fnQuantiles", fn := fun _ => fun
  | [d1, d2, d3, d4, d5] => { results := [.lit (.bool false)], args := [d1, d2, d3, d4, d5] }
  | _ => none }
def FnQuantilesWrongFalsely : Prop := fnQuantilesRow.holds Tryz.pinned (OpenSpec.ofChange fnQuantilesWrong)

/-- 'laws.FnQuantilesMerged': WHATEVER THE INPUT: true; the input reads as it did. -/
def fnQuantilesMergedSpec : ChangeSpec := { name := "fnQuantilesMerged", fn := fun _ => fun
  | [d1, d2, d3, d4, d5, d6] => { results := [.lit (.bool true)], args := [d1, d2, d3, d4, d5, d6] }
  | _ => none }
def fnQuantilesMergedRow : OpenClaim := { program := "ytnmbjalojgccmaagreat", sum := "4727394b46f2551cc2f7bddf03cf414ab05c2f565f1b1a7f85521c1144a72c6c", func := "ddsketch/laws.FnQuantilesMerged", spec := "fnQuantilesMerged", inPlace := ["math.Float64bits", "math.Float64frombits"], unfollowed := true, recurses := true, apart := false }
def FnQuantilesMergedSaid : Prop := fnQuantilesMergedRow.holds Tryz.pinned (OpenSpec.ofChange fnQuantilesMergedSpec)

/-- ITS FALSE NEIGHBOUR: 'it returns false'. Refute it at one input. -/
def fnQuantilesMergedWrong : ChangeSpec := { name := "fnQuantilesMerged", fn := fun _ => fun
  | [d1, d2, d3, d4, d5, d6] => { results := [.lit (.bool false)], args := [d1, d2, d3, d4, d5, d6] }
  | _ => none }
def FnQuantilesMergedWrongFalsely : Prop := fnQuantilesMergedRow.holds Tryz.pinned (OpenSpec.ofChange fnQuantilesMergedWrong)

/-- 'laws.FnCoded': WHATEVER THE INPUT: true; the input reads as it did. -/
def fnCodedSpec : ChangeSpec := { name := "fnCoded", fn := fun _ => fun
  | [d1, d2, d3, d4, d5] => { results := [.lit (.bool true)], args := [d1, d2, d3, d4, d5] }
  | _ => none }
def fnCodedRow : OpenClaim := { program := "ytnmbjalojgccmaagreat", sum := "4727394b46f2551cc2f7bddf03cf414ab05c2f565f1b1a7f85521c1144a72c6c", func := "ddsketch/laws.FnCoded", spec := "fnCoded", unfollowed := true, recurses := true, apart := false }
def FnCodedSaid : Prop := fnCodedRow.holds Tryz.pinned (OpenSpec.ofChange fnCodedSpec)

/-- ITS FALSE NEIGHBOUR: 'it returns false'. Refute it at one input. -/
def fnCodedWrong : ChangeSpec := { name := "fnCoded", fn := fun _ => fun
  | [d1, d2, d3, d4, d5] => { results := [.lit (.bool false)], args := [d1, d2, d3, d4, d5] }
  | _ => none }
def FnCodedWrongFalsely : Prop := fnCodedRow.holds Tryz.pinned (OpenSpec.ofChange fnCodedWrong)

/- THE SECOND FORM. 'bulk': how many values and letters a reading holds, each counted each time it is reached (what is shared counts as often as it is met; a slice's spare places count too). A statement '..UptoSaid' is the law's where the arguments, and the package variables that the reading takes, are together of bulk at most 1048576: NARROWER than '..Said'. Prove '..Said' where nothing that the law and all that it calls make is longer than what came in: it says more and counts as full. Else prove '..UptoSaid'. A law counts once. -/
mutual
def uptoBulk {H : Type} : DataW H → Nat
  | .lit (.string bytes) => bytes.length + 1
  | .lit _ => 1
  | .nil => 1
  | .ptr d => uptoBulk d + 1
  | .slice elems spare => uptoBulkAll elems + uptoBulkAll spare + 1
  | .agg parts => uptoBulkAll parts + 1
  | .iface _ d => uptoBulk d + 1
  | .map entries => uptoBulkEntries entries + 1
  | .held _ => 1
def uptoBulkAll {H : Type} : List (DataW H) → Nat
  | [] => 0
  | d :: r => uptoBulk d + uptoBulkAll r
def uptoBulkEntries {H : Type} : List (Lit × DataW H) → Nat
  | [] => 0
  | x :: r => uptoBulkEntry x + uptoBulkEntries r
def uptoBulkEntry {H : Type} : Lit × DataW H → Nat
  | (.string bytes, d) => bytes.length + uptoBulk d + 1
  | (_, d) => uptoBulk d + 1
 end
def uptoSmall : (H : Type) → List (DataW H) → Bool := fun _ ds => decide (uptoBulkAll ds ≤ 1048576)
def OpenSpec.upto (s : _root_.Go.ChangeSpec) : _root_.Go.OpenSpec := { _root_.Go.OpenSpec.ofChange s with cond := some uptoSmall }

/-- 'laws.FnRanks', WHERE WHAT IT READS IS OF BULK AT MOST 1048576: true; the input reads as it did. -/
def fnRanksUptoRow : OpenClaim := { program := "ytnmbjalojgccmaagreat", sum := "4727394b46f2551cc2f7bddf03cf414ab05c2f565f1b1a7f85521c1144a72c6c", func := "ddsketch/laws.FnRanks", spec := "fnRanks", unfollowed := true, recurses := true, apart := false, narrowed := true }
def FnRanksUptoSaid : Prop := fnRanksUptoRow.holds Tryz.pinned (OpenSpec.upto fnRanksSpec)

/-- 'laws.FnStore', WHERE WHAT IT READS IS OF BULK AT MOST 1048576: true; the input reads as it did. -/
def fnStoreUptoRow : OpenClaim := { program := "ytnmbjalojgccmaagreat", sum := "4727394b46f2551cc2f7bddf03cf414ab05c2f565f1b1a7f85521c1144a72c6c", func := "ddsketch/laws.FnStore", spec := "fnStore", unfollowed := true, recurses := true, apart := false, narrowed := true }
def FnStoreUptoSaid : Prop := fnStoreUptoRow.holds Tryz.pinned (OpenSpec.upto fnStoreSpec)

/-- 'laws.FnWeighed', WHERE WHAT IT READS IS OF BULK AT MOST 1048576: true; the input reads as it did. -/
def fnWeighedUptoRow : OpenClaim := { program := "ytnmbjalojgccmaagreat", sum := "4727394b46f2551cc2f7bddf03cf414ab05c2f565f1b1a7f85521c1144a72c6c", func := "ddsketch/laws.FnWeighed", spec := "fnWeighed", unfollowed := true, recurses := true, apart := false, narrowed := true }
def FnWeighedUptoSaid : Prop := fnWeighedUptoRow.holds Tryz.pinned (OpenSpec.upto fnWeighedSpec)

/-- 'laws.FnMerged', WHERE WHAT IT READS IS OF BULK AT MOST 1048576: true; the input reads as it did. -/
def fnMergedUptoRow : OpenClaim := { program := "ytnmbjalojgccmaagreat", sum := "4727394b46f2551cc2f7bddf03cf414ab05c2f565f1b1a7f85521c1144a72c6c", func := "ddsketch/laws.FnMerged", spec := "fnMerged", unfollowed := true, recurses := true, apart := false, narrowed := true }
def FnMergedUptoSaid : Prop := fnMergedUptoRow.holds Tryz.pinned (OpenSpec.upto fnMergedSpec)

/-- 'laws.FnQuantiles', WHERE WHAT IT READS IS OF BULK AT MOST 1048576: true; the input reads as it did. -/
def fnQuantilesUptoRow : OpenClaim := { program := "ytnmbjalojgccmaagreat", sum := "4727394b46f2551cc2f7bddf03cf414ab05c2f565f1b1a7f85521c1144a72c6c", func := "ddsketch/laws.FnQuantiles", spec := "fnQuantiles", inPlace := ["math.Float64bits", "math.Float64frombits"], unfollowed := true, recurses := true, apart := false, narrowed := true }
def FnQuantilesUptoSaid : Prop := fnQuantilesUptoRow.holds Tryz.pinned (OpenSpec.upto fnQuantilesSpec)

/-- 'laws.FnQuantilesMerged', WHERE WHAT IT READS IS OF BULK AT MOST 1048576: true; the input reads as it did. -/
def fnQuantilesMergedUptoRow : OpenClaim := { program := "ytnmbjalojgccmaagreat", sum := "4727394b46f2551cc2f7bddf03cf414ab05c2f565f1b1a7f85521c1144a72c6c", func := "ddsketch/laws.FnQuantilesMerged", spec := "fnQuantilesMerged", inPlace := ["math.Float64bits", "math.Float64frombits"], unfollowed := true, recurses := true, apart := false, narrowed := true }
def FnQuantilesMergedUptoSaid : Prop := fnQuantilesMergedUptoRow.holds Tryz.pinned (OpenSpec.upto fnQuantilesMergedSpec)

/-- 'laws.FnCoded', WHERE WHAT IT READS IS OF BULK AT MOST 1048576: true; the input reads as it did. -/
def fnCodedUptoRow : OpenClaim := { program := "ytnmbjalojgccmaagreat", sum := "4727394b46f2551cc2f7bddf03cf414ab05c2f565f1b1a7f85521c1144a72c6c", func := "ddsketch/laws.FnCoded", spec := "fnCoded", unfollowed := true, recurses := true, apart := false, narrowed := true }
def FnCodedUptoSaid : Prop := fnCodedUptoRow.holds Tryz.pinned (OpenSpec.upto fnCodedSpec)

end Rows
end Go.Proofs.YtnmbjalojgccmaaGreat
