/-
  NARROWER THAN 'FOR EVERY INPUT', by the rows' own cells (each row's printed sentence says how): FnNextSegment: loops · FnSeqReverse: loops · FnLineTransform: loops.
  DERIVED. THE GIVEN ROWS OF THIS SEAT. 6 by the template 'for every input the law returns true; each argument reads behind the call as it read before'; 0 by the template 'total and deterministic' (their statements: YtkbmakajcebpfaaTotals.lean).
  GIVEN WITH THE SEED: the statements are not yours to turn. If you find one false, say at which input.
  Laid BY PROGRAM, IN A SANDBOX (cutbox-rows.mjs): the forced cells as the released guide's own fill.sh prints them over the translation 3f1678d1c5b71bae… (all of the seat's roots in one cut). By AI agents, Wed Nov 11 2026. No macro, syntax, notation, axiom, sorry.
-/
import Derived.Test.YtkbmakajcebpfaaChecked
import GoSem.Claim
import GoSem.ClaimJoined
import GoSem.ClaimMapViews
import Derived.JoinedTies
import Derived.KernelRfl
namespace Go.Proofs.Ytkbmakajcebpfaa
/- THE CELL 'sum', in the pinned program and in every row, IS THE sha256 OF THE DUMP (.gsa) THAT YtkbmakajcebpfaaProg.lean LOADS. Nothing in Lean hashes anything: it is a label: what it is worth is what the hold of that sum in a sandbox is worth. -/
noncomputable def Try.pinned : Pinned := { name := "ytkbmakajcebpfaa", sum := "3f1678d1c5b71bae26bb8fdfc2ef0bcc577324f2e2b47acc19e69dc287a8203b", checked := Try.checked }
namespace Rows
def none {H : Type} : Left H := { results := [], args := [] }

/-- 'laws.FnNextSegment': WHATEVER THE INPUT: true; the input reads as it did. -/
def fnNextSegmentSpec : ChangeSpec := { name := "fnNextSegment", fn := fun _ => fun
  | [d1, d2] => { results := [.lit (.bool true)], args := [d1, d2] }
  | _ => none }
def fnNextSegmentRow : OpenClaim := { program := "ytkbmakajcebpfaa", sum := "3f1678d1c5b71bae26bb8fdfc2ef0bcc577324f2e2b47acc19e69dc287a8203b", func := "pub-alidade/laws.FnNextSegment", spec := "fnNextSegment", inPlace := ["math.Float64bits", "math.Float64frombits"], unfollowed := true, recurses := true, loops := true, plainKeys := false, apart := false }
def FnNextSegmentSaid : Prop := fnNextSegmentRow.holds Try.pinned (OpenSpec.ofChange fnNextSegmentSpec)

/-- ITS FALSE NEIGHBOUR: 'it returns false'. Refute it at one input. -/
def fnNextSegmentWrong : ChangeSpec := { name := "fnNextSegment", fn := fun _ => fun
  | [d1, d2] => { results := [.lit (.bool false)], args := [d1, d2] }
  | _ => none }
def FnNextSegmentWrongFalsely : Prop := fnNextSegmentRow.holds Try.pinned (OpenSpec.ofChange fnNextSegmentWrong)

/-- 'laws.FnSeqReverse': WHATEVER THE INPUT: true; the input reads as it did. -/
def fnSeqReverseSpec : ChangeSpec := { name := "fnSeqReverse", fn := fun _ => fun
  | [d1, d2] => { results := [.lit (.bool true)], args := [d1, d2] }
  | _ => none }
def fnSeqReverseRow : OpenClaim := { program := "ytkbmakajcebpfaa", sum := "3f1678d1c5b71bae26bb8fdfc2ef0bcc577324f2e2b47acc19e69dc287a8203b", func := "pub-alidade/laws.FnSeqReverse", spec := "fnSeqReverse", inPlace := ["math.Float64bits"], unfollowed := true, recurses := true, loops := true, plainKeys := false, apart := false }
def FnSeqReverseSaid : Prop := fnSeqReverseRow.holds Try.pinned (OpenSpec.ofChange fnSeqReverseSpec)

/-- ITS FALSE NEIGHBOUR: 'it returns false'. Refute it at one input. -/
def fnSeqReverseWrong : ChangeSpec := { name := "fnSeqReverse", fn := fun _ => fun
  | [d1, d2] => { results := [.lit (.bool false)], args := [d1, d2] }
  | _ => none }
def FnSeqReverseWrongFalsely : Prop := fnSeqReverseRow.holds Try.pinned (OpenSpec.ofChange fnSeqReverseWrong)

/-- 'laws.FnLineTransform': WHATEVER THE INPUT: true; the input reads as it did. -/
def fnLineTransformSpec : ChangeSpec := { name := "fnLineTransform", fn := fun _ => fun
  | [d1, d2] => { results := [.lit (.bool true)], args := [d1, d2] }
  | _ => none }
def fnLineTransformRow : OpenClaim := { program := "ytkbmakajcebpfaa", sum := "3f1678d1c5b71bae26bb8fdfc2ef0bcc577324f2e2b47acc19e69dc287a8203b", func := "pub-alidade/laws.FnLineTransform", spec := "fnLineTransform", inPlace := ["math.archTrunc", "math.Float64bits", "math.Float64frombits"], unfollowed := true, recurses := true, loops := true, plainKeys := false, apart := false }
def FnLineTransformSaid : Prop := fnLineTransformRow.holds Try.pinned (OpenSpec.ofChange fnLineTransformSpec)

/-- ITS FALSE NEIGHBOUR: 'it returns false'. Refute it at one input. -/
def fnLineTransformWrong : ChangeSpec := { name := "fnLineTransform", fn := fun _ => fun
  | [d1, d2] => { results := [.lit (.bool false)], args := [d1, d2] }
  | _ => none }
def FnLineTransformWrongFalsely : Prop := fnLineTransformRow.holds Try.pinned (OpenSpec.ofChange fnLineTransformWrong)

/-- 'laws.FnMultiPointSimple': WHATEVER THE INPUT: true; the input reads as it did. -/
def fnMultiPointSimpleSpec : ChangeSpec := { name := "fnMultiPointSimple", fn := fun _ => fun
  | [d] => { results := [.lit (.bool true)], args := [d] }
  | _ => none }
def fnMultiPointSimpleRow : OpenClaim := { program := "ytkbmakajcebpfaa", sum := "3f1678d1c5b71bae26bb8fdfc2ef0bcc577324f2e2b47acc19e69dc287a8203b", func := "pub-alidade/laws.FnMultiPointSimple", spec := "fnMultiPointSimple", plainKeys := false, apart := false }
def FnMultiPointSimpleSaid : Prop := fnMultiPointSimpleRow.holds Try.pinned (OpenSpec.ofChange fnMultiPointSimpleSpec)

/-- ITS FALSE NEIGHBOUR: 'it returns false'. Refute it at one input. -/
def fnMultiPointSimpleWrong : ChangeSpec := { name := "fnMultiPointSimple", fn := fun _ => fun
  | [d] => { results := [.lit (.bool false)], args := [d] }
  | _ => none }
def FnMultiPointSimpleWrongFalsely : Prop := fnMultiPointSimpleRow.holds Try.pinned (OpenSpec.ofChange fnMultiPointSimpleWrong)

/-- 'laws.FnNodesFew': WHATEVER THE INPUT: true; the input reads as it did. -/
def fnNodesFewSpec : ChangeSpec := { name := "fnNodesFew", fn := fun _ => fun
  | [d] => { results := [.lit (.bool true)], args := [d] }
  | _ => none }
def fnNodesFewRow : OpenClaim := { program := "ytkbmakajcebpfaa", sum := "3f1678d1c5b71bae26bb8fdfc2ef0bcc577324f2e2b47acc19e69dc287a8203b", func := "pub-alidade/laws.FnNodesFew", spec := "fnNodesFew", inPlace := ["math.archTrunc", "math.Float64bits", "math.Float64frombits"], unfollowed := true, recurses := true, plainKeys := false, apart := false }
def FnNodesFewSaid : Prop := fnNodesFewRow.holds Try.pinned (OpenSpec.ofChange fnNodesFewSpec)

/-- ITS FALSE NEIGHBOUR: 'it returns false'. Refute it at one input. -/
def fnNodesFewWrong : ChangeSpec := { name := "fnNodesFew", fn := fun _ => fun
  | [d] => { results := [.lit (.bool false)], args := [d] }
  | _ => none }
def FnNodesFewWrongFalsely : Prop := fnNodesFewRow.holds Try.pinned (OpenSpec.ofChange fnNodesFewWrong)

/-- 'laws.FnNodesTogether': WHATEVER THE INPUT: true; the input reads as it did. -/
def fnNodesTogetherSpec : ChangeSpec := { name := "fnNodesTogether", fn := fun _ => fun
  | [d1, d2] => { results := [.lit (.bool true)], args := [d1, d2] }
  | _ => none }
def fnNodesTogetherRow : OpenClaim := { program := "ytkbmakajcebpfaa", sum := "3f1678d1c5b71bae26bb8fdfc2ef0bcc577324f2e2b47acc19e69dc287a8203b", func := "pub-alidade/laws.FnNodesTogether", spec := "fnNodesTogether", inPlace := ["math.archFloor", "math.Float64bits", "math.Float64frombits", "math.archTrunc"], plainKeys := false, apart := false }
def FnNodesTogetherSaid : Prop := fnNodesTogetherRow.holds Try.pinned (OpenSpec.ofChange fnNodesTogetherSpec)

/-- ITS FALSE NEIGHBOUR: 'it returns false'. Refute it at one input. -/
def fnNodesTogetherWrong : ChangeSpec := { name := "fnNodesTogether", fn := fun _ => fun
  | [d1, d2] => { results := [.lit (.bool false)], args := [d1, d2] }
  | _ => none }
def FnNodesTogetherWrongFalsely : Prop := fnNodesTogetherRow.holds Try.pinned (OpenSpec.ofChange fnNodesTogetherWrong)

/- THE SECOND FORM. 'bulk': how many values and letters a reading holds, each counted each time it is reached (what is shared counts as often as it is met; a slice's spare places count too). A statement '..UptoSaid' is the law's where the arguments, and the package variables that the reading takes, are together of bulk at most 1048576: NARROWER than '..Said'. Prove '..Said' where nothing that the law and all that it calls make is longer than what came in: it says more and counts as full. Else prove '..UptoSaid'. A law counts once. -/
mutual
def uptoBulk {H : Type} : DataW H → Nat
  | .lit (.string bytes) => bytes.length + 1
  | .lit _ => 1
  | .nil => 1
  | .ptr d => uptoBulk d + 1
  | .slice elems spare => uptoBulkAll elems + uptoBulkAll spare + 1
  | .agg parts => uptoBulkAll parts + 1
  | .iface _ d => uptoBulk d + 1
  | .map entries => uptoBulkEntries entries + 1
  | .held _ => 1
def uptoBulkAll {H : Type} : List (DataW H) → Nat
  | [] => 0
  | d :: r => uptoBulk d + uptoBulkAll r
def uptoBulkEntries {H : Type} : List (Lit × DataW H) → Nat
  | [] => 0
  | x :: r => uptoBulkEntry x + uptoBulkEntries r
def uptoBulkEntry {H : Type} : Lit × DataW H → Nat
  | (.string bytes, d) => bytes.length + uptoBulk d + 1
  | (_, d) => uptoBulk d + 1
 end
def uptoSmall : (H : Type) → List (DataW H) → Bool := fun _ ds => decide (uptoBulkAll ds ≤ 1048576)
def OpenSpec.upto (s : _root_.Go.ChangeSpec) : _root_.Go.OpenSpec := { _root_.Go.OpenSpec.ofChange s with cond := some uptoSmall }

/-- 'laws.FnNextSegment', WHERE WHAT IT READS IS OF BULK AT MOST 1048576: true; the input reads as it did. -/
def fnNextSegmentUptoRow : OpenClaim := { program := "ytkbmakajcebpfaa", sum := "3f1678d1c5b71bae26bb8fdfc2ef0bcc577324f2e2b47acc19e69dc287a8203b", func := "pub-alidade/laws.FnNextSegment", spec := "fnNextSegment", inPlace := ["math.Float64bits", "math.Float64frombits"], unfollowed := true, recurses := true, loops := true, plainKeys := false, apart := false, narrowed := true }
def FnNextSegmentUptoSaid : Prop := fnNextSegmentUptoRow.holds Try.pinned (OpenSpec.upto fnNextSegmentSpec)

/-- 'laws.FnSeqReverse', WHERE WHAT IT READS IS OF BULK AT MOST 1048576: true; the input reads as it did. -/
def fnSeqReverseUptoRow : OpenClaim := { program := "ytkbmakajcebpfaa", sum := "3f1678d1c5b71bae26bb8fdfc2ef0bcc577324f2e2b47acc19e69dc287a8203b", func := "pub-alidade/laws.FnSeqReverse", spec := "fnSeqReverse", inPlace := ["math.Float64bits"], unfollowed := true, recurses := true, loops := true, plainKeys := false, apart := false, narrowed := true }
def FnSeqReverseUptoSaid : Prop := fnSeqReverseUptoRow.holds Try.pinned (OpenSpec.upto fnSeqReverseSpec)

/-- 'laws.FnLineTransform', WHERE WHAT IT READS IS OF BULK AT MOST 1048576: true; the input reads as it did. -/
def fnLineTransformUptoRow : OpenClaim := { program := "ytkbmakajcebpfaa", sum := "3f1678d1c5b71bae26bb8fdfc2ef0bcc577324f2e2b47acc19e69dc287a8203b", func := "pub-alidade/laws.FnLineTransform", spec := "fnLineTransform", inPlace := ["math.archTrunc", "math.Float64bits", "math.Float64frombits"], unfollowed := true, recurses := true, loops := true, plainKeys := false, apart := false, narrowed := true }
def FnLineTransformUptoSaid : Prop := fnLineTransformUptoRow.holds Try.pinned (OpenSpec.upto fnLineTransformSpec)

/-- 'laws.FnMultiPointSimple', WHERE WHAT IT READS IS OF BULK AT MOST 1048576: true; the input reads as it did. -/
def fnMultiPointSimpleUptoRow : OpenClaim := { program := "ytkbmakajcebpfaa", sum := "3f1678d1c5b71bae26bb8fdfc2ef0bcc577324f2e2b47acc19e69dc287a8203b", func := "pub-alidade/laws.FnMultiPointSimple", spec := "fnMultiPointSimple", plainKeys := false, apart := false, narrowed := true }
def FnMultiPointSimpleUptoSaid : Prop := fnMultiPointSimpleUptoRow.holds Try.pinned (OpenSpec.upto fnMultiPointSimpleSpec)

/-- 'laws.FnNodesFew', WHERE WHAT IT READS IS OF BULK AT MOST 1048576: true; the input reads as it did. -/
def fnNodesFewUptoRow : OpenClaim := { program := "ytkbmakajcebpfaa", sum := "3f1678d1c5b71bae26bb8fdfc2ef0bcc577324f2e2b47acc19e69dc287a8203b", func := "pub-alidade/laws.FnNodesFew", spec := "fnNodesFew", inPlace := ["math.archTrunc", "math.Float64bits", "math.Float64frombits"], unfollowed := true, recurses := true, plainKeys := false, apart := false, narrowed := true }
def FnNodesFewUptoSaid : Prop := fnNodesFewUptoRow.holds Try.pinned (OpenSpec.upto fnNodesFewSpec)

/-- 'laws.FnNodesTogether', WHERE WHAT IT READS IS OF BULK AT MOST 1048576: true; the input reads as it did. -/
def fnNodesTogetherUptoRow : OpenClaim := { program := "ytkbmakajcebpfaa", sum := "3f1678d1c5b71bae26bb8fdfc2ef0bcc577324f2e2b47acc19e69dc287a8203b", func := "pub-alidade/laws.FnNodesTogether", spec := "fnNodesTogether", inPlace := ["math.archFloor", "math.Float64bits", "math.Float64frombits", "math.archTrunc"], plainKeys := false, apart := false, narrowed := true }
def FnNodesTogetherUptoSaid : Prop := fnNodesTogetherUptoRow.holds Try.pinned (OpenSpec.upto fnNodesTogetherSpec)

end Rows
end Go.Proofs.Ytkbmakajcebpfaa
