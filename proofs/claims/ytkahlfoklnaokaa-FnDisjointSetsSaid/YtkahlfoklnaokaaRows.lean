/-
  No cell of these rows narrows 'for every input' (looked for: loops, veiled, ifaces, maps, wideKeys, modest, calm, conditions, laid).
  DERIVED. THE GIVEN ROWS OF THIS SEAT. 6 by the template 'for every input the law returns true; each argument reads behind the call as it read before'; 0 by the template 'total and deterministic' (their statements: YtkahlfoklnaokaaTotals.lean).
  GIVEN WITH THE SEED: the statements are not yours to turn. If you find one false, say at which input.
  Laid BY PROGRAM, IN A SANDBOX (cutbox-rows.mjs): the forced cells as the released guide's own fill.sh prints them over the translation 693a69c32ea22096… (all of the seat's roots in one cut). By AI agents, Wed Nov 11 2026. No macro, syntax, notation, axiom, sorry.
-/
import Derived.Test.YtkahlfoklnaokaaChecked
import GoSem.Claim
import GoSem.ClaimJoined
import GoSem.ClaimMapViews
import Derived.JoinedTies
import Derived.KernelRfl
namespace Go.Proofs.Ytkahlfoklnaokaa
/- THE CELL 'sum', in the pinned program and in every row, IS THE sha256 OF THE DUMP (.gsa) THAT YtkahlfoklnaokaaProg.lean LOADS. Nothing in Lean hashes anything: it is a label: what it is worth is what the hold of that sum in a sandbox is worth. -/
noncomputable def Try.pinned : Pinned := { name := "ytkahlfoklnaokaa", sum := "693a69c32ea2209676674be5184e32993f147dd78243b43d32106feb8485dc42", checked := Try.checked }
namespace Rows
def none {H : Type} : Left H := { results := [], args := [] }

/-- 'laws.FnTypeString': WHATEVER THE INPUT: true; the input reads as it did. -/
def fnTypeStringSpec : ChangeSpec := { name := "fnTypeString", fn := fun _ => fun
  | [d] => { results := [.lit (.bool true)], args := [d] }
  | _ => none }
def fnTypeStringRow : OpenClaim := { program := "ytkahlfoklnaokaa", sum := "693a69c32ea2209676674be5184e32993f147dd78243b43d32106feb8485dc42", func := "pub-alidade/laws.FnTypeString", spec := "fnTypeString", apart := false }
def FnTypeStringSaid : Prop := fnTypeStringRow.holds Try.pinned (OpenSpec.ofChange fnTypeStringSpec)

/-- ITS FALSE NEIGHBOUR: 'it returns false'. Refute it at one input. -/
def fnTypeStringWrong : ChangeSpec := { name := "fnTypeString", fn := fun _ => fun
  | [d] => { results := [.lit (.bool false)], args := [d] }
  | _ => none }
def FnTypeStringWrongFalsely : Prop := fnTypeStringRow.holds Try.pinned (OpenSpec.ofChange fnTypeStringWrong)

/-- 'laws.FnBoxesMeet': WHATEVER THE INPUT: true; the input reads as it did. -/
def fnBoxesMeetSpec : ChangeSpec := { name := "fnBoxesMeet", fn := fun _ => fun
  | [d1, d2] => { results := [.lit (.bool true)], args := [d1, d2] }
  | _ => none }
def fnBoxesMeetRow : OpenClaim := { program := "ytkahlfoklnaokaa", sum := "693a69c32ea2209676674be5184e32993f147dd78243b43d32106feb8485dc42", func := "pub-alidade/laws.FnBoxesMeet", spec := "fnBoxesMeet", inPlace := ["math.Float64bits", "math.Float64frombits"], apart := false }
def FnBoxesMeetSaid : Prop := fnBoxesMeetRow.holds Try.pinned (OpenSpec.ofChange fnBoxesMeetSpec)

/-- ITS FALSE NEIGHBOUR: 'it returns false'. Refute it at one input. -/
def fnBoxesMeetWrong : ChangeSpec := { name := "fnBoxesMeet", fn := fun _ => fun
  | [d1, d2] => { results := [.lit (.bool false)], args := [d1, d2] }
  | _ => none }
def FnBoxesMeetWrongFalsely : Prop := fnBoxesMeetRow.holds Try.pinned (OpenSpec.ofChange fnBoxesMeetWrong)

/-- 'laws.FnXYCrossScale': WHATEVER THE INPUT: true; the input reads as it did. -/
def fnXYCrossScaleSpec : ChangeSpec := { name := "fnXYCrossScale", fn := fun _ => fun
  | [d1, d2, d3] => { results := [.lit (.bool true)], args := [d1, d2, d3] }
  | _ => none }
def fnXYCrossScaleRow : OpenClaim := { program := "ytkahlfoklnaokaa", sum := "693a69c32ea2209676674be5184e32993f147dd78243b43d32106feb8485dc42", func := "pub-alidade/laws.FnXYCrossScale", spec := "fnXYCrossScale", inPlace := ["math.archTrunc", "math.Float64bits", "math.Float64frombits"], apart := false }
def FnXYCrossScaleSaid : Prop := fnXYCrossScaleRow.holds Try.pinned (OpenSpec.ofChange fnXYCrossScaleSpec)

/-- ITS FALSE NEIGHBOUR: 'it returns false'. Refute it at one input. -/
def fnXYCrossScaleWrong : ChangeSpec := { name := "fnXYCrossScale", fn := fun _ => fun
  | [d1, d2, d3] => { results := [.lit (.bool false)], args := [d1, d2, d3] }
  | _ => none }
def FnXYCrossScaleWrongFalsely : Prop := fnXYCrossScaleRow.holds Try.pinned (OpenSpec.ofChange fnXYCrossScaleWrong)

/-- 'laws.FnDisjointSets': WHATEVER THE INPUT: true; the input reads as it did. -/
def fnDisjointSetsSpec : ChangeSpec := { name := "fnDisjointSets", fn := fun _ => fun
  | [d1, d2] => { results := [.lit (.bool true)], args := [d1, d2] }
  | _ => none }
def fnDisjointSetsRow : OpenClaim := { program := "ytkahlfoklnaokaa", sum := "693a69c32ea2209676674be5184e32993f147dd78243b43d32106feb8485dc42", func := "pub-alidade/laws.FnDisjointSets", spec := "fnDisjointSets", apart := false }
def FnDisjointSetsSaid : Prop := fnDisjointSetsRow.holds Try.pinned (OpenSpec.ofChange fnDisjointSetsSpec)

/-- ITS FALSE NEIGHBOUR: 'it returns false'. Refute it at one input. -/
def fnDisjointSetsWrong : ChangeSpec := { name := "fnDisjointSets", fn := fun _ => fun
  | [d1, d2] => { results := [.lit (.bool false)], args := [d1, d2] }
  | _ => none }
def FnDisjointSetsWrongFalsely : Prop := fnDisjointSetsRow.holds Try.pinned (OpenSpec.ofChange fnDisjointSetsWrong)

/-- 'laws.FnEnvCoversBoth': WHATEVER THE INPUT: true; the input reads as it did. -/
def fnEnvCoversBothSpec : ChangeSpec := { name := "fnEnvCoversBoth", fn := fun _ => fun
  | [d1, d2] => { results := [.lit (.bool true)], args := [d1, d2] }
  | _ => none }
def fnEnvCoversBothRow : OpenClaim := { program := "ytkahlfoklnaokaa", sum := "693a69c32ea2209676674be5184e32993f147dd78243b43d32106feb8485dc42", func := "pub-alidade/laws.FnEnvCoversBoth", spec := "fnEnvCoversBoth", inPlace := ["math.Float64bits", "math.Float64frombits"], apart := false }
def FnEnvCoversBothSaid : Prop := fnEnvCoversBothRow.holds Try.pinned (OpenSpec.ofChange fnEnvCoversBothSpec)

/-- ITS FALSE NEIGHBOUR: 'it returns false'. Refute it at one input. -/
def fnEnvCoversBothWrong : ChangeSpec := { name := "fnEnvCoversBoth", fn := fun _ => fun
  | [d1, d2] => { results := [.lit (.bool false)], args := [d1, d2] }
  | _ => none }
def FnEnvCoversBothWrongFalsely : Prop := fnEnvCoversBothRow.holds Try.pinned (OpenSpec.ofChange fnEnvCoversBothWrong)

/-- 'laws.FnLerpHalf': WHATEVER THE INPUT: true; the input reads as it did. -/
def fnLerpHalfSpec : ChangeSpec := { name := "fnLerpHalf", fn := fun _ => fun
  | [d1, d2] => { results := [.lit (.bool true)], args := [d1, d2] }
  | _ => none }
def fnLerpHalfRow : OpenClaim := { program := "ytkahlfoklnaokaa", sum := "693a69c32ea2209676674be5184e32993f147dd78243b43d32106feb8485dc42", func := "pub-alidade/laws.FnLerpHalf", spec := "fnLerpHalf", inPlace := ["math.archTrunc", "math.Float64bits", "math.Float64frombits", "math.archMax", "math.archMin"], apart := false }
def FnLerpHalfSaid : Prop := fnLerpHalfRow.holds Try.pinned (OpenSpec.ofChange fnLerpHalfSpec)

/-- ITS FALSE NEIGHBOUR: 'it returns false'. Refute it at one input. -/
def fnLerpHalfWrong : ChangeSpec := { name := "fnLerpHalf", fn := fun _ => fun
  | [d1, d2] => { results := [.lit (.bool false)], args := [d1, d2] }
  | _ => none }
def FnLerpHalfWrongFalsely : Prop := fnLerpHalfRow.holds Try.pinned (OpenSpec.ofChange fnLerpHalfWrong)

/- THE SECOND FORM. 'bulk': how many values and letters a reading holds, each counted each time it is reached (what is shared counts as often as it is met; a slice's spare places count too). A statement '..UptoSaid' is the law's where the arguments, and the package variables that the reading takes, are together of bulk at most 1048576: NARROWER than '..Said'. Prove '..Said' where nothing that the law and all that it calls make is longer than what came in: it says more and counts as full. Else prove '..UptoSaid'. A law counts once. -/
mutual
def uptoBulk {H : Type} : DataW H → Nat
  | .lit (.string bytes) => bytes.length + 1
  | .lit _ => 1
  | .nil => 1
  | .ptr d => uptoBulk d + 1
  | .slice elems spare => uptoBulkAll elems + uptoBulkAll spare + 1
  | .agg parts => uptoBulkAll parts + 1
  | .iface _ d => uptoBulk d + 1
  | .map entries => uptoBulkEntries entries + 1
  | .held _ => 1
def uptoBulkAll {H : Type} : List (DataW H) → Nat
  | [] => 0
  | d :: r => uptoBulk d + uptoBulkAll r
def uptoBulkEntries {H : Type} : List (Lit × DataW H) → Nat
  | [] => 0
  | x :: r => uptoBulkEntry x + uptoBulkEntries r
def uptoBulkEntry {H : Type} : Lit × DataW H → Nat
  | (.string bytes, d) => bytes.length + uptoBulk d + 1
  | (_, d) => uptoBulk d + 1
 end
def uptoSmall : (H : Type) → List (DataW H) → Bool := fun _ ds => decide (uptoBulkAll ds ≤ 1048576)
def OpenSpec.upto (s : _root_.Go.ChangeSpec) : _root_.Go.OpenSpec := { _root_.Go.OpenSpec.ofChange s with cond := some uptoSmall }

/-- 'laws.FnTypeString', WHERE WHAT IT READS IS OF BULK AT MOST 1048576: true; the input reads as it did. -/
def fnTypeStringUptoRow : OpenClaim := { program := "ytkahlfoklnaokaa", sum := "693a69c32ea2209676674be5184e32993f147dd78243b43d32106feb8485dc42", func := "pub-alidade/laws.FnTypeString", spec := "fnTypeString", apart := false, narrowed := true }
def FnTypeStringUptoSaid : Prop := fnTypeStringUptoRow.holds Try.pinned (OpenSpec.upto fnTypeStringSpec)

/-- 'laws.FnBoxesMeet', WHERE WHAT IT READS IS OF BULK AT MOST 1048576: true; the input reads as it did. -/
def fnBoxesMeetUptoRow : OpenClaim := { program := "ytkahlfoklnaokaa", sum := "693a69c32ea2209676674be5184e32993f147dd78243b43d32106feb8485dc42", func := "pub-alidade/laws.FnBoxesMeet", spec := "fnBoxesMeet", inPlace := ["math.Float64bits", "math.Float64frombits"], apart := false, narrowed := true }
def FnBoxesMeetUptoSaid : Prop := fnBoxesMeetUptoRow.holds Try.pinned (OpenSpec.upto fnBoxesMeetSpec)

/-- 'laws.FnXYCrossScale', WHERE WHAT IT READS IS OF BULK AT MOST 1048576: true; the input reads as it did. -/
def fnXYCrossScaleUptoRow : OpenClaim := { program := "ytkahlfoklnaokaa", sum := "693a69c32ea2209676674be5184e32993f147dd78243b43d32106feb8485dc42", func := "pub-alidade/laws.FnXYCrossScale", spec := "fnXYCrossScale", inPlace := ["math.archTrunc", "math.Float64bits", "math.Float64frombits"], apart := false, narrowed := true }
def FnXYCrossScaleUptoSaid : Prop := fnXYCrossScaleUptoRow.holds Try.pinned (OpenSpec.upto fnXYCrossScaleSpec)

/-- 'laws.FnDisjointSets', WHERE WHAT IT READS IS OF BULK AT MOST 1048576: true; the input reads as it did. -/
def fnDisjointSetsUptoRow : OpenClaim := { program := "ytkahlfoklnaokaa", sum := "693a69c32ea2209676674be5184e32993f147dd78243b43d32106feb8485dc42", func := "pub-alidade/laws.FnDisjointSets", spec := "fnDisjointSets", apart := false, narrowed := true }
def FnDisjointSetsUptoSaid : Prop := fnDisjointSetsUptoRow.holds Try.pinned (OpenSpec.upto fnDisjointSetsSpec)

/-- 'laws.FnEnvCoversBoth', WHERE WHAT IT READS IS OF BULK AT MOST 1048576: true; the input reads as it did. -/
def fnEnvCoversBothUptoRow : OpenClaim := { program := "ytkahlfoklnaokaa", sum := "693a69c32ea2209676674be5184e32993f147dd78243b43d32106feb8485dc42", func := "pub-alidade/laws.FnEnvCoversBoth", spec := "fnEnvCoversBoth", inPlace := ["math.Float64bits", "math.Float64frombits"], apart := false, narrowed := true }
def FnEnvCoversBothUptoSaid : Prop := fnEnvCoversBothUptoRow.holds Try.pinned (OpenSpec.upto fnEnvCoversBothSpec)

/-- 'laws.FnLerpHalf', WHERE WHAT IT READS IS OF BULK AT MOST 1048576: true; the input reads as it did. -/
def fnLerpHalfUptoRow : OpenClaim := { program := "ytkahlfoklnaokaa", sum := "693a69c32ea2209676674be5184e32993f147dd78243b43d32106feb8485dc42", func := "pub-alidade/laws.FnLerpHalf", spec := "fnLerpHalf", inPlace := ["math.archTrunc", "math.Float64bits", "math.Float64frombits", "math.archMax", "math.archMin"], apart := false, narrowed := true }
def FnLerpHalfUptoSaid : Prop := fnLerpHalfUptoRow.holds Try.pinned (OpenSpec.upto fnLerpHalfSpec)

end Rows
end Go.Proofs.Ytkahlfoklnaokaa
