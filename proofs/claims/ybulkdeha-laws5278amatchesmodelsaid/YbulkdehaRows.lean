/-
  No cell of these rows narrows 'for every input' (looked for: loops, veiled, ifaces, maps, wideKeys, modest, calm, conditions, laid).
  DERIVED. THE GIVEN ROWS OF THIS SEAT. 6 by the template 'for every input the law returns true; each argument reads behind the call as it read before'; 0 by the template 'total and deterministic' (their statements: YbulkdehaTotals.lean).
  GIVEN WITH THE SEED: the statements are not yours to turn. If you find one false, say at which input.
  Laid BY PROGRAM, IN A SANDBOX (cutbox-rows.mjs): the forced cells as the released guide's own fill.sh prints them over the translation 3652fb428259a945… (all of the seat's roots in one cut). By AI agents, Wed Nov 11 2026. No macro, syntax, notation, axiom, sorry.
-/
import Derived.Test.YbulkdehaChecked
import GoSem.Claim
import GoSem.ClaimJoined
import GoSem.ClaimMapViews
import Derived.JoinedTies
import Derived.KernelRfl
namespace Go.Proofs.Ybulkdeha
/- THE CELL 'sum', in the pinned program and in every row, IS THE sha256 OF THE DUMP (.gsa) THAT YbulkdehaProg.lean LOADS. Nothing in Lean hashes anything: it is a label: what it is worth is what the hold of that sum in a sandbox is worth. -/
noncomputable def Yba.pinned : Pinned := { name := "ybulkdeha", sum := "3652fb428259a945a3800f1eeaeebe8ba54c5b341e091adc513a8007ee61c81d", checked := Yba.checked }
namespace Rows
def none {H : Type} : Left H := { results := [], args := [] }

/-- 'slopekit.LawS5278AMatchesModel': WHATEVER THE INPUT: true; the input reads as it did. -/
def lawS5278AMatchesModelSpec : ChangeSpec := { name := "lawS5278AMatchesModel", fn := fun _ => fun
  | [d1, d2, d3, d4, d5, d6] => { results := [.lit (.bool true)], args := [d1, d2, d3, d4, d5, d6] }
  | _ => none }
def lawS5278AMatchesModelRow : OpenClaim := { program := "ybulkdeha", sum := "3652fb428259a945a3800f1eeaeebe8ba54c5b341e091adc513a8007ee61c81d", func := "example.com/slopekit/slopekit.LawS5278AMatchesModel", spec := "lawS5278AMatchesModel", inPlace := ["math.Float64bits"], unfollowed := true, recurses := true, apart := false }
def LawS5278AMatchesModelSaid : Prop := lawS5278AMatchesModelRow.holds Yba.pinned (OpenSpec.ofChange lawS5278AMatchesModelSpec)

/-- ITS FALSE NEIGHBOUR: 'it returns false'. Refute it at one input. -/
def lawS5278AMatchesModelWrong : ChangeSpec := { name := "lawS5278AMatchesModel", fn := fun _ => fun
  | [d1, d2, d3, d4, d5, d6] => { results := [.lit (.bool false)], args := [d1, d2, d3, d4, d5, d6] }
  | _ => none }
def LawS5278AMatchesModelWrongFalsely : Prop := lawS5278AMatchesModelRow.holds Yba.pinned (OpenSpec.ofChange lawS5278AMatchesModelWrong)

/-- 'slopekit.LawS5278ALastPair': WHATEVER THE INPUT: true; the input reads as it did. -/
def lawS5278ALastPairSpec : ChangeSpec := { name := "lawS5278ALastPair", fn := fun _ => fun
  | [d1, d2, d3, d4] => { results := [.lit (.bool true)], args := [d1, d2, d3, d4] }
  | _ => none }
def lawS5278ALastPairRow : OpenClaim := { program := "ybulkdeha", sum := "3652fb428259a945a3800f1eeaeebe8ba54c5b341e091adc513a8007ee61c81d", func := "example.com/slopekit/slopekit.LawS5278ALastPair", spec := "lawS5278ALastPair", unfollowed := true, recurses := true, apart := false }
def LawS5278ALastPairSaid : Prop := lawS5278ALastPairRow.holds Yba.pinned (OpenSpec.ofChange lawS5278ALastPairSpec)

/-- ITS FALSE NEIGHBOUR: 'it returns false'. Refute it at one input. -/
def lawS5278ALastPairWrong : ChangeSpec := { name := "lawS5278ALastPair", fn := fun _ => fun
  | [d1, d2, d3, d4] => { results := [.lit (.bool false)], args := [d1, d2, d3, d4] }
  | _ => none }
def LawS5278ALastPairWrongFalsely : Prop := lawS5278ALastPairRow.holds Yba.pinned (OpenSpec.ofChange lawS5278ALastPairWrong)

/-- 'slopekit.LawS5278BExact': WHATEVER THE INPUT: true; the input reads as it did. -/
def lawS5278BExactSpec : ChangeSpec := { name := "lawS5278BExact", fn := fun _ => fun
  | [d1, d2, d3, d4] => { results := [.lit (.bool true)], args := [d1, d2, d3, d4] }
  | _ => none }
def lawS5278BExactRow : OpenClaim := { program := "ybulkdeha", sum := "3652fb428259a945a3800f1eeaeebe8ba54c5b341e091adc513a8007ee61c81d", func := "example.com/slopekit/slopekit.LawS5278BExact", spec := "lawS5278BExact", apart := false }
def LawS5278BExactSaid : Prop := lawS5278BExactRow.holds Yba.pinned (OpenSpec.ofChange lawS5278BExactSpec)

/-- ITS FALSE NEIGHBOUR: 'it returns false'. Refute it at one input. -/
def lawS5278BExactWrong : ChangeSpec := { name := "lawS5278BExact", fn := fun _ => fun
  | [d1, d2, d3, d4] => { results := [.lit (.bool false)], args := [d1, d2, d3, d4] }
  | _ => none }
def LawS5278BExactWrongFalsely : Prop := lawS5278BExactRow.holds Yba.pinned (OpenSpec.ofChange lawS5278BExactWrong)

/-- 'slopekit.LawS5278BOverflow': WHATEVER THE INPUT: true; the input reads as it did. -/
def lawS5278BOverflowSpec : ChangeSpec := { name := "lawS5278BOverflow", fn := fun _ => fun
  | [d1, d2] => { results := [.lit (.bool true)], args := [d1, d2] }
  | _ => none }
def lawS5278BOverflowRow : OpenClaim := { program := "ybulkdeha", sum := "3652fb428259a945a3800f1eeaeebe8ba54c5b341e091adc513a8007ee61c81d", func := "example.com/slopekit/slopekit.LawS5278BOverflow", spec := "lawS5278BOverflow", apart := false }
def LawS5278BOverflowSaid : Prop := lawS5278BOverflowRow.holds Yba.pinned (OpenSpec.ofChange lawS5278BOverflowSpec)

/-- ITS FALSE NEIGHBOUR: 'it returns false'. Refute it at one input. -/
def lawS5278BOverflowWrong : ChangeSpec := { name := "lawS5278BOverflow", fn := fun _ => fun
  | [d1, d2] => { results := [.lit (.bool false)], args := [d1, d2] }
  | _ => none }
def LawS5278BOverflowWrongFalsely : Prop := lawS5278BOverflowRow.holds Yba.pinned (OpenSpec.ofChange lawS5278BOverflowWrong)

/-- 'notation.LawS5278CModel': WHATEVER THE INPUT: true; the input reads as it did. -/
def lawS5278CModelSpec : ChangeSpec := { name := "lawS5278CModel", fn := fun _ => fun
  | [d] => { results := [.lit (.bool true)], args := [d] }
  | _ => none }
def lawS5278CModelRow : OpenClaim := { program := "ybulkdeha", sum := "3652fb428259a945a3800f1eeaeebe8ba54c5b341e091adc513a8007ee61c81d", func := "example.com/slopekit/slopekit/internal/notation.LawS5278CModel", spec := "lawS5278CModel", apart := false }
def LawS5278CModelSaid : Prop := lawS5278CModelRow.holds Yba.pinned (OpenSpec.ofChange lawS5278CModelSpec)

/-- ITS FALSE NEIGHBOUR: 'it returns false'. Refute it at one input. -/
def lawS5278CModelWrong : ChangeSpec := { name := "lawS5278CModel", fn := fun _ => fun
  | [d] => { results := [.lit (.bool false)], args := [d] }
  | _ => none }
def LawS5278CModelWrongFalsely : Prop := lawS5278CModelRow.holds Yba.pinned (OpenSpec.ofChange lawS5278CModelWrong)

/-- 'notation.LawS5278CBuilt': WHATEVER THE INPUT: true; the input reads as it did. -/
def lawS5278CBuiltSpec : ChangeSpec := { name := "lawS5278CBuilt", fn := fun _ => fun
  | [d1, d2, d3] => { results := [.lit (.bool true)], args := [d1, d2, d3] }
  | _ => none }
def lawS5278CBuiltRow : OpenClaim := { program := "ybulkdeha", sum := "3652fb428259a945a3800f1eeaeebe8ba54c5b341e091adc513a8007ee61c81d", func := "example.com/slopekit/slopekit/internal/notation.LawS5278CBuilt", spec := "lawS5278CBuilt", apart := false }
def LawS5278CBuiltSaid : Prop := lawS5278CBuiltRow.holds Yba.pinned (OpenSpec.ofChange lawS5278CBuiltSpec)

/-- ITS FALSE NEIGHBOUR: 'it returns false'. Refute it at one input. -/
def lawS5278CBuiltWrong : ChangeSpec := { name := "lawS5278CBuilt", fn := fun _ => fun
  | [d1, d2, d3] => { results := [.lit (.bool false)], args := [d1, d2, d3] }
  | _ => none }
def LawS5278CBuiltWrongFalsely : Prop := lawS5278CBuiltRow.holds Yba.pinned (OpenSpec.ofChange lawS5278CBuiltWrong)

end Rows
end Go.Proofs.Ybulkdeha
