/-
  No cell of these rows narrows 'for every input' (looked for: loops, veiled, ifaces, maps, wideKeys, modest, calm, conditions, laid).
  DERIVED. THE GIVEN ROWS OF THIS SEAT. 2 by the template 'for every input the law returns true; each argument reads behind the call as it read before'; 0 by the template 'total and deterministic' (their statements: YbulkdejeFmtTotals.lean).
  GIVEN WITH THE SEED: the statements are not yours to turn. If you find one false, say at which input.
  Laid BY PROGRAM, IN A SANDBOX (cutbox-rows.mjs): the forced cells as the released guide's own fill.sh prints them over the translation a0a5acba377cfb35… (all of the seat's roots in one cut). By AI agents, Wed Nov 11 2026. No macro, syntax, notation, axiom, sorry.
-/
import Derived.Test.YbulkdejeFmtChecked
import GoSem.Claim
import GoSem.ClaimJoined
import GoSem.ClaimMapViews
import Derived.JoinedTies
import Derived.KernelRfl
namespace Go.Proofs.YbulkdejeFmt
/- THE CELL 'sum', in the pinned program and in every row, IS THE sha256 OF THE DUMP (.gsa) THAT YbulkdejeFmtProg.lean LOADS. Nothing in Lean hashes anything: it is a label: what it is worth is what the hold of that sum in a sandbox is worth. -/
noncomputable def Ybaf.pinned : Pinned := { name := "ybulkdejefmt", sum := "a0a5acba377cfb35e0424bd451f1e780ac22b84bb00ab777aef034d6d14860d0", checked := Ybaf.checked }
namespace Rows
def none {H : Type} : Left H := { results := [], args := [] }

/-- 'peerwire.LawS5282AExact': WHATEVER THE INPUT: true; the input reads as it did. -/
def lawS5282AExactSpec : ChangeSpec := { name := "lawS5282AExact", fn := fun _ => fun
  | [d1, d2] => { results := [.lit (.bool true)], args := [d1, d2] }
  | _ => none }
def lawS5282AExactRow : OpenClaim := { program := "ybulkdejefmt", sum := "a0a5acba377cfb35e0424bd451f1e780ac22b84bb00ab777aef034d6d14860d0", func := "example.com/tideswarm/tideswarm/peerwire.LawS5282AExact", spec := "lawS5282AExact", stops := ["fmt.errorf"], inPlace := ["fmt.errorf"], named := ["encoding/binary.BigEndian"], apart := false }
/-- NO THEOREM (fmt's text is open here; it may be false): for the released tool's asking of the row's closed facts alone. THE STATEMENT IS 'LawS5282AExactToldSaid' (YbulkdejeFmtCards.lean). -/
def LawS5282AExactFormAsk : Prop := lawS5282AExactRow.holds Ybaf.pinned (OpenSpec.ofChange lawS5282AExactSpec)

/-- ITS FALSE NEIGHBOUR: 'it returns false'. Refute it at one input. -/
def lawS5282AExactWrong : ChangeSpec := { name := "lawS5282AExact", fn := fun _ => fun
  | [d1, d2] => { results := [.lit (.bool false)], args := [d1, d2] }
  | _ => none }
def LawS5282AExactWrongFormAsk : Prop := lawS5282AExactRow.holds Ybaf.pinned (OpenSpec.ofChange lawS5282AExactWrong)

/-- 'peerwire.LawS5282ABoundary': WHATEVER THE INPUT: true; the input reads as it did. -/
def lawS5282ABoundarySpec : ChangeSpec := { name := "lawS5282ABoundary", fn := fun _ => fun
  | [d] => { results := [.lit (.bool true)], args := [d] }
  | _ => none }
def lawS5282ABoundaryRow : OpenClaim := { program := "ybulkdejefmt", sum := "a0a5acba377cfb35e0424bd451f1e780ac22b84bb00ab777aef034d6d14860d0", func := "example.com/tideswarm/tideswarm/peerwire.LawS5282ABoundary", spec := "lawS5282ABoundary", stops := ["fmt.errorf"], inPlace := ["fmt.errorf"], named := ["encoding/binary.BigEndian"], apart := false }
/-- NO THEOREM (fmt's text is open here; it may be false): for the released tool's asking of the row's closed facts alone. THE STATEMENT IS 'LawS5282ABoundaryToldSaid' (YbulkdejeFmtCards.lean). -/
def LawS5282ABoundaryFormAsk : Prop := lawS5282ABoundaryRow.holds Ybaf.pinned (OpenSpec.ofChange lawS5282ABoundarySpec)

/-- ITS FALSE NEIGHBOUR: 'it returns false'. Refute it at one input. -/
def lawS5282ABoundaryWrong : ChangeSpec := { name := "lawS5282ABoundary", fn := fun _ => fun
  | [d] => { results := [.lit (.bool false)], args := [d] }
  | _ => none }
def LawS5282ABoundaryWrongFormAsk : Prop := lawS5282ABoundaryRow.holds Ybaf.pinned (OpenSpec.ofChange lawS5282ABoundaryWrong)

end Rows
end Go.Proofs.YbulkdejeFmt
