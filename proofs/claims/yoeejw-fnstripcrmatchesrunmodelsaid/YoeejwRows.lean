/-
  No cell of these rows narrows 'for every input' (looked for: loops, veiled, ifaces, maps, wideKeys, modest, calm, conditions, laid).
  DERIVED. THE GIVEN ROWS OF THIS SEAT. 2 by the template 'for every input the law returns true; each argument reads behind the call as it read before'; 0 by the template 'total and deterministic' (their statements: YoeejwTotals.lean).
  GIVEN WITH THE SEED: the statements are not yours to turn. If you find one false, say at which input.
  Laid BY PROGRAM, IN A SANDBOX (cutbox-rows.mjs): the forced cells as the released guide's own fill.sh prints them over the translation be94b6461d91b3e9… (all of the seat's roots in one cut). By AI agents, Wed Nov 11 2026. No macro, syntax, notation, axiom, sorry.
-/
import Derived.Test.YoeejwChecked
import GoSem.Claim
import GoSem.ClaimJoined
import GoSem.ClaimMapViews
import Derived.JoinedTies
import Derived.KernelRfl
namespace Go.Proofs.Yoeejw
/- THE CELL 'sum', in the pinned program and in every row, IS THE sha256 OF THE DUMP (.gsa) THAT YoeejwProg.lean LOADS. Nothing in Lean hashes anything: it is a label: what it is worth is what the hold of that sum in a sandbox is worth. -/
noncomputable def Eejg.pinned : Pinned := { name := "yoeejw", sum := "be94b6461d91b3e9cd18ffb0381fb1d67b01912bf81e7c08ead54ed976de3f2d", checked := Eejg.checked }
namespace Rows
def none {H : Type} : Left H := { results := [], args := [] }

/-- 'zzlaws_parser_b44.FnStripCRMatchesRunModel': WHATEVER THE INPUT: true; the input reads as it did. -/
def fnStripCRMatchesRunModelSpec : ChangeSpec := { name := "fnStripCRMatchesRunModel", fn := fun _ => fun
  | [d1, d2] => { results := [.lit (.bool true)], args := [d1, d2] }
  | _ => none }
def fnStripCRMatchesRunModelRow : OpenClaim := { program := "yoeejw", sum := "be94b6461d91b3e9cd18ffb0381fb1d67b01912bf81e7c08ead54ed976de3f2d", func := "github.com/d5/tengo/v2/zzlaws_parser_b44.FnStripCRMatchesRunModel", spec := "fnStripCRMatchesRunModel", apart := false }
def FnStripCRMatchesRunModelSaid : Prop := fnStripCRMatchesRunModelRow.holds Eejg.pinned (OpenSpec.ofChange fnStripCRMatchesRunModelSpec)

/-- ITS FALSE NEIGHBOUR: 'it returns false'. Refute it at one input. -/
def fnStripCRMatchesRunModelWrong : ChangeSpec := { name := "fnStripCRMatchesRunModel", fn := fun _ => fun
  | [d1, d2] => { results := [.lit (.bool false)], args := [d1, d2] }
  | _ => none }
def FnStripCRMatchesRunModelWrongFalsely : Prop := fnStripCRMatchesRunModelRow.holds Eejg.pinned (OpenSpec.ofChange fnStripCRMatchesRunModelWrong)

/-- 'zzlaws_parser_b44.FnStripCRIdempotentAndOnlyCRsDiffer': WHATEVER THE INPUT: true; the input reads as it did. -/
def fnStripCRIdempotentAndOnlyCRsDifferSpec : ChangeSpec := { name := "fnStripCRIdempotentAndOnlyCRsDiffer", fn := fun _ => fun
  | [d1, d2] => { results := [.lit (.bool true)], args := [d1, d2] }
  | _ => none }
def fnStripCRIdempotentAndOnlyCRsDifferRow : OpenClaim := { program := "yoeejw", sum := "be94b6461d91b3e9cd18ffb0381fb1d67b01912bf81e7c08ead54ed976de3f2d", func := "github.com/d5/tengo/v2/zzlaws_parser_b44.FnStripCRIdempotentAndOnlyCRsDiffer", spec := "fnStripCRIdempotentAndOnlyCRsDiffer", apart := false }
def FnStripCRIdempotentAndOnlyCRsDifferSaid : Prop := fnStripCRIdempotentAndOnlyCRsDifferRow.holds Eejg.pinned (OpenSpec.ofChange fnStripCRIdempotentAndOnlyCRsDifferSpec)

/-- ITS FALSE NEIGHBOUR: 'it returns false'. Refute it at one input. -/
def fnStripCRIdempotentAndOnlyCRsDifferWrong : ChangeSpec := { name := "fnStripCRIdempotentAndOnlyCRsDiffer", fn := fun _ => fun
  | [d1, d2] => { results := [.lit (.bool false)], args := [d1, d2] }
  | _ => none }
def FnStripCRIdempotentAndOnlyCRsDifferWrongFalsely : Prop := fnStripCRIdempotentAndOnlyCRsDifferRow.holds Eejg.pinned (OpenSpec.ofChange fnStripCRIdempotentAndOnlyCRsDifferWrong)

end Rows
end Go.Proofs.Yoeejw
