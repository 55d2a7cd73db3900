/-
  No cell of these rows narrows 'for every input' (looked for: loops, veiled, ifaces, maps, wideKeys, modest, calm, conditions, laid).
  DERIVED. THE GIVEN ROWS OF THIS SEAT. 2 by the template 'for every input the law returns true; each argument reads behind the call as it read before'; 0 by the template 'total and deterministic' (their statements: YoedawTotals.lean).
  GIVEN WITH THE SEED: the statements are not yours to turn. If you find one false, say at which input.
  Laid BY PROGRAM, IN A SANDBOX (cutbox-rows.mjs): the forced cells as the released guide's own fill.sh prints them over the translation 4dc102380de1b091… (all of the seat's roots in one cut). By AI agents, Wed Nov 11 2026. No macro, syntax, notation, axiom, sorry.
-/
import Derived.Test.YoedawChecked
import GoSem.Claim
import GoSem.ClaimJoined
import GoSem.ClaimMapViews
import Derived.JoinedTies
import Derived.KernelRfl
namespace Go.Proofs.Yoedaw
/- THE CELL 'sum', in the pinned program and in every row, IS THE sha256 OF THE DUMP (.gsa) THAT YoedawProg.lean LOADS. Nothing in Lean hashes anything: it is a label: what it is worth is what the hold of that sum in a sandbox is worth. -/
noncomputable def Edag.pinned : Pinned := { name := "yoedaw", sum := "4dc102380de1b0916b101aab178d13e72a323163791317178acd495d2e641e2b", checked := Edag.checked }
namespace Rows
def none {H : Type} : Left H := { results := [], args := [] }

/-- 'zzlaws_parser_b4.FnBinaryExprPosEndExact': WHATEVER THE INPUT: true; the input reads as it did. -/
def fnBinaryExprPosEndExactSpec : ChangeSpec := { name := "fnBinaryExprPosEndExact", fn := fun _ => fun
  | [d1, d2, d3, d4] => { results := [.lit (.bool true)], args := [d1, d2, d3, d4] }
  | _ => none }
def fnBinaryExprPosEndExactRow : OpenClaim := { program := "yoedaw", sum := "4dc102380de1b0916b101aab178d13e72a323163791317178acd495d2e641e2b", func := "github.com/d5/tengo/v2/zzlaws_parser_b4.FnBinaryExprPosEndExact", spec := "fnBinaryExprPosEndExact", unfollowed := true, recurses := true, apart := false }
def FnBinaryExprPosEndExactSaid : Prop := fnBinaryExprPosEndExactRow.holds Edag.pinned (OpenSpec.ofChange fnBinaryExprPosEndExactSpec)

/-- ITS FALSE NEIGHBOUR: 'it returns false'. Refute it at one input. -/
def fnBinaryExprPosEndExactWrong : ChangeSpec := { name := "fnBinaryExprPosEndExact", fn := fun _ => fun
  | [d1, d2, d3, d4] => { results := [.lit (.bool false)], args := [d1, d2, d3, d4] }
  | _ => none }
def FnBinaryExprPosEndExactWrongFalsely : Prop := fnBinaryExprPosEndExactRow.holds Edag.pinned (OpenSpec.ofChange fnBinaryExprPosEndExactWrong)

/-- 'zzlaws_parser_b4.FnBinaryExprSpansNest': WHATEVER THE INPUT: true; the input reads as it did. -/
def fnBinaryExprSpansNestSpec : ChangeSpec := { name := "fnBinaryExprSpansNest", fn := fun _ => fun
  | [d1, d2, d3, d4] => { results := [.lit (.bool true)], args := [d1, d2, d3, d4] }
  | _ => none }
def fnBinaryExprSpansNestRow : OpenClaim := { program := "yoedaw", sum := "4dc102380de1b0916b101aab178d13e72a323163791317178acd495d2e641e2b", func := "github.com/d5/tengo/v2/zzlaws_parser_b4.FnBinaryExprSpansNest", spec := "fnBinaryExprSpansNest", unfollowed := true, recurses := true, apart := false }
def FnBinaryExprSpansNestSaid : Prop := fnBinaryExprSpansNestRow.holds Edag.pinned (OpenSpec.ofChange fnBinaryExprSpansNestSpec)

/-- ITS FALSE NEIGHBOUR: 'it returns false'. Refute it at one input. -/
def fnBinaryExprSpansNestWrong : ChangeSpec := { name := "fnBinaryExprSpansNest", fn := fun _ => fun
  | [d1, d2, d3, d4] => { results := [.lit (.bool false)], args := [d1, d2, d3, d4] }
  | _ => none }
def FnBinaryExprSpansNestWrongFalsely : Prop := fnBinaryExprSpansNestRow.holds Edag.pinned (OpenSpec.ofChange fnBinaryExprSpansNestWrong)

end Rows
end Go.Proofs.Yoedaw
