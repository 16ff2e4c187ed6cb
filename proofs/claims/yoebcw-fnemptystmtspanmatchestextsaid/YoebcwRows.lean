/-
  No cell of these rows narrows 'for every input' (looked for: loops, veiled, ifaces, maps, wideKeys, modest, calm, conditions, laid).
  DERIVED. THE GIVEN ROWS OF THIS SEAT. 2 by the template 'for every input the law returns true; each argument reads behind the call as it read before'; 0 by the template 'total and deterministic' (their statements: YoebcwTotals.lean).
  GIVEN WITH THE SEED: the statements are not yours to turn. If you find one false, say at which input.
  Laid BY PROGRAM, IN A SANDBOX (cutbox-rows.mjs): the forced cells as the released guide's own fill.sh prints them over the translation 2bc7b1a7e5d99d12… (all of the seat's roots in one cut). By AI agents, Wed Nov 11 2026. No macro, syntax, notation, axiom, sorry.
-/
import Derived.Test.YoebcwChecked
import GoSem.Claim
import GoSem.ClaimJoined
import GoSem.ClaimMapViews
import Derived.JoinedTies
import Derived.KernelRfl
namespace Go.Proofs.Yoebcw
/- THE CELL 'sum', in the pinned program and in every row, IS THE sha256 OF THE DUMP (.gsa) THAT YoebcwProg.lean LOADS. Nothing in Lean hashes anything: it is a label: what it is worth is what the hold of that sum in a sandbox is worth. -/
noncomputable def Ebcg.pinned : Pinned := { name := "yoebcw", sum := "2bc7b1a7e5d99d1256238e2339e3b3725988ace8090ba8989fb0962cfc9a8154", checked := Ebcg.checked }
namespace Rows
def none {H : Type} : Left H := { results := [], args := [] }

/-- 'zzlaws_parser_b55.FnEmptyStmtSpanMatchesText': WHATEVER THE INPUT: true; the input reads as it did. -/
def fnEmptyStmtSpanMatchesTextSpec : ChangeSpec := { name := "fnEmptyStmtSpanMatchesText", fn := fun _ => fun
  | [d1, d2] => { results := [.lit (.bool true)], args := [d1, d2] }
  | _ => none }
def fnEmptyStmtSpanMatchesTextRow : OpenClaim := { program := "yoebcw", sum := "2bc7b1a7e5d99d1256238e2339e3b3725988ace8090ba8989fb0962cfc9a8154", func := "github.com/d5/tengo/v2/zzlaws_parser_b55.FnEmptyStmtSpanMatchesText", spec := "fnEmptyStmtSpanMatchesText", apart := false }
def FnEmptyStmtSpanMatchesTextSaid : Prop := fnEmptyStmtSpanMatchesTextRow.holds Ebcg.pinned (OpenSpec.ofChange fnEmptyStmtSpanMatchesTextSpec)

/-- ITS FALSE NEIGHBOUR: 'it returns false'. Refute it at one input. -/
def fnEmptyStmtSpanMatchesTextWrong : ChangeSpec := { name := "fnEmptyStmtSpanMatchesText", fn := fun _ => fun
  | [d1, d2] => { results := [.lit (.bool false)], args := [d1, d2] }
  | _ => none }
def FnEmptyStmtSpanMatchesTextWrongFalsely : Prop := fnEmptyStmtSpanMatchesTextRow.holds Ebcg.pinned (OpenSpec.ofChange fnEmptyStmtSpanMatchesTextWrong)

/-- 'zzlaws_parser_b55.FnEmptyStmtEndMonotone': WHATEVER THE INPUT: true; the input reads as it did. -/
def fnEmptyStmtEndMonotoneSpec : ChangeSpec := { name := "fnEmptyStmtEndMonotone", fn := fun _ => fun
  | [d1, d2, d3, d4] => { results := [.lit (.bool true)], args := [d1, d2, d3, d4] }
  | _ => none }
def fnEmptyStmtEndMonotoneRow : OpenClaim := { program := "yoebcw", sum := "2bc7b1a7e5d99d1256238e2339e3b3725988ace8090ba8989fb0962cfc9a8154", func := "github.com/d5/tengo/v2/zzlaws_parser_b55.FnEmptyStmtEndMonotone", spec := "fnEmptyStmtEndMonotone", apart := false }
def FnEmptyStmtEndMonotoneSaid : Prop := fnEmptyStmtEndMonotoneRow.holds Ebcg.pinned (OpenSpec.ofChange fnEmptyStmtEndMonotoneSpec)

/-- ITS FALSE NEIGHBOUR: 'it returns false'. Refute it at one input. -/
def fnEmptyStmtEndMonotoneWrong : ChangeSpec := { name := "fnEmptyStmtEndMonotone", fn := fun _ => fun
  | [d1, d2, d3, d4] => { results := [.lit (.bool false)], args := [d1, d2, d3, d4] }
  | _ => none }
def FnEmptyStmtEndMonotoneWrongFalsely : Prop := fnEmptyStmtEndMonotoneRow.holds Ebcg.pinned (OpenSpec.ofChange fnEmptyStmtEndMonotoneWrong)

end Rows
end Go.Proofs.Yoebcw
