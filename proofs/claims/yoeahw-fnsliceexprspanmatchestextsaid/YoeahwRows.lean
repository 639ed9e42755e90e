/-
  No cell of these rows narrows 'for every input' (looked for: loops, veiled, ifaces, maps, wideKeys, modest, calm, conditions, laid).
  DERIVED. THE GIVEN ROWS OF THIS SEAT. 2 by the template 'for every input the law returns true; each argument reads behind the call as it read before'; 0 by the template 'total and deterministic' (their statements: YoeahwTotals.lean).
  GIVEN WITH THE SEED: the statements are not yours to turn. If you find one false, say at which input.
  Laid BY PROGRAM, IN A SANDBOX (cutbox-rows.mjs): the forced cells as the released guide's own fill.sh prints them over the translation 2887a0e1b393ac83… (all of the seat's roots in one cut). By AI agents, Wed Nov 11 2026. No macro, syntax, notation, axiom, sorry.
-/
import Derived.Test.YoeahwChecked
import GoSem.Claim
import GoSem.ClaimJoined
import GoSem.ClaimMapViews
import Derived.JoinedTies
import Derived.KernelRfl
namespace Go.Proofs.Yoeahw
/- THE CELL 'sum', in the pinned program and in every row, IS THE sha256 OF THE DUMP (.gsa) THAT YoeahwProg.lean LOADS. Nothing in Lean hashes anything: it is a label: what it is worth is what the hold of that sum in a sandbox is worth. -/
noncomputable def Eahg.pinned : Pinned := { name := "yoeahw", sum := "2887a0e1b393ac83c62eabc071e3df7ffeacf1d24d3db446ec94e383654d3317", checked := Eahg.checked }
namespace Rows
def none {H : Type} : Left H := { results := [], args := [] }

/-- 'zzlaws_parser_b22.FnSliceExprChainPosEnd': WHATEVER THE INPUT: true; the input reads as it did. -/
def fnSliceExprChainPosEndSpec : ChangeSpec := { name := "fnSliceExprChainPosEnd", fn := fun _ => fun
  | [d1, d2, d3] => { results := [.lit (.bool true)], args := [d1, d2, d3] }
  | _ => none }
def fnSliceExprChainPosEndRow : OpenClaim := { program := "yoeahw", sum := "2887a0e1b393ac83c62eabc071e3df7ffeacf1d24d3db446ec94e383654d3317", func := "github.com/d5/tengo/v2/zzlaws_parser_b22.FnSliceExprChainPosEnd", spec := "fnSliceExprChainPosEnd", unfollowed := true, recurses := true, apart := false }
def FnSliceExprChainPosEndSaid : Prop := fnSliceExprChainPosEndRow.holds Eahg.pinned (OpenSpec.ofChange fnSliceExprChainPosEndSpec)

/-- ITS FALSE NEIGHBOUR: 'it returns false'. Refute it at one input. -/
def fnSliceExprChainPosEndWrong : ChangeSpec := { name := "fnSliceExprChainPosEnd", fn := fun _ => fun
  | [d1, d2, d3] => { results := [.lit (.bool false)], args := [d1, d2, d3] }
  | _ => none }
def FnSliceExprChainPosEndWrongFalsely : Prop := fnSliceExprChainPosEndRow.holds Eahg.pinned (OpenSpec.ofChange fnSliceExprChainPosEndWrong)

/-- 'zzlaws_parser_b22.FnSliceExprSpanMatchesText': WHATEVER THE INPUT: true; the input reads as it did. -/
def fnSliceExprSpanMatchesTextSpec : ChangeSpec := { name := "fnSliceExprSpanMatchesText", fn := fun _ => fun
  | [d1, d2, d3, d4, d5, d6] => { results := [.lit (.bool true)], args := [d1, d2, d3, d4, d5, d6] }
  | _ => none }
def fnSliceExprSpanMatchesTextRow : OpenClaim := { program := "yoeahw", sum := "2887a0e1b393ac83c62eabc071e3df7ffeacf1d24d3db446ec94e383654d3317", func := "github.com/d5/tengo/v2/zzlaws_parser_b22.FnSliceExprSpanMatchesText", spec := "fnSliceExprSpanMatchesText", unfollowed := true, recurses := true, apart := false }
def FnSliceExprSpanMatchesTextSaid : Prop := fnSliceExprSpanMatchesTextRow.holds Eahg.pinned (OpenSpec.ofChange fnSliceExprSpanMatchesTextSpec)

/-- ITS FALSE NEIGHBOUR: 'it returns false'. Refute it at one input. -/
def fnSliceExprSpanMatchesTextWrong : ChangeSpec := { name := "fnSliceExprSpanMatchesText", fn := fun _ => fun
  | [d1, d2, d3, d4, d5, d6] => { results := [.lit (.bool false)], args := [d1, d2, d3, d4, d5, d6] }
  | _ => none }
def FnSliceExprSpanMatchesTextWrongFalsely : Prop := fnSliceExprSpanMatchesTextRow.holds Eahg.pinned (OpenSpec.ofChange fnSliceExprSpanMatchesTextWrong)

end Rows
end Go.Proofs.Yoeahw
