/-
  No cell of these rows narrows 'for every input' (looked for: loops, veiled, ifaces, maps, wideKeys, modest, calm, conditions, laid).
  DERIVED. THE GIVEN ROWS OF THIS SEAT. 4 by the template 'for every input the law returns true; each argument reads behind the call as it read before'; 0 by the template 'total and deterministic' (their statements: YoefgwTotals.lean).
  GIVEN WITH THE SEED: the statements are not yours to turn. If you find one false, say at which input.
  Laid BY PROGRAM, IN A SANDBOX (cutbox-rows.mjs): the forced cells as the released guide's own fill.sh prints them over the translation d6d84ec369ade5e5… (all of the seat's roots in one cut). By AI agents, Wed Nov 11 2026. No macro, syntax, notation, axiom, sorry.
-/
import Derived.Test.YoefgwChecked
import GoSem.Claim
import GoSem.ClaimJoined
import GoSem.ClaimMapViews
import Derived.JoinedTies
import Derived.KernelRfl
namespace Go.Proofs.Yoefgw
/- THE CELL 'sum', in the pinned program and in every row, IS THE sha256 OF THE DUMP (.gsa) THAT YoefgwProg.lean LOADS. Nothing in Lean hashes anything: it is a label: what it is worth is what the hold of that sum in a sandbox is worth. -/
noncomputable def Efgg.pinned : Pinned := { name := "yoefgw", sum := "d6d84ec369ade5e51a7a2c654f11c2548d9936f7f715bd0632267bbc091f8664", checked := Efgg.checked }
namespace Rows
def none {H : Type} : Left H := { results := [], args := [] }

/-- 'zzlaws_parser_b27.FnAddBuildsListInOrder': WHATEVER THE INPUT: true; the input reads as it did. -/
def fnAddBuildsListInOrderSpec : ChangeSpec := { name := "fnAddBuildsListInOrder", fn := fun _ => fun
  | [d] => { results := [.lit (.bool true)], args := [d] }
  | _ => none }
def fnAddBuildsListInOrderRow : OpenClaim := { program := "yoefgw", sum := "d6d84ec369ade5e51a7a2c654f11c2548d9936f7f715bd0632267bbc091f8664", func := "github.com/d5/tengo/v2/zzlaws_parser_b27.FnAddBuildsListInOrder", spec := "fnAddBuildsListInOrder", apart := false }
def FnAddBuildsListInOrderSaid : Prop := fnAddBuildsListInOrderRow.holds Efgg.pinned (OpenSpec.ofChange fnAddBuildsListInOrderSpec)

/-- ITS FALSE NEIGHBOUR: 'it returns false'. Refute it at one input. -/
def fnAddBuildsListInOrderWrong : ChangeSpec := { name := "fnAddBuildsListInOrder", fn := fun _ => fun
  | [d] => { results := [.lit (.bool false)], args := [d] }
  | _ => none }
def FnAddBuildsListInOrderWrongFalsely : Prop := fnAddBuildsListInOrderRow.holds Efgg.pinned (OpenSpec.ofChange fnAddBuildsListInOrderWrong)

/-- 'zzlaws_parser_b27.FnAddKeepsEarlierElements': WHATEVER THE INPUT: true; the input reads as it did. -/
def fnAddKeepsEarlierElementsSpec : ChangeSpec := { name := "fnAddKeepsEarlierElements", fn := fun _ => fun
  | [d1, d2] => { results := [.lit (.bool true)], args := [d1, d2] }
  | _ => none }
def fnAddKeepsEarlierElementsRow : OpenClaim := { program := "yoefgw", sum := "d6d84ec369ade5e51a7a2c654f11c2548d9936f7f715bd0632267bbc091f8664", func := "github.com/d5/tengo/v2/zzlaws_parser_b27.FnAddKeepsEarlierElements", spec := "fnAddKeepsEarlierElements", apart := false }
def FnAddKeepsEarlierElementsSaid : Prop := fnAddKeepsEarlierElementsRow.holds Efgg.pinned (OpenSpec.ofChange fnAddKeepsEarlierElementsSpec)

/-- ITS FALSE NEIGHBOUR: 'it returns false'. Refute it at one input. -/
def fnAddKeepsEarlierElementsWrong : ChangeSpec := { name := "fnAddKeepsEarlierElements", fn := fun _ => fun
  | [d1, d2] => { results := [.lit (.bool false)], args := [d1, d2] }
  | _ => none }
def FnAddKeepsEarlierElementsWrongFalsely : Prop := fnAddKeepsEarlierElementsRow.holds Efgg.pinned (OpenSpec.ofChange fnAddKeepsEarlierElementsWrong)

/-- 'zzlaws_parser_b27.FnSwapExchangesExactlyTwoCells': WHATEVER THE INPUT: true; the input reads as it did. -/
def fnSwapExchangesExactlyTwoCellsSpec : ChangeSpec := { name := "fnSwapExchangesExactlyTwoCells", fn := fun _ => fun
  | [d1, d2, d3] => { results := [.lit (.bool true)], args := [d1, d2, d3] }
  | _ => none }
def fnSwapExchangesExactlyTwoCellsRow : OpenClaim := { program := "yoefgw", sum := "d6d84ec369ade5e51a7a2c654f11c2548d9936f7f715bd0632267bbc091f8664", func := "github.com/d5/tengo/v2/zzlaws_parser_b27.FnSwapExchangesExactlyTwoCells", spec := "fnSwapExchangesExactlyTwoCells", apart := false }
def FnSwapExchangesExactlyTwoCellsSaid : Prop := fnSwapExchangesExactlyTwoCellsRow.holds Efgg.pinned (OpenSpec.ofChange fnSwapExchangesExactlyTwoCellsSpec)

/-- ITS FALSE NEIGHBOUR: 'it returns false'. Refute it at one input. -/
def fnSwapExchangesExactlyTwoCellsWrong : ChangeSpec := { name := "fnSwapExchangesExactlyTwoCells", fn := fun _ => fun
  | [d1, d2, d3] => { results := [.lit (.bool false)], args := [d1, d2, d3] }
  | _ => none }
def FnSwapExchangesExactlyTwoCellsWrongFalsely : Prop := fnSwapExchangesExactlyTwoCellsRow.holds Efgg.pinned (OpenSpec.ofChange fnSwapExchangesExactlyTwoCellsWrong)

/-- 'zzlaws_parser_b27.FnSwapScriptUndoneAndSymmetric': WHATEVER THE INPUT: true; the input reads as it did. -/
def fnSwapScriptUndoneAndSymmetricSpec : ChangeSpec := { name := "fnSwapScriptUndoneAndSymmetric", fn := fun _ => fun
  | [d1, d2, d3] => { results := [.lit (.bool true)], args := [d1, d2, d3] }
  | _ => none }
def fnSwapScriptUndoneAndSymmetricRow : OpenClaim := { program := "yoefgw", sum := "d6d84ec369ade5e51a7a2c654f11c2548d9936f7f715bd0632267bbc091f8664", func := "github.com/d5/tengo/v2/zzlaws_parser_b27.FnSwapScriptUndoneAndSymmetric", spec := "fnSwapScriptUndoneAndSymmetric", apart := false }
def FnSwapScriptUndoneAndSymmetricSaid : Prop := fnSwapScriptUndoneAndSymmetricRow.holds Efgg.pinned (OpenSpec.ofChange fnSwapScriptUndoneAndSymmetricSpec)

/-- ITS FALSE NEIGHBOUR: 'it returns false'. Refute it at one input. -/
def fnSwapScriptUndoneAndSymmetricWrong : ChangeSpec := { name := "fnSwapScriptUndoneAndSymmetric", fn := fun _ => fun
  | [d1, d2, d3] => { results := [.lit (.bool false)], args := [d1, d2, d3] }
  | _ => none }
def FnSwapScriptUndoneAndSymmetricWrongFalsely : Prop := fnSwapScriptUndoneAndSymmetricRow.holds Efgg.pinned (OpenSpec.ofChange fnSwapScriptUndoneAndSymmetricWrong)

end Rows
end Go.Proofs.Yoefgw
