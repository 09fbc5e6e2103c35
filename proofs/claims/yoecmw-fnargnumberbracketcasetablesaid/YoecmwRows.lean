/-
  No cell of these rows narrows 'for every input' (looked for: loops, veiled, ifaces, maps, wideKeys, modest, calm, conditions, laid).
  DERIVED. THE GIVEN ROWS OF THIS SEAT. 3 by the template 'for every input the law returns true; each argument reads behind the call as it read before'; 0 by the template 'total and deterministic' (their statements: YoecmwTotals.lean).
  GIVEN WITH THE SEED: the statements are not yours to turn. If you find one false, say at which input.
  Laid BY PROGRAM, IN A SANDBOX (cutbox-rows.mjs): the forced cells as the released guide's own fill.sh prints them over the translation e5668b553704b5b3… (all of the seat's roots in one cut). By AI agents, Wed Nov 11 2026. No macro, syntax, notation, axiom, sorry.
-/
import Derived.Test.YoecmwChecked
import GoSem.Claim
import GoSem.ClaimJoined
import GoSem.ClaimMapViews
import Derived.JoinedTies
import Derived.KernelRfl
namespace Go.Proofs.Yoecmw
/- THE CELL 'sum', in the pinned program and in every row, IS THE sha256 OF THE DUMP (.gsa) THAT YoecmwProg.lean LOADS. Nothing in Lean hashes anything: it is a label: what it is worth is what the hold of that sum in a sandbox is worth. -/
noncomputable def Ecmg.pinned : Pinned := { name := "yoecmw", sum := "e5668b553704b5b3ab7da1d08e23360063df590e0ea3ef24d047d49c66625c9f", checked := Ecmg.checked }
namespace Rows
def none {H : Type} : Left H := { results := [], args := [] }

/-- 'zzlaws_root_b2.FnParseArgNumberMatchesModel': WHATEVER THE INPUT: true; the input reads as it did. -/
def fnParseArgNumberMatchesModelSpec : ChangeSpec := { name := "fnParseArgNumberMatchesModel", fn := fun _ => fun
  | [d] => { results := [.lit (.bool true)], args := [d] }
  | _ => none }
def fnParseArgNumberMatchesModelRow : OpenClaim := { program := "yoecmw", sum := "e5668b553704b5b3ab7da1d08e23360063df590e0ea3ef24d047d49c66625c9f", func := "github.com/d5/tengo/v2/zzlaws_root_b2.FnParseArgNumberMatchesModel", spec := "fnParseArgNumberMatchesModel", apart := false }
def FnParseArgNumberMatchesModelSaid : Prop := fnParseArgNumberMatchesModelRow.holds Ecmg.pinned (OpenSpec.ofChange fnParseArgNumberMatchesModelSpec)

/-- ITS FALSE NEIGHBOUR: 'it returns false'. Refute it at one input. -/
def fnParseArgNumberMatchesModelWrong : ChangeSpec := { name := "fnParseArgNumberMatchesModel", fn := fun _ => fun
  | [d] => { results := [.lit (.bool false)], args := [d] }
  | _ => none }
def FnParseArgNumberMatchesModelWrongFalsely : Prop := fnParseArgNumberMatchesModelRow.holds Ecmg.pinned (OpenSpec.ofChange fnParseArgNumberMatchesModelWrong)

/-- 'zzlaws_root_b2.FnArgNumberMatchesModel': WHATEVER THE INPUT: true; the input reads as it did. -/
def fnArgNumberMatchesModelSpec : ChangeSpec := { name := "fnArgNumberMatchesModel", fn := fun _ => fun
  | [d1, d2, d3, d4, d5, d6] => { results := [.lit (.bool true)], args := [d1, d2, d3, d4, d5, d6] }
  | _ => none }
def fnArgNumberMatchesModelRow : OpenClaim := { program := "yoecmw", sum := "e5668b553704b5b3ab7da1d08e23360063df590e0ea3ef24d047d49c66625c9f", func := "github.com/d5/tengo/v2/zzlaws_root_b2.FnArgNumberMatchesModel", spec := "fnArgNumberMatchesModel", apart := false }
def FnArgNumberMatchesModelSaid : Prop := fnArgNumberMatchesModelRow.holds Ecmg.pinned (OpenSpec.ofChange fnArgNumberMatchesModelSpec)

/-- ITS FALSE NEIGHBOUR: 'it returns false'. Refute it at one input. -/
def fnArgNumberMatchesModelWrong : ChangeSpec := { name := "fnArgNumberMatchesModel", fn := fun _ => fun
  | [d1, d2, d3, d4, d5, d6] => { results := [.lit (.bool false)], args := [d1, d2, d3, d4, d5, d6] }
  | _ => none }
def FnArgNumberMatchesModelWrongFalsely : Prop := fnArgNumberMatchesModelRow.holds Ecmg.pinned (OpenSpec.ofChange fnArgNumberMatchesModelWrong)

/-- 'zzlaws_root_b2.FnArgNumberBracketCaseTable': WHATEVER THE INPUT: true; the input reads as it did. -/
def fnArgNumberBracketCaseTableSpec : ChangeSpec := { name := "fnArgNumberBracketCaseTable", fn := fun _ => fun
  | [d1, d2, d3, d4, d5, d6] => { results := [.lit (.bool true)], args := [d1, d2, d3, d4, d5, d6] }
  | _ => none }
def fnArgNumberBracketCaseTableRow : OpenClaim := { program := "yoecmw", sum := "e5668b553704b5b3ab7da1d08e23360063df590e0ea3ef24d047d49c66625c9f", func := "github.com/d5/tengo/v2/zzlaws_root_b2.FnArgNumberBracketCaseTable", spec := "fnArgNumberBracketCaseTable", apart := false }
def FnArgNumberBracketCaseTableSaid : Prop := fnArgNumberBracketCaseTableRow.holds Ecmg.pinned (OpenSpec.ofChange fnArgNumberBracketCaseTableSpec)

/-- ITS FALSE NEIGHBOUR: 'it returns false'. Refute it at one input. -/
def fnArgNumberBracketCaseTableWrong : ChangeSpec := { name := "fnArgNumberBracketCaseTable", fn := fun _ => fun
  | [d1, d2, d3, d4, d5, d6] => { results := [.lit (.bool false)], args := [d1, d2, d3, d4, d5, d6] }
  | _ => none }
def FnArgNumberBracketCaseTableWrongFalsely : Prop := fnArgNumberBracketCaseTableRow.holds Ecmg.pinned (OpenSpec.ofChange fnArgNumberBracketCaseTableWrong)

end Rows
end Go.Proofs.Yoecmw
