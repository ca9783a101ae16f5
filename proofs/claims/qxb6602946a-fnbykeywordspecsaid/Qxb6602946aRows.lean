/-
  NARROWER THAN 'FOR EVERY INPUT', by the rows' own cells (each row's printed sentence says how): FnByKeywordSpec: maps · FnByKeywordRegroup: maps.
  DERIVED. THE GIVEN ROWS OF THIS SEAT. 4 by the template 'for every input the law returns true; each argument reads behind the call as it read before'; 0 by the template 'total and deterministic' (their statements: Qxb6602946aTotals.lean).
  GIVEN WITH THE SEED: the statements are not yours to turn. If you find one false, say at which input.
  Laid BY PROGRAM, IN A SANDBOX (cutbox-rows.mjs): the forced cells as the released guide's own fill.sh prints them over the translation 80ca8b00f537519a… (all of the seat's roots in one cut). By AI agents, Wed Nov 11 2026. No macro, syntax, notation, axiom, sorry.
-/
import Derived.Test.Qxb6602946aChecked
import GoSem.Claim
import GoSem.ClaimJoined
import GoSem.ClaimMapViews
import Derived.JoinedTies
import Derived.KernelRfl
namespace Go.Proofs.Qxb6602946a
/- THE CELL 'sum', in the pinned program and in every row, IS THE sha256 OF THE DUMP (.gsa) THAT Qxb6602946aProg.lean LOADS. Nothing in Lean hashes anything: it is a label: what it is worth is what the hold of that sum in a sandbox is worth. -/
noncomputable def Try.pinned : Pinned := { name := "qxb6602946a", sum := "80ca8b00f537519ab7395e233c563f1e33c1861dad4d3060b8555eabfdff77c2", checked := Try.checked }
namespace Rows
def none {H : Type} : Left H := { results := [], args := [] }

/-- 'zzlaws_config_b1.FnAESKeywordsTable': WHATEVER THE INPUT: true; the input reads as it did. -/
def fnAESKeywordsTableSpec : ChangeSpec := { name := "fnAESKeywordsTable", fn := fun _ => fun
  | [d] => { results := [.lit (.bool true)], args := [d] }
  | _ => none }
def fnAESKeywordsTableRow : OpenClaim := { program := "qxb6602946a", sum := "80ca8b00f537519ab7395e233c563f1e33c1861dad4d3060b8555eabfdff77c2", func := "example.com/meshwright/meshwright/zzlaws_config_b1.FnAESKeywordsTable", spec := "fnAESKeywordsTable", plainKeys := false, apart := false }
def FnAESKeywordsTableSaid : Prop := fnAESKeywordsTableRow.holds Try.pinned (OpenSpec.ofChange fnAESKeywordsTableSpec)

/-- ITS FALSE NEIGHBOUR: 'it returns false'. Refute it at one input. -/
def fnAESKeywordsTableWrong : ChangeSpec := { name := "fnAESKeywordsTable", fn := fun _ => fun
  | [d] => { results := [.lit (.bool false)], args := [d] }
  | _ => none }
def FnAESKeywordsTableWrongFalsely : Prop := fnAESKeywordsTableRow.holds Try.pinned (OpenSpec.ofChange fnAESKeywordsTableWrong)

/-- 'zzlaws_config_b1.FnAESKeywordsDistinct': WHATEVER THE INPUT: true; the input reads as it did. -/
def fnAESKeywordsDistinctSpec : ChangeSpec := { name := "fnAESKeywordsDistinct", fn := fun _ => fun
  | [d] => { results := [.lit (.bool true)], args := [d] }
  | _ => none }
def fnAESKeywordsDistinctRow : OpenClaim := { program := "qxb6602946a", sum := "80ca8b00f537519ab7395e233c563f1e33c1861dad4d3060b8555eabfdff77c2", func := "example.com/meshwright/meshwright/zzlaws_config_b1.FnAESKeywordsDistinct", spec := "fnAESKeywordsDistinct", plainKeys := false, apart := false }
def FnAESKeywordsDistinctSaid : Prop := fnAESKeywordsDistinctRow.holds Try.pinned (OpenSpec.ofChange fnAESKeywordsDistinctSpec)

/-- ITS FALSE NEIGHBOUR: 'it returns false'. Refute it at one input. -/
def fnAESKeywordsDistinctWrong : ChangeSpec := { name := "fnAESKeywordsDistinct", fn := fun _ => fun
  | [d] => { results := [.lit (.bool false)], args := [d] }
  | _ => none }
def FnAESKeywordsDistinctWrongFalsely : Prop := fnAESKeywordsDistinctRow.holds Try.pinned (OpenSpec.ofChange fnAESKeywordsDistinctWrong)

/-- 'zzlaws_config_b1.FnByKeywordSpec': WHATEVER THE INPUT: true; the input reads as it did. -/
def fnByKeywordSpecSpec : ChangeSpec := { name := "fnByKeywordSpec", fn := fun _ => fun
  | [d1, d2] => { results := [.lit (.bool true)], args := [d1, d2] }
  | _ => none }
def fnByKeywordSpecRow : OpenClaim := { program := "qxb6602946a", sum := "80ca8b00f537519ab7395e233c563f1e33c1861dad4d3060b8555eabfdff77c2", func := "example.com/meshwright/meshwright/zzlaws_config_b1.FnByKeywordSpec", spec := "fnByKeywordSpec", maps := true, plainKeys := false, apart := false }
def FnByKeywordSpecSaid : Prop := fnByKeywordSpecRow.holds Try.pinned (OpenSpec.ofChange fnByKeywordSpecSpec)

/-- ITS FALSE NEIGHBOUR: 'it returns false'. Refute it at one input. -/
def fnByKeywordSpecWrong : ChangeSpec := { name := "fnByKeywordSpec", fn := fun _ => fun
  | [d1, d2] => { results := [.lit (.bool false)], args := [d1, d2] }
  | _ => none }
def FnByKeywordSpecWrongFalsely : Prop := fnByKeywordSpecRow.holds Try.pinned (OpenSpec.ofChange fnByKeywordSpecWrong)

/-- 'zzlaws_config_b1.FnByKeywordRegroup': WHATEVER THE INPUT: true; the input reads as it did. -/
def fnByKeywordRegroupSpec : ChangeSpec := { name := "fnByKeywordRegroup", fn := fun _ => fun
  | [d1, d2] => { results := [.lit (.bool true)], args := [d1, d2] }
  | _ => none }
def fnByKeywordRegroupRow : OpenClaim := { program := "qxb6602946a", sum := "80ca8b00f537519ab7395e233c563f1e33c1861dad4d3060b8555eabfdff77c2", func := "example.com/meshwright/meshwright/zzlaws_config_b1.FnByKeywordRegroup", spec := "fnByKeywordRegroup", maps := true, plainKeys := false, apart := false }
def FnByKeywordRegroupSaid : Prop := fnByKeywordRegroupRow.holds Try.pinned (OpenSpec.ofChange fnByKeywordRegroupSpec)

/-- ITS FALSE NEIGHBOUR: 'it returns false'. Refute it at one input. -/
def fnByKeywordRegroupWrong : ChangeSpec := { name := "fnByKeywordRegroup", fn := fun _ => fun
  | [d1, d2] => { results := [.lit (.bool false)], args := [d1, d2] }
  | _ => none }
def FnByKeywordRegroupWrongFalsely : Prop := fnByKeywordRegroupRow.holds Try.pinned (OpenSpec.ofChange fnByKeywordRegroupWrong)

end Rows
end Go.Proofs.Qxb6602946a
