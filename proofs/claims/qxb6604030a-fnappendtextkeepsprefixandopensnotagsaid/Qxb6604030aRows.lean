/-
  No cell of these rows narrows 'for every input' (looked for: loops, veiled, ifaces, maps, wideKeys, modest, calm, conditions, laid).
  DERIVED. THE GIVEN ROWS OF THIS SEAT. 3 by the template 'for every input the law returns true; each argument reads behind the call as it read before'; 0 by the template 'total and deterministic' (their statements: Qxb6604030aTotals.lean).
  GIVEN WITH THE SEED: the statements are not yours to turn. If you find one false, say at which input.
  Laid BY PROGRAM, IN A SANDBOX (cutbox-rows.mjs): the forced cells as the released guide's own fill.sh prints them over the translation fcf6e4b468c33cad… (all of the seat's roots in one cut). By AI agents, Wed Nov 11 2026. No macro, syntax, notation, axiom, sorry.
-/
import Derived.Test.Qxb6604030aChecked
import GoSem.Claim
import GoSem.ClaimJoined
import GoSem.ClaimMapViews
import Derived.JoinedTies
import Derived.KernelRfl
namespace Go.Proofs.Qxb6604030a
/- THE CELL 'sum', in the pinned program and in every row, IS THE sha256 OF THE DUMP (.gsa) THAT Qxb6604030aProg.lean LOADS. Nothing in Lean hashes anything: it is a label: what it is worth is what the hold of that sum in a sandbox is worth. -/
noncomputable def Try.pinned : Pinned := { name := "qxb6604030a", sum := "fcf6e4b468c33cad2458599ecae47b25e9b91ab71fab6938df20ae82700704f7", checked := Try.checked }
namespace Rows
def none {H : Type} : Left H := { results := [], args := [] }

/-- 'zzlaws_pkg_page_b1.FnTokenizedMatchesCanonicalForm': WHATEVER THE INPUT: true; the input reads as it did. -/
def fnTokenizedMatchesCanonicalFormSpec : ChangeSpec := { name := "fnTokenizedMatchesCanonicalForm", fn := fun _ => fun
  | [d1, d2] => { results := [.lit (.bool true)], args := [d1, d2] }
  | _ => none }
def fnTokenizedMatchesCanonicalFormRow : OpenClaim := { program := "qxb6604030a", sum := "fcf6e4b468c33cad2458599ecae47b25e9b91ab71fab6938df20ae82700704f7", func := "example.com/tessera/tessera/zzlaws_pkg_page_b1.FnTokenizedMatchesCanonicalForm", spec := "fnTokenizedMatchesCanonicalForm", apart := false }
def FnTokenizedMatchesCanonicalFormSaid : Prop := fnTokenizedMatchesCanonicalFormRow.holds Try.pinned (OpenSpec.ofChange fnTokenizedMatchesCanonicalFormSpec)

/-- ITS FALSE NEIGHBOUR: 'it returns false'. Refute it at one input. -/
def fnTokenizedMatchesCanonicalFormWrong : ChangeSpec := { name := "fnTokenizedMatchesCanonicalForm", fn := fun _ => fun
  | [d1, d2] => { results := [.lit (.bool false)], args := [d1, d2] }
  | _ => none }
def FnTokenizedMatchesCanonicalFormWrongFalsely : Prop := fnTokenizedMatchesCanonicalFormRow.holds Try.pinned (OpenSpec.ofChange fnTokenizedMatchesCanonicalFormWrong)

/-- 'zzlaws_pkg_page_b1.FnAppendTextMatchesEscapeModel': WHATEVER THE INPUT: true; the input reads as it did. -/
def fnAppendTextMatchesEscapeModelSpec : ChangeSpec := { name := "fnAppendTextMatchesEscapeModel", fn := fun _ => fun
  | [d1, d2] => { results := [.lit (.bool true)], args := [d1, d2] }
  | _ => none }
def fnAppendTextMatchesEscapeModelRow : OpenClaim := { program := "qxb6604030a", sum := "fcf6e4b468c33cad2458599ecae47b25e9b91ab71fab6938df20ae82700704f7", func := "example.com/tessera/tessera/zzlaws_pkg_page_b1.FnAppendTextMatchesEscapeModel", spec := "fnAppendTextMatchesEscapeModel", inPlace := ["internal/bytealg.IndexByte"], apart := false }
def FnAppendTextMatchesEscapeModelSaid : Prop := fnAppendTextMatchesEscapeModelRow.holds Try.pinned (OpenSpec.ofChange fnAppendTextMatchesEscapeModelSpec)

/-- ITS FALSE NEIGHBOUR: 'it returns false'. Refute it at one input. -/
def fnAppendTextMatchesEscapeModelWrong : ChangeSpec := { name := "fnAppendTextMatchesEscapeModel", fn := fun _ => fun
  | [d1, d2] => { results := [.lit (.bool false)], args := [d1, d2] }
  | _ => none }
def FnAppendTextMatchesEscapeModelWrongFalsely : Prop := fnAppendTextMatchesEscapeModelRow.holds Try.pinned (OpenSpec.ofChange fnAppendTextMatchesEscapeModelWrong)

/-- 'zzlaws_pkg_page_b1.FnAppendTextKeepsPrefixAndOpensNoTag': WHATEVER THE INPUT: true; the input reads as it did. -/
def fnAppendTextKeepsPrefixAndOpensNoTagSpec : ChangeSpec := { name := "fnAppendTextKeepsPrefixAndOpensNoTag", fn := fun _ => fun
  | [d1, d2] => { results := [.lit (.bool true)], args := [d1, d2] }
  | _ => none }
def fnAppendTextKeepsPrefixAndOpensNoTagRow : OpenClaim := { program := "qxb6604030a", sum := "fcf6e4b468c33cad2458599ecae47b25e9b91ab71fab6938df20ae82700704f7", func := "example.com/tessera/tessera/zzlaws_pkg_page_b1.FnAppendTextKeepsPrefixAndOpensNoTag", spec := "fnAppendTextKeepsPrefixAndOpensNoTag", inPlace := ["internal/bytealg.IndexByte"], apart := false }
def FnAppendTextKeepsPrefixAndOpensNoTagSaid : Prop := fnAppendTextKeepsPrefixAndOpensNoTagRow.holds Try.pinned (OpenSpec.ofChange fnAppendTextKeepsPrefixAndOpensNoTagSpec)

/-- ITS FALSE NEIGHBOUR: 'it returns false'. Refute it at one input. -/
def fnAppendTextKeepsPrefixAndOpensNoTagWrong : ChangeSpec := { name := "fnAppendTextKeepsPrefixAndOpensNoTag", fn := fun _ => fun
  | [d1, d2] => { results := [.lit (.bool false)], args := [d1, d2] }
  | _ => none }
def FnAppendTextKeepsPrefixAndOpensNoTagWrongFalsely : Prop := fnAppendTextKeepsPrefixAndOpensNoTagRow.holds Try.pinned (OpenSpec.ofChange fnAppendTextKeepsPrefixAndOpensNoTagWrong)

end Rows
end Go.Proofs.Qxb6604030a
