/-
  No cell of these rows narrows 'for every input' (looked for: loops, veiled, ifaces, maps, wideKeys, modest, calm, conditions, laid).
  DERIVED. THE GIVEN ROWS OF THIS SEAT. 7 by the template 'for every input the law returns true; each argument reads behind the call as it read before'; 0 by the template 'total and deterministic' (their statements: Qxb6616259aTotals.lean).
  GIVEN WITH THE SEED: the statements are not yours to turn. If you find one false, say at which input.
  Laid BY PROGRAM, IN A SANDBOX (cutbox-rows.mjs): the forced cells as the released guide's own fill.sh prints them over the translation 90251c54cdbb292c… (all of the seat's roots in one cut). By AI agents, Wed Nov 11 2026. No macro, syntax, notation, axiom, sorry.
-/
import Derived.Test.Qxb6616259aChecked
import GoSem.Claim
import GoSem.ClaimJoined
import GoSem.ClaimMapViews
import Derived.JoinedTies
import Derived.KernelRfl
namespace Go.Proofs.Qxb6616259a
/- THE CELL 'sum', in the pinned program and in every row, IS THE sha256 OF THE DUMP (.gsa) THAT Qxb6616259aProg.lean LOADS. Nothing in Lean hashes anything: it is a label: what it is worth is what the hold of that sum in a sandbox is worth. -/
noncomputable def Try.pinned : Pinned := { name := "qxb6616259a", sum := "90251c54cdbb292ce2694794b7f127ca0522e2f4648529d34db98de3aab55def", checked := Try.checked }
namespace Rows
def none {H : Type} : Left H := { results := [], args := [] }

/-- 'zzlaws_pkg_query_b1.FnIsDigitCountBelow': WHATEVER THE INPUT: true; the input reads as it did. -/
def fnIsDigitCountBelowSpec : ChangeSpec := { name := "fnIsDigitCountBelow", fn := fun _ => fun
  | [d] => { results := [.lit (.bool true)], args := [d] }
  | _ => none }
def fnIsDigitCountBelowRow : OpenClaim := { program := "qxb6616259a", sum := "90251c54cdbb292ce2694794b7f127ca0522e2f4648529d34db98de3aab55def", func := "example.com/spanrail/spanrail/zzlaws_pkg_query_b1.FnIsDigitCountBelow", spec := "fnIsDigitCountBelow", apart := false }
def FnIsDigitCountBelowSaid : Prop := fnIsDigitCountBelowRow.holds Try.pinned (OpenSpec.ofChange fnIsDigitCountBelowSpec)

/-- ITS FALSE NEIGHBOUR: 'it returns false'. Refute it at one input. -/
def fnIsDigitCountBelowWrong : ChangeSpec := { name := "fnIsDigitCountBelow", fn := fun _ => fun
  | [d] => { results := [.lit (.bool false)], args := [d] }
  | _ => none }
def FnIsDigitCountBelowWrongFalsely : Prop := fnIsDigitCountBelowRow.holds Try.pinned (OpenSpec.ofChange fnIsDigitCountBelowWrong)

/-- 'zzlaws_pkg_query_b1.FnCompareAntisymmetricAndExact': WHATEVER THE INPUT: true; the input reads as it did. -/
def fnCompareAntisymmetricAndExactSpec : ChangeSpec := { name := "fnCompareAntisymmetricAndExact", fn := fun _ => fun
  | [d1, d2, d3] => { results := [.lit (.bool true)], args := [d1, d2, d3] }
  | _ => none }
def fnCompareAntisymmetricAndExactRow : OpenClaim := { program := "qxb6616259a", sum := "90251c54cdbb292ce2694794b7f127ca0522e2f4648529d34db98de3aab55def", func := "example.com/spanrail/spanrail/zzlaws_pkg_query_b1.FnCompareAntisymmetricAndExact", spec := "fnCompareAntisymmetricAndExact", inPlace := ["internal/bytealg.abigen_runtime_cmpstring"], unfollowed := true, recurses := true, apart := false }
def FnCompareAntisymmetricAndExactSaid : Prop := fnCompareAntisymmetricAndExactRow.holds Try.pinned (OpenSpec.ofChange fnCompareAntisymmetricAndExactSpec)

/-- ITS FALSE NEIGHBOUR: 'it returns false'. Refute it at one input. -/
def fnCompareAntisymmetricAndExactWrong : ChangeSpec := { name := "fnCompareAntisymmetricAndExact", fn := fun _ => fun
  | [d1, d2, d3] => { results := [.lit (.bool false)], args := [d1, d2, d3] }
  | _ => none }
def FnCompareAntisymmetricAndExactWrongFalsely : Prop := fnCompareAntisymmetricAndExactRow.holds Try.pinned (OpenSpec.ofChange fnCompareAntisymmetricAndExactWrong)

/-- 'zzlaws_pkg_query_b1.FnCompareDescendingReversesKeyOnly': WHATEVER THE INPUT: true; the input reads as it did. -/
def fnCompareDescendingReversesKeyOnlySpec : ChangeSpec := { name := "fnCompareDescendingReversesKeyOnly", fn := fun _ => fun
  | [d1, d2] => { results := [.lit (.bool true)], args := [d1, d2] }
  | _ => none }
def fnCompareDescendingReversesKeyOnlyRow : OpenClaim := { program := "qxb6616259a", sum := "90251c54cdbb292ce2694794b7f127ca0522e2f4648529d34db98de3aab55def", func := "example.com/spanrail/spanrail/zzlaws_pkg_query_b1.FnCompareDescendingReversesKeyOnly", spec := "fnCompareDescendingReversesKeyOnly", inPlace := ["internal/bytealg.abigen_runtime_cmpstring"], unfollowed := true, recurses := true, apart := false }
def FnCompareDescendingReversesKeyOnlySaid : Prop := fnCompareDescendingReversesKeyOnlyRow.holds Try.pinned (OpenSpec.ofChange fnCompareDescendingReversesKeyOnlySpec)

/-- ITS FALSE NEIGHBOUR: 'it returns false'. Refute it at one input. -/
def fnCompareDescendingReversesKeyOnlyWrong : ChangeSpec := { name := "fnCompareDescendingReversesKeyOnly", fn := fun _ => fun
  | [d1, d2] => { results := [.lit (.bool false)], args := [d1, d2] }
  | _ => none }
def FnCompareDescendingReversesKeyOnlyWrongFalsely : Prop := fnCompareDescendingReversesKeyOnlyRow.holds Try.pinned (OpenSpec.ofChange fnCompareDescendingReversesKeyOnlyWrong)

/-- 'zzlaws_pkg_query_b1.FnSpanOrderAntisymmetricAndExact': WHATEVER THE INPUT: true; the input reads as it did. -/
def fnSpanOrderAntisymmetricAndExactSpec : ChangeSpec := { name := "fnSpanOrderAntisymmetricAndExact", fn := fun _ => fun
  | [d1, d2] => { results := [.lit (.bool true)], args := [d1, d2] }
  | _ => none }
def fnSpanOrderAntisymmetricAndExactRow : OpenClaim := { program := "qxb6616259a", sum := "90251c54cdbb292ce2694794b7f127ca0522e2f4648529d34db98de3aab55def", func := "example.com/spanrail/spanrail/zzlaws_pkg_query_b1.FnSpanOrderAntisymmetricAndExact", spec := "fnSpanOrderAntisymmetricAndExact", inPlace := ["internal/bytealg.abigen_runtime_cmpstring"], apart := false }
def FnSpanOrderAntisymmetricAndExactSaid : Prop := fnSpanOrderAntisymmetricAndExactRow.holds Try.pinned (OpenSpec.ofChange fnSpanOrderAntisymmetricAndExactSpec)

/-- ITS FALSE NEIGHBOUR: 'it returns false'. Refute it at one input. -/
def fnSpanOrderAntisymmetricAndExactWrong : ChangeSpec := { name := "fnSpanOrderAntisymmetricAndExact", fn := fun _ => fun
  | [d1, d2] => { results := [.lit (.bool false)], args := [d1, d2] }
  | _ => none }
def FnSpanOrderAntisymmetricAndExactWrongFalsely : Prop := fnSpanOrderAntisymmetricAndExactRow.holds Try.pinned (OpenSpec.ofChange fnSpanOrderAntisymmetricAndExactWrong)

/-- 'zzlaws_pkg_query_b1.FnSpanOrderTransitiveAndExact': WHATEVER THE INPUT: true; the input reads as it did. -/
def fnSpanOrderTransitiveAndExactSpec : ChangeSpec := { name := "fnSpanOrderTransitiveAndExact", fn := fun _ => fun
  | [d1, d2, d3] => { results := [.lit (.bool true)], args := [d1, d2, d3] }
  | _ => none }
def fnSpanOrderTransitiveAndExactRow : OpenClaim := { program := "qxb6616259a", sum := "90251c54cdbb292ce2694794b7f127ca0522e2f4648529d34db98de3aab55def", func := "example.com/spanrail/spanrail/zzlaws_pkg_query_b1.FnSpanOrderTransitiveAndExact", spec := "fnSpanOrderTransitiveAndExact", inPlace := ["internal/bytealg.abigen_runtime_cmpstring"], apart := false }
def FnSpanOrderTransitiveAndExactSaid : Prop := fnSpanOrderTransitiveAndExactRow.holds Try.pinned (OpenSpec.ofChange fnSpanOrderTransitiveAndExactSpec)

/-- ITS FALSE NEIGHBOUR: 'it returns false'. Refute it at one input. -/
def fnSpanOrderTransitiveAndExactWrong : ChangeSpec := { name := "fnSpanOrderTransitiveAndExact", fn := fun _ => fun
  | [d1, d2, d3] => { results := [.lit (.bool false)], args := [d1, d2, d3] }
  | _ => none }
def FnSpanOrderTransitiveAndExactWrongFalsely : Prop := fnSpanOrderTransitiveAndExactRow.holds Try.pinned (OpenSpec.ofChange fnSpanOrderTransitiveAndExactWrong)

/-- 'zzlaws_pkg_query_b1.FnHasLanguageStringNotNull': WHATEVER THE INPUT: true; the input reads as it did. -/
def fnHasLanguageStringNotNullSpec : ChangeSpec := { name := "fnHasLanguageStringNotNull", fn := fun _ => fun
  | [d1, d2] => { results := [.lit (.bool true)], args := [d1, d2] }
  | _ => none }
def fnHasLanguageStringNotNullRow : OpenClaim := { program := "qxb6616259a", sum := "90251c54cdbb292ce2694794b7f127ca0522e2f4648529d34db98de3aab55def", func := "example.com/spanrail/spanrail/zzlaws_pkg_query_b1.FnHasLanguageStringNotNull", spec := "fnHasLanguageStringNotNull", apart := false }
def FnHasLanguageStringNotNullSaid : Prop := fnHasLanguageStringNotNullRow.holds Try.pinned (OpenSpec.ofChange fnHasLanguageStringNotNullSpec)

/-- ITS FALSE NEIGHBOUR: 'it returns false'. Refute it at one input. -/
def fnHasLanguageStringNotNullWrong : ChangeSpec := { name := "fnHasLanguageStringNotNull", fn := fun _ => fun
  | [d1, d2] => { results := [.lit (.bool false)], args := [d1, d2] }
  | _ => none }
def FnHasLanguageStringNotNullWrongFalsely : Prop := fnHasLanguageStringNotNullRow.holds Try.pinned (OpenSpec.ofChange fnHasLanguageStringNotNullWrong)

/-- 'zzlaws_pkg_query_b1.FnHasLanguageFirstValueDecides': WHATEVER THE INPUT: true; the input reads as it did. -/
def fnHasLanguageFirstValueDecidesSpec : ChangeSpec := { name := "fnHasLanguageFirstValueDecides", fn := fun _ => fun
  | [d1, d2, d3] => { results := [.lit (.bool true)], args := [d1, d2, d3] }
  | _ => none }
def fnHasLanguageFirstValueDecidesRow : OpenClaim := { program := "qxb6616259a", sum := "90251c54cdbb292ce2694794b7f127ca0522e2f4648529d34db98de3aab55def", func := "example.com/spanrail/spanrail/zzlaws_pkg_query_b1.FnHasLanguageFirstValueDecides", spec := "fnHasLanguageFirstValueDecides", apart := false }
def FnHasLanguageFirstValueDecidesSaid : Prop := fnHasLanguageFirstValueDecidesRow.holds Try.pinned (OpenSpec.ofChange fnHasLanguageFirstValueDecidesSpec)

/-- ITS FALSE NEIGHBOUR: 'it returns false'. Refute it at one input. -/
def fnHasLanguageFirstValueDecidesWrong : ChangeSpec := { name := "fnHasLanguageFirstValueDecides", fn := fun _ => fun
  | [d1, d2, d3] => { results := [.lit (.bool false)], args := [d1, d2, d3] }
  | _ => none }
def FnHasLanguageFirstValueDecidesWrongFalsely : Prop := fnHasLanguageFirstValueDecidesRow.holds Try.pinned (OpenSpec.ofChange fnHasLanguageFirstValueDecidesWrong)

end Rows
end Go.Proofs.Qxb6616259a
