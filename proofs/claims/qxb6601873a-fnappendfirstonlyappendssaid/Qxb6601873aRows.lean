/-
  No cell of these rows narrows 'for every input' (looked for: loops, veiled, ifaces, maps, wideKeys, modest, calm, conditions, laid).
  DERIVED. THE GIVEN ROWS OF THIS SEAT. 8 by the template 'for every input the law returns true; each argument reads behind the call as it read before'; 0 by the template 'total and deterministic' (their statements: Qxb6601873aTotals.lean).
  GIVEN WITH THE SEED: the statements are not yours to turn. If you find one false, say at which input.
  Laid BY PROGRAM, IN A SANDBOX (cutbox-rows.mjs): the forced cells as the released guide's own fill.sh prints them over the translation d130a056060e9e70… (all of the seat's roots in one cut). By AI agents, Wed Nov 11 2026. No macro, syntax, notation, axiom, sorry.
-/
import Derived.Test.Qxb6601873aChecked
import GoSem.Claim
import GoSem.ClaimJoined
import GoSem.ClaimMapViews
import Derived.JoinedTies
import Derived.KernelRfl
namespace Go.Proofs.Qxb6601873a
/- THE CELL 'sum', in the pinned program and in every row, IS THE sha256 OF THE DUMP (.gsa) THAT Qxb6601873aProg.lean LOADS. Nothing in Lean hashes anything: it is a label: what it is worth is what the hold of that sum in a sandbox is worth. -/
noncomputable def Try.pinned : Pinned := { name := "qxb6601873a", sum := "d130a056060e9e70aa5452ad2110a0c2654a789c37191bafb5a62ce890a3e140", checked := Try.checked }
namespace Rows
def none {H : Type} : Left H := { results := [], args := [] }

/-- 'zzlaws_root_b1.FnReachOrderMatchesArrivalSets': WHATEVER THE INPUT: true; the input reads as it did. -/
def fnReachOrderMatchesArrivalSetsSpec : ChangeSpec := { name := "fnReachOrderMatchesArrivalSets", fn := fun _ => fun
  | [d1, d2, d3] => { results := [.lit (.bool true)], args := [d1, d2, d3] }
  | _ => none }
def fnReachOrderMatchesArrivalSetsRow : OpenClaim := { program := "qxb6601873a", sum := "d130a056060e9e70aa5452ad2110a0c2654a789c37191bafb5a62ce890a3e140", func := "example.com/roundwise/roundwise/zzlaws_root_b1.FnReachOrderMatchesArrivalSets", spec := "fnReachOrderMatchesArrivalSets", apart := false }
def FnReachOrderMatchesArrivalSetsSaid : Prop := fnReachOrderMatchesArrivalSetsRow.holds Try.pinned (OpenSpec.ofChange fnReachOrderMatchesArrivalSetsSpec)

/-- ITS FALSE NEIGHBOUR: 'it returns false'. Refute it at one input. -/
def fnReachOrderMatchesArrivalSetsWrong : ChangeSpec := { name := "fnReachOrderMatchesArrivalSets", fn := fun _ => fun
  | [d1, d2, d3] => { results := [.lit (.bool false)], args := [d1, d2, d3] }
  | _ => none }
def FnReachOrderMatchesArrivalSetsWrongFalsely : Prop := fnReachOrderMatchesArrivalSetsRow.holds Try.pinned (OpenSpec.ofChange fnReachOrderMatchesArrivalSetsWrong)

/-- 'zzlaws_root_b1.FnReachOrderAntisymmetric': WHATEVER THE INPUT: true; the input reads as it did. -/
def fnReachOrderAntisymmetricSpec : ChangeSpec := { name := "fnReachOrderAntisymmetric", fn := fun _ => fun
  | [d1, d2, d3] => { results := [.lit (.bool true)], args := [d1, d2, d3] }
  | _ => none }
def fnReachOrderAntisymmetricRow : OpenClaim := { program := "qxb6601873a", sum := "d130a056060e9e70aa5452ad2110a0c2654a789c37191bafb5a62ce890a3e140", func := "example.com/roundwise/roundwise/zzlaws_root_b1.FnReachOrderAntisymmetric", spec := "fnReachOrderAntisymmetric", apart := false }
def FnReachOrderAntisymmetricSaid : Prop := fnReachOrderAntisymmetricRow.holds Try.pinned (OpenSpec.ofChange fnReachOrderAntisymmetricSpec)

/-- ITS FALSE NEIGHBOUR: 'it returns false'. Refute it at one input. -/
def fnReachOrderAntisymmetricWrong : ChangeSpec := { name := "fnReachOrderAntisymmetric", fn := fun _ => fun
  | [d1, d2, d3] => { results := [.lit (.bool false)], args := [d1, d2, d3] }
  | _ => none }
def FnReachOrderAntisymmetricWrongFalsely : Prop := fnReachOrderAntisymmetricRow.holds Try.pinned (OpenSpec.ofChange fnReachOrderAntisymmetricWrong)

/-- 'zzlaws_root_b1.FnReachOrderTransitive': WHATEVER THE INPUT: true; the input reads as it did. -/
def fnReachOrderTransitiveSpec : ChangeSpec := { name := "fnReachOrderTransitive", fn := fun _ => fun
  | [d1, d2, d3, d4] => { results := [.lit (.bool true)], args := [d1, d2, d3, d4] }
  | _ => none }
def fnReachOrderTransitiveRow : OpenClaim := { program := "qxb6601873a", sum := "d130a056060e9e70aa5452ad2110a0c2654a789c37191bafb5a62ce890a3e140", func := "example.com/roundwise/roundwise/zzlaws_root_b1.FnReachOrderTransitive", spec := "fnReachOrderTransitive", apart := false }
def FnReachOrderTransitiveSaid : Prop := fnReachOrderTransitiveRow.holds Try.pinned (OpenSpec.ofChange fnReachOrderTransitiveSpec)

/-- ITS FALSE NEIGHBOUR: 'it returns false'. Refute it at one input. -/
def fnReachOrderTransitiveWrong : ChangeSpec := { name := "fnReachOrderTransitive", fn := fun _ => fun
  | [d1, d2, d3, d4] => { results := [.lit (.bool false)], args := [d1, d2, d3, d4] }
  | _ => none }
def FnReachOrderTransitiveWrongFalsely : Prop := fnReachOrderTransitiveRow.holds Try.pinned (OpenSpec.ofChange fnReachOrderTransitiveWrong)

/-- 'zzlaws_root_b1.FnExploresStrictWeakOrder': WHATEVER THE INPUT: true; the input reads as it did. -/
def fnExploresStrictWeakOrderSpec : ChangeSpec := { name := "fnExploresStrictWeakOrder", fn := fun _ => fun
  | [d1, d2, d3, d4] => { results := [.lit (.bool true)], args := [d1, d2, d3, d4] }
  | _ => none }
def fnExploresStrictWeakOrderRow : OpenClaim := { program := "qxb6601873a", sum := "d130a056060e9e70aa5452ad2110a0c2654a789c37191bafb5a62ce890a3e140", func := "example.com/roundwise/roundwise/zzlaws_root_b1.FnExploresStrictWeakOrder", spec := "fnExploresStrictWeakOrder", apart := false }
def FnExploresStrictWeakOrderSaid : Prop := fnExploresStrictWeakOrderRow.holds Try.pinned (OpenSpec.ofChange fnExploresStrictWeakOrderSpec)

/-- ITS FALSE NEIGHBOUR: 'it returns false'. Refute it at one input. -/
def fnExploresStrictWeakOrderWrong : ChangeSpec := { name := "fnExploresStrictWeakOrder", fn := fun _ => fun
  | [d1, d2, d3, d4] => { results := [.lit (.bool false)], args := [d1, d2, d3, d4] }
  | _ => none }
def FnExploresStrictWeakOrderWrongFalsely : Prop := fnExploresStrictWeakOrderRow.holds Try.pinned (OpenSpec.ofChange fnExploresStrictWeakOrderWrong)

/-- 'zzlaws_root_b1.FnExploresCommonPrefixIgnored': WHATEVER THE INPUT: true; the input reads as it did. -/
def fnExploresCommonPrefixIgnoredSpec : ChangeSpec := { name := "fnExploresCommonPrefixIgnored", fn := fun _ => fun
  | [d1, d2, d3, d4] => { results := [.lit (.bool true)], args := [d1, d2, d3, d4] }
  | _ => none }
def fnExploresCommonPrefixIgnoredRow : OpenClaim := { program := "qxb6601873a", sum := "d130a056060e9e70aa5452ad2110a0c2654a789c37191bafb5a62ce890a3e140", func := "example.com/roundwise/roundwise/zzlaws_root_b1.FnExploresCommonPrefixIgnored", spec := "fnExploresCommonPrefixIgnored", apart := false }
def FnExploresCommonPrefixIgnoredSaid : Prop := fnExploresCommonPrefixIgnoredRow.holds Try.pinned (OpenSpec.ofChange fnExploresCommonPrefixIgnoredSpec)

/-- ITS FALSE NEIGHBOUR: 'it returns false'. Refute it at one input. -/
def fnExploresCommonPrefixIgnoredWrong : ChangeSpec := { name := "fnExploresCommonPrefixIgnored", fn := fun _ => fun
  | [d1, d2, d3, d4] => { results := [.lit (.bool false)], args := [d1, d2, d3, d4] }
  | _ => none }
def FnExploresCommonPrefixIgnoredWrongFalsely : Prop := fnExploresCommonPrefixIgnoredRow.holds Try.pinned (OpenSpec.ofChange fnExploresCommonPrefixIgnoredWrong)

/-- 'zzlaws_root_b1.FnExploresProperPrefixFirst': WHATEVER THE INPUT: true; the input reads as it did. -/
def fnExploresProperPrefixFirstSpec : ChangeSpec := { name := "fnExploresProperPrefixFirst", fn := fun _ => fun
  | [d1, d2, d3] => { results := [.lit (.bool true)], args := [d1, d2, d3] }
  | _ => none }
def fnExploresProperPrefixFirstRow : OpenClaim := { program := "qxb6601873a", sum := "d130a056060e9e70aa5452ad2110a0c2654a789c37191bafb5a62ce890a3e140", func := "example.com/roundwise/roundwise/zzlaws_root_b1.FnExploresProperPrefixFirst", spec := "fnExploresProperPrefixFirst", apart := false }
def FnExploresProperPrefixFirstSaid : Prop := fnExploresProperPrefixFirstRow.holds Try.pinned (OpenSpec.ofChange fnExploresProperPrefixFirstSpec)

/-- ITS FALSE NEIGHBOUR: 'it returns false'. Refute it at one input. -/
def fnExploresProperPrefixFirstWrong : ChangeSpec := { name := "fnExploresProperPrefixFirst", fn := fun _ => fun
  | [d1, d2, d3] => { results := [.lit (.bool false)], args := [d1, d2, d3] }
  | _ => none }
def FnExploresProperPrefixFirstWrongFalsely : Prop := fnExploresProperPrefixFirstRow.holds Try.pinned (OpenSpec.ofChange fnExploresProperPrefixFirstWrong)

/-- 'zzlaws_root_b1.FnAppendFirstOnlyAppends': WHATEVER THE INPUT: true; the input reads as it did. -/
def fnAppendFirstOnlyAppendsSpec : ChangeSpec := { name := "fnAppendFirstOnlyAppends", fn := fun _ => fun
  | [d1, d2, d3, d4] => { results := [.lit (.bool true)], args := [d1, d2, d3, d4] }
  | _ => none }
def fnAppendFirstOnlyAppendsRow : OpenClaim := { program := "qxb6601873a", sum := "d130a056060e9e70aa5452ad2110a0c2654a789c37191bafb5a62ce890a3e140", func := "example.com/roundwise/roundwise/zzlaws_root_b1.FnAppendFirstOnlyAppends", spec := "fnAppendFirstOnlyAppends", apart := false }
def FnAppendFirstOnlyAppendsSaid : Prop := fnAppendFirstOnlyAppendsRow.holds Try.pinned (OpenSpec.ofChange fnAppendFirstOnlyAppendsSpec)

/-- ITS FALSE NEIGHBOUR: 'it returns false'. Refute it at one input. -/
def fnAppendFirstOnlyAppendsWrong : ChangeSpec := { name := "fnAppendFirstOnlyAppends", fn := fun _ => fun
  | [d1, d2, d3, d4] => { results := [.lit (.bool false)], args := [d1, d2, d3, d4] }
  | _ => none }
def FnAppendFirstOnlyAppendsWrongFalsely : Prop := fnAppendFirstOnlyAppendsRow.holds Try.pinned (OpenSpec.ofChange fnAppendFirstOnlyAppendsWrong)

/-- 'zzlaws_root_b1.FnAppendFirstDecodesWhatIsEncoded': WHATEVER THE INPUT: true; the input reads as it did. -/
def fnAppendFirstDecodesWhatIsEncodedSpec : ChangeSpec := { name := "fnAppendFirstDecodesWhatIsEncoded", fn := fun _ => fun
  | [d1, d2, d3, d4, d5, d6] => { results := [.lit (.bool true)], args := [d1, d2, d3, d4, d5, d6] }
  | _ => none }
def fnAppendFirstDecodesWhatIsEncodedRow : OpenClaim := { program := "qxb6601873a", sum := "d130a056060e9e70aa5452ad2110a0c2654a789c37191bafb5a62ce890a3e140", func := "example.com/roundwise/roundwise/zzlaws_root_b1.FnAppendFirstDecodesWhatIsEncoded", spec := "fnAppendFirstDecodesWhatIsEncoded", apart := false }
def FnAppendFirstDecodesWhatIsEncodedSaid : Prop := fnAppendFirstDecodesWhatIsEncodedRow.holds Try.pinned (OpenSpec.ofChange fnAppendFirstDecodesWhatIsEncodedSpec)

/-- ITS FALSE NEIGHBOUR: 'it returns false'. Refute it at one input. -/
def fnAppendFirstDecodesWhatIsEncodedWrong : ChangeSpec := { name := "fnAppendFirstDecodesWhatIsEncoded", fn := fun _ => fun
  | [d1, d2, d3, d4, d5, d6] => { results := [.lit (.bool false)], args := [d1, d2, d3, d4, d5, d6] }
  | _ => none }
def FnAppendFirstDecodesWhatIsEncodedWrongFalsely : Prop := fnAppendFirstDecodesWhatIsEncodedRow.holds Try.pinned (OpenSpec.ofChange fnAppendFirstDecodesWhatIsEncodedWrong)

end Rows
end Go.Proofs.Qxb6601873a
