/-
  No cell of these rows narrows 'for every input' (looked for: loops, veiled, ifaces, maps, wideKeys, modest, calm, conditions, laid).
  DERIVED. THE GIVEN ROWS OF THIS SEAT. 5 by the template 'for every input the law returns true; each argument reads behind the call as it read before'; 0 by the template 'total and deterministic' (their statements: Qxb6601894aTotals.lean).
  GIVEN WITH THE SEED: the statements are not yours to turn. If you find one false, say at which input.
  Laid BY PROGRAM, IN A SANDBOX (cutbox-rows.mjs): the forced cells as the released guide's own fill.sh prints them over the translation 9060b0ecfb294f65… (all of the seat's roots in one cut). By AI agents, Wed Nov 11 2026. No macro, syntax, notation, axiom, sorry.
-/
import Derived.Test.Qxb6601894aChecked
import GoSem.Claim
import GoSem.ClaimJoined
import GoSem.ClaimMapViews
import Derived.JoinedTies
import Derived.KernelRfl
namespace Go.Proofs.Qxb6601894a
/- THE CELL 'sum', in the pinned program and in every row, IS THE sha256 OF THE DUMP (.gsa) THAT Qxb6601894aProg.lean LOADS. Nothing in Lean hashes anything: it is a label: what it is worth is what the hold of that sum in a sandbox is worth. -/
noncomputable def Try.pinned : Pinned := { name := "qxb6601894a", sum := "9060b0ecfb294f6504050e8a5f42c87872ab7b17df92b880f1e5858ad9973b18", checked := Try.checked }
namespace Rows
def none {H : Type} : Left H := { results := [], args := [] }

/-- 'zzlaws_pkg_market_b1.FnAddMatchesCountingModel': WHATEVER THE INPUT: true; the input reads as it did. -/
def fnAddMatchesCountingModelSpec : ChangeSpec := { name := "fnAddMatchesCountingModel", fn := fun _ => fun
  | [d1, d2, d3, d4, d5] => { results := [.lit (.bool true)], args := [d1, d2, d3, d4, d5] }
  | _ => none }
def fnAddMatchesCountingModelRow : OpenClaim := { program := "qxb6601894a", sum := "9060b0ecfb294f6504050e8a5f42c87872ab7b17df92b880f1e5858ad9973b18", func := "example.com/zhuanzhai/zhuanzhai/zzlaws_pkg_market_b1.FnAddMatchesCountingModel", spec := "fnAddMatchesCountingModel", unfollowed := true, recurses := true, apart := false }
def FnAddMatchesCountingModelSaid : Prop := fnAddMatchesCountingModelRow.holds Try.pinned (OpenSpec.ofChange fnAddMatchesCountingModelSpec)

/-- ITS FALSE NEIGHBOUR: 'it returns false'. Refute it at one input. -/
def fnAddMatchesCountingModelWrong : ChangeSpec := { name := "fnAddMatchesCountingModel", fn := fun _ => fun
  | [d1, d2, d3, d4, d5] => { results := [.lit (.bool false)], args := [d1, d2, d3, d4, d5] }
  | _ => none }
def FnAddMatchesCountingModelWrongFalsely : Prop := fnAddMatchesCountingModelRow.holds Try.pinned (OpenSpec.ofChange fnAddMatchesCountingModelWrong)

/-- 'zzlaws_pkg_market_b1.FnAddComposesFromATradingDay': WHATEVER THE INPUT: true; the input reads as it did. -/
def fnAddComposesFromATradingDaySpec : ChangeSpec := { name := "fnAddComposesFromATradingDay", fn := fun _ => fun
  | [d1, d2, d3, d4, d5, d6] => { results := [.lit (.bool true)], args := [d1, d2, d3, d4, d5, d6] }
  | _ => none }
def fnAddComposesFromATradingDayRow : OpenClaim := { program := "qxb6601894a", sum := "9060b0ecfb294f6504050e8a5f42c87872ab7b17df92b880f1e5858ad9973b18", func := "example.com/zhuanzhai/zhuanzhai/zzlaws_pkg_market_b1.FnAddComposesFromATradingDay", spec := "fnAddComposesFromATradingDay", unfollowed := true, recurses := true, apart := false }
def FnAddComposesFromATradingDaySaid : Prop := fnAddComposesFromATradingDayRow.holds Try.pinned (OpenSpec.ofChange fnAddComposesFromATradingDaySpec)

/-- ITS FALSE NEIGHBOUR: 'it returns false'. Refute it at one input. -/
def fnAddComposesFromATradingDayWrong : ChangeSpec := { name := "fnAddComposesFromATradingDay", fn := fun _ => fun
  | [d1, d2, d3, d4, d5, d6] => { results := [.lit (.bool false)], args := [d1, d2, d3, d4, d5, d6] }
  | _ => none }
def FnAddComposesFromATradingDayWrongFalsely : Prop := fnAddComposesFromATradingDayRow.holds Try.pinned (OpenSpec.ofChange fnAddComposesFromATradingDayWrong)

/-- 'zzlaws_pkg_market_b1.FnSuspendKeepsExactlyTheUnsuspendedDays': WHATEVER THE INPUT: true; the input reads as it did. -/
def fnSuspendKeepsExactlyTheUnsuspendedDaysSpec : ChangeSpec := { name := "fnSuspendKeepsExactlyTheUnsuspendedDays", fn := fun _ => fun
  | [d1, d2, d3, d4] => { results := [.lit (.bool true)], args := [d1, d2, d3, d4] }
  | _ => none }
def fnSuspendKeepsExactlyTheUnsuspendedDaysRow : OpenClaim := { program := "qxb6601894a", sum := "9060b0ecfb294f6504050e8a5f42c87872ab7b17df92b880f1e5858ad9973b18", func := "example.com/zhuanzhai/zhuanzhai/zzlaws_pkg_market_b1.FnSuspendKeepsExactlyTheUnsuspendedDays", spec := "fnSuspendKeepsExactlyTheUnsuspendedDays", unfollowed := true, recurses := true, apart := false }
def FnSuspendKeepsExactlyTheUnsuspendedDaysSaid : Prop := fnSuspendKeepsExactlyTheUnsuspendedDaysRow.holds Try.pinned (OpenSpec.ofChange fnSuspendKeepsExactlyTheUnsuspendedDaysSpec)

/-- ITS FALSE NEIGHBOUR: 'it returns false'. Refute it at one input. -/
def fnSuspendKeepsExactlyTheUnsuspendedDaysWrong : ChangeSpec := { name := "fnSuspendKeepsExactlyTheUnsuspendedDays", fn := fun _ => fun
  | [d1, d2, d3, d4] => { results := [.lit (.bool false)], args := [d1, d2, d3, d4] }
  | _ => none }
def FnSuspendKeepsExactlyTheUnsuspendedDaysWrongFalsely : Prop := fnSuspendKeepsExactlyTheUnsuspendedDaysRow.holds Try.pinned (OpenSpec.ofChange fnSuspendKeepsExactlyTheUnsuspendedDaysWrong)

/-- 'zzlaws_pkg_market_b1.FnSuspendInPieces': WHATEVER THE INPUT: true; the input reads as it did. -/
def fnSuspendInPiecesSpec : ChangeSpec := { name := "fnSuspendInPieces", fn := fun _ => fun
  | [d1, d2, d3, d4, d5] => { results := [.lit (.bool true)], args := [d1, d2, d3, d4, d5] }
  | _ => none }
def fnSuspendInPiecesRow : OpenClaim := { program := "qxb6601894a", sum := "9060b0ecfb294f6504050e8a5f42c87872ab7b17df92b880f1e5858ad9973b18", func := "example.com/zhuanzhai/zhuanzhai/zzlaws_pkg_market_b1.FnSuspendInPieces", spec := "fnSuspendInPieces", apart := false }
def FnSuspendInPiecesSaid : Prop := fnSuspendInPiecesRow.holds Try.pinned (OpenSpec.ofChange fnSuspendInPiecesSpec)

/-- ITS FALSE NEIGHBOUR: 'it returns false'. Refute it at one input. -/
def fnSuspendInPiecesWrong : ChangeSpec := { name := "fnSuspendInPieces", fn := fun _ => fun
  | [d1, d2, d3, d4, d5] => { results := [.lit (.bool false)], args := [d1, d2, d3, d4, d5] }
  | _ => none }
def FnSuspendInPiecesWrongFalsely : Prop := fnSuspendInPiecesRow.holds Try.pinned (OpenSpec.ofChange fnSuspendInPiecesWrong)

/-- 'zzlaws_pkg_market_b1.FnSuspensionOnFindsTheOneThatHoldsTheDay': WHATEVER THE INPUT: true; the input reads as it did. -/
def fnSuspensionOnFindsTheOneThatHoldsTheDaySpec : ChangeSpec := { name := "fnSuspensionOnFindsTheOneThatHoldsTheDay", fn := fun _ => fun
  | [d1, d2] => { results := [.lit (.bool true)], args := [d1, d2] }
  | _ => none }
def fnSuspensionOnFindsTheOneThatHoldsTheDayRow : OpenClaim := { program := "qxb6601894a", sum := "9060b0ecfb294f6504050e8a5f42c87872ab7b17df92b880f1e5858ad9973b18", func := "example.com/zhuanzhai/zhuanzhai/zzlaws_pkg_market_b1.FnSuspensionOnFindsTheOneThatHoldsTheDay", spec := "fnSuspensionOnFindsTheOneThatHoldsTheDay", unfollowed := true, recurses := true, apart := false }
def FnSuspensionOnFindsTheOneThatHoldsTheDaySaid : Prop := fnSuspensionOnFindsTheOneThatHoldsTheDayRow.holds Try.pinned (OpenSpec.ofChange fnSuspensionOnFindsTheOneThatHoldsTheDaySpec)

/-- ITS FALSE NEIGHBOUR: 'it returns false'. Refute it at one input. -/
def fnSuspensionOnFindsTheOneThatHoldsTheDayWrong : ChangeSpec := { name := "fnSuspensionOnFindsTheOneThatHoldsTheDay", fn := fun _ => fun
  | [d1, d2] => { results := [.lit (.bool false)], args := [d1, d2] }
  | _ => none }
def FnSuspensionOnFindsTheOneThatHoldsTheDayWrongFalsely : Prop := fnSuspensionOnFindsTheOneThatHoldsTheDayRow.holds Try.pinned (OpenSpec.ofChange fnSuspensionOnFindsTheOneThatHoldsTheDayWrong)

end Rows
end Go.Proofs.Qxb6601894a
