/-
  No cell of these rows narrows 'for every input' (looked for: loops, veiled, ifaces, maps, wideKeys, modest, calm, conditions, laid).
  DERIVED. THE GIVEN ROWS OF THIS SEAT. 2 by the template 'for every input the law returns true; each argument reads behind the call as it read before'; 0 by the template 'total and deterministic' (their statements: Qxb6003131aTotals.lean).
  GIVEN WITH THE SEED: the statements are not yours to turn. If you find one false, say at which input.
  Laid BY PROGRAM, IN A SANDBOX (cutbox-rows.mjs): the forced cells as the released guide's own fill.sh prints them over the translation cdf7cf4cc6416dd2… (all of the seat's roots in one cut). By AI agents, Wed Nov 11 2026. No macro, syntax, notation, axiom, sorry.
-/
import Derived.Test.Qxb6003131aChecked
import GoSem.Claim
import GoSem.ClaimJoined
import GoSem.ClaimMapViews
import Derived.JoinedTies
import Derived.KernelRfl
namespace Go.Proofs.Qxb6003131a
/- THE CELL 'sum', in the pinned program and in every row, IS THE sha256 OF THE DUMP (.gsa) THAT Qxb6003131aProg.lean LOADS. Nothing in Lean hashes anything: it is a label: what it is worth is what the hold of that sum in a sandbox is worth. -/
noncomputable def Try.pinned : Pinned := { name := "qxb6003131a", sum := "cdf7cf4cc6416dd2b07afaa8c050cb75fc0d6fc5a2ea639b0898cf432197946e", checked := Try.checked }
namespace Rows
def none {H : Type} : Left H := { results := [], args := [] }

/-- 'zzlaws_root_b1.FnSerialOrderMatchesRanks': WHATEVER THE INPUT: true; the input reads as it did. -/
def fnSerialOrderMatchesRanksSpec : ChangeSpec := { name := "fnSerialOrderMatchesRanks", fn := fun _ => fun
  | [d1, d2] => { results := [.lit (.bool true)], args := [d1, d2] }
  | _ => none }
def fnSerialOrderMatchesRanksRow : OpenClaim := { program := "qxb6003131a", sum := "cdf7cf4cc6416dd2b07afaa8c050cb75fc0d6fc5a2ea639b0898cf432197946e", func := "example.com/interlace/interlace/zzlaws_root_b1.FnSerialOrderMatchesRanks", spec := "fnSerialOrderMatchesRanks", apart := false }
def FnSerialOrderMatchesRanksSaid : Prop := fnSerialOrderMatchesRanksRow.holds Try.pinned (OpenSpec.ofChange fnSerialOrderMatchesRanksSpec)

/-- ITS FALSE NEIGHBOUR: 'it returns false'. Refute it at one input. -/
def fnSerialOrderMatchesRanksWrong : ChangeSpec := { name := "fnSerialOrderMatchesRanks", fn := fun _ => fun
  | [d1, d2] => { results := [.lit (.bool false)], args := [d1, d2] }
  | _ => none }
def FnSerialOrderMatchesRanksWrongFalsely : Prop := fnSerialOrderMatchesRanksRow.holds Try.pinned (OpenSpec.ofChange fnSerialOrderMatchesRanksWrong)

/-- 'zzlaws_root_b1.FnMakeRowDecodes': WHATEVER THE INPUT: true; the input reads as it did. -/
def fnMakeRowDecodesSpec : ChangeSpec := { name := "fnMakeRowDecodes", fn := fun _ => fun
  | [d1, d2, d3, d4] => { results := [.lit (.bool true)], args := [d1, d2, d3, d4] }
  | _ => none }
def fnMakeRowDecodesRow : OpenClaim := { program := "qxb6003131a", sum := "cdf7cf4cc6416dd2b07afaa8c050cb75fc0d6fc5a2ea639b0898cf432197946e", func := "example.com/interlace/interlace/zzlaws_root_b1.FnMakeRowDecodes", spec := "fnMakeRowDecodes", inPlace := ["internal/abi.NoEscape", "internal/bytealg.MakeNoZero"], apart := false }
def FnMakeRowDecodesSaid : Prop := fnMakeRowDecodesRow.holds Try.pinned (OpenSpec.ofChange fnMakeRowDecodesSpec)

/-- ITS FALSE NEIGHBOUR: 'it returns false'. Refute it at one input. -/
def fnMakeRowDecodesWrong : ChangeSpec := { name := "fnMakeRowDecodes", fn := fun _ => fun
  | [d1, d2, d3, d4] => { results := [.lit (.bool false)], args := [d1, d2, d3, d4] }
  | _ => none }
def FnMakeRowDecodesWrongFalsely : Prop := fnMakeRowDecodesRow.holds Try.pinned (OpenSpec.ofChange fnMakeRowDecodesWrong)

end Rows
end Go.Proofs.Qxb6003131a
