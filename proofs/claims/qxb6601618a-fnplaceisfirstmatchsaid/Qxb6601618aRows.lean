/-
  No cell of these rows narrows 'for every input' (looked for: loops, veiled, ifaces, maps, wideKeys, modest, calm, conditions, laid).
  DERIVED. THE GIVEN ROWS OF THIS SEAT. 2 by the template 'for every input the law returns true; each argument reads behind the call as it read before'; 0 by the template 'total and deterministic' (their statements: Qxb6601618aTotals.lean).
  GIVEN WITH THE SEED: the statements are not yours to turn. If you find one false, say at which input.
  Laid BY PROGRAM, IN A SANDBOX (cutbox-rows.mjs): the forced cells as the released guide's own fill.sh prints them over the translation 5fdc2eb713352639… (all of the seat's roots in one cut). By AI agents, Wed Nov 11 2026. No macro, syntax, notation, axiom, sorry.
-/
import Derived.Test.Qxb6601618aChecked
import GoSem.Claim
import GoSem.ClaimJoined
import GoSem.ClaimMapViews
import Derived.JoinedTies
import Derived.KernelRfl
namespace Go.Proofs.Qxb6601618a
/- THE CELL 'sum', in the pinned program and in every row, IS THE sha256 OF THE DUMP (.gsa) THAT Qxb6601618aProg.lean LOADS. Nothing in Lean hashes anything: it is a label: what it is worth is what the hold of that sum in a sandbox is worth. -/
noncomputable def Try.pinned : Pinned := { name := "qxb6601618a", sum := "5fdc2eb713352639449c69d988411c07d7717a9a27d179049281ad0fcef132c5", checked := Try.checked }
namespace Rows
def none {H : Type} : Left H := { results := [], args := [] }

/-- 'zzlaws_pkg_table_b1.FnPlaceIsFirstMatch': WHATEVER THE INPUT: true; the input reads as it did. -/
def fnPlaceIsFirstMatchSpec : ChangeSpec := { name := "fnPlaceIsFirstMatch", fn := fun _ => fun
  | [d1, d2, d3] => { results := [.lit (.bool true)], args := [d1, d2, d3] }
  | _ => none }
def fnPlaceIsFirstMatchRow : OpenClaim := { program := "qxb6601618a", sum := "5fdc2eb713352639449c69d988411c07d7717a9a27d179049281ad0fcef132c5", func := "example.com/tuoguan/tuoguan/zzlaws_pkg_table_b1.FnPlaceIsFirstMatch", spec := "fnPlaceIsFirstMatch", apart := false }
def FnPlaceIsFirstMatchSaid : Prop := fnPlaceIsFirstMatchRow.holds Try.pinned (OpenSpec.ofChange fnPlaceIsFirstMatchSpec)

/-- ITS FALSE NEIGHBOUR: 'it returns false'. Refute it at one input. -/
def fnPlaceIsFirstMatchWrong : ChangeSpec := { name := "fnPlaceIsFirstMatch", fn := fun _ => fun
  | [d1, d2, d3] => { results := [.lit (.bool false)], args := [d1, d2, d3] }
  | _ => none }
def FnPlaceIsFirstMatchWrongFalsely : Prop := fnPlaceIsFirstMatchRow.holds Try.pinned (OpenSpec.ofChange fnPlaceIsFirstMatchWrong)

/-- 'zzlaws_pkg_table_b1.FnPlaceSplitsOverConcatenation': WHATEVER THE INPUT: true; the input reads as it did. -/
def fnPlaceSplitsOverConcatenationSpec : ChangeSpec := { name := "fnPlaceSplitsOverConcatenation", fn := fun _ => fun
  | [d1, d2, d3, d4, d5] => { results := [.lit (.bool true)], args := [d1, d2, d3, d4, d5] }
  | _ => none }
def fnPlaceSplitsOverConcatenationRow : OpenClaim := { program := "qxb6601618a", sum := "5fdc2eb713352639449c69d988411c07d7717a9a27d179049281ad0fcef132c5", func := "example.com/tuoguan/tuoguan/zzlaws_pkg_table_b1.FnPlaceSplitsOverConcatenation", spec := "fnPlaceSplitsOverConcatenation", apart := false }
def FnPlaceSplitsOverConcatenationSaid : Prop := fnPlaceSplitsOverConcatenationRow.holds Try.pinned (OpenSpec.ofChange fnPlaceSplitsOverConcatenationSpec)

/-- ITS FALSE NEIGHBOUR: 'it returns false'. Refute it at one input. -/
def fnPlaceSplitsOverConcatenationWrong : ChangeSpec := { name := "fnPlaceSplitsOverConcatenation", fn := fun _ => fun
  | [d1, d2, d3, d4, d5] => { results := [.lit (.bool false)], args := [d1, d2, d3, d4, d5] }
  | _ => none }
def FnPlaceSplitsOverConcatenationWrongFalsely : Prop := fnPlaceSplitsOverConcatenationRow.holds Try.pinned (OpenSpec.ofChange fnPlaceSplitsOverConcatenationWrong)

end Rows
end Go.Proofs.Qxb6601618a
