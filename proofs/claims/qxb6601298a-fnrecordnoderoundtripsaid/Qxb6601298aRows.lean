/-
  No cell of these rows narrows 'for every input' (looked for: loops, veiled, ifaces, maps, wideKeys, modest, calm, conditions, laid).
  DERIVED. THE GIVEN ROWS OF THIS SEAT. 6 by the template 'for every input the law returns true; each argument reads behind the call as it read before'; 0 by the template 'total and deterministic' (their statements: Qxb6601298aTotals.lean).
  GIVEN WITH THE SEED: the statements are not yours to turn. If you find one false, say at which input.
  Laid BY PROGRAM, IN A SANDBOX (cutbox-rows.mjs): the forced cells as the released guide's own fill.sh prints them over the translation 0fb497e3314839bc… (all of the seat's roots in one cut). By AI agents, Wed Nov 11 2026. No macro, syntax, notation, axiom, sorry.
-/
import Derived.Test.Qxb6601298aChecked
import GoSem.Claim
import GoSem.ClaimJoined
import GoSem.ClaimMapViews
import Derived.JoinedTies
import Derived.KernelRfl
namespace Go.Proofs.Qxb6601298a
/- THE CELL 'sum', in the pinned program and in every row, IS THE sha256 OF THE DUMP (.gsa) THAT Qxb6601298aProg.lean LOADS. Nothing in Lean hashes anything: it is a label: what it is worth is what the hold of that sum in a sandbox is worth. -/
noncomputable def Try.pinned : Pinned := { name := "qxb6601298a", sum := "0fb497e3314839bc93da84f22012fb018ed9959be177773ba3cd0866cceb4de8", checked := Try.checked }
namespace Rows
def none {H : Type} : Left H := { results := [], args := [] }

/-- 'zzlaws_acl_b1.FnGrantsCaseTable': WHATEVER THE INPUT: true; the input reads as it did. -/
def fnGrantsCaseTableSpec : ChangeSpec := { name := "fnGrantsCaseTable", fn := fun _ => fun
  | [d1, d2] => { results := [.lit (.bool true)], args := [d1, d2] }
  | _ => none }
def fnGrantsCaseTableRow : OpenClaim := { program := "qxb6601298a", sum := "0fb497e3314839bc93da84f22012fb018ed9959be177773ba3cd0866cceb4de8", func := "portcullis.example/portcullis/zzlaws_acl_b1.FnGrantsCaseTable", spec := "fnGrantsCaseTable", apart := false }
def FnGrantsCaseTableSaid : Prop := fnGrantsCaseTableRow.holds Try.pinned (OpenSpec.ofChange fnGrantsCaseTableSpec)

/-- ITS FALSE NEIGHBOUR: 'it returns false'. Refute it at one input. -/
def fnGrantsCaseTableWrong : ChangeSpec := { name := "fnGrantsCaseTable", fn := fun _ => fun
  | [d1, d2] => { results := [.lit (.bool false)], args := [d1, d2] }
  | _ => none }
def FnGrantsCaseTableWrongFalsely : Prop := fnGrantsCaseTableRow.holds Try.pinned (OpenSpec.ofChange fnGrantsCaseTableWrong)

/-- 'zzlaws_acl_b1.FnGrantsChain': WHATEVER THE INPUT: true; the input reads as it did. -/
def fnGrantsChainSpec : ChangeSpec := { name := "fnGrantsChain", fn := fun _ => fun
  | [d] => { results := [.lit (.bool true)], args := [d] }
  | _ => none }
def fnGrantsChainRow : OpenClaim := { program := "qxb6601298a", sum := "0fb497e3314839bc93da84f22012fb018ed9959be177773ba3cd0866cceb4de8", func := "portcullis.example/portcullis/zzlaws_acl_b1.FnGrantsChain", spec := "fnGrantsChain", apart := false }
def FnGrantsChainSaid : Prop := fnGrantsChainRow.holds Try.pinned (OpenSpec.ofChange fnGrantsChainSpec)

/-- ITS FALSE NEIGHBOUR: 'it returns false'. Refute it at one input. -/
def fnGrantsChainWrong : ChangeSpec := { name := "fnGrantsChain", fn := fun _ => fun
  | [d] => { results := [.lit (.bool false)], args := [d] }
  | _ => none }
def FnGrantsChainWrongFalsely : Prop := fnGrantsChainRow.holds Try.pinned (OpenSpec.ofChange fnGrantsChainWrong)

/-- 'zzlaws_acl_b1.FnGrantsImpliesRead': WHATEVER THE INPUT: true; the input reads as it did. -/
def fnGrantsImpliesReadSpec : ChangeSpec := { name := "fnGrantsImpliesRead", fn := fun _ => fun
  | [d1, d2] => { results := [.lit (.bool true)], args := [d1, d2] }
  | _ => none }
def fnGrantsImpliesReadRow : OpenClaim := { program := "qxb6601298a", sum := "0fb497e3314839bc93da84f22012fb018ed9959be177773ba3cd0866cceb4de8", func := "portcullis.example/portcullis/zzlaws_acl_b1.FnGrantsImpliesRead", spec := "fnGrantsImpliesRead", apart := false }
def FnGrantsImpliesReadSaid : Prop := fnGrantsImpliesReadRow.holds Try.pinned (OpenSpec.ofChange fnGrantsImpliesReadSpec)

/-- ITS FALSE NEIGHBOUR: 'it returns false'. Refute it at one input. -/
def fnGrantsImpliesReadWrong : ChangeSpec := { name := "fnGrantsImpliesRead", fn := fun _ => fun
  | [d1, d2] => { results := [.lit (.bool false)], args := [d1, d2] }
  | _ => none }
def FnGrantsImpliesReadWrongFalsely : Prop := fnGrantsImpliesReadRow.holds Try.pinned (OpenSpec.ofChange fnGrantsImpliesReadWrong)

/-- 'zzlaws_acl_b1.FnChildLinearScan': WHATEVER THE INPUT: true; the input reads as it did. -/
def fnChildLinearScanSpec : ChangeSpec := { name := "fnChildLinearScan", fn := fun _ => fun
  | [d1, d2, d3, d4, d5] => { results := [.lit (.bool true)], args := [d1, d2, d3, d4, d5] }
  | _ => none }
def fnChildLinearScanRow : OpenClaim := { program := "qxb6601298a", sum := "0fb497e3314839bc93da84f22012fb018ed9959be177773ba3cd0866cceb4de8", func := "portcullis.example/portcullis/zzlaws_acl_b1.FnChildLinearScan", spec := "fnChildLinearScan", apart := false }
def FnChildLinearScanSaid : Prop := fnChildLinearScanRow.holds Try.pinned (OpenSpec.ofChange fnChildLinearScanSpec)

/-- ITS FALSE NEIGHBOUR: 'it returns false'. Refute it at one input. -/
def fnChildLinearScanWrong : ChangeSpec := { name := "fnChildLinearScan", fn := fun _ => fun
  | [d1, d2, d3, d4, d5] => { results := [.lit (.bool false)], args := [d1, d2, d3, d4, d5] }
  | _ => none }
def FnChildLinearScanWrongFalsely : Prop := fnChildLinearScanRow.holds Try.pinned (OpenSpec.ofChange fnChildLinearScanWrong)

/-- 'zzlaws_acl_b1.FnChildSound': WHATEVER THE INPUT: true; the input reads as it did. -/
def fnChildSoundSpec : ChangeSpec := { name := "fnChildSound", fn := fun _ => fun
  | [d1, d2, d3, d4, d5] => { results := [.lit (.bool true)], args := [d1, d2, d3, d4, d5] }
  | _ => none }
def fnChildSoundRow : OpenClaim := { program := "qxb6601298a", sum := "0fb497e3314839bc93da84f22012fb018ed9959be177773ba3cd0866cceb4de8", func := "portcullis.example/portcullis/zzlaws_acl_b1.FnChildSound", spec := "fnChildSound", apart := false }
def FnChildSoundSaid : Prop := fnChildSoundRow.holds Try.pinned (OpenSpec.ofChange fnChildSoundSpec)

/-- ITS FALSE NEIGHBOUR: 'it returns false'. Refute it at one input. -/
def fnChildSoundWrong : ChangeSpec := { name := "fnChildSound", fn := fun _ => fun
  | [d1, d2, d3, d4, d5] => { results := [.lit (.bool false)], args := [d1, d2, d3, d4, d5] }
  | _ => none }
def FnChildSoundWrongFalsely : Prop := fnChildSoundRow.holds Try.pinned (OpenSpec.ofChange fnChildSoundWrong)

/-- 'zzlaws_acl_b1.FnRecordNodeRoundTrip': WHATEVER THE INPUT: true; the input reads as it did. -/
def fnRecordNodeRoundTripSpec : ChangeSpec := { name := "fnRecordNodeRoundTrip", fn := fun _ => fun
  | [d1, d2, d3, d4, d5, d6, d7, d8, d9, d10, d11, d12] => { results := [.lit (.bool true)], args := [d1, d2, d3, d4, d5, d6, d7, d8, d9, d10, d11, d12] }
  | _ => none }
def fnRecordNodeRoundTripRow : OpenClaim := { program := "qxb6601298a", sum := "0fb497e3314839bc93da84f22012fb018ed9959be177773ba3cd0866cceb4de8", func := "portcullis.example/portcullis/zzlaws_acl_b1.FnRecordNodeRoundTrip", spec := "fnRecordNodeRoundTrip", apart := false }
def FnRecordNodeRoundTripSaid : Prop := fnRecordNodeRoundTripRow.holds Try.pinned (OpenSpec.ofChange fnRecordNodeRoundTripSpec)

/-- ITS FALSE NEIGHBOUR: 'it returns false'. Refute it at one input. -/
def fnRecordNodeRoundTripWrong : ChangeSpec := { name := "fnRecordNodeRoundTrip", fn := fun _ => fun
  | [d1, d2, d3, d4, d5, d6, d7, d8, d9, d10, d11, d12] => { results := [.lit (.bool false)], args := [d1, d2, d3, d4, d5, d6, d7, d8, d9, d10, d11, d12] }
  | _ => none }
def FnRecordNodeRoundTripWrongFalsely : Prop := fnRecordNodeRoundTripRow.holds Try.pinned (OpenSpec.ofChange fnRecordNodeRoundTripWrong)

end Rows
end Go.Proofs.Qxb6601298a
