/-
  No cell of these rows narrows 'for every input' (looked for: loops, veiled, ifaces, maps, wideKeys, modest, calm, conditions, laid).
  DERIVED. THE GIVEN ROWS OF THIS SEAT. 6 by the template 'for every input the law returns true; each argument reads behind the call as it read before'; 0 by the template 'total and deterministic' (their statements: Qxb6601373aTotals.lean).
  GIVEN WITH THE SEED: the statements are not yours to turn. If you find one false, say at which input.
  Laid BY PROGRAM, IN A SANDBOX (cutbox-rows.mjs): the forced cells as the released guide's own fill.sh prints them over the translation dac145bc7d2e454a… (all of the seat's roots in one cut). By AI agents, Wed Nov 11 2026. No macro, syntax, notation, axiom, sorry.
-/
import Derived.Test.Qxb6601373aChecked
import GoSem.Claim
import GoSem.ClaimJoined
import GoSem.ClaimMapViews
import Derived.JoinedTies
import Derived.KernelRfl
namespace Go.Proofs.Qxb6601373a
/- THE CELL 'sum', in the pinned program and in every row, IS THE sha256 OF THE DUMP (.gsa) THAT Qxb6601373aProg.lean LOADS. Nothing in Lean hashes anything: it is a label: what it is worth is what the hold of that sum in a sandbox is worth. -/
noncomputable def Try.pinned : Pinned := { name := "qxb6601373a", sum := "dac145bc7d2e454ac9018f4c7937d343895286d18663a53052546262a4b6eead", checked := Try.checked }
namespace Rows
def none {H : Type} : Left H := { results := [], args := [] }

/-- 'zzlaws_internal_plan_b1.FnOnComposes': WHATEVER THE INPUT: true; the input reads as it did. -/
def fnOnComposesSpec : ChangeSpec := { name := "fnOnComposes", fn := fun _ => fun
  | [d1, d2, d3, d4, d5, d6, d7, d8, d9] => { results := [.lit (.bool true)], args := [d1, d2, d3, d4, d5, d6, d7, d8, d9] }
  | _ => none }
def fnOnComposesRow : OpenClaim := { program := "qxb6601373a", sum := "dac145bc7d2e454ac9018f4c7937d343895286d18663a53052546262a4b6eead", func := "example.com/tallyman/tallyman/zzlaws_internal_plan_b1.FnOnComposes", spec := "fnOnComposes", apart := false }
def FnOnComposesSaid : Prop := fnOnComposesRow.holds Try.pinned (OpenSpec.ofChange fnOnComposesSpec)

/-- ITS FALSE NEIGHBOUR: 'it returns false'. Refute it at one input. -/
def fnOnComposesWrong : ChangeSpec := { name := "fnOnComposes", fn := fun _ => fun
  | [d1, d2, d3, d4, d5, d6, d7, d8, d9] => { results := [.lit (.bool false)], args := [d1, d2, d3, d4, d5, d6, d7, d8, d9] }
  | _ => none }
def FnOnComposesWrongFalsely : Prop := fnOnComposesRow.holds Try.pinned (OpenSpec.ofChange fnOnComposesWrong)

/-- 'zzlaws_internal_plan_b1.FnStartIsFirstInstantThatFits': WHATEVER THE INPUT: true; the input reads as it did. -/
def fnStartIsFirstInstantThatFitsSpec : ChangeSpec := { name := "fnStartIsFirstInstantThatFits", fn := fun _ => fun
  | [d1, d2, d3, d4, d5, d6, d7, d8, d9] => { results := [.lit (.bool true)], args := [d1, d2, d3, d4, d5, d6, d7, d8, d9] }
  | _ => none }
def fnStartIsFirstInstantThatFitsRow : OpenClaim := { program := "qxb6601373a", sum := "dac145bc7d2e454ac9018f4c7937d343895286d18663a53052546262a4b6eead", func := "example.com/tallyman/tallyman/zzlaws_internal_plan_b1.FnStartIsFirstInstantThatFits", spec := "fnStartIsFirstInstantThatFits", apart := false }
def FnStartIsFirstInstantThatFitsSaid : Prop := fnStartIsFirstInstantThatFitsRow.holds Try.pinned (OpenSpec.ofChange fnStartIsFirstInstantThatFitsSpec)

/-- ITS FALSE NEIGHBOUR: 'it returns false'. Refute it at one input. -/
def fnStartIsFirstInstantThatFitsWrong : ChangeSpec := { name := "fnStartIsFirstInstantThatFits", fn := fun _ => fun
  | [d1, d2, d3, d4, d5, d6, d7, d8, d9] => { results := [.lit (.bool false)], args := [d1, d2, d3, d4, d5, d6, d7, d8, d9] }
  | _ => none }
def FnStartIsFirstInstantThatFitsWrongFalsely : Prop := fnStartIsFirstInstantThatFitsRow.holds Try.pinned (OpenSpec.ofChange fnStartIsFirstInstantThatFitsWrong)

/-- 'zzlaws_internal_plan_b1.FnStartNoLaterForLess': WHATEVER THE INPUT: true; the input reads as it did. -/
def fnStartNoLaterForLessSpec : ChangeSpec := { name := "fnStartNoLaterForLess", fn := fun _ => fun
  | [d1, d2, d3, d4, d5, d6, d7, d8, d9, d10] => { results := [.lit (.bool true)], args := [d1, d2, d3, d4, d5, d6, d7, d8, d9, d10] }
  | _ => none }
def fnStartNoLaterForLessRow : OpenClaim := { program := "qxb6601373a", sum := "dac145bc7d2e454ac9018f4c7937d343895286d18663a53052546262a4b6eead", func := "example.com/tallyman/tallyman/zzlaws_internal_plan_b1.FnStartNoLaterForLess", spec := "fnStartNoLaterForLess", apart := false }
def FnStartNoLaterForLessSaid : Prop := fnStartNoLaterForLessRow.holds Try.pinned (OpenSpec.ofChange fnStartNoLaterForLessSpec)

/-- ITS FALSE NEIGHBOUR: 'it returns false'. Refute it at one input. -/
def fnStartNoLaterForLessWrong : ChangeSpec := { name := "fnStartNoLaterForLess", fn := fun _ => fun
  | [d1, d2, d3, d4, d5, d6, d7, d8, d9, d10] => { results := [.lit (.bool false)], args := [d1, d2, d3, d4, d5, d6, d7, d8, d9, d10] }
  | _ => none }
def FnStartNoLaterForLessWrongFalsely : Prop := fnStartNoLaterForLessRow.holds Try.pinned (OpenSpec.ofChange fnStartNoLaterForLessWrong)

/-- 'zzlaws_internal_plan_b1.FnOverMatchesEveryInstant': WHATEVER THE INPUT: true; the input reads as it did. -/
def fnOverMatchesEveryInstantSpec : ChangeSpec := { name := "fnOverMatchesEveryInstant", fn := fun _ => fun
  | [d1, d2, d3, d4, d5, d6, d7, d8, d9, d10, d11] => { results := [.lit (.bool true)], args := [d1, d2, d3, d4, d5, d6, d7, d8, d9, d10, d11] }
  | _ => none }
def fnOverMatchesEveryInstantRow : OpenClaim := { program := "qxb6601373a", sum := "dac145bc7d2e454ac9018f4c7937d343895286d18663a53052546262a4b6eead", func := "example.com/tallyman/tallyman/zzlaws_internal_plan_b1.FnOverMatchesEveryInstant", spec := "fnOverMatchesEveryInstant", apart := false }
def FnOverMatchesEveryInstantSaid : Prop := fnOverMatchesEveryInstantRow.holds Try.pinned (OpenSpec.ofChange fnOverMatchesEveryInstantSpec)

/-- ITS FALSE NEIGHBOUR: 'it returns false'. Refute it at one input. -/
def fnOverMatchesEveryInstantWrong : ChangeSpec := { name := "fnOverMatchesEveryInstant", fn := fun _ => fun
  | [d1, d2, d3, d4, d5, d6, d7, d8, d9, d10, d11] => { results := [.lit (.bool false)], args := [d1, d2, d3, d4, d5, d6, d7, d8, d9, d10, d11] }
  | _ => none }
def FnOverMatchesEveryInstantWrongFalsely : Prop := fnOverMatchesEveryInstantRow.holds Try.pinned (OpenSpec.ofChange fnOverMatchesEveryInstantWrong)

/-- 'zzlaws_internal_plan_b1.FnOverKeepsForEarlierFirst': WHATEVER THE INPUT: true; the input reads as it did. -/
def fnOverKeepsForEarlierFirstSpec : ChangeSpec := { name := "fnOverKeepsForEarlierFirst", fn := fun _ => fun
  | [d1, d2, d3, d4, d5, d6, d7, d8, d9, d10, d11, d12] => { results := [.lit (.bool true)], args := [d1, d2, d3, d4, d5, d6, d7, d8, d9, d10, d11, d12] }
  | _ => none }
def fnOverKeepsForEarlierFirstRow : OpenClaim := { program := "qxb6601373a", sum := "dac145bc7d2e454ac9018f4c7937d343895286d18663a53052546262a4b6eead", func := "example.com/tallyman/tallyman/zzlaws_internal_plan_b1.FnOverKeepsForEarlierFirst", spec := "fnOverKeepsForEarlierFirst", apart := false }
def FnOverKeepsForEarlierFirstSaid : Prop := fnOverKeepsForEarlierFirstRow.holds Try.pinned (OpenSpec.ofChange fnOverKeepsForEarlierFirstSpec)

/-- ITS FALSE NEIGHBOUR: 'it returns false'. Refute it at one input. -/
def fnOverKeepsForEarlierFirstWrong : ChangeSpec := { name := "fnOverKeepsForEarlierFirst", fn := fun _ => fun
  | [d1, d2, d3, d4, d5, d6, d7, d8, d9, d10, d11, d12] => { results := [.lit (.bool false)], args := [d1, d2, d3, d4, d5, d6, d7, d8, d9, d10, d11, d12] }
  | _ => none }
def FnOverKeepsForEarlierFirstWrongFalsely : Prop := fnOverKeepsForEarlierFirstRow.holds Try.pinned (OpenSpec.ofChange fnOverKeepsForEarlierFirstWrong)

/-- 'zzlaws_internal_plan_b1.FnOverHoldsOfItself': WHATEVER THE INPUT: true; the input reads as it did. -/
def fnOverHoldsOfItselfSpec : ChangeSpec := { name := "fnOverHoldsOfItself", fn := fun _ => fun
  | [d1, d2, d3, d4, d5] => { results := [.lit (.bool true)], args := [d1, d2, d3, d4, d5] }
  | _ => none }
def fnOverHoldsOfItselfRow : OpenClaim := { program := "qxb6601373a", sum := "dac145bc7d2e454ac9018f4c7937d343895286d18663a53052546262a4b6eead", func := "example.com/tallyman/tallyman/zzlaws_internal_plan_b1.FnOverHoldsOfItself", spec := "fnOverHoldsOfItself", apart := false }
def FnOverHoldsOfItselfSaid : Prop := fnOverHoldsOfItselfRow.holds Try.pinned (OpenSpec.ofChange fnOverHoldsOfItselfSpec)

/-- ITS FALSE NEIGHBOUR: 'it returns false'. Refute it at one input. -/
def fnOverHoldsOfItselfWrong : ChangeSpec := { name := "fnOverHoldsOfItself", fn := fun _ => fun
  | [d1, d2, d3, d4, d5] => { results := [.lit (.bool false)], args := [d1, d2, d3, d4, d5] }
  | _ => none }
def FnOverHoldsOfItselfWrongFalsely : Prop := fnOverHoldsOfItselfRow.holds Try.pinned (OpenSpec.ofChange fnOverHoldsOfItselfWrong)

end Rows
end Go.Proofs.Qxb6601373a
