/-
  No cell of these rows narrows 'for every input' (looked for: loops, veiled, ifaces, maps, wideKeys, modest, calm, conditions, laid).
  DERIVED. THE GIVEN ROWS OF THIS SEAT. 2 by the template 'for every input the law returns true; each argument reads behind the call as it read before'; 0 by the template 'total and deterministic' (their statements: Qxb6632452aTotals.lean).
  GIVEN WITH THE SEED: the statements are not yours to turn. If you find one false, say at which input.
  Laid BY PROGRAM, IN A SANDBOX (cutbox-rows.mjs): the forced cells as the released guide's own fill.sh prints them over the translation afb5b2aef0095f38… (all of the seat's roots in one cut). By AI agents, Wed Nov 11 2026. No macro, syntax, notation, axiom, sorry.
-/
import Derived.Test.Qxb6632452aChecked
import GoSem.Claim
import GoSem.ClaimJoined
import GoSem.ClaimMapViews
import Derived.JoinedTies
import Derived.KernelRfl
namespace Go.Proofs.Qxb6632452a
/- THE CELL 'sum', in the pinned program and in every row, IS THE sha256 OF THE DUMP (.gsa) THAT Qxb6632452aProg.lean LOADS. Nothing in Lean hashes anything: it is a label: what it is worth is what the hold of that sum in a sandbox is worth. -/
noncomputable def Try.pinned : Pinned := { name := "qxb6632452a", sum := "afb5b2aef0095f387a128bdbb78756ecee8804eeab4070d5ea4a4480f4f1c9ac", checked := Try.checked }
namespace Rows
def none {H : Type} : Left H := { results := [], args := [] }

/-- 'zzlaws_internal_pricing_b1.FnAllInputRaisesByEachInputKind': WHATEVER THE INPUT: true; the input reads as it did. -/
def fnAllInputRaisesByEachInputKindSpec : ChangeSpec := { name := "fnAllInputRaisesByEachInputKind", fn := fun _ => fun
  | [d1, d2, d3, d4, d5, d6, d7, d8, d9] => { results := [.lit (.bool true)], args := [d1, d2, d3, d4, d5, d6, d7, d8, d9] }
  | _ => none }
def fnAllInputRaisesByEachInputKindRow : OpenClaim := { program := "qxb6632452a", sum := "afb5b2aef0095f387a128bdbb78756ecee8804eeab4070d5ea4a4480f4f1c9ac", func := "example.com/basenji/basenji/zzlaws_internal_pricing_b1.FnAllInputRaisesByEachInputKind", spec := "fnAllInputRaisesByEachInputKind", apart := false }
def FnAllInputRaisesByEachInputKindSaid : Prop := fnAllInputRaisesByEachInputKindRow.holds Try.pinned (OpenSpec.ofChange fnAllInputRaisesByEachInputKindSpec)

/-- ITS FALSE NEIGHBOUR: 'it returns false'. Refute it at one input. -/
def fnAllInputRaisesByEachInputKindWrong : ChangeSpec := { name := "fnAllInputRaisesByEachInputKind", fn := fun _ => fun
  | [d1, d2, d3, d4, d5, d6, d7, d8, d9] => { results := [.lit (.bool false)], args := [d1, d2, d3, d4, d5, d6, d7, d8, d9] }
  | _ => none }
def FnAllInputRaisesByEachInputKindWrongFalsely : Prop := fnAllInputRaisesByEachInputKindRow.holds Try.pinned (OpenSpec.ofChange fnAllInputRaisesByEachInputKindWrong)

/-- 'zzlaws_internal_pricing_b1.FnAllInputKeepsTotalWhenRebilled': WHATEVER THE INPUT: true; the input reads as it did. -/
def fnAllInputKeepsTotalWhenRebilledSpec : ChangeSpec := { name := "fnAllInputKeepsTotalWhenRebilled", fn := fun _ => fun
  | [d1, d2, d3, d4, d5, d6, d7, d8, d9, d10, d11] => { results := [.lit (.bool true)], args := [d1, d2, d3, d4, d5, d6, d7, d8, d9, d10, d11] }
  | _ => none }
def fnAllInputKeepsTotalWhenRebilledRow : OpenClaim := { program := "qxb6632452a", sum := "afb5b2aef0095f387a128bdbb78756ecee8804eeab4070d5ea4a4480f4f1c9ac", func := "example.com/basenji/basenji/zzlaws_internal_pricing_b1.FnAllInputKeepsTotalWhenRebilled", spec := "fnAllInputKeepsTotalWhenRebilled", apart := false }
def FnAllInputKeepsTotalWhenRebilledSaid : Prop := fnAllInputKeepsTotalWhenRebilledRow.holds Try.pinned (OpenSpec.ofChange fnAllInputKeepsTotalWhenRebilledSpec)

/-- ITS FALSE NEIGHBOUR: 'it returns false'. Refute it at one input. -/
def fnAllInputKeepsTotalWhenRebilledWrong : ChangeSpec := { name := "fnAllInputKeepsTotalWhenRebilled", fn := fun _ => fun
  | [d1, d2, d3, d4, d5, d6, d7, d8, d9, d10, d11] => { results := [.lit (.bool false)], args := [d1, d2, d3, d4, d5, d6, d7, d8, d9, d10, d11] }
  | _ => none }
def FnAllInputKeepsTotalWhenRebilledWrongFalsely : Prop := fnAllInputKeepsTotalWhenRebilledRow.holds Try.pinned (OpenSpec.ofChange fnAllInputKeepsTotalWhenRebilledWrong)

end Rows
end Go.Proofs.Qxb6632452a
