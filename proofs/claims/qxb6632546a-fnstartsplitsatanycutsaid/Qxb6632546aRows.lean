/-
  No cell of these rows narrows 'for every input' (looked for: loops, veiled, ifaces, maps, wideKeys, modest, calm, conditions, laid).
  DERIVED. THE GIVEN ROWS OF THIS SEAT. 2 by the template 'for every input the law returns true; each argument reads behind the call as it read before'; 0 by the template 'total and deterministic' (their statements: Qxb6632546aTotals.lean).
  GIVEN WITH THE SEED: the statements are not yours to turn. If you find one false, say at which input.
  Laid BY PROGRAM, IN A SANDBOX (cutbox-rows.mjs): the forced cells as the released guide's own fill.sh prints them over the translation bc8ab0a2f6d70961… (all of the seat's roots in one cut). By AI agents, Wed Nov 11 2026. No macro, syntax, notation, axiom, sorry.
-/
import Derived.Test.Qxb6632546aChecked
import GoSem.Claim
import GoSem.ClaimJoined
import GoSem.ClaimMapViews
import Derived.JoinedTies
import Derived.KernelRfl
namespace Go.Proofs.Qxb6632546a
/- THE CELL 'sum', in the pinned program and in every row, IS THE sha256 OF THE DUMP (.gsa) THAT Qxb6632546aProg.lean LOADS. Nothing in Lean hashes anything: it is a label: what it is worth is what the hold of that sum in a sandbox is worth. -/
noncomputable def Try.pinned : Pinned := { name := "qxb6632546a", sum := "bc8ab0a2f6d709618b1e996a302111a1e97afb846b432813e66f173b792ad4ab", checked := Try.checked }
namespace Rows
def none {H : Type} : Left H := { results := [], args := [] }

/-- 'zzlaws_root_b1.FnStartSplitsAtAnyCut': WHATEVER THE INPUT: true; the input reads as it did. -/
def fnStartSplitsAtAnyCutSpec : ChangeSpec := { name := "fnStartSplitsAtAnyCut", fn := fun _ => fun
  | [d1, d2, d3, d4, d5, d6] => { results := [.lit (.bool true)], args := [d1, d2, d3, d4, d5, d6] }
  | _ => none }
def fnStartSplitsAtAnyCutRow : OpenClaim := { program := "qxb6632546a", sum := "bc8ab0a2f6d709618b1e996a302111a1e97afb846b432813e66f173b792ad4ab", func := "example.com/loomwork/loomwork/zzlaws_root_b1.FnStartSplitsAtAnyCut", spec := "fnStartSplitsAtAnyCut", apart := false }
def FnStartSplitsAtAnyCutSaid : Prop := fnStartSplitsAtAnyCutRow.holds Try.pinned (OpenSpec.ofChange fnStartSplitsAtAnyCutSpec)

/-- ITS FALSE NEIGHBOUR: 'it returns false'. Refute it at one input. -/
def fnStartSplitsAtAnyCutWrong : ChangeSpec := { name := "fnStartSplitsAtAnyCut", fn := fun _ => fun
  | [d1, d2, d3, d4, d5, d6] => { results := [.lit (.bool false)], args := [d1, d2, d3, d4, d5, d6] }
  | _ => none }
def FnStartSplitsAtAnyCutWrongFalsely : Prop := fnStartSplitsAtAnyCutRow.holds Try.pinned (OpenSpec.ofChange fnStartSplitsAtAnyCutWrong)

/-- 'zzlaws_root_b1.FnStartIgnoresOldReadyAndIsStable': WHATEVER THE INPUT: true; the input reads as it did. -/
def fnStartIgnoresOldReadyAndIsStableSpec : ChangeSpec := { name := "fnStartIgnoresOldReadyAndIsStable", fn := fun _ => fun
  | [d1, d2, d3, d4, d5] => { results := [.lit (.bool true)], args := [d1, d2, d3, d4, d5] }
  | _ => none }
def fnStartIgnoresOldReadyAndIsStableRow : OpenClaim := { program := "qxb6632546a", sum := "bc8ab0a2f6d709618b1e996a302111a1e97afb846b432813e66f173b792ad4ab", func := "example.com/loomwork/loomwork/zzlaws_root_b1.FnStartIgnoresOldReadyAndIsStable", spec := "fnStartIgnoresOldReadyAndIsStable", apart := false }
def FnStartIgnoresOldReadyAndIsStableSaid : Prop := fnStartIgnoresOldReadyAndIsStableRow.holds Try.pinned (OpenSpec.ofChange fnStartIgnoresOldReadyAndIsStableSpec)

/-- ITS FALSE NEIGHBOUR: 'it returns false'. Refute it at one input. -/
def fnStartIgnoresOldReadyAndIsStableWrong : ChangeSpec := { name := "fnStartIgnoresOldReadyAndIsStable", fn := fun _ => fun
  | [d1, d2, d3, d4, d5] => { results := [.lit (.bool false)], args := [d1, d2, d3, d4, d5] }
  | _ => none }
def FnStartIgnoresOldReadyAndIsStableWrongFalsely : Prop := fnStartIgnoresOldReadyAndIsStableRow.holds Try.pinned (OpenSpec.ofChange fnStartIgnoresOldReadyAndIsStableWrong)

end Rows
end Go.Proofs.Qxb6632546a
