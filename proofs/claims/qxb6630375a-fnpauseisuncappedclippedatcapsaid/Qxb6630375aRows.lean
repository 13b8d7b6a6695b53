/-
  No cell of these rows narrows 'for every input' (looked for: loops, veiled, ifaces, maps, wideKeys, modest, calm, conditions, laid).
  DERIVED. THE GIVEN ROWS OF THIS SEAT. 2 by the template 'for every input the law returns true; each argument reads behind the call as it read before'; 0 by the template 'total and deterministic' (their statements: Qxb6630375aTotals.lean).
  GIVEN WITH THE SEED: the statements are not yours to turn. If you find one false, say at which input.
  Laid BY PROGRAM, IN A SANDBOX (cutbox-rows.mjs): the forced cells as the released guide's own fill.sh prints them over the translation b7f3f28ae6a098b4… (all of the seat's roots in one cut). By AI agents, Wed Nov 11 2026. No macro, syntax, notation, axiom, sorry.
-/
import Derived.Test.Qxb6630375aChecked
import GoSem.Claim
import GoSem.ClaimJoined
import GoSem.ClaimMapViews
import Derived.JoinedTies
import Derived.KernelRfl
namespace Go.Proofs.Qxb6630375a
/- THE CELL 'sum', in the pinned program and in every row, IS THE sha256 OF THE DUMP (.gsa) THAT Qxb6630375aProg.lean LOADS. Nothing in Lean hashes anything: it is a label: what it is worth is what the hold of that sum in a sandbox is worth. -/
noncomputable def Try.pinned : Pinned := { name := "qxb6630375a", sum := "b7f3f28ae6a098b44f95fbe2686bcec58c7e21c112b24bf8495420f7f5fa6e17", checked := Try.checked }
namespace Rows
def none {H : Type} : Left H := { results := [], args := [] }

/-- 'zzlaws_backoff_b1.FnPauseStepDoublesUpToCap': WHATEVER THE INPUT: true; the input reads as it did. -/
def fnPauseStepDoublesUpToCapSpec : ChangeSpec := { name := "fnPauseStepDoublesUpToCap", fn := fun _ => fun
  | [d1, d2, d3] => { results := [.lit (.bool true)], args := [d1, d2, d3] }
  | _ => none }
def fnPauseStepDoublesUpToCapRow : OpenClaim := { program := "qxb6630375a", sum := "b7f3f28ae6a098b44f95fbe2686bcec58c7e21c112b24bf8495420f7f5fa6e17", func := "example.com/amends/amends/zzlaws_backoff_b1.FnPauseStepDoublesUpToCap", spec := "fnPauseStepDoublesUpToCap", apart := false }
def FnPauseStepDoublesUpToCapSaid : Prop := fnPauseStepDoublesUpToCapRow.holds Try.pinned (OpenSpec.ofChange fnPauseStepDoublesUpToCapSpec)

/-- ITS FALSE NEIGHBOUR: 'it returns false'. Refute it at one input. -/
def fnPauseStepDoublesUpToCapWrong : ChangeSpec := { name := "fnPauseStepDoublesUpToCap", fn := fun _ => fun
  | [d1, d2, d3] => { results := [.lit (.bool false)], args := [d1, d2, d3] }
  | _ => none }
def FnPauseStepDoublesUpToCapWrongFalsely : Prop := fnPauseStepDoublesUpToCapRow.holds Try.pinned (OpenSpec.ofChange fnPauseStepDoublesUpToCapWrong)

/-- 'zzlaws_backoff_b1.FnPauseIsUncappedClippedAtCap': WHATEVER THE INPUT: true; the input reads as it did. -/
def fnPauseIsUncappedClippedAtCapSpec : ChangeSpec := { name := "fnPauseIsUncappedClippedAtCap", fn := fun _ => fun
  | [d1, d2, d3] => { results := [.lit (.bool true)], args := [d1, d2, d3] }
  | _ => none }
def fnPauseIsUncappedClippedAtCapRow : OpenClaim := { program := "qxb6630375a", sum := "b7f3f28ae6a098b44f95fbe2686bcec58c7e21c112b24bf8495420f7f5fa6e17", func := "example.com/amends/amends/zzlaws_backoff_b1.FnPauseIsUncappedClippedAtCap", spec := "fnPauseIsUncappedClippedAtCap", apart := false }
def FnPauseIsUncappedClippedAtCapSaid : Prop := fnPauseIsUncappedClippedAtCapRow.holds Try.pinned (OpenSpec.ofChange fnPauseIsUncappedClippedAtCapSpec)

/-- ITS FALSE NEIGHBOUR: 'it returns false'. Refute it at one input. -/
def fnPauseIsUncappedClippedAtCapWrong : ChangeSpec := { name := "fnPauseIsUncappedClippedAtCap", fn := fun _ => fun
  | [d1, d2, d3] => { results := [.lit (.bool false)], args := [d1, d2, d3] }
  | _ => none }
def FnPauseIsUncappedClippedAtCapWrongFalsely : Prop := fnPauseIsUncappedClippedAtCapRow.holds Try.pinned (OpenSpec.ofChange fnPauseIsUncappedClippedAtCapWrong)

end Rows
end Go.Proofs.Qxb6630375a
