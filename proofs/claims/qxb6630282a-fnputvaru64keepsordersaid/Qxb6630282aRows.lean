/-
  No cell of these rows narrows 'for every input' (looked for: loops, veiled, ifaces, maps, wideKeys, modest, calm, conditions, laid).
  DERIVED. THE GIVEN ROWS OF THIS SEAT. 2 by the template 'for every input the law returns true; each argument reads behind the call as it read before'; 0 by the template 'total and deterministic' (their statements: Qxb6630282aTotals.lean).
  GIVEN WITH THE SEED: the statements are not yours to turn. If you find one false, say at which input.
  Laid BY PROGRAM, IN A SANDBOX (cutbox-rows.mjs): the forced cells as the released guide's own fill.sh prints them over the translation 8dc1ec6b864ab8ad… (all of the seat's roots in one cut). By AI agents, Wed Nov 11 2026. No macro, syntax, notation, axiom, sorry.
-/
import Derived.Test.Qxb6630282aChecked
import GoSem.Claim
import GoSem.ClaimJoined
import GoSem.ClaimMapViews
import Derived.JoinedTies
import Derived.KernelRfl
namespace Go.Proofs.Qxb6630282a
/- THE CELL 'sum', in the pinned program and in every row, IS THE sha256 OF THE DUMP (.gsa) THAT Qxb6630282aProg.lean LOADS. Nothing in Lean hashes anything: it is a label: what it is worth is what the hold of that sum in a sandbox is worth. -/
noncomputable def Try.pinned : Pinned := { name := "qxb6630282a", sum := "8dc1ec6b864ab8adc5aec137e8f8ad7a641b249920b46681b28950ed8c3ce79c", checked := Try.checked }
namespace Rows
def none {H : Type} : Left H := { results := [], args := [] }

/-- 'zzlaws_root_b1.FnPutVarU64DecodesBack': WHATEVER THE INPUT: true; the input reads as it did. -/
def fnPutVarU64DecodesBackSpec : ChangeSpec := { name := "fnPutVarU64DecodesBack", fn := fun _ => fun
  | [d1, d2] => { results := [.lit (.bool true)], args := [d1, d2] }
  | _ => none }
def fnPutVarU64DecodesBackRow : OpenClaim := { program := "qxb6630282a", sum := "8dc1ec6b864ab8adc5aec137e8f8ad7a641b249920b46681b28950ed8c3ce79c", func := "example.com/septet/septet/zzlaws_root_b1.FnPutVarU64DecodesBack", spec := "fnPutVarU64DecodesBack", apart := false }
def FnPutVarU64DecodesBackSaid : Prop := fnPutVarU64DecodesBackRow.holds Try.pinned (OpenSpec.ofChange fnPutVarU64DecodesBackSpec)

/-- ITS FALSE NEIGHBOUR: 'it returns false'. Refute it at one input. -/
def fnPutVarU64DecodesBackWrong : ChangeSpec := { name := "fnPutVarU64DecodesBack", fn := fun _ => fun
  | [d1, d2] => { results := [.lit (.bool false)], args := [d1, d2] }
  | _ => none }
def FnPutVarU64DecodesBackWrongFalsely : Prop := fnPutVarU64DecodesBackRow.holds Try.pinned (OpenSpec.ofChange fnPutVarU64DecodesBackWrong)

/-- 'zzlaws_root_b1.FnPutVarU64KeepsOrder': WHATEVER THE INPUT: true; the input reads as it did. -/
def fnPutVarU64KeepsOrderSpec : ChangeSpec := { name := "fnPutVarU64KeepsOrder", fn := fun _ => fun
  | [d1, d2] => { results := [.lit (.bool true)], args := [d1, d2] }
  | _ => none }
def fnPutVarU64KeepsOrderRow : OpenClaim := { program := "qxb6630282a", sum := "8dc1ec6b864ab8adc5aec137e8f8ad7a641b249920b46681b28950ed8c3ce79c", func := "example.com/septet/septet/zzlaws_root_b1.FnPutVarU64KeepsOrder", spec := "fnPutVarU64KeepsOrder", apart := false }
def FnPutVarU64KeepsOrderSaid : Prop := fnPutVarU64KeepsOrderRow.holds Try.pinned (OpenSpec.ofChange fnPutVarU64KeepsOrderSpec)

/-- ITS FALSE NEIGHBOUR: 'it returns false'. Refute it at one input. -/
def fnPutVarU64KeepsOrderWrong : ChangeSpec := { name := "fnPutVarU64KeepsOrder", fn := fun _ => fun
  | [d1, d2] => { results := [.lit (.bool false)], args := [d1, d2] }
  | _ => none }
def FnPutVarU64KeepsOrderWrongFalsely : Prop := fnPutVarU64KeepsOrderRow.holds Try.pinned (OpenSpec.ofChange fnPutVarU64KeepsOrderWrong)

end Rows
end Go.Proofs.Qxb6630282a
