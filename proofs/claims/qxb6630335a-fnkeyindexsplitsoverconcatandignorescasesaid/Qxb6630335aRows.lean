/-
  No cell of these rows narrows 'for every input' (looked for: loops, veiled, ifaces, maps, wideKeys, modest, calm, conditions, laid).
  DERIVED. THE GIVEN ROWS OF THIS SEAT. 2 by the template 'for every input the law returns true; each argument reads behind the call as it read before'; 0 by the template 'total and deterministic' (their statements: Qxb6630335aTotals.lean).
  GIVEN WITH THE SEED: the statements are not yours to turn. If you find one false, say at which input.
  Laid BY PROGRAM, IN A SANDBOX (cutbox-rows.mjs): the forced cells as the released guide's own fill.sh prints them over the translation 13aefb5942a95994… (all of the seat's roots in one cut). By AI agents, Wed Nov 11 2026. No macro, syntax, notation, axiom, sorry.
-/
import Derived.Test.Qxb6630335aChecked
import GoSem.Claim
import GoSem.ClaimJoined
import GoSem.ClaimMapViews
import Derived.JoinedTies
import Derived.KernelRfl
namespace Go.Proofs.Qxb6630335a
/- THE CELL 'sum', in the pinned program and in every row, IS THE sha256 OF THE DUMP (.gsa) THAT Qxb6630335aProg.lean LOADS. Nothing in Lean hashes anything: it is a label: what it is worth is what the hold of that sum in a sandbox is worth. -/
noncomputable def Try.pinned : Pinned := { name := "qxb6630335a", sum := "13aefb5942a9599423e3b7c2322cf878790994fad38c500b904b829299f6784e", checked := Try.checked }
namespace Rows
def none {H : Type} : Left H := { results := [], args := [] }

/-- 'zzlaws_internal_plainjson_b1.FnKeyIndexIsLeastFoldMatch': WHATEVER THE INPUT: true; the input reads as it did. -/
def fnKeyIndexIsLeastFoldMatchSpec : ChangeSpec := { name := "fnKeyIndexIsLeastFoldMatch", fn := fun _ => fun
  | [d1, d2] => { results := [.lit (.bool true)], args := [d1, d2] }
  | _ => none }
def fnKeyIndexIsLeastFoldMatchRow : OpenClaim := { program := "qxb6630335a", sum := "13aefb5942a9599423e3b7c2322cf878790994fad38c500b904b829299f6784e", func := "example.com/sliceway/sliceway/zzlaws_internal_plainjson_b1.FnKeyIndexIsLeastFoldMatch", spec := "fnKeyIndexIsLeastFoldMatch", apart := false }
def FnKeyIndexIsLeastFoldMatchSaid : Prop := fnKeyIndexIsLeastFoldMatchRow.holds Try.pinned (OpenSpec.ofChange fnKeyIndexIsLeastFoldMatchSpec)

/-- ITS FALSE NEIGHBOUR: 'it returns false'. Refute it at one input. -/
def fnKeyIndexIsLeastFoldMatchWrong : ChangeSpec := { name := "fnKeyIndexIsLeastFoldMatch", fn := fun _ => fun
  | [d1, d2] => { results := [.lit (.bool false)], args := [d1, d2] }
  | _ => none }
def FnKeyIndexIsLeastFoldMatchWrongFalsely : Prop := fnKeyIndexIsLeastFoldMatchRow.holds Try.pinned (OpenSpec.ofChange fnKeyIndexIsLeastFoldMatchWrong)

/-- 'zzlaws_internal_plainjson_b1.FnKeyIndexSplitsOverConcatAndIgnoresCase': WHATEVER THE INPUT: true; the input reads as it did. -/
def fnKeyIndexSplitsOverConcatAndIgnoresCaseSpec : ChangeSpec := { name := "fnKeyIndexSplitsOverConcatAndIgnoresCase", fn := fun _ => fun
  | [d1, d2, d3] => { results := [.lit (.bool true)], args := [d1, d2, d3] }
  | _ => none }
def fnKeyIndexSplitsOverConcatAndIgnoresCaseRow : OpenClaim := { program := "qxb6630335a", sum := "13aefb5942a9599423e3b7c2322cf878790994fad38c500b904b829299f6784e", func := "example.com/sliceway/sliceway/zzlaws_internal_plainjson_b1.FnKeyIndexSplitsOverConcatAndIgnoresCase", spec := "fnKeyIndexSplitsOverConcatAndIgnoresCase", apart := false }
def FnKeyIndexSplitsOverConcatAndIgnoresCaseSaid : Prop := fnKeyIndexSplitsOverConcatAndIgnoresCaseRow.holds Try.pinned (OpenSpec.ofChange fnKeyIndexSplitsOverConcatAndIgnoresCaseSpec)

/-- ITS FALSE NEIGHBOUR: 'it returns false'. Refute it at one input. -/
def fnKeyIndexSplitsOverConcatAndIgnoresCaseWrong : ChangeSpec := { name := "fnKeyIndexSplitsOverConcatAndIgnoresCase", fn := fun _ => fun
  | [d1, d2, d3] => { results := [.lit (.bool false)], args := [d1, d2, d3] }
  | _ => none }
def FnKeyIndexSplitsOverConcatAndIgnoresCaseWrongFalsely : Prop := fnKeyIndexSplitsOverConcatAndIgnoresCaseRow.holds Try.pinned (OpenSpec.ofChange fnKeyIndexSplitsOverConcatAndIgnoresCaseWrong)

end Rows
end Go.Proofs.Qxb6630335a
