/-
  DERIVED. GIVEN WITH THE SEED: THE CARDS: each row of Qxb6630228aDoorRows.lean that lists a variable, with what it lists TIED to the program's text (the seventh form; the later family's looks); each row that meets fmt, with fmt's text TOLD by the authors' own Lean function (tested against real Go, not proved from fmt's source: count such statements apart). THE CARD IS WHAT COUNTS. Prove the row's statement (the work); the ties are given (Qxb6630228aDoorTie.lean); close each card by the builder's one call (the guide's Derived/Test/ToyasCard.lean, 'card_holds'). Laid BY PROGRAM, IN A SANDBOX (cutbox-door.mjs). By AI agents, Wed Nov 11 2026. No macro, syntax, notation, axiom, sorry.
-/
import Derived.Test.Qxb6630228aDoorRows
import GoSem.ClaimSeven
namespace Go.Proofs.Qxb6630228aDoor
namespace Rows

/-- THE TIED CARD OF 'zzlaws_rlp_b1.FnAppendIPv4IsPrefixedFourBytes'. -/
def fnAppendIPv4IsPrefixedFourBytesCard : Claim7 := { stood := { row := fnAppendIPv4IsPrefixedFourBytesRow, standIns := [], harness := (true, "c0ced91149f4ad3c003f9c62f05d050db1c0e78301ab597f0d00d530fe78bc95"), looks := false }, kinds := [], alts := [], laidByText := true, laidKinds := [.called, .zero], laidTests := true, laidLooks := .later }
def FnAppendIPv4IsPrefixedFourBytesCardSaid : Prop := Claim7.holds Tryd.pinned (.plain (OpenSpec.ofChange fnAppendIPv4IsPrefixedFourBytesSpec)) fnAppendIPv4IsPrefixedFourBytesCard

/-- THE TIED CARD OF 'zzlaws_rlp_b1.FnAppendIPv6ThenIPv4Concatenates'. -/
def fnAppendIPv6ThenIPv4ConcatenatesCard : Claim7 := { stood := { row := fnAppendIPv6ThenIPv4ConcatenatesRow, standIns := [], harness := (true, "c0ced91149f4ad3c003f9c62f05d050db1c0e78301ab597f0d00d530fe78bc95"), looks := false }, kinds := [], alts := [], laidByText := true, laidKinds := [.called, .called, .zero], laidTests := true, laidLooks := .later }
def FnAppendIPv6ThenIPv4ConcatenatesCardSaid : Prop := Claim7.holds Tryd.pinned (.plain (OpenSpec.ofChange fnAppendIPv6ThenIPv4ConcatenatesSpec)) fnAppendIPv6ThenIPv4ConcatenatesCard
end Rows
end Go.Proofs.Qxb6630228aDoor
