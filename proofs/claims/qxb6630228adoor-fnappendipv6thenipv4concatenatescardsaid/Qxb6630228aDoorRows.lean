/-
  NARROWER THAN 'FOR EVERY INPUT', by the rows' own cells (each row's printed sentence says how): FnAppendIPv4IsPrefixedFourBytes: laid · FnAppendIPv6ThenIPv4Concatenates: laid.
  DERIVED. THE GIVEN ROWS OF THIS SEAT. 2 by the template 'for every input the law returns true; each argument reads behind the call as it read before'; 0 by the template 'total and deterministic' (their statements: Qxb6630228aDoorTotals.lean).
  GIVEN WITH THE SEED: the statements are not yours to turn. If you find one false, say at which input.
  Laid BY PROGRAM, IN A SANDBOX (cutbox-rows.mjs): the forced cells as the released guide's own fill.sh prints them over the translation cecef78e3747d9a7… (all of the seat's roots in one cut). By AI agents, Wed Nov 11 2026. No macro, syntax, notation, axiom, sorry.
-/
import Derived.Test.Qxb6630228aDoorChecked
import GoSem.Claim
import GoSem.ClaimJoined
import GoSem.ClaimMapViews
import Derived.JoinedTies
import Derived.KernelRfl
namespace Go.Proofs.Qxb6630228aDoor
/- THE CELL 'sum', in the pinned program and in every row, IS THE sha256 OF THE DUMP (.gsa) THAT Qxb6630228aDoorProg.lean LOADS. Nothing in Lean hashes anything: it is a label: what it is worth is what the hold of that sum in a sandbox is worth. -/
noncomputable def Tryd.pinned : Pinned := { name := "qxb6630228adoor", sum := "cecef78e3747d9a72a37bc00c090b31d88bde19d516346d44190ec20ce382d08", checked := Tryd.checked }
namespace Rows
def none {H : Type} : Left H := { results := [], args := [] }

/- WHAT THE LISTED PACKAGE-LEVEL VARIABLES READ AS WHEN THE CALL BEGINS. Each datum BY PROGRAM (the guide's laid-datum.mjs) off the statement by which the dump's own 'gosem.cut.vars' lays the variable. In a bare row this is a premise. The card (Qxb6630228aDoorCards.lean) ties it to the program's text. -/
def laid_net_netip_z4 {H : Type} : DataW H := .agg [.ptr (.agg [.lit (.bool false), .lit (.string [])])]
def laid_net_netip_z0 {H : Type} : DataW H := .agg [.nil]
def laid_net_netip_z6noz {H : Type} : DataW H := .agg [.ptr (.agg [.lit (.bool true), .lit (.string [])])]

/-- 'zzlaws_rlp_b1.FnAppendIPv4IsPrefixedFourBytes': WHATEVER THE INPUT: true; the input reads as it did. -/
def fnAppendIPv4IsPrefixedFourBytesSpec : ChangeSpec := { name := "fnAppendIPv4IsPrefixedFourBytes", fn := fun _ => fun
  | [d1, d2] => { results := [.lit (.bool true)], args := [d1, d2] }
  | _ => none }
def fnAppendIPv4IsPrefixedFourBytesRow : OpenClaim := { program := "qxb6630228adoor", sum := "cecef78e3747d9a72a37bc00c090b31d88bde19d516346d44190ec20ce382d08", func := "example.com/sextant/sextant/zzlaws_rlp_b1.FnAppendIPv4IsPrefixedFourBytes", spec := "fnAppendIPv4IsPrefixedFourBytes", named := ["net/netip.z4", "net/netip.z0", "encoding/binary.BigEndian"], apart := false, laid := [("net/netip.z4", laid_net_netip_z4), ("net/netip.z0", laid_net_netip_z0)] }
def FnAppendIPv4IsPrefixedFourBytesSaid : Prop := fnAppendIPv4IsPrefixedFourBytesRow.holds Tryd.pinned (OpenSpec.ofChange fnAppendIPv4IsPrefixedFourBytesSpec)

/-- ITS FALSE NEIGHBOUR: 'it returns false'. Refute it at one input. -/
def fnAppendIPv4IsPrefixedFourBytesWrong : ChangeSpec := { name := "fnAppendIPv4IsPrefixedFourBytes", fn := fun _ => fun
  | [d1, d2] => { results := [.lit (.bool false)], args := [d1, d2] }
  | _ => none }
def FnAppendIPv4IsPrefixedFourBytesWrongFalsely : Prop := fnAppendIPv4IsPrefixedFourBytesRow.holds Tryd.pinned (OpenSpec.ofChange fnAppendIPv4IsPrefixedFourBytesWrong)

/-- 'zzlaws_rlp_b1.FnAppendIPv6ThenIPv4Concatenates': WHATEVER THE INPUT: true; the input reads as it did. -/
def fnAppendIPv6ThenIPv4ConcatenatesSpec : ChangeSpec := { name := "fnAppendIPv6ThenIPv4Concatenates", fn := fun _ => fun
  | [d1, d2, d3] => { results := [.lit (.bool true)], args := [d1, d2, d3] }
  | _ => none }
def fnAppendIPv6ThenIPv4ConcatenatesRow : OpenClaim := { program := "qxb6630228adoor", sum := "cecef78e3747d9a72a37bc00c090b31d88bde19d516346d44190ec20ce382d08", func := "example.com/sextant/sextant/zzlaws_rlp_b1.FnAppendIPv6ThenIPv4Concatenates", spec := "fnAppendIPv6ThenIPv4Concatenates", named := ["net/netip.z6noz", "net/netip.z4", "net/netip.z0", "encoding/binary.BigEndian"], apart := false, laid := [("net/netip.z4", laid_net_netip_z4), ("net/netip.z6noz", laid_net_netip_z6noz), ("net/netip.z0", laid_net_netip_z0)] }
def FnAppendIPv6ThenIPv4ConcatenatesSaid : Prop := fnAppendIPv6ThenIPv4ConcatenatesRow.holds Tryd.pinned (OpenSpec.ofChange fnAppendIPv6ThenIPv4ConcatenatesSpec)

/-- ITS FALSE NEIGHBOUR: 'it returns false'. Refute it at one input. -/
def fnAppendIPv6ThenIPv4ConcatenatesWrong : ChangeSpec := { name := "fnAppendIPv6ThenIPv4Concatenates", fn := fun _ => fun
  | [d1, d2, d3] => { results := [.lit (.bool false)], args := [d1, d2, d3] }
  | _ => none }
def FnAppendIPv6ThenIPv4ConcatenatesWrongFalsely : Prop := fnAppendIPv6ThenIPv4ConcatenatesRow.holds Tryd.pinned (OpenSpec.ofChange fnAppendIPv6ThenIPv4ConcatenatesWrong)

end Rows
end Go.Proofs.Qxb6630228aDoor
