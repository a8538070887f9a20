/-
  No cell of these rows narrows 'for every input' (looked for: loops, veiled, ifaces, maps, wideKeys, modest, calm, conditions, laid).
  DERIVED. THE GIVEN ROWS OF THIS SEAT. 3 by the template 'for every input the law returns true; each argument reads behind the call as it read before'; 0 by the template 'total and deterministic' (their statements: Qxb6602079aTotals.lean).
  GIVEN WITH THE SEED: the statements are not yours to turn. If you find one false, say at which input.
  Laid BY PROGRAM, IN A SANDBOX (cutbox-rows.mjs): the forced cells as the released guide's own fill.sh prints them over the translation 5bb5efd539d9cb26… (all of the seat's roots in one cut). By AI agents, Wed Nov 11 2026. No macro, syntax, notation, axiom, sorry.
-/
import Derived.Test.Qxb6602079aChecked
import GoSem.Claim
import GoSem.ClaimJoined
import GoSem.ClaimMapViews
import Derived.JoinedTies
import Derived.KernelRfl
namespace Go.Proofs.Qxb6602079a
/- THE CELL 'sum', in the pinned program and in every row, IS THE sha256 OF THE DUMP (.gsa) THAT Qxb6602079aProg.lean LOADS. Nothing in Lean hashes anything: it is a label: what it is worth is what the hold of that sum in a sandbox is worth. -/
noncomputable def Try.pinned : Pinned := { name := "qxb6602079a", sum := "5bb5efd539d9cb26cb2a6631d6f9a8e897e88bda1fd5dab20e42d8ac249a823a", checked := Try.checked }
namespace Rows
def none {H : Type} : Left H := { results := [], args := [] }

/-- 'zzlaws_pkg_packet_b1.FnTransportHeaderLenBoundedLocal': WHATEVER THE INPUT: true; the input reads as it did. -/
def fnTransportHeaderLenBoundedLocalSpec : ChangeSpec := { name := "fnTransportHeaderLenBoundedLocal", fn := fun _ => fun
  | [d1, d2] => { results := [.lit (.bool true)], args := [d1, d2] }
  | _ => none }
def fnTransportHeaderLenBoundedLocalRow : OpenClaim := { program := "qxb6602079a", sum := "5bb5efd539d9cb26cb2a6631d6f9a8e897e88bda1fd5dab20e42d8ac249a823a", func := "example.com/reheard/reheard/zzlaws_pkg_packet_b1.FnTransportHeaderLenBoundedLocal", spec := "fnTransportHeaderLenBoundedLocal", apart := false }
def FnTransportHeaderLenBoundedLocalSaid : Prop := fnTransportHeaderLenBoundedLocalRow.holds Try.pinned (OpenSpec.ofChange fnTransportHeaderLenBoundedLocalSpec)

/-- ITS FALSE NEIGHBOUR: 'it returns false'. Refute it at one input. -/
def fnTransportHeaderLenBoundedLocalWrong : ChangeSpec := { name := "fnTransportHeaderLenBoundedLocal", fn := fun _ => fun
  | [d1, d2] => { results := [.lit (.bool false)], args := [d1, d2] }
  | _ => none }
def FnTransportHeaderLenBoundedLocalWrongFalsely : Prop := fnTransportHeaderLenBoundedLocalRow.holds Try.pinned (OpenSpec.ofChange fnTransportHeaderLenBoundedLocalWrong)

/-- 'zzlaws_pkg_packet_b1.FnVersionTypeHighNibbleOnly': WHATEVER THE INPUT: true; the input reads as it did. -/
def fnVersionTypeHighNibbleOnlySpec : ChangeSpec := { name := "fnVersionTypeHighNibbleOnly", fn := fun _ => fun
  | [d] => { results := [.lit (.bool true)], args := [d] }
  | _ => none }
def fnVersionTypeHighNibbleOnlyRow : OpenClaim := { program := "qxb6602079a", sum := "5bb5efd539d9cb26cb2a6631d6f9a8e897e88bda1fd5dab20e42d8ac249a823a", func := "example.com/reheard/reheard/zzlaws_pkg_packet_b1.FnVersionTypeHighNibbleOnly", spec := "fnVersionTypeHighNibbleOnly", apart := false }
def FnVersionTypeHighNibbleOnlySaid : Prop := fnVersionTypeHighNibbleOnlyRow.holds Try.pinned (OpenSpec.ofChange fnVersionTypeHighNibbleOnlySpec)

/-- ITS FALSE NEIGHBOUR: 'it returns false'. Refute it at one input. -/
def fnVersionTypeHighNibbleOnlyWrong : ChangeSpec := { name := "fnVersionTypeHighNibbleOnly", fn := fun _ => fun
  | [d] => { results := [.lit (.bool false)], args := [d] }
  | _ => none }
def FnVersionTypeHighNibbleOnlyWrongFalsely : Prop := fnVersionTypeHighNibbleOnlyRow.holds Try.pinned (OpenSpec.ofChange fnVersionTypeHighNibbleOnlyWrong)

/-- 'zzlaws_pkg_packet_b1.FnWithPayloadIdempotentWithinPacket': WHATEVER THE INPUT: true; the input reads as it did. -/
def fnWithPayloadIdempotentWithinPacketSpec : ChangeSpec := { name := "fnWithPayloadIdempotentWithinPacket", fn := fun _ => fun
  | [d1, d2, d3, d4, d5, d6, d7, d8, d9, d10] => { results := [.lit (.bool true)], args := [d1, d2, d3, d4, d5, d6, d7, d8, d9, d10] }
  | _ => none }
def fnWithPayloadIdempotentWithinPacketRow : OpenClaim := { program := "qxb6602079a", sum := "5bb5efd539d9cb26cb2a6631d6f9a8e897e88bda1fd5dab20e42d8ac249a823a", func := "example.com/reheard/reheard/zzlaws_pkg_packet_b1.FnWithPayloadIdempotentWithinPacket", spec := "fnWithPayloadIdempotentWithinPacket", apart := false }
def FnWithPayloadIdempotentWithinPacketSaid : Prop := fnWithPayloadIdempotentWithinPacketRow.holds Try.pinned (OpenSpec.ofChange fnWithPayloadIdempotentWithinPacketSpec)

/-- ITS FALSE NEIGHBOUR: 'it returns false'. Refute it at one input. -/
def fnWithPayloadIdempotentWithinPacketWrong : ChangeSpec := { name := "fnWithPayloadIdempotentWithinPacket", fn := fun _ => fun
  | [d1, d2, d3, d4, d5, d6, d7, d8, d9, d10] => { results := [.lit (.bool false)], args := [d1, d2, d3, d4, d5, d6, d7, d8, d9, d10] }
  | _ => none }
def FnWithPayloadIdempotentWithinPacketWrongFalsely : Prop := fnWithPayloadIdempotentWithinPacketRow.holds Try.pinned (OpenSpec.ofChange fnWithPayloadIdempotentWithinPacketWrong)

end Rows
end Go.Proofs.Qxb6602079a
