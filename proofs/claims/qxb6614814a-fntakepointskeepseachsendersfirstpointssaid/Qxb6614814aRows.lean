/-
  No cell of these rows narrows 'for every input' (looked for: loops, veiled, ifaces, maps, wideKeys, modest, calm, conditions, laid).
  DERIVED. THE GIVEN ROWS OF THIS SEAT. 6 by the template 'for every input the law returns true; each argument reads behind the call as it read before'; 0 by the template 'total and deterministic' (their statements: Qxb6614814aTotals.lean).
  GIVEN WITH THE SEED: the statements are not yours to turn. If you find one false, say at which input.
  Laid BY PROGRAM, IN A SANDBOX (cutbox-rows.mjs): the forced cells as the released guide's own fill.sh prints them over the translation cc55a5509c61890e… (all of the seat's roots in one cut). By AI agents, Wed Nov 11 2026. No macro, syntax, notation, axiom, sorry.
-/
import Derived.Test.Qxb6614814aChecked
import GoSem.Claim
import GoSem.ClaimJoined
import GoSem.ClaimMapViews
import Derived.JoinedTies
import Derived.KernelRfl
namespace Go.Proofs.Qxb6614814a
/- THE CELL 'sum', in the pinned program and in every row, IS THE sha256 OF THE DUMP (.gsa) THAT Qxb6614814aProg.lean LOADS. Nothing in Lean hashes anything: it is a label: what it is worth is what the hold of that sum in a sandbox is worth. -/
noncomputable def Try.pinned : Pinned := { name := "qxb6614814a", sum := "cc55a5509c61890e559e92acd30c27ffd487315cecdca66fd50ce0b10701e72a", checked := Try.checked }
namespace Rows
def none {H : Type} : Left H := { results := [], args := [] }

/-- 'zzlaws_internal_protocol_b1.FnOutboxToAllSendsOneSharedMessage': WHATEVER THE INPUT: true; the input reads as it did. -/
def fnOutboxToAllSendsOneSharedMessageSpec : ChangeSpec := { name := "fnOutboxToAllSendsOneSharedMessage", fn := fun _ => fun
  | [d1, d2, d3, d4, d5] => { results := [.lit (.bool true)], args := [d1, d2, d3, d4, d5] }
  | _ => none }
def fnOutboxToAllSendsOneSharedMessageRow : OpenClaim := { program := "qxb6614814a", sum := "cc55a5509c61890e559e92acd30c27ffd487315cecdca66fd50ce0b10701e72a", func := "example.com/quorumcast/quorumcast/zzlaws_internal_protocol_b1.FnOutboxToAllSendsOneSharedMessage", spec := "fnOutboxToAllSendsOneSharedMessage", unfollowed := true, recurses := true, apart := false }
def FnOutboxToAllSendsOneSharedMessageSaid : Prop := fnOutboxToAllSendsOneSharedMessageRow.holds Try.pinned (OpenSpec.ofChange fnOutboxToAllSendsOneSharedMessageSpec)

/-- ITS FALSE NEIGHBOUR: 'it returns false'. Refute it at one input. -/
def fnOutboxToAllSendsOneSharedMessageWrong : ChangeSpec := { name := "fnOutboxToAllSendsOneSharedMessage", fn := fun _ => fun
  | [d1, d2, d3, d4, d5] => { results := [.lit (.bool false)], args := [d1, d2, d3, d4, d5] }
  | _ => none }
def FnOutboxToAllSendsOneSharedMessageWrongFalsely : Prop := fnOutboxToAllSendsOneSharedMessageRow.holds Try.pinned (OpenSpec.ofChange fnOutboxToAllSendsOneSharedMessageWrong)

/-- 'zzlaws_internal_protocol_b1.FnTakePointsKeepsEachSendersFirstPoints': WHATEVER THE INPUT: true; the input reads as it did. -/
def fnTakePointsKeepsEachSendersFirstPointsSpec : ChangeSpec := { name := "fnTakePointsKeepsEachSendersFirstPoints", fn := fun _ => fun
  | [d1, d2] => { results := [.lit (.bool true)], args := [d1, d2] }
  | _ => none }
def fnTakePointsKeepsEachSendersFirstPointsRow : OpenClaim := { program := "qxb6614814a", sum := "cc55a5509c61890e559e92acd30c27ffd487315cecdca66fd50ce0b10701e72a", func := "example.com/quorumcast/quorumcast/zzlaws_internal_protocol_b1.FnTakePointsKeepsEachSendersFirstPoints", spec := "fnTakePointsKeepsEachSendersFirstPoints", unfollowed := true, recurses := true, apart := false }
def FnTakePointsKeepsEachSendersFirstPointsSaid : Prop := fnTakePointsKeepsEachSendersFirstPointsRow.holds Try.pinned (OpenSpec.ofChange fnTakePointsKeepsEachSendersFirstPointsSpec)

/-- ITS FALSE NEIGHBOUR: 'it returns false'. Refute it at one input. -/
def fnTakePointsKeepsEachSendersFirstPointsWrong : ChangeSpec := { name := "fnTakePointsKeepsEachSendersFirstPoints", fn := fun _ => fun
  | [d1, d2] => { results := [.lit (.bool false)], args := [d1, d2] }
  | _ => none }
def FnTakePointsKeepsEachSendersFirstPointsWrongFalsely : Prop := fnTakePointsKeepsEachSendersFirstPointsRow.holds Try.pinned (OpenSpec.ofChange fnTakePointsKeepsEachSendersFirstPointsWrong)

/-- 'zzlaws_internal_protocol_b1.FnWholeSplitsAtAnyCut': WHATEVER THE INPUT: true; the input reads as it did. -/
def fnWholeSplitsAtAnyCutSpec : ChangeSpec := { name := "fnWholeSplitsAtAnyCut", fn := fun _ => fun
  | [d1, d2, d3, d4, d5] => { results := [.lit (.bool true)], args := [d1, d2, d3, d4, d5] }
  | _ => none }
def fnWholeSplitsAtAnyCutRow : OpenClaim := { program := "qxb6614814a", sum := "cc55a5509c61890e559e92acd30c27ffd487315cecdca66fd50ce0b10701e72a", func := "example.com/quorumcast/quorumcast/zzlaws_internal_protocol_b1.FnWholeSplitsAtAnyCut", spec := "fnWholeSplitsAtAnyCut", apart := false }
def FnWholeSplitsAtAnyCutSaid : Prop := fnWholeSplitsAtAnyCutRow.holds Try.pinned (OpenSpec.ofChange fnWholeSplitsAtAnyCutSpec)

/-- ITS FALSE NEIGHBOUR: 'it returns false'. Refute it at one input. -/
def fnWholeSplitsAtAnyCutWrong : ChangeSpec := { name := "fnWholeSplitsAtAnyCut", fn := fun _ => fun
  | [d1, d2, d3, d4, d5] => { results := [.lit (.bool false)], args := [d1, d2, d3, d4, d5] }
  | _ => none }
def FnWholeSplitsAtAnyCutWrongFalsely : Prop := fnWholeSplitsAtAnyCutRow.holds Try.pinned (OpenSpec.ofChange fnWholeSplitsAtAnyCutWrong)

/-- 'zzlaws_internal_protocol_b1.FnTakePointsRefusedOnceRelayed': WHATEVER THE INPUT: true; the input reads as it did. -/
def fnTakePointsRefusedOnceRelayedSpec : ChangeSpec := { name := "fnTakePointsRefusedOnceRelayed", fn := fun _ => fun
  | [d1, d2] => { results := [.lit (.bool true)], args := [d1, d2] }
  | _ => none }
def fnTakePointsRefusedOnceRelayedRow : OpenClaim := { program := "qxb6614814a", sum := "cc55a5509c61890e559e92acd30c27ffd487315cecdca66fd50ce0b10701e72a", func := "example.com/quorumcast/quorumcast/zzlaws_internal_protocol_b1.FnTakePointsRefusedOnceRelayed", spec := "fnTakePointsRefusedOnceRelayed", unfollowed := true, recurses := true, apart := false }
def FnTakePointsRefusedOnceRelayedSaid : Prop := fnTakePointsRefusedOnceRelayedRow.holds Try.pinned (OpenSpec.ofChange fnTakePointsRefusedOnceRelayedSpec)

/-- ITS FALSE NEIGHBOUR: 'it returns false'. Refute it at one input. -/
def fnTakePointsRefusedOnceRelayedWrong : ChangeSpec := { name := "fnTakePointsRefusedOnceRelayed", fn := fun _ => fun
  | [d1, d2] => { results := [.lit (.bool false)], args := [d1, d2] }
  | _ => none }
def FnTakePointsRefusedOnceRelayedWrongFalsely : Prop := fnTakePointsRefusedOnceRelayedRow.holds Try.pinned (OpenSpec.ofChange fnTakePointsRefusedOnceRelayedWrong)

/-- 'zzlaws_internal_protocol_b1.FnKnownIsTheFourNamedProtocols': WHATEVER THE INPUT: true; the input reads as it did. -/
def fnKnownIsTheFourNamedProtocolsSpec : ChangeSpec := { name := "fnKnownIsTheFourNamedProtocols", fn := fun _ => fun
  | [d] => { results := [.lit (.bool true)], args := [d] }
  | _ => none }
def fnKnownIsTheFourNamedProtocolsRow : OpenClaim := { program := "qxb6614814a", sum := "cc55a5509c61890e559e92acd30c27ffd487315cecdca66fd50ce0b10701e72a", func := "example.com/quorumcast/quorumcast/zzlaws_internal_protocol_b1.FnKnownIsTheFourNamedProtocols", spec := "fnKnownIsTheFourNamedProtocols", apart := false }
def FnKnownIsTheFourNamedProtocolsSaid : Prop := fnKnownIsTheFourNamedProtocolsRow.holds Try.pinned (OpenSpec.ofChange fnKnownIsTheFourNamedProtocolsSpec)

/-- ITS FALSE NEIGHBOUR: 'it returns false'. Refute it at one input. -/
def fnKnownIsTheFourNamedProtocolsWrong : ChangeSpec := { name := "fnKnownIsTheFourNamedProtocols", fn := fun _ => fun
  | [d] => { results := [.lit (.bool false)], args := [d] }
  | _ => none }
def FnKnownIsTheFourNamedProtocolsWrongFalsely : Prop := fnKnownIsTheFourNamedProtocolsRow.holds Try.pinned (OpenSpec.ofChange fnKnownIsTheFourNamedProtocolsWrong)

/-- 'zzlaws_internal_protocol_b1.FnKnownCountsAPrefixOfFour': WHATEVER THE INPUT: true; the input reads as it did. -/
def fnKnownCountsAPrefixOfFourSpec : ChangeSpec := { name := "fnKnownCountsAPrefixOfFour", fn := fun _ => fun
  | [d] => { results := [.lit (.bool true)], args := [d] }
  | _ => none }
def fnKnownCountsAPrefixOfFourRow : OpenClaim := { program := "qxb6614814a", sum := "cc55a5509c61890e559e92acd30c27ffd487315cecdca66fd50ce0b10701e72a", func := "example.com/quorumcast/quorumcast/zzlaws_internal_protocol_b1.FnKnownCountsAPrefixOfFour", spec := "fnKnownCountsAPrefixOfFour", apart := false }
def FnKnownCountsAPrefixOfFourSaid : Prop := fnKnownCountsAPrefixOfFourRow.holds Try.pinned (OpenSpec.ofChange fnKnownCountsAPrefixOfFourSpec)

/-- ITS FALSE NEIGHBOUR: 'it returns false'. Refute it at one input. -/
def fnKnownCountsAPrefixOfFourWrong : ChangeSpec := { name := "fnKnownCountsAPrefixOfFour", fn := fun _ => fun
  | [d] => { results := [.lit (.bool false)], args := [d] }
  | _ => none }
def FnKnownCountsAPrefixOfFourWrongFalsely : Prop := fnKnownCountsAPrefixOfFourRow.holds Try.pinned (OpenSpec.ofChange fnKnownCountsAPrefixOfFourWrong)

end Rows
end Go.Proofs.Qxb6614814a
