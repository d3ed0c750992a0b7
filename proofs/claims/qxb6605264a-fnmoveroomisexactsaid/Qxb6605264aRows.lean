/-
  No cell of these rows narrows 'for every input' (looked for: loops, veiled, ifaces, maps, wideKeys, modest, calm, conditions, laid).
  DERIVED. THE GIVEN ROWS OF THIS SEAT. 4 by the template 'for every input the law returns true; each argument reads behind the call as it read before'; 0 by the template 'total and deterministic' (their statements: Qxb6605264aTotals.lean).
  GIVEN WITH THE SEED: the statements are not yours to turn. If you find one false, say at which input.
  Laid BY PROGRAM, IN A SANDBOX (cutbox-rows.mjs): the forced cells as the released guide's own fill.sh prints them over the translation 937c21c27d06aaf0… (all of the seat's roots in one cut). By AI agents, Wed Nov 11 2026. No macro, syntax, notation, axiom, sorry.
-/
import Derived.Test.Qxb6605264aChecked
import GoSem.Claim
import GoSem.ClaimJoined
import GoSem.ClaimMapViews
import Derived.JoinedTies
import Derived.KernelRfl
namespace Go.Proofs.Qxb6605264a
/- THE CELL 'sum', in the pinned program and in every row, IS THE sha256 OF THE DUMP (.gsa) THAT Qxb6605264aProg.lean LOADS. Nothing in Lean hashes anything: it is a label: what it is worth is what the hold of that sum in a sandbox is worth. -/
noncomputable def Try.pinned : Pinned := { name := "qxb6605264a", sum := "937c21c27d06aaf05e936c633fce6f863e3fd4804acca52454ac42a7e915d04d", checked := Try.checked }
namespace Rows
def none {H : Type} : Left H := { results := [], args := [] }

/-- 'zzlaws_pkg_account_b1.FnLiveSlotsIsTheHeldSlotsInOrder': WHATEVER THE INPUT: true; the input reads as it did. -/
def fnLiveSlotsIsTheHeldSlotsInOrderSpec : ChangeSpec := { name := "fnLiveSlotsIsTheHeldSlotsInOrder", fn := fun _ => fun
  | [d1, d2] => { results := [.lit (.bool true)], args := [d1, d2] }
  | _ => none }
def fnLiveSlotsIsTheHeldSlotsInOrderRow : OpenClaim := { program := "qxb6605264a", sum := "937c21c27d06aaf05e936c633fce6f863e3fd4804acca52454ac42a7e915d04d", func := "example.com/tierwise/tierwise/zzlaws_pkg_account_b1.FnLiveSlotsIsTheHeldSlotsInOrder", spec := "fnLiveSlotsIsTheHeldSlotsInOrder", apart := false }
def FnLiveSlotsIsTheHeldSlotsInOrderSaid : Prop := fnLiveSlotsIsTheHeldSlotsInOrderRow.holds Try.pinned (OpenSpec.ofChange fnLiveSlotsIsTheHeldSlotsInOrderSpec)

/-- ITS FALSE NEIGHBOUR: 'it returns false'. Refute it at one input. -/
def fnLiveSlotsIsTheHeldSlotsInOrderWrong : ChangeSpec := { name := "fnLiveSlotsIsTheHeldSlotsInOrder", fn := fun _ => fun
  | [d1, d2] => { results := [.lit (.bool false)], args := [d1, d2] }
  | _ => none }
def FnLiveSlotsIsTheHeldSlotsInOrderWrongFalsely : Prop := fnLiveSlotsIsTheHeldSlotsInOrderRow.holds Try.pinned (OpenSpec.ofChange fnLiveSlotsIsTheHeldSlotsInOrderWrong)

/-- 'zzlaws_pkg_account_b1.FnLiveSlotsSplitsAtEveryCut': WHATEVER THE INPUT: true; the input reads as it did. -/
def fnLiveSlotsSplitsAtEveryCutSpec : ChangeSpec := { name := "fnLiveSlotsSplitsAtEveryCut", fn := fun _ => fun
  | [d1, d2, d3] => { results := [.lit (.bool true)], args := [d1, d2, d3] }
  | _ => none }
def fnLiveSlotsSplitsAtEveryCutRow : OpenClaim := { program := "qxb6605264a", sum := "937c21c27d06aaf05e936c633fce6f863e3fd4804acca52454ac42a7e915d04d", func := "example.com/tierwise/tierwise/zzlaws_pkg_account_b1.FnLiveSlotsSplitsAtEveryCut", spec := "fnLiveSlotsSplitsAtEveryCut", apart := false }
def FnLiveSlotsSplitsAtEveryCutSaid : Prop := fnLiveSlotsSplitsAtEveryCutRow.holds Try.pinned (OpenSpec.ofChange fnLiveSlotsSplitsAtEveryCutSpec)

/-- ITS FALSE NEIGHBOUR: 'it returns false'. Refute it at one input. -/
def fnLiveSlotsSplitsAtEveryCutWrong : ChangeSpec := { name := "fnLiveSlotsSplitsAtEveryCut", fn := fun _ => fun
  | [d1, d2, d3] => { results := [.lit (.bool false)], args := [d1, d2, d3] }
  | _ => none }
def FnLiveSlotsSplitsAtEveryCutWrongFalsely : Prop := fnLiveSlotsSplitsAtEveryCutRow.holds Try.pinned (OpenSpec.ofChange fnLiveSlotsSplitsAtEveryCutWrong)

/-- 'zzlaws_pkg_account_b1.FnMoveRoomIsExact': WHATEVER THE INPUT: true; the input reads as it did. -/
def fnMoveRoomIsExactSpec : ChangeSpec := { name := "fnMoveRoomIsExact", fn := fun _ => fun
  | [d1, d2, d3, d4, d5, d6, d7, d8] => { results := [.lit (.bool true)], args := [d1, d2, d3, d4, d5, d6, d7, d8] }
  | _ => none }
def fnMoveRoomIsExactRow : OpenClaim := { program := "qxb6605264a", sum := "937c21c27d06aaf05e936c633fce6f863e3fd4804acca52454ac42a7e915d04d", func := "example.com/tierwise/tierwise/zzlaws_pkg_account_b1.FnMoveRoomIsExact", spec := "fnMoveRoomIsExact", apart := false }
def FnMoveRoomIsExactSaid : Prop := fnMoveRoomIsExactRow.holds Try.pinned (OpenSpec.ofChange fnMoveRoomIsExactSpec)

/-- ITS FALSE NEIGHBOUR: 'it returns false'. Refute it at one input. -/
def fnMoveRoomIsExactWrong : ChangeSpec := { name := "fnMoveRoomIsExact", fn := fun _ => fun
  | [d1, d2, d3, d4, d5, d6, d7, d8] => { results := [.lit (.bool false)], args := [d1, d2, d3, d4, d5, d6, d7, d8] }
  | _ => none }
def FnMoveRoomIsExactWrongFalsely : Prop := fnMoveRoomIsExactRow.holds Try.pinned (OpenSpec.ofChange fnMoveRoomIsExactWrong)

/-- 'zzlaws_pkg_account_b1.FnMoveRoomTwoMovesKeepChunkSound': WHATEVER THE INPUT: true; the input reads as it did. -/
def fnMoveRoomTwoMovesKeepChunkSoundSpec : ChangeSpec := { name := "fnMoveRoomTwoMovesKeepChunkSound", fn := fun _ => fun
  | [d1, d2, d3, d4, d5, d6, d7, d8, d9, d10] => { results := [.lit (.bool true)], args := [d1, d2, d3, d4, d5, d6, d7, d8, d9, d10] }
  | _ => none }
def fnMoveRoomTwoMovesKeepChunkSoundRow : OpenClaim := { program := "qxb6605264a", sum := "937c21c27d06aaf05e936c633fce6f863e3fd4804acca52454ac42a7e915d04d", func := "example.com/tierwise/tierwise/zzlaws_pkg_account_b1.FnMoveRoomTwoMovesKeepChunkSound", spec := "fnMoveRoomTwoMovesKeepChunkSound", apart := false }
def FnMoveRoomTwoMovesKeepChunkSoundSaid : Prop := fnMoveRoomTwoMovesKeepChunkSoundRow.holds Try.pinned (OpenSpec.ofChange fnMoveRoomTwoMovesKeepChunkSoundSpec)

/-- ITS FALSE NEIGHBOUR: 'it returns false'. Refute it at one input. -/
def fnMoveRoomTwoMovesKeepChunkSoundWrong : ChangeSpec := { name := "fnMoveRoomTwoMovesKeepChunkSound", fn := fun _ => fun
  | [d1, d2, d3, d4, d5, d6, d7, d8, d9, d10] => { results := [.lit (.bool false)], args := [d1, d2, d3, d4, d5, d6, d7, d8, d9, d10] }
  | _ => none }
def FnMoveRoomTwoMovesKeepChunkSoundWrongFalsely : Prop := fnMoveRoomTwoMovesKeepChunkSoundRow.holds Try.pinned (OpenSpec.ofChange fnMoveRoomTwoMovesKeepChunkSoundWrong)

end Rows
end Go.Proofs.Qxb6605264a
