/-
  No cell of these rows narrows 'for every input' (looked for: loops, veiled, ifaces, maps, wideKeys, modest, calm, conditions, laid).
  DERIVED. THE GIVEN ROWS OF THIS SEAT. 2 by the template 'for every input the law returns true; each argument reads behind the call as it read before'; 0 by the template 'total and deterministic' (their statements: Qxb6605202aTotals.lean).
  GIVEN WITH THE SEED: the statements are not yours to turn. If you find one false, say at which input.
  Laid BY PROGRAM, IN A SANDBOX (cutbox-rows.mjs): the forced cells as the released guide's own fill.sh prints them over the translation 218e9e519e7755d3… (all of the seat's roots in one cut). By AI agents, Wed Nov 11 2026. No macro, syntax, notation, axiom, sorry.
-/
import Derived.Test.Qxb6605202aChecked
import GoSem.Claim
import GoSem.ClaimJoined
import GoSem.ClaimMapViews
import Derived.JoinedTies
import Derived.KernelRfl
namespace Go.Proofs.Qxb6605202a
/- THE CELL 'sum', in the pinned program and in every row, IS THE sha256 OF THE DUMP (.gsa) THAT Qxb6605202aProg.lean LOADS. Nothing in Lean hashes anything: it is a label: what it is worth is what the hold of that sum in a sandbox is worth. -/
noncomputable def Try.pinned : Pinned := { name := "qxb6605202a", sum := "218e9e519e7755d38584ff3ba174e8678d9c6ffa1bf42be98ac64c442f92303b", checked := Try.checked }
namespace Rows
def none {H : Type} : Left H := { results := [], args := [] }

/-- 'zzlaws_chat_b1.FnAddOneChunkMatchesModel': WHATEVER THE INPUT: true; the input reads as it did. -/
def fnAddOneChunkMatchesModelSpec : ChangeSpec := { name := "fnAddOneChunkMatchesModel", fn := fun _ => fun
  | [d1, d2, d3, d4, d5, d6, d7, d8, d9, d10, d11, d12] => { results := [.lit (.bool true)], args := [d1, d2, d3, d4, d5, d6, d7, d8, d9, d10, d11, d12] }
  | _ => none }
def fnAddOneChunkMatchesModelRow : OpenClaim := { program := "qxb6605202a", sum := "218e9e519e7755d38584ff3ba174e8678d9c6ffa1bf42be98ac64c442f92303b", func := "example.com/rookery/rookery/zzlaws_chat_b1.FnAddOneChunkMatchesModel", spec := "fnAddOneChunkMatchesModel", inPlace := ["internal/abi.NoEscape"], apart := false }
def FnAddOneChunkMatchesModelSaid : Prop := fnAddOneChunkMatchesModelRow.holds Try.pinned (OpenSpec.ofChange fnAddOneChunkMatchesModelSpec)

/-- ITS FALSE NEIGHBOUR: 'it returns false'. Refute it at one input. -/
def fnAddOneChunkMatchesModelWrong : ChangeSpec := { name := "fnAddOneChunkMatchesModel", fn := fun _ => fun
  | [d1, d2, d3, d4, d5, d6, d7, d8, d9, d10, d11, d12] => { results := [.lit (.bool false)], args := [d1, d2, d3, d4, d5, d6, d7, d8, d9, d10, d11, d12] }
  | _ => none }
def FnAddOneChunkMatchesModelWrongFalsely : Prop := fnAddOneChunkMatchesModelRow.holds Try.pinned (OpenSpec.ofChange fnAddOneChunkMatchesModelWrong)

/-- 'zzlaws_chat_b1.FnAddTwoChunksAccumulate': WHATEVER THE INPUT: true; the input reads as it did. -/
def fnAddTwoChunksAccumulateSpec : ChangeSpec := { name := "fnAddTwoChunksAccumulate", fn := fun _ => fun
  | [d1, d2, d3, d4, d5, d6, d7, d8, d9, d10, d11, d12] => { results := [.lit (.bool true)], args := [d1, d2, d3, d4, d5, d6, d7, d8, d9, d10, d11, d12] }
  | _ => none }
def fnAddTwoChunksAccumulateRow : OpenClaim := { program := "qxb6605202a", sum := "218e9e519e7755d38584ff3ba174e8678d9c6ffa1bf42be98ac64c442f92303b", func := "example.com/rookery/rookery/zzlaws_chat_b1.FnAddTwoChunksAccumulate", spec := "fnAddTwoChunksAccumulate", inPlace := ["internal/abi.NoEscape"], apart := false }
def FnAddTwoChunksAccumulateSaid : Prop := fnAddTwoChunksAccumulateRow.holds Try.pinned (OpenSpec.ofChange fnAddTwoChunksAccumulateSpec)

/-- ITS FALSE NEIGHBOUR: 'it returns false'. Refute it at one input. -/
def fnAddTwoChunksAccumulateWrong : ChangeSpec := { name := "fnAddTwoChunksAccumulate", fn := fun _ => fun
  | [d1, d2, d3, d4, d5, d6, d7, d8, d9, d10, d11, d12] => { results := [.lit (.bool false)], args := [d1, d2, d3, d4, d5, d6, d7, d8, d9, d10, d11, d12] }
  | _ => none }
def FnAddTwoChunksAccumulateWrongFalsely : Prop := fnAddTwoChunksAccumulateRow.holds Try.pinned (OpenSpec.ofChange fnAddTwoChunksAccumulateWrong)

end Rows
end Go.Proofs.Qxb6605202a
