/-
  No cell of these rows narrows 'for every input' (looked for: loops, veiled, ifaces, maps, wideKeys, modest, calm, conditions, laid).
  DERIVED. THE GIVEN ROWS OF THIS SEAT. 3 by the template 'for every input the law returns true; each argument reads behind the call as it read before'; 0 by the template 'total and deterministic' (their statements: Qxb6617376aTotals.lean).
  GIVEN WITH THE SEED: the statements are not yours to turn. If you find one false, say at which input.
  Laid BY PROGRAM, IN A SANDBOX (cutbox-rows.mjs): the forced cells as the released guide's own fill.sh prints them over the translation 4d0a45a14c5500eb… (all of the seat's roots in one cut). By AI agents, Wed Nov 11 2026. No macro, syntax, notation, axiom, sorry.
-/
import Derived.Test.Qxb6617376aChecked
import GoSem.Claim
import GoSem.ClaimJoined
import GoSem.ClaimMapViews
import Derived.JoinedTies
import Derived.KernelRfl
namespace Go.Proofs.Qxb6617376a
/- THE CELL 'sum', in the pinned program and in every row, IS THE sha256 OF THE DUMP (.gsa) THAT Qxb6617376aProg.lean LOADS. Nothing in Lean hashes anything: it is a label: what it is worth is what the hold of that sum in a sandbox is worth. -/
noncomputable def Try.pinned : Pinned := { name := "qxb6617376a", sum := "4d0a45a14c5500eb05bd14e9ba84137ece5eed15bf6244c740311f4b3d46864a", checked := Try.checked }
namespace Rows
def none {H : Type} : Left H := { results := [], args := [] }

/-- 'zzlaws_internal_gen_b1.FnLastWrittenCutAndBackwardSearch': WHATEVER THE INPUT: true; the input reads as it did. -/
def fnLastWrittenCutAndBackwardSearchSpec : ChangeSpec := { name := "fnLastWrittenCutAndBackwardSearch", fn := fun _ => fun
  | [d1, d2, d3] => { results := [.lit (.bool true)], args := [d1, d2, d3] }
  | _ => none }
def fnLastWrittenCutAndBackwardSearchRow : OpenClaim := { program := "qxb6617376a", sum := "4d0a45a14c5500eb05bd14e9ba84137ece5eed15bf6244c740311f4b3d46864a", func := "example.com/causet/causet/zzlaws_internal_gen_b1.FnLastWrittenCutAndBackwardSearch", spec := "fnLastWrittenCutAndBackwardSearch", apart := false }
def FnLastWrittenCutAndBackwardSearchSaid : Prop := fnLastWrittenCutAndBackwardSearchRow.holds Try.pinned (OpenSpec.ofChange fnLastWrittenCutAndBackwardSearchSpec)

/-- ITS FALSE NEIGHBOUR: 'it returns false'. Refute it at one input. -/
def fnLastWrittenCutAndBackwardSearchWrong : ChangeSpec := { name := "fnLastWrittenCutAndBackwardSearch", fn := fun _ => fun
  | [d1, d2, d3] => { results := [.lit (.bool false)], args := [d1, d2, d3] }
  | _ => none }
def FnLastWrittenCutAndBackwardSearchWrongFalsely : Prop := fnLastWrittenCutAndBackwardSearchRow.holds Try.pinned (OpenSpec.ofChange fnLastWrittenCutAndBackwardSearchWrong)

/-- 'zzlaws_internal_gen_b1.FnLastWrittenInsertedOp': WHATEVER THE INPUT: true; the input reads as it did. -/
def fnLastWrittenInsertedOpSpec : ChangeSpec := { name := "fnLastWrittenInsertedOp", fn := fun _ => fun
  | [d1, d2, d3, d4, d5, d6] => { results := [.lit (.bool true)], args := [d1, d2, d3, d4, d5, d6] }
  | _ => none }
def fnLastWrittenInsertedOpRow : OpenClaim := { program := "qxb6617376a", sum := "4d0a45a14c5500eb05bd14e9ba84137ece5eed15bf6244c740311f4b3d46864a", func := "example.com/causet/causet/zzlaws_internal_gen_b1.FnLastWrittenInsertedOp", spec := "fnLastWrittenInsertedOp", apart := false }
def FnLastWrittenInsertedOpSaid : Prop := fnLastWrittenInsertedOpRow.holds Try.pinned (OpenSpec.ofChange fnLastWrittenInsertedOpSpec)

/-- ITS FALSE NEIGHBOUR: 'it returns false'. Refute it at one input. -/
def fnLastWrittenInsertedOpWrong : ChangeSpec := { name := "fnLastWrittenInsertedOp", fn := fun _ => fun
  | [d1, d2, d3, d4, d5, d6] => { results := [.lit (.bool false)], args := [d1, d2, d3, d4, d5, d6] }
  | _ => none }
def FnLastWrittenInsertedOpWrongFalsely : Prop := fnLastWrittenInsertedOpRow.holds Try.pinned (OpenSpec.ofChange fnLastWrittenInsertedOpWrong)

/-- 'zzlaws_internal_gen_b1.FnWatchedKeyWritesThenWatches': WHATEVER THE INPUT: true; the input reads as it did. -/
def fnWatchedKeyWritesThenWatchesSpec : ChangeSpec := { name := "fnWatchedKeyWritesThenWatches", fn := fun _ => fun
  | [d1, d2, d3] => { results := [.lit (.bool true)], args := [d1, d2, d3] }
  | _ => none }
def fnWatchedKeyWritesThenWatchesRow : OpenClaim := { program := "qxb6617376a", sum := "4d0a45a14c5500eb05bd14e9ba84137ece5eed15bf6244c740311f4b3d46864a", func := "example.com/causet/causet/zzlaws_internal_gen_b1.FnWatchedKeyWritesThenWatches", spec := "fnWatchedKeyWritesThenWatches", apart := false }
def FnWatchedKeyWritesThenWatchesSaid : Prop := fnWatchedKeyWritesThenWatchesRow.holds Try.pinned (OpenSpec.ofChange fnWatchedKeyWritesThenWatchesSpec)

/-- ITS FALSE NEIGHBOUR: 'it returns false'. Refute it at one input. -/
def fnWatchedKeyWritesThenWatchesWrong : ChangeSpec := { name := "fnWatchedKeyWritesThenWatches", fn := fun _ => fun
  | [d1, d2, d3] => { results := [.lit (.bool false)], args := [d1, d2, d3] }
  | _ => none }
def FnWatchedKeyWritesThenWatchesWrongFalsely : Prop := fnWatchedKeyWritesThenWatchesRow.holds Try.pinned (OpenSpec.ofChange fnWatchedKeyWritesThenWatchesWrong)

end Rows
end Go.Proofs.Qxb6617376a
