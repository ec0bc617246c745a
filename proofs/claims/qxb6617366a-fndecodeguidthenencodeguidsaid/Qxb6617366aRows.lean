/-
  No cell of these rows narrows 'for every input' (looked for: loops, veiled, ifaces, maps, wideKeys, modest, calm, conditions, laid).
  DERIVED. THE GIVEN ROWS OF THIS SEAT. 4 by the template 'for every input the law returns true; each argument reads behind the call as it read before'; 0 by the template 'total and deterministic' (their statements: Qxb6617366aTotals.lean).
  GIVEN WITH THE SEED: the statements are not yours to turn. If you find one false, say at which input.
  Laid BY PROGRAM, IN A SANDBOX (cutbox-rows.mjs): the forced cells as the released guide's own fill.sh prints them over the translation 22f8b5b39705b4ab… (all of the seat's roots in one cut). By AI agents, Wed Nov 11 2026. No macro, syntax, notation, axiom, sorry.
-/
import Derived.Test.Qxb6617366aChecked
import GoSem.Claim
import GoSem.ClaimJoined
import GoSem.ClaimMapViews
import Derived.JoinedTies
import Derived.KernelRfl
namespace Go.Proofs.Qxb6617366a
/- THE CELL 'sum', in the pinned program and in every row, IS THE sha256 OF THE DUMP (.gsa) THAT Qxb6617366aProg.lean LOADS. Nothing in Lean hashes anything: it is a label: what it is worth is what the hold of that sum in a sandbox is worth. -/
noncomputable def Try.pinned : Pinned := { name := "qxb6617366a", sum := "22f8b5b39705b4ab2680738d4092fe606d0d5575551c6b392b15d9733b126568", checked := Try.checked }
namespace Rows
def none {H : Type} : Left H := { results := [], args := [] }

/-- 'zzlaws_gpt_b1.FnBackupLBANamedPlaceOrLastSector': WHATEVER THE INPUT: true; the input reads as it did. -/
def fnBackupLBANamedPlaceOrLastSectorSpec : ChangeSpec := { name := "fnBackupLBANamedPlaceOrLastSector", fn := fun _ => fun
  | [d1, d2, d3, d4, d5, d6, d7, d8, d9] => { results := [.lit (.bool true)], args := [d1, d2, d3, d4, d5, d6, d7, d8, d9] }
  | _ => none }
def fnBackupLBANamedPlaceOrLastSectorRow : OpenClaim := { program := "qxb6617366a", sum := "22f8b5b39705b4ab2680738d4092fe606d0d5575551c6b392b15d9733b126568", func := "example.com/lamina/lamina/zzlaws_gpt_b1.FnBackupLBANamedPlaceOrLastSector", spec := "fnBackupLBANamedPlaceOrLastSector", apart := false }
def FnBackupLBANamedPlaceOrLastSectorSaid : Prop := fnBackupLBANamedPlaceOrLastSectorRow.holds Try.pinned (OpenSpec.ofChange fnBackupLBANamedPlaceOrLastSectorSpec)

/-- ITS FALSE NEIGHBOUR: 'it returns false'. Refute it at one input. -/
def fnBackupLBANamedPlaceOrLastSectorWrong : ChangeSpec := { name := "fnBackupLBANamedPlaceOrLastSector", fn := fun _ => fun
  | [d1, d2, d3, d4, d5, d6, d7, d8, d9] => { results := [.lit (.bool false)], args := [d1, d2, d3, d4, d5, d6, d7, d8, d9] }
  | _ => none }
def FnBackupLBANamedPlaceOrLastSectorWrongFalsely : Prop := fnBackupLBANamedPlaceOrLastSectorRow.holds Try.pinned (OpenSpec.ofChange fnBackupLBANamedPlaceOrLastSectorWrong)

/-- 'zzlaws_gpt_b1.FnBackupLBAGrowsWithImage': WHATEVER THE INPUT: true; the input reads as it did. -/
def fnBackupLBAGrowsWithImageSpec : ChangeSpec := { name := "fnBackupLBAGrowsWithImage", fn := fun _ => fun
  | [d1, d2, d3, d4, d5, d6, d7, d8, d9, d10] => { results := [.lit (.bool true)], args := [d1, d2, d3, d4, d5, d6, d7, d8, d9, d10] }
  | _ => none }
def fnBackupLBAGrowsWithImageRow : OpenClaim := { program := "qxb6617366a", sum := "22f8b5b39705b4ab2680738d4092fe606d0d5575551c6b392b15d9733b126568", func := "example.com/lamina/lamina/zzlaws_gpt_b1.FnBackupLBAGrowsWithImage", spec := "fnBackupLBAGrowsWithImage", apart := false }
def FnBackupLBAGrowsWithImageSaid : Prop := fnBackupLBAGrowsWithImageRow.holds Try.pinned (OpenSpec.ofChange fnBackupLBAGrowsWithImageSpec)

/-- ITS FALSE NEIGHBOUR: 'it returns false'. Refute it at one input. -/
def fnBackupLBAGrowsWithImageWrong : ChangeSpec := { name := "fnBackupLBAGrowsWithImage", fn := fun _ => fun
  | [d1, d2, d3, d4, d5, d6, d7, d8, d9, d10] => { results := [.lit (.bool false)], args := [d1, d2, d3, d4, d5, d6, d7, d8, d9, d10] }
  | _ => none }
def FnBackupLBAGrowsWithImageWrongFalsely : Prop := fnBackupLBAGrowsWithImageRow.holds Try.pinned (OpenSpec.ofChange fnBackupLBAGrowsWithImageWrong)

/-- 'zzlaws_gpt_b1.FnEncodeGUIDThenDecodeGUID': WHATEVER THE INPUT: true; the input reads as it did. -/
def fnEncodeGUIDThenDecodeGUIDSpec : ChangeSpec := { name := "fnEncodeGUIDThenDecodeGUID", fn := fun _ => fun
  | [d1, d2] => { results := [.lit (.bool true)], args := [d1, d2] }
  | _ => none }
def fnEncodeGUIDThenDecodeGUIDRow : OpenClaim := { program := "qxb6617366a", sum := "22f8b5b39705b4ab2680738d4092fe606d0d5575551c6b392b15d9733b126568", func := "example.com/lamina/lamina/zzlaws_gpt_b1.FnEncodeGUIDThenDecodeGUID", spec := "fnEncodeGUIDThenDecodeGUID", apart := false }
def FnEncodeGUIDThenDecodeGUIDSaid : Prop := fnEncodeGUIDThenDecodeGUIDRow.holds Try.pinned (OpenSpec.ofChange fnEncodeGUIDThenDecodeGUIDSpec)

/-- ITS FALSE NEIGHBOUR: 'it returns false'. Refute it at one input. -/
def fnEncodeGUIDThenDecodeGUIDWrong : ChangeSpec := { name := "fnEncodeGUIDThenDecodeGUID", fn := fun _ => fun
  | [d1, d2] => { results := [.lit (.bool false)], args := [d1, d2] }
  | _ => none }
def FnEncodeGUIDThenDecodeGUIDWrongFalsely : Prop := fnEncodeGUIDThenDecodeGUIDRow.holds Try.pinned (OpenSpec.ofChange fnEncodeGUIDThenDecodeGUIDWrong)

/-- 'zzlaws_gpt_b1.FnDecodeGUIDThenEncodeGUID': WHATEVER THE INPUT: true; the input reads as it did. -/
def fnDecodeGUIDThenEncodeGUIDSpec : ChangeSpec := { name := "fnDecodeGUIDThenEncodeGUID", fn := fun _ => fun
  | [d] => { results := [.lit (.bool true)], args := [d] }
  | _ => none }
def fnDecodeGUIDThenEncodeGUIDRow : OpenClaim := { program := "qxb6617366a", sum := "22f8b5b39705b4ab2680738d4092fe606d0d5575551c6b392b15d9733b126568", func := "example.com/lamina/lamina/zzlaws_gpt_b1.FnDecodeGUIDThenEncodeGUID", spec := "fnDecodeGUIDThenEncodeGUID", apart := false }
def FnDecodeGUIDThenEncodeGUIDSaid : Prop := fnDecodeGUIDThenEncodeGUIDRow.holds Try.pinned (OpenSpec.ofChange fnDecodeGUIDThenEncodeGUIDSpec)

/-- ITS FALSE NEIGHBOUR: 'it returns false'. Refute it at one input. -/
def fnDecodeGUIDThenEncodeGUIDWrong : ChangeSpec := { name := "fnDecodeGUIDThenEncodeGUID", fn := fun _ => fun
  | [d] => { results := [.lit (.bool false)], args := [d] }
  | _ => none }
def FnDecodeGUIDThenEncodeGUIDWrongFalsely : Prop := fnDecodeGUIDThenEncodeGUIDRow.holds Try.pinned (OpenSpec.ofChange fnDecodeGUIDThenEncodeGUIDWrong)

end Rows
end Go.Proofs.Qxb6617366a
