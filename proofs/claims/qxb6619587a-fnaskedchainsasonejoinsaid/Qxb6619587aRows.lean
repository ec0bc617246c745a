/-
  No cell of these rows narrows 'for every input' (looked for: loops, veiled, ifaces, maps, wideKeys, modest, calm, conditions, laid).
  DERIVED. THE GIVEN ROWS OF THIS SEAT. 3 by the template 'for every input the law returns true; each argument reads behind the call as it read before'; 0 by the template 'total and deterministic' (their statements: Qxb6619587aTotals.lean).
  GIVEN WITH THE SEED: the statements are not yours to turn. If you find one false, say at which input.
  Laid BY PROGRAM, IN A SANDBOX (cutbox-rows.mjs): the forced cells as the released guide's own fill.sh prints them over the translation 30edc9a7c1901ff5… (all of the seat's roots in one cut). By AI agents, Wed Nov 11 2026. No macro, syntax, notation, axiom, sorry.
-/
import Derived.Test.Qxb6619587aChecked
import GoSem.Claim
import GoSem.ClaimJoined
import GoSem.ClaimMapViews
import Derived.JoinedTies
import Derived.KernelRfl
namespace Go.Proofs.Qxb6619587a
/- THE CELL 'sum', in the pinned program and in every row, IS THE sha256 OF THE DUMP (.gsa) THAT Qxb6619587aProg.lean LOADS. Nothing in Lean hashes anything: it is a label: what it is worth is what the hold of that sum in a sandbox is worth. -/
noncomputable def Try.pinned : Pinned := { name := "qxb6619587a", sum := "30edc9a7c1901ff51f6b4baf402cbeab3036e599013343406638c208fa06e6dc", checked := Try.checked }
namespace Rows
def none {H : Type} : Left H := { results := [], args := [] }

/-- 'zzlaws_harness_b1.FnUncommentedMatchesScanner': WHATEVER THE INPUT: true; the input reads as it did. -/
def fnUncommentedMatchesScannerSpec : ChangeSpec := { name := "fnUncommentedMatchesScanner", fn := fun _ => fun
  | [d] => { results := [.lit (.bool true)], args := [d] }
  | _ => none }
def fnUncommentedMatchesScannerRow : OpenClaim := { program := "qxb6619587a", sum := "30edc9a7c1901ff51f6b4baf402cbeab3036e599013343406638c208fa06e6dc", func := "example.com/coxswain/coxswain/zzlaws_harness_b1.FnUncommentedMatchesScanner", spec := "fnUncommentedMatchesScanner", inPlace := ["internal/bytealg.IndexByte", "internal/bytealg.Index"], named := ["internal/bytealg.MaxLen"], apart := false }
def FnUncommentedMatchesScannerSaid : Prop := fnUncommentedMatchesScannerRow.holds Try.pinned (OpenSpec.ofChange fnUncommentedMatchesScannerSpec)

/-- ITS FALSE NEIGHBOUR: 'it returns false'. Refute it at one input. -/
def fnUncommentedMatchesScannerWrong : ChangeSpec := { name := "fnUncommentedMatchesScanner", fn := fun _ => fun
  | [d] => { results := [.lit (.bool false)], args := [d] }
  | _ => none }
def FnUncommentedMatchesScannerWrongFalsely : Prop := fnUncommentedMatchesScannerRow.holds Try.pinned (OpenSpec.ofChange fnUncommentedMatchesScannerWrong)

/-- 'zzlaws_harness_b1.FnUncommentedTwiceIsOnce': WHATEVER THE INPUT: true; the input reads as it did. -/
def fnUncommentedTwiceIsOnceSpec : ChangeSpec := { name := "fnUncommentedTwiceIsOnce", fn := fun _ => fun
  | [d] => { results := [.lit (.bool true)], args := [d] }
  | _ => none }
def fnUncommentedTwiceIsOnceRow : OpenClaim := { program := "qxb6619587a", sum := "30edc9a7c1901ff51f6b4baf402cbeab3036e599013343406638c208fa06e6dc", func := "example.com/coxswain/coxswain/zzlaws_harness_b1.FnUncommentedTwiceIsOnce", spec := "fnUncommentedTwiceIsOnce", inPlace := ["internal/bytealg.IndexByte", "internal/bytealg.Index"], named := ["internal/bytealg.MaxLen"], apart := false }
def FnUncommentedTwiceIsOnceSaid : Prop := fnUncommentedTwiceIsOnceRow.holds Try.pinned (OpenSpec.ofChange fnUncommentedTwiceIsOnceSpec)

/-- ITS FALSE NEIGHBOUR: 'it returns false'. Refute it at one input. -/
def fnUncommentedTwiceIsOnceWrong : ChangeSpec := { name := "fnUncommentedTwiceIsOnce", fn := fun _ => fun
  | [d] => { results := [.lit (.bool false)], args := [d] }
  | _ => none }
def FnUncommentedTwiceIsOnceWrongFalsely : Prop := fnUncommentedTwiceIsOnceRow.holds Try.pinned (OpenSpec.ofChange fnUncommentedTwiceIsOnceWrong)

/-- 'zzlaws_harness_b1.FnAskedChainsAsOneJoin': WHATEVER THE INPUT: true; the input reads as it did. -/
def fnAskedChainsAsOneJoinSpec : ChangeSpec := { name := "fnAskedChainsAsOneJoin", fn := fun _ => fun
  | [d1, d2, d3] => { results := [.lit (.bool true)], args := [d1, d2, d3] }
  | _ => none }
def fnAskedChainsAsOneJoinRow : OpenClaim := { program := "qxb6619587a", sum := "30edc9a7c1901ff51f6b4baf402cbeab3036e599013343406638c208fa06e6dc", func := "example.com/coxswain/coxswain/zzlaws_harness_b1.FnAskedChainsAsOneJoin", spec := "fnAskedChainsAsOneJoin", apart := false }
def FnAskedChainsAsOneJoinSaid : Prop := fnAskedChainsAsOneJoinRow.holds Try.pinned (OpenSpec.ofChange fnAskedChainsAsOneJoinSpec)

/-- ITS FALSE NEIGHBOUR: 'it returns false'. Refute it at one input. -/
def fnAskedChainsAsOneJoinWrong : ChangeSpec := { name := "fnAskedChainsAsOneJoin", fn := fun _ => fun
  | [d1, d2, d3] => { results := [.lit (.bool false)], args := [d1, d2, d3] }
  | _ => none }
def FnAskedChainsAsOneJoinWrongFalsely : Prop := fnAskedChainsAsOneJoinRow.holds Try.pinned (OpenSpec.ofChange fnAskedChainsAsOneJoinWrong)

end Rows
end Go.Proofs.Qxb6619587a
