import Derived.Test.Qxb6617366aRows
import Derived.ProofKit
import Derived.OpenShut
import Derived.ShutString
import Derived.ChangeOld
import Derived.Below
namespace Go.Proofs.Qxb6617366a
open Go.ChangeShapes Go.WideShapes Go.ChangeAt Go.RowKit

theorem own : ownKnob Try.prog.godebug = none := by kernel_rfl
theorem laidOut : laidOutB Try.prog = true := by kernel_rfl
theorem cells23 : Try.prog.cellsOf 23 = 16 := by kernel_rfl
theorem cells5 : Try.prog.cellsOf 5 = 1 := by kernel_rfl

/-- A [16]byte BY VALUE: sixteen cells, each an integer of the byte's kind. -/
theorem open_guid {H : Type} {enc : TypeId × Value → H} {W : World} {base base' : Nat} {spare : Nat → Bool} {held : Bool} {v : Value} {d : DataW H} {p : List MemPlace}
    (hv : Value.okWide Try.prog W .any base 23 v) (h : DataW.Trod enc Try.prog W base' spare held 23 v d p) : ∃ g : Array Value, v = .agg g ∧ g.size = 16 ∧ ∀ i, i < 16 → ∃ n : Int, g[i]? = some (.int .u8 n) ∧ 0 ≤ n ∧ n ≤ 255 := by
  obtain ⟨cs, rfl, hsz, _⟩ : ∃ cs, v = .agg cs ∧ cs.size = Try.prog.cellsOf 23 ∧ Row.okWide Try.prog W .any base 23 cs := by
    simpa [Value.okWide, Try.underlying23] using hv
  rw [cells23] at hsz
  refine ⟨cs, rfl, hsz, fun i hi => ?_⟩
  obtain ⟨fuel, hf⟩ := h
  obtain ⟨xs, m, _, _, _, hl, hel⟩ := DataW.trod_array Try.underlying23 hf
  have h1 := hel i hi
  rw [List.getElem?_eq_getElem (by omega), cells5] at h1
  obtain ⟨n, e1, _, wn⟩ := DataW.trod_int Try.underlying5 h1
  simp only [Value.cells, Nat.mul_one] at e1
  refine ⟨n, ?_, bounds_u8 wn⟩
  have e2 := congrArg (fun l => l[0]?) e1
  simpa [List.getElem?_take, List.getElem?_drop] using e2

theorem all_of_guid {g : Array Value} (hz : g.size = 16) (h : ∀ i, i < 16 → ∃ n : Int, g[i]? = some (.int .u8 n) ∧ 0 ≤ n ∧ n ≤ 255) : g.all (·.oneCell') = true := by
  rw [Array.all_eq_true]
  intro i hi
  obtain ⟨n, e, _⟩ := h i (by omega)
  rw [Array.getElem?_eq_getElem hi] at e
  rw [Option.some.inj e]
  rfl

end Go.Proofs.Qxb6617366a
