import Derived.Test.Qxb6617376aLast
import Derived.ProofKit
import Derived.OpenShut
import Derived.ShutString
import Derived.ChangeOld
import Derived.Below
import Derived.Deep.Slices
import Derived.Lib.SmallJoins
namespace Go.Proofs.Qxb6617376a
open Go.ChangeShapes Go.WideShapes Go.ChangeAt Go.RowKit Go.Deep Go.Joins

theorem own : ownKnob Try.prog.godebug = none := by kernel_rfl
theorem laidOut : laidOutB Try.prog = true := by kernel_rfl
theorem cells34 : Try.prog.cellsOf 34 = 4 := by kernel_rfl
theorem cells3 : Try.prog.cellsOf 3 = 1 := by kernel_rfl
theorem cells4 : Try.prog.cellsOf 4 = 1 := by kernel_rfl

/-- One element read: its four cells. -/
theorem open_op {H : Type} {enc : TypeId × Value → H} {W : World} {base fuel : Nat} {spare : Nat → Bool} {held : Bool} {cs : List Value} {x : DataW H × List MemPlace} (hl : cs.length = 4)
    (h : DataW.trod enc Try.prog W base spare held fuel 34 cs = some x) : ∃ o : Op4, cs = o.cells := by
  obtain ⟨y0, y1, y2, y3, n, hx, _, h0, h1, h2, h3⟩ := trod_struct4 Try.underlying34 h
  simp only [cells3, cells4] at h0 h1 h2 h3
  obtain ⟨n0, e0, _, _⟩ := DataW.trod_int Try.underlying3 h0
  obtain ⟨n1, e1, _, _⟩ := DataW.trod_int Try.underlying3 h1
  obtain ⟨n2, e2, _, _⟩ := DataW.trod_int Try.underlying3 h2
  obtain ⟨b3, e3, _⟩ := DataW.trod_bool Try.underlying4 h3
  match cs, hl, e0, e1, e2, e3 with
  | [a, b, c, d], _, e0, e1, e2, e3 =>
    simp at e0 e1 e2 e3
    exact ⟨⟨n0, n1, n2, b3⟩, by simp [Op4.cells, e0, e1, e2, e3]⟩

theorem open_ops {H : Type} {enc : TypeId × Value → H} {W : World} {a : Option Addr} {len cap : Nat} {d : DataW H} {p : List MemPlace}
    (h : DataW.Trod enc Try.prog W 0 (fun _ => true) true 22 (.slice a len cap) d p) :
    (a = none ∧ len = 0 ∧ cap = 0) ∨ ∃ x g, a = some x ∧ (len = 0 ∨ ∃ b off, x = ⟨b, off, none⟩ ∧ b < W.heap.size ∧ OpsAt W b off len g) := by
  obtain ⟨fuel, hf⟩ := h
  rcases open_slice Try.underlying22 hf with ⟨hcs, _⟩ | ⟨x, l, c, m, n, D, Pl, hcs, _, hl, _, hm, _, hel⟩
  · simp [Value.cells] at hcs
    exact .inl hcs
  · simp [Value.cells] at hcs
    obtain ⟨rfl, rfl, rfl⟩ := hcs
    right
    rw [cells34] at hel
    simp only [if_true] at hm
    have key : ∀ i, i < len → ∃ o : Op4, ∀ j, j < 4 → W.cell? ((x.add (i * 4)).add j) = o.cells[j]? := fun i hi => by
      obtain ⟨cs, h1, h2⟩ := hel i (by omega)
      obtain ⟨_, hlen, hc⟩ := World.cells?_some h1
      obtain ⟨o, rfl⟩ := open_op hlen h2
      exact ⟨o, hc⟩
    have inh : Inhabited Op4 := ⟨⟨0, 0, 0, false⟩⟩
    obtain ⟨g, hg⟩ := choose_lt (α := Op4) key
    refine ⟨x, g, rfl, ?_⟩
    by_cases h0 : len = 0
    · exact .inl h0
    right
    obtain ⟨b, off, spot⟩ := x
    have h00 := hg 0 (by omega) 0 (by omega)
    have e00 : (g 0).cells[0]? = some (.int .i64 (g 0).s) := rfl
    rw [e00] at h00
    have hspot : spot = none := by simpa [Addr.add] using World.cell?_spot h00
    subst hspot
    have hcell : ∀ i, i < len → ∀ j, j < 4 → W.cell? ⟨b, off + i * 4 + j, none⟩ = (g i).cells[j]? := fun i hi j hj => by
      have := hg i hi j hj
      rwa [Addr.add_mid, Addr.add_mid] at this
    refine ⟨b, off, rfl, ?_, fun i hi => ⟨hcell i hi 0 (by omega), hcell i hi 1 (by omega), hcell i hi 2 (by omega), hcell i hi 3 (by omega)⟩⟩
    exact World.block_lt_of_cell? W _ (by simpa [Addr.add] using h00)
end Go.Proofs.Qxb6617376a
