import Derived.WalkKit
import Derived.WalkSpells
import Derived.WalkLawsBesides
import Derived.Deep.WholeRow
import Derived.Deep.MidRow
import Derived.Laws.CopyOwn
namespace Go.Proofs.Qxb6617376a
open Go.RowKit

/-- SEVERAL CELLS OF A BLOCK THAT IS KNOWN WHOLE ARE WRITTEN: the block behind it. -/
theorem heap_setCells_same (b : Nat) (t : TypeId) : ∀ (vs : List Value) (o : Nat) (w : World) (C : Array Value), w.heap[b]? = some (.cells C t (0, 0)) → o + vs.length ≤ C.size →
    ∃ C', (w.setCells b o vs).heap[b]? = some (.cells C' t (0, 0)) ∧ C'.size = C.size ∧ (∀ j, j < o ∨ o + vs.length ≤ j → C'[j]? = C[j]?) ∧ (∀ j, j < vs.length → C'[o + j]? = vs[j]?)
  | [], o, w, C, hb, _ => ⟨C, hb, rfl, fun _ _ => rfl, fun j hj => by simp at hj⟩
  | v :: r, o, w, C, hb, hl => by
    have h1 := heap_setCell_same w b o C t v hb
    simp only [List.length_cons] at hl
    obtain ⟨C', a, z, q, i⟩ := heap_setCells_same b t r (o + 1) _ _ h1 (by simp; omega)
    refine ⟨C', a, by simpa using z, fun j hj => ?_, fun j hj => ?_⟩
    · simp only [List.length_cons] at hj
      rw [q j (by omega), Array.getElem?_setIfInBounds, if_neg (by omega)]
    · match j with
      | 0 =>
        have hz : C'[o]? = some v := by rw [q o (by omega), Array.getElem?_setIfInBounds, if_pos rfl, if_pos (by omega)]
        simpa using hz
      | j + 1 =>
        simp only [List.length_cons] at hj
        have := i j (by omega)
        rw [show o + (j + 1) = o + 1 + j by omega, this]
        simp

theorem grown_setCells (b : Nat) : ∀ (vs : List Value) (o : Nat) (w : World), w.grownBy (w.setCells b o vs) (some b)
  | [], _, w => World.grownBy.refl w _
  | v :: r, o, w => by
    have h := grown_setCells b r (o + 1) (w.setCell ⟨b, o, none⟩ v)
    have hs : (w.setCell ⟨b, o, none⟩ v).heap.size = w.heap.size := by simp [World.setCell]
    refine ⟨h.os, h.tape, h.output, by rw [← hs]; exact h.size, fun k hk hne => ?_⟩
    have h1 := h.block k (by simpa [World.setCell] using hk) hne
    rw [World.setCells, h1]
    exact Below.heap_setCell w _ v k (fun e => hne (by rw [e]))

/-- A WHOLE ARRAY OR STRUCT STORED INTO THE MIDDLE OF A BLOCK THAT IS KNOWN WHOLE: the walk goes on in some world of which just this is known. -/
theorem wpList_store_in {P : Program} {ops : Array Oper} {rest : List Oper} {op : Oper} {a : Act} {w : World} {Q : Exit → Act → World → Prop} (hgd : op.guard = none) (ty : TypeId) (x y : Operand) (ho : op.op = .store ty x y)
    (b o : Nat) (cells : Array Value) (hx : a.eval x = .pointer (some ⟨b, o, none⟩)) (hy : a.eval y = .agg cells) (C : Array Value) (t : TypeId) (hb : w.heap[b]? = some (.cells C t (0, 0)))
    (hl : o + cells.size ≤ C.size) (hi : (P.info? ty).map (·.size) = some cells.size) (h1 : cells.all (·.oneCell') = true)
    (h : ∀ w' C', w'.heap[b]? = some (.cells C' t (0, 0)) → C'.size = C.size → (∀ j, j < o ∨ o + cells.size ≤ j → C'[j]? = C[j]?) → (∀ j, j < cells.size → C'[o + j]? = cells[j]?) → w.grownBy w' (some b) → wpList P ops Q rest (a.put op.dst undef) w') :
    wpList P ops Q (op :: rest) a w := by
  obtain ⟨C', e, z, q, i⟩ := heap_setCells_same b t cells.toList o w C hb (by simpa using hl)
  refine wpList_store_mid hgd ty x y ho b o cells hx hy (fun j hj => ?_) hi h1 (h _ C' e z (by simpa using q) (by simpa using i) (grown_setCells b _ _ _))
  rw [cell_of_row w b (o + j) C t (0, 0) hb, frozen_of_row w b (o + j) C t hb]
  simp; omega

/-- A whole struct or array out of the block that was made last. -/
theorem wpList_load_new {P : Program} {ops : Array Oper} {rest : List Oper} {o : Oper} {a : Act} {W : World} {Q : Exit → Act → World → Prop} (hgd : o.guard = none) (ty : TypeId) (x : Operand) (ho : o.op = .load ty x)
    (c : Array Value) (t : TypeId) (hx : a.eval x = .pointer (some ⟨W.heap.size, 0, none⟩)) (d : TypeDesc) (hu : P.underlying ty = some d) (hd : (match d with | .struct _ | .array _ _ => true | _ => false) = true) (hi : (P.info? ty).map (·.size) = some c.size)
    (h : wpList P ops Q rest (a.put o.dst (.agg c)) (W.alloc (.cells c t))) : wpList P ops Q (o :: rest) a (W.alloc (.cells c t)) :=
  wpList_load_row hgd ty x ho _ hx t c (0, 0) d (heap_alloc_last W _) hu hd hi h

/-- A whole struct or array into the block that was made last. -/
theorem wpList_store_new {P : Program} {ops : Array Oper} {rest : List Oper} {o : Oper} {a : Act} {W : World} {Q : Exit → Act → World → Prop} (hgd : o.guard = none) (ty : TypeId) (x y : Operand) (ho : o.op = .store ty x y)
    (c c' : Array Value) (t : TypeId) (hx : a.eval x = .pointer (some ⟨W.heap.size, 0, none⟩)) (hy : a.eval y = .agg c') (hi : (P.info? ty).map (·.size) = some c'.size) (hc : c.size = c'.size) (h1 : c'.all (·.oneCell') = true)
    (h : wpList P ops Q rest (a.put o.dst undef) (W.alloc (.cells c' t))) : wpList P ops Q (o :: rest) a (W.alloc (.cells c t)) :=
  wpList_store_row hgd ty x y ho _ c' hx hy t c (heap_alloc_last W _) hi hc h1 (by rw [World.setRow_alloc_new]; exact h)

#print axioms wpList_store_in
end Go.Proofs.Qxb6617376a
