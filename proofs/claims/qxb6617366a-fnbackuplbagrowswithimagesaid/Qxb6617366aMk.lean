import Derived.Test.Qxb6617366aRows
import Derived.Test.Qxb6617366aLaws
namespace Go.Proofs.Qxb6617366a
open Go.RowKit

theorem info27 : (Try.prog.info? 27).map (·.size) = some 23 := by kernel_rfl
theorem info23 : (Try.prog.info? 23).map (·.size) = some 16 := by kernel_rfl
theorem info25 : (Try.prog.info? 25).map (·.size) = some 16 := by kernel_rfl

theorem three (w : World) (A B C : Obj) : (((w.alloc A).alloc B).alloc C).heap[w.heap.size]? = some A ∧ (((w.alloc A).alloc B).alloc C).heap[w.heap.size + 1]? = some B ∧ (((w.alloc A).alloc B).alloc C).heap[w.heap.size + 1 + 1]? = some C := by
  have e1 : (w.alloc A).heap.size = w.heap.size + 1 := by simp
  have e2 : ((w.alloc A).alloc B).heap.size = w.heap.size + 1 + 1 := by simp
  refine ⟨?_, ?_, ?_⟩
  · rw [Below.heap_alloc _ _ _ (by omega), Below.heap_alloc _ _ _ (by omega), heap_alloc_last]
  · rw [Below.heap_alloc _ _ _ (by omega), ← e1, heap_alloc_last]
  · rw [← e2, heap_alloc_last]

/-- Three single cells are stored into a block that is known whole. -/
theorem three_stores {w : World} {b : Nat} {C : Array Value} {t : TypeId} (hb : w.heap[b]? = some (.cells C t (0, 0))) (hz : C.size = 23) {u : Value} (h1 : C[1]? = some u) (hc : C.all (·.oneCell') = true) (x y z : Value) (hx : x.oneCell' = true) (hy : y.oneCell' = true) (hzz : z.oneCell' = true) :
    ∃ C', (((w.setCell ⟨b, 20, none⟩ x).setCell ⟨b, 21, none⟩ y).setCell ⟨b, 22, none⟩ z).heap[b]? = some (.cells C' t (0, 0)) ∧ C'.size = 23 ∧ C'[1]? = some u ∧ C'.all (·.oneCell') = true := by
  refine ⟨_, heap_setCell_same _ _ _ _ _ _ (heap_setCell_same _ _ _ _ _ _ (heap_setCell_same _ _ _ _ _ _ hb)), by simpa using hz, ?_, ?_⟩
  · simpa [Array.getElem?_setIfInBounds] using h1
  · rw [Array.all_eq_true_iff_forall_mem] at hc ⊢
    intro v hv
    rcases Array.mem_or_eq_of_mem_setIfInBounds hv with hv | rfl
    · rcases Array.mem_or_eq_of_mem_setIfInBounds hv with hv | rfl
      · rcases Array.mem_or_eq_of_mem_setIfInBounds hv with hv | rfl
        · exact hc v hv
        · exact hx
      · exact hy
    · exact hzz

theorem all_of_parts {C' C cells : Array Value} {o n : Nat} (hn : cells.size = n) (hz : C'.size = C.size) (hq : ∀ j, j < o ∨ o + n ≤ j → C'[j]? = C[j]?) (hi : ∀ j, j < n → C'[o + j]? = cells[j]?) (hC : C.all (·.oneCell') = true) (hc : cells.all (·.oneCell') = true) : C'.all (·.oneCell') = true := by
  subst hn
  rw [Array.all_eq_true] at hC hc ⊢
  intro j hj
  by_cases h : j < o ∨ o + cells.size ≤ j
  · have h2 := hq j h
    rw [Array.getElem?_eq_getElem hj, Array.getElem?_eq_getElem (by omega)] at h2
    rw [Option.some.inj h2]
    exact hC j _
  · have h2 := hi (j - o) (by omega)
    rw [show o + (j - o) = j by omega, Array.getElem?_eq_getElem hj, Array.getElem?_eq_getElem (by omega)] at h2
    rw [Option.some.inj h2]
    exact hc _ _

theorem grown_setCell {w w' : World} {row : Option Nat} {b o : Nat} {v : Value} (h : w.grownBy w' row) (hr : row = some b) : w.grownBy (w'.setCell ⟨b, o, none⟩ v) row :=
  ⟨h.os, h.tape, h.output, by have hs : (w'.setCell ⟨b, o, none⟩ v).heap.size = w'.heap.size := by simp [World.setCell]
                              rw [hs]; exact h.size, fun k hk hne => by rw [Below.heap_setCell _ _ _ _ (by intro e; exact hne (by rw [hr, e]))]; exact h.block k hk hne⟩

set_option maxHeartbeats 400000 in
theorem make_any (a0 a1 a2 a3 a5 a6 a7 : Int) (g : Array Value) (hz : g.size = 16) (h1 : g.all (·.oneCell') = true) (w : World) :
    Calls Try.prog 7 #[.int .u64 a0, .int .u64 a1, .int .u64 a2, .int .u64 a3, .agg g, .int .u64 a5, .int .u32 a6, .int .u32 a7] w
      fun e w' => ∃ h : Array Value, e = .returned (.agg h) ∧ h.size = 23 ∧ h[1]? = some (.int .u64 a1) ∧ h.all (·.oneCell') = true ∧ Below w.heap.size w w' := by
  have hi23 : (Try.prog.info? 23).map (·.size) = some g.size := by rw [hz]; exact info23
  have hi25 : (Try.prog.info? 25).map (·.size) = some g.size := by rw [hz]; exact info25
  go_enter Try.func7, Try.ntmps7
  go_wp2_with (first | (refine wpList_load_row rfl 23 _ rfl _ rfl 23 _ (0, 0) _ ?hl1 Try.underlying23 rfl hi23 ?_) | (refine wpList_store_in rfl 25 _ _ rfl _ _ _ rfl rfl ?C 27 ?hs1 ?hs2 hi25 h1 ?_))
  case hl1 => exact (three _ _ _ _).1
  case hs1 => exact (three _ _ _ _).2.2
  case hs2 => rw [hz]; simp
  intro w2 C2 hb2 hz2 hq2 hin2 hg2
  obtain ⟨Z, hr2, hZ⟩ : ∃ Z, w2.heap[w.heap.size + 1]? = some (.cells Z 27 (0, 0)) ∧ Z.size = 23 := ⟨_, (hg2.block (w.heap.size + 1) (by simp) (by simp)).trans (three _ _ _ _).2.1, rfl⟩
  have hbel : Below w.heap.size w w2 := by
    refine Below.grown ?_ hg2 (by simp; omega) (by intro k hk; cases hk; omega)
    exact (((Below.refl _ _).alloc (Nat.le_refl _) _).alloc (by simp) _).alloc (by simp; omega) _
  have hz3 : C2.size = 23 := hz2
  have h21 : C2[1]? = some (.int .u64 a1) := by rw [hq2 1 (by omega)]; rfl
  have hall : C2.all (·.oneCell') = true := all_of_parts (o := 4) (n := 16) hz hz2 hq2 hin2 (by simp [Value.oneCell']) h1
  clear hq2 hin2 hz2 hg2
  obtain ⟨C3, hb3, hz4, h31, hall3⟩ := three_stores hb2 hz3 h21 hall (.int .u64 a5) (.int .u32 a6) (.int .u32 a7) rfl rfl rfl
  have hr3 : (((w2.setCell ⟨w.heap.size + 1 + 1, 20, none⟩ (.int .u64 a5)).setCell ⟨w.heap.size + 1 + 1, 21, none⟩ (.int .u32 a6)).setCell ⟨w.heap.size + 1 + 1, 22, none⟩ (.int .u32 a7)).heap[w.heap.size + 1]? = some (.cells Z 27 (0, 0)) := by
    rw [Below.heap_setCell _ _ _ _ (by show w.heap.size + 1 ≠ w.heap.size + 1 + 1; omega), Below.heap_setCell _ _ _ _ (by show w.heap.size + 1 ≠ w.heap.size + 1 + 1; omega), Below.heap_setCell _ _ _ _ (by show w.heap.size + 1 ≠ w.heap.size + 1 + 1; omega)]; exact hr2
  have hbel3 := ((hbel.setCell (p := ⟨w.heap.size + 1 + 1, 20, none⟩) (by show w.heap.size ≤ w.heap.size + 1 + 1; omega) (.int .u64 a5)).setCell (p := ⟨w.heap.size + 1 + 1, 21, none⟩) (by show w.heap.size ≤ w.heap.size + 1 + 1; omega) (.int .u32 a6)).setCell (p := ⟨w.heap.size + 1 + 1, 22, none⟩) (by show w.heap.size ≤ w.heap.size + 1 + 1; omega) (.int .u32 a7)
  have c20 : w2.cell? ⟨w.heap.size + 1 + 1, 20, none⟩ = some C2[20] := by rw [cell_of_row _ _ _ _ _ _ hb2]; simp
  have c21 : w2.cell? ⟨w.heap.size + 1 + 1, 21, none⟩ = some C2[21] := by rw [cell_of_row _ _ _ _ _ _ hb2]; simp
  have c22 : w2.cell? ⟨w.heap.size + 1 + 1, 22, none⟩ = some C2[22] := by rw [cell_of_row _ _ _ _ _ _ hb2]; simp
  have f20 : w2.frozen? ⟨w.heap.size + 1 + 1, 20, none⟩ = false := frozen_of_row _ _ _ _ _ hb2
  have f21 : w2.frozen? ⟨w.heap.size + 1 + 1, 21, none⟩ = false := frozen_of_row _ _ _ _ _ hb2
  have f22 : w2.frozen? ⟨w.heap.size + 1 + 1, 22, none⟩ = false := frozen_of_row _ _ _ _ _ hb2
  generalize C2[20] = x20 at c20
  generalize C2[21] = x21 at c21
  generalize C2[22] = x22 at c22
  have hi3 : (Try.prog.info? 27).map (·.size) = some C3.size := by rw [hz4]; exact info27
  have H3 : Hid (C3.size = 23 ∧ C3[1]? = some (.int .u64 a1)) := ⟨hz4, h31⟩
  clear hb2 hr2 hbel hz3 h21 hall hz4 h31
  have hold : Z.size = C3.size := by rw [hZ, H3.out.1]
  go_wp2_with (first | (refine wpList_load_row rfl 27 _ rfl _ rfl 27 _ (0, 0) _ ?hl2 Try.underlying27 rfl hi3 ?_) | (refine wpList_store_row rfl 27 _ _ rfl _ _ rfl rfl 27 Z ?hr4 hi3 hold hall3 ?_))
  case hl2 => exact hb3
  case hr4 => exact hr3
  refine bodyPost_ret (v := .agg C3) ?_ rfl ⟨C3, rfl, H3.out.1, H3.out.2, hall3, ?_⟩
  · exact results_cell_row Try.results7 _ _ (w.heap.size + 1) 27 C3 (0, 0) _ rfl (setRow_heap _ _ _ _ _ _ hr3) Try.underlying27 rfl hi3
  · exact below_setRow hbel3 (by omega) _
end Go.Proofs.Qxb6617366a
