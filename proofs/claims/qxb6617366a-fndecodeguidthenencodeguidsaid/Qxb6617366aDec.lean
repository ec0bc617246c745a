import Derived.Test.Qxb6617366aGuid
import Derived.Deep.RegionHeld3
namespace Go.Proofs.Qxb6617366a
open Go.RowKit

theorem info25' : (Try.prog.info? 25).map (·.size) = some 16 := by kernel_rfl

theorem setCells_far (w : World) (g o : Nat) (vs : List Value) (b i : Nat) (h : g ≠ b) : (w.setCells g o vs).cell? ⟨b, i, none⟩ = w.cell? ⟨b, i, none⟩ :=
  World.cell?_setCells_out g vs o w _ (fun e _ => absurd e.symm h)

theorem there_new (w : World) (C : Array Value) (t : TypeId) : (w.alloc (.cells C t)).drew.there w.heap.size 0 C.size := fun j hj => by
  have h := heap_alloc_last w (.cells C t)
  refine ⟨?_, ?_⟩
  · show ((w.alloc (.cells C t)).cell? _).isSome = true
    rw [cell_of_row _ _ _ C t (0, 0) h]; simp; omega
  · exact frozen_of_row _ _ _ C t h

/-- WHAT THE STORE OF THE WHOLE ARRAY LEAVES in the block. -/
theorem stored_row (w : World) (C : Array Value) (t : TypeId) (vs : List Value) (hz : C.size = vs.length) : ((w.alloc (.cells C t)).drew.setCells w.heap.size 0 vs).heap[w.heap.size]? = some (.cells vs.toArray t (0, 0)) := by
  obtain ⟨C', h, z, _, q⟩ := heap_setCells_same w.heap.size t vs 0 (w.alloc (.cells C t)).drew C (heap_alloc_last w _) (by omega)
  rw [h]
  congr 2
  apply Array.ext_getElem?
  intro i
  by_cases hi : i < vs.length
  · have := q i hi
    rw [Nat.zero_add] at this
    simpa using this
  · rw [Array.getElem?_eq_none (by omega), Array.getElem?_eq_none (by simp; omega)]

set_option maxHeartbeats 2000000 in
theorem dec_any (b n c : Nat) (z : Nat → Int) (hn : 16 ≤ n) (w : World) (hr : w.rowIs b 5 n (fun i => .int .u8 (z i))) :
    Calls Try.prog 23 #[.slice (some ⟨b, 0, none⟩) n c] w fun e w' => e = .returned (.agg (guidOf (fun i => z (perm i)))) ∧ Below w.heap.size w w' := by
  have hb := hr.lt
  have cs : ∀ i, i < 16 → w.cell? ⟨b, i, none⟩ = some (.int .u8 (z i)) := fun i hi => hr.cell (by omega)
  have s0 := cs 0 (by decide); have s1 := cs 1 (by decide); have s2 := cs 2 (by decide); have s3 := cs 3 (by decide); have s4 := cs 4 (by decide); have s5 := cs 5 (by decide); have s6 := cs 6 (by decide); have s7 := cs 7 (by decide)
  have s8 := cs 8 (by decide); have s9 := cs 9 (by decide); have s10 := cs 10 (by decide); have s11 := cs 11 (by decide); have s12 := cs 12 (by decide); have s13 := cs 13 (by decide); have s14 := cs 14 (by decide); have s15 := cs 15 (by decide)
  clear cs hr
  have q0 : 0 < n := by omega
  have hne : w.heap.size ≠ b := by omega
  have q1 : (1 : Int) < (n : Int) := by omega
  have q2 : (2 : Int) < (n : Int) := by omega
  have q3 : (3 : Int) < (n : Int) := by omega
  have q4 : (4 : Int) < (n : Int) := by omega
  have q5 : (5 : Int) < (n : Int) := by omega
  have q6 : (6 : Int) < (n : Int) := by omega
  have q7 : (7 : Int) < (n : Int) := by omega
  have q8 : (8 : Int) < (n : Int) := by omega
  have q9 : (9 : Int) < (n : Int) := by omega
  have q10 : (10 : Int) < (n : Int) := by omega
  have q11 : (11 : Int) < (n : Int) := by omega
  have q12 : (12 : Int) < (n : Int) := by omega
  have q13 : (13 : Int) < (n : Int) := by omega
  have q14 : (14 : Int) < (n : Int) := by omega
  have q15 : (15 : Int) < (n : Int) := by omega
  have hone : ∀ v ∈ ([.int .u8 (z 3), .int .u8 (z 2), .int .u8 (z 1), .int .u8 (z 0), .int .u8 (z 5), .int .u8 (z 4), .int .u8 (z 7), .int .u8 (z 6), .int .u8 (z 8), .int .u8 (z 9), .int .u8 (z 10), .int .u8 (z 11), .int .u8 (z 12), .int .u8 (z 13), .int .u8 (z 14), .int .u8 (z 15)] : List Value), v.oneCell' = true := by simp [Value.oneCell']
  have hi : (Try.prog.info? 25).map (·.size) = some ([.int .u8 (z 3), .int .u8 (z 2), .int .u8 (z 1), .int .u8 (z 0), .int .u8 (z 5), .int .u8 (z 4), .int .u8 (z 7), .int .u8 (z 6), .int .u8 (z 8), .int .u8 (z 9), .int .u8 (z 10), .int .u8 (z 11), .int .u8 (z 12), .int .u8 (z 13), .int .u8 (z 14), .int .u8 (z 15)] : List Value).length := info25'
  have hth : (w.alloc (.cells #[.int .u8 0, .int .u8 0, .int .u8 0, .int .u8 0, .int .u8 0, .int .u8 0, .int .u8 0, .int .u8 0, .int .u8 0, .int .u8 0, .int .u8 0, .int .u8 0, .int .u8 0, .int .u8 0, .int .u8 0, .int .u8 0] 25)).drew.there w.heap.size 0 ([.int .u8 (z 3), .int .u8 (z 2), .int .u8 (z 1), .int .u8 (z 0), .int .u8 (z 5), .int .u8 (z 4), .int .u8 (z 7), .int .u8 (z 6), .int .u8 (z 8), .int .u8 (z 9), .int .u8 (z 10), .int .u8 (z 11), .int .u8 (z 12), .int .u8 (z 13), .int .u8 (z 14), .int .u8 (z 15)] : List Value).length := there_new w _ 25
  go_enter Try.func23, Try.ntmps23
  go_wp2
  go_region_held3 (fun v => v.cell? ⟨b, 0, none⟩ = some (.int .u8 (z 0)) ∧ v.cell? ⟨b, 1, none⟩ = some (.int .u8 (z 1)) ∧ v.cell? ⟨b, 2, none⟩ = some (.int .u8 (z 2)) ∧ v.cell? ⟨b, 3, none⟩ = some (.int .u8 (z 3)) ∧ v.cell? ⟨b, 4, none⟩ = some (.int .u8 (z 4)) ∧ v.cell? ⟨b, 5, none⟩ = some (.int .u8 (z 5)) ∧ v.cell? ⟨b, 6, none⟩ = some (.int .u8 (z 6)) ∧ v.cell? ⟨b, 7, none⟩ = some (.int .u8 (z 7)) ∧ v.cell? ⟨b, 8, none⟩ = some (.int .u8 (z 8)) ∧ v.cell? ⟨b, 9, none⟩ = some (.int .u8 (z 9)) ∧ v.cell? ⟨b, 10, none⟩ = some (.int .u8 (z 10)) ∧ v.cell? ⟨b, 11, none⟩ = some (.int .u8 (z 11)) ∧ v.cell? ⟨b, 12, none⟩ = some (.int .u8 (z 12)) ∧ v.cell? ⟨b, 13, none⟩ = some (.int .u8 (z 13)) ∧ v.cell? ⟨b, 14, none⟩ = some (.int .u8 (z 14)) ∧ v.cell? ⟨b, 15, none⟩ = some (.int .u8 (z 15))) (first | go_keep | simp [*, setCells_far]) (fail)
  go_wp2
  refine bodyPost_ret (v := .agg (guidOf (fun i => z (perm i)))) ?_ rfl ⟨rfl, ?_⟩
  · exact results_cell_row Try.results23 _ _ w.heap.size 25 (guidOf (fun i => z (perm i))) (0, 0) _ rfl (stored_row w _ 25 [.int .u8 (z 3), .int .u8 (z 2), .int .u8 (z 1), .int .u8 (z 0), .int .u8 (z 5), .int .u8 (z 4), .int .u8 (z 7), .int .u8 (z 6), .int .u8 (z 8), .int .u8 (z 9), .int .u8 (z 10), .int .u8 (z 11), .int .u8 (z 12), .int .u8 (z 13), .int .u8 (z 14), .int .u8 (z 15)] rfl) Try.underlying25 rfl info25'
  · exact (((Below.refl _ _).alloc (Nat.le_refl _) _).drew).grown (grown_setCells _ _ _ _) (by simp) (fun k hk => by cases hk; exact Nat.le_refl _)
end Go.Proofs.Qxb6617366a
