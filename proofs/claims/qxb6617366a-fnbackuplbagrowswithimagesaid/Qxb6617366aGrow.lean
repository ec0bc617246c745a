import Derived.Test.Qxb6617366aZb
namespace Go.Proofs.Qxb6617366a
open Go.RowKit

theorem grow_small (a0 a1 a2 a3 a5 a6 a7 s1 s2 : Int) (g : Array Value) (hs : s1 < 512) (w : World) :
    Calls Try.prog 4 #[.int .u64 a0, .int .u64 a1, .int .u64 a2, .int .u64 a3, .agg g, .int .u64 a5, .int .u32 a6, .int .u32 a7, .int .i64 s1, .int .i64 s2] w fun e w' => e = .returned (.bool true) ∧ Below w.heap.size w w' := by
  go_enter Try.func4, Try.ntmps4
  go_wp2
  go_ret
  exact ⟨rfl, (Below.refl _ _).alloc (Nat.le_refl _) _⟩

theorem grow_order (a0 a1 a2 a3 a5 a6 a7 s1 s2 : Int) (g : Array Value) (hs : 512 ≤ s1) (h2 : s2 < s1) (w : World) :
    Calls Try.prog 4 #[.int .u64 a0, .int .u64 a1, .int .u64 a2, .int .u64 a3, .agg g, .int .u64 a5, .int .u32 a6, .int .u32 a7, .int .i64 s1, .int .i64 s2] w fun e w' => e = .returned (.bool true) ∧ Below w.heap.size w w' := by
  go_enter Try.func4, Try.ntmps4
  go_wp2
  go_ret
  exact ⟨rfl, (Below.refl _ _).alloc (Nat.le_refl _) _⟩

set_option maxHeartbeats 1000000 in
theorem grow_a (a0 a1 a2 a3 a5 a6 a7 s1 s2 : Int) (g : Array Value) (hz : g.size = 16) (h1 : g.all (·.oneCell') = true) (hs : 512 ≤ s1) (hss : s1 ≤ s2) (hs' : s2 ≤ 9223372036854775807) (hl : 1 < a1) (hl' : a1 < s1 / 512 - 1) (w : World) :
    Calls Try.prog 4 #[.int .u64 a0, .int .u64 a1, .int .u64 a2, .int .u64 a3, .agg g, .int .u64 a5, .int .u32 a6, .int .u32 a7, .int .i64 s1, .int .i64 s2] w fun e w' => e = .returned (.bool true) ∧ Below w.heap.size w w' := by
  have hi23 : (Try.prog.info? 23).map (·.size) = some g.size := by rw [hz]; exact info23
  go_enter Try.func4, Try.ntmps4
  go_wp2_with (refine wpList_load_new rfl 23 _ rfl _ _ rfl _ Try.underlying23 rfl hi23 ?_)
  refine (make_any a0 a1 a2 a3 a5 a6 a7 g hz h1 _).mono ?_
  rintro e w1 ⟨h, rfl, hz1, h11, hall1, hb1⟩
  have hi1 : (Try.prog.info? 27).map (·.size) = some h.size := by rw [hz1]; exact info27
  go_wp2_with (first | (refine wpList_load_new rfl 27 _ rfl _ _ rfl _ Try.underlying27 rfl hi1 ?_) | (refine wpList_store_new rfl 27 _ _ rfl _ _ _ rfl rfl hi1 hz1.symm hall1 ?_))
  refine (zback_named h a1 s1 hz1 h11 (by omega) (by omega) (by omega) (by omega) _).mono ?_
  rintro e w2 ⟨rfl, hb2⟩
  have hg2 : w2.heap[w1.heap.size]? = some (.cells h 27 (0, 0)) := (hb2.block _ (by simp)).trans (heap_alloc_last w1 _)
  have B2 : Below w.heap.size w w2 := by
    have := hb1.size
    simp at this
    exact ((Below.refl _ _).alloc (Nat.le_refl _) _).trans (((hb1.mono (by simp)).alloc (by omega) _).trans (hb2.mono (by simp; omega)))
  clear hb1 hb2 hall1
  go_wp2_with (refine wpList_load_row rfl 27 _ rfl _ rfl 27 _ (0, 0) _ ?hl2 Try.underlying27 rfl hi1 ?_)
  case hl2 => exact hg2
  refine (zback_named h a1 s2 hz1 h11 (by omega) (by omega) (by omega) (by omega) _).mono ?_
  rintro e w3 ⟨rfl, hb3⟩
  have B3 : Below w.heap.size w w3 := B2.trans (hb3.mono B2.size)
  clear hb3 B2 hg2 h11 hz1 hi1
  go_wp2_with (first | (go_at_call 9; refine (fits_yes _ _ (by omega) (by omega) (by omega) _).mono ?_; rintro e w' ⟨rfl, rfl⟩) | (go_at_call 10; first | (refine (next_no _ _ (by omega) (by omega) (by omega) (by omega) _).mono ?_; rintro e w' ⟨rfl, rfl⟩) | (refine (next_yes _ _ (by omega) (by omega) (by omega) _).mono ?_; rintro e w' ⟨rfl, rfl⟩)))
  go_ret
  exact ⟨rfl, B3⟩

set_option maxHeartbeats 1000000 in
theorem grow_b (a0 a1 a2 a3 a5 a6 a7 s1 s2 : Int) (g : Array Value) (hz : g.size = 16) (h1 : g.all (·.oneCell') = true) (hs : 512 ≤ s1) (hss : s1 ≤ s2) (hs' : s2 ≤ 9223372036854775807) (ha : 0 ≤ a1) (hl : a1 ≤ 1) (hl' : a1 < s2 / 512 - 1) (w : World) :
    Calls Try.prog 4 #[.int .u64 a0, .int .u64 a1, .int .u64 a2, .int .u64 a3, .agg g, .int .u64 a5, .int .u32 a6, .int .u32 a7, .int .i64 s1, .int .i64 s2] w fun e w' => e = .returned (.bool true) ∧ Below w.heap.size w w' := by
  have hi23 : (Try.prog.info? 23).map (·.size) = some g.size := by rw [hz]; exact info23
  go_enter Try.func4, Try.ntmps4
  go_wp2_with (refine wpList_load_new rfl 23 _ rfl _ _ rfl _ Try.underlying23 rfl hi23 ?_)
  refine (make_any a0 a1 a2 a3 a5 a6 a7 g hz h1 _).mono ?_
  rintro e w1 ⟨h, rfl, hz1, h11, hall1, hb1⟩
  have hi1 : (Try.prog.info? 27).map (·.size) = some h.size := by rw [hz1]; exact info27
  go_wp2_with (first | (refine wpList_load_new rfl 27 _ rfl _ _ rfl _ Try.underlying27 rfl hi1 ?_) | (refine wpList_store_new rfl 27 _ _ rfl _ _ _ rfl rfl hi1 hz1.symm hall1 ?_))
  refine (zback_last h a1 s1 hz1 h11 (by omega) (by omega) (by omega) _).mono ?_
  rintro e w2 ⟨rfl, hb2⟩
  have hg2 : w2.heap[w1.heap.size]? = some (.cells h 27 (0, 0)) := (hb2.block _ (by simp)).trans (heap_alloc_last w1 _)
  have B2 : Below w.heap.size w w2 := by
    have := hb1.size
    simp at this
    exact ((Below.refl _ _).alloc (Nat.le_refl _) _).trans (((hb1.mono (by simp)).alloc (by omega) _).trans (hb2.mono (by simp; omega)))
  clear hb1 hb2 hall1
  go_wp2_with (refine wpList_load_row rfl 27 _ rfl _ rfl 27 _ (0, 0) _ ?hl2 Try.underlying27 rfl hi1 ?_)
  case hl2 => exact hg2
  refine (zback_last h a1 s2 hz1 h11 (by omega) (by omega) (by omega) _).mono ?_
  rintro e w3 ⟨rfl, hb3⟩
  have B3 : Below w.heap.size w w3 := B2.trans (hb3.mono B2.size)
  clear hb3 B2 hg2 h11 hz1 hi1
  go_wp2_with (first | (go_at_call 9; refine (fits_yes _ _ (by omega) (by omega) (by omega) _).mono ?_; rintro e w' ⟨rfl, rfl⟩) | (go_at_call 10; first | (refine (next_no _ _ (by omega) (by omega) (by omega) (by omega) _).mono ?_; rintro e w' ⟨rfl, rfl⟩) | (refine (next_yes _ _ (by omega) (by omega) (by omega) _).mono ?_; rintro e w' ⟨rfl, rfl⟩)))
  go_ret
  exact ⟨rfl, B3⟩

set_option maxHeartbeats 1000000 in
theorem grow_b' (a0 a1 a2 a3 a5 a6 a7 s1 s2 : Int) (g : Array Value) (hz : g.size = 16) (h1 : g.all (·.oneCell') = true) (hs : 512 ≤ s1) (hss : s1 ≤ s2) (hs' : s2 ≤ 9223372036854775807) (hl : a1 ≤ 1) (ha : 0 ≤ a1) (hl' : s2 / 512 - 1 < a1) (w : World) :
    Calls Try.prog 4 #[.int .u64 a0, .int .u64 a1, .int .u64 a2, .int .u64 a3, .agg g, .int .u64 a5, .int .u32 a6, .int .u32 a7, .int .i64 s1, .int .i64 s2] w fun e w' => e = .returned (.bool true) ∧ Below w.heap.size w w' := by
  have hi23 : (Try.prog.info? 23).map (·.size) = some g.size := by rw [hz]; exact info23
  go_enter Try.func4, Try.ntmps4
  go_wp2_with (refine wpList_load_new rfl 23 _ rfl _ _ rfl _ Try.underlying23 rfl hi23 ?_)
  refine (make_any a0 a1 a2 a3 a5 a6 a7 g hz h1 _).mono ?_
  rintro e w1 ⟨h, rfl, hz1, h11, hall1, hb1⟩
  have hi1 : (Try.prog.info? 27).map (·.size) = some h.size := by rw [hz1]; exact info27
  go_wp2_with (first | (refine wpList_load_new rfl 27 _ rfl _ _ rfl _ Try.underlying27 rfl hi1 ?_) | (refine wpList_store_new rfl 27 _ _ rfl _ _ _ rfl rfl hi1 hz1.symm hall1 ?_))
  refine (zback_last h a1 s1 hz1 h11 (by omega) (by omega) (by omega) _).mono ?_
  rintro e w2 ⟨rfl, hb2⟩
  have hg2 : w2.heap[w1.heap.size]? = some (.cells h 27 (0, 0)) := (hb2.block _ (by simp)).trans (heap_alloc_last w1 _)
  have B2 : Below w.heap.size w w2 := by
    have := hb1.size
    simp at this
    exact ((Below.refl _ _).alloc (Nat.le_refl _) _).trans (((hb1.mono (by simp)).alloc (by omega) _).trans (hb2.mono (by simp; omega)))
  clear hb1 hb2 hall1
  go_wp2_with (refine wpList_load_row rfl 27 _ rfl _ rfl 27 _ (0, 0) _ ?hl2 Try.underlying27 rfl hi1 ?_)
  case hl2 => exact hg2
  refine (zback_last h a1 s2 hz1 h11 (by omega) (by omega) (by omega) _).mono ?_
  rintro e w3 ⟨rfl, hb3⟩
  have B3 : Below w.heap.size w w3 := B2.trans (hb3.mono B2.size)
  clear hb3 B2 hg2 h11 hz1 hi1
  go_wp2_with (first | (go_at_call 9; refine (fits_yes _ _ (by omega) (by omega) (by omega) _).mono ?_; rintro e w' ⟨rfl, rfl⟩) | (go_at_call 10; first | (refine (next_no _ _ (by omega) (by omega) (by omega) (by omega) _).mono ?_; rintro e w' ⟨rfl, rfl⟩) | (refine (next_yes _ _ (by omega) (by omega) (by omega) _).mono ?_; rintro e w' ⟨rfl, rfl⟩)))
  go_ret
  exact ⟨rfl, B3⟩

set_option maxHeartbeats 1000000 in
theorem grow_b0 (a0 a2 a3 a5 a6 a7 s1 s2 : Int) (g : Array Value) (hz : g.size = 16) (h1 : g.all (·.oneCell') = true) (hs : 512 ≤ s1) (hss : s1 ≤ s2) (hs' : s2 ≤ 9223372036854775807) (hl : s2 / 512 - 1 ≤ 1) (w : World) :
    Calls Try.prog 4 #[.int .u64 a0, .int .u64 (s2 / 512 - 1), .int .u64 a2, .int .u64 a3, .agg g, .int .u64 a5, .int .u32 a6, .int .u32 a7, .int .i64 s1, .int .i64 s2] w fun e w' => e = .returned (.bool true) ∧ Below w.heap.size w w' := by
  have hi23 : (Try.prog.info? 23).map (·.size) = some g.size := by rw [hz]; exact info23
  go_enter Try.func4, Try.ntmps4
  go_wp2_with (refine wpList_load_new rfl 23 _ rfl _ _ rfl _ Try.underlying23 rfl hi23 ?_)
  refine (make_any a0 (s2 / 512 - 1) a2 a3 a5 a6 a7 g hz h1 _).mono ?_
  rintro e w1 ⟨h, rfl, hz1, h11, hall1, hb1⟩
  have hi1 : (Try.prog.info? 27).map (·.size) = some h.size := by rw [hz1]; exact info27
  go_wp2_with (first | (refine wpList_load_new rfl 27 _ rfl _ _ rfl _ Try.underlying27 rfl hi1 ?_) | (refine wpList_store_new rfl 27 _ _ rfl _ _ _ rfl rfl hi1 hz1.symm hall1 ?_))
  refine (zback_last h (s2 / 512 - 1) s1 hz1 h11 (by omega) (by omega) (by omega) _).mono ?_
  rintro e w2 ⟨rfl, hb2⟩
  have hg2 : w2.heap[w1.heap.size]? = some (.cells h 27 (0, 0)) := (hb2.block _ (by simp)).trans (heap_alloc_last w1 _)
  have B2 : Below w.heap.size w w2 := by
    have := hb1.size
    simp at this
    exact ((Below.refl _ _).alloc (Nat.le_refl _) _).trans (((hb1.mono (by simp)).alloc (by omega) _).trans (hb2.mono (by simp; omega)))
  clear hb1 hb2 hall1
  go_wp2_with (refine wpList_load_row rfl 27 _ rfl _ rfl 27 _ (0, 0) _ ?hl2 Try.underlying27 rfl hi1 ?_)
  case hl2 => exact hg2
  refine (zback_last h (s2 / 512 - 1) s2 hz1 h11 (by omega) (by omega) (by omega) _).mono ?_
  rintro e w3 ⟨rfl, hb3⟩
  have B3 : Below w.heap.size w w3 := B2.trans (hb3.mono B2.size)
  clear hb3 B2 hg2 h11 hz1 hi1
  go_wp2_with (first | (go_at_call 9; refine (fits_yes _ _ (by omega) (by omega) (by omega) _).mono ?_; rintro e w' ⟨rfl, rfl⟩) | (go_at_call 10; first | (refine (next_no _ _ (by omega) (by omega) (by omega) (by omega) _).mono ?_; rintro e w' ⟨rfl, rfl⟩) | (refine (next_yes _ _ (by omega) (by omega) (by omega) _).mono ?_; rintro e w' ⟨rfl, rfl⟩)))
  go_ret
  exact ⟨rfl, B3⟩

set_option maxHeartbeats 1000000 in
theorem grow_c (a0 a1 a2 a3 a5 a6 a7 s1 s2 : Int) (g : Array Value) (hz : g.size = 16) (h1 : g.all (·.oneCell') = true) (hs : 512 ≤ s1) (hss : s1 ≤ s2) (hs' : s2 ≤ 9223372036854775807) (hl : 1 < a1) (hl' : s1 / 512 - 1 ≤ a1) (hl2 : a1 < s2 / 512 - 1) (w : World) :
    Calls Try.prog 4 #[.int .u64 a0, .int .u64 a1, .int .u64 a2, .int .u64 a3, .agg g, .int .u64 a5, .int .u32 a6, .int .u32 a7, .int .i64 s1, .int .i64 s2] w fun e w' => e = .returned (.bool true) ∧ Below w.heap.size w w' := by
  have hi23 : (Try.prog.info? 23).map (·.size) = some g.size := by rw [hz]; exact info23
  go_enter Try.func4, Try.ntmps4
  go_wp2_with (refine wpList_load_new rfl 23 _ rfl _ _ rfl _ Try.underlying23 rfl hi23 ?_)
  refine (make_any a0 a1 a2 a3 a5 a6 a7 g hz h1 _).mono ?_
  rintro e w1 ⟨h, rfl, hz1, h11, hall1, hb1⟩
  have hi1 : (Try.prog.info? 27).map (·.size) = some h.size := by rw [hz1]; exact info27
  go_wp2_with (first | (refine wpList_load_new rfl 27 _ rfl _ _ rfl _ Try.underlying27 rfl hi1 ?_) | (refine wpList_store_new rfl 27 _ _ rfl _ _ _ rfl rfl hi1 hz1.symm hall1 ?_))
  refine (zback_last h a1 s1 hz1 h11 (by omega) (by omega) (by omega) _).mono ?_
  rintro e w2 ⟨rfl, hb2⟩
  have hg2 : w2.heap[w1.heap.size]? = some (.cells h 27 (0, 0)) := (hb2.block _ (by simp)).trans (heap_alloc_last w1 _)
  have B2 : Below w.heap.size w w2 := by
    have := hb1.size
    simp at this
    exact ((Below.refl _ _).alloc (Nat.le_refl _) _).trans (((hb1.mono (by simp)).alloc (by omega) _).trans (hb2.mono (by simp; omega)))
  clear hb1 hb2 hall1
  go_wp2_with (refine wpList_load_row rfl 27 _ rfl _ rfl 27 _ (0, 0) _ ?hl2 Try.underlying27 rfl hi1 ?_)
  case hl2 => exact hg2
  refine (zback_named h a1 s2 hz1 h11 (by omega) (by omega) (by omega) (by omega) _).mono ?_
  rintro e w3 ⟨rfl, hb3⟩
  have B3 : Below w.heap.size w w3 := B2.trans (hb3.mono B2.size)
  clear hb3 B2 hg2 h11 hz1 hi1
  go_wp2_with (first | (go_at_call 9; refine (fits_yes _ _ (by omega) (by omega) (by omega) _).mono ?_; rintro e w' ⟨rfl, rfl⟩) | (go_at_call 10; first | (refine (next_no _ _ (by omega) (by omega) (by omega) (by omega) _).mono ?_; rintro e w' ⟨rfl, rfl⟩) | (refine (next_yes _ _ (by omega) (by omega) (by omega) _).mono ?_; rintro e w' ⟨rfl, rfl⟩)))
  go_ret
  exact ⟨rfl, B3⟩

set_option maxHeartbeats 1000000 in
theorem grow_d (a0 a1 a2 a3 a5 a6 a7 s1 s2 : Int) (g : Array Value) (hz : g.size = 16) (h1 : g.all (·.oneCell') = true) (hs : 512 ≤ s1) (hss : s1 ≤ s2) (hs' : s2 ≤ 9223372036854775807) (hl : 1 < a1) (hl' : s2 / 512 - 1 < a1) (w : World) :
    Calls Try.prog 4 #[.int .u64 a0, .int .u64 a1, .int .u64 a2, .int .u64 a3, .agg g, .int .u64 a5, .int .u32 a6, .int .u32 a7, .int .i64 s1, .int .i64 s2] w fun e w' => e = .returned (.bool true) ∧ Below w.heap.size w w' := by
  have hi23 : (Try.prog.info? 23).map (·.size) = some g.size := by rw [hz]; exact info23
  go_enter Try.func4, Try.ntmps4
  go_wp2_with (refine wpList_load_new rfl 23 _ rfl _ _ rfl _ Try.underlying23 rfl hi23 ?_)
  refine (make_any a0 a1 a2 a3 a5 a6 a7 g hz h1 _).mono ?_
  rintro e w1 ⟨h, rfl, hz1, h11, hall1, hb1⟩
  have hi1 : (Try.prog.info? 27).map (·.size) = some h.size := by rw [hz1]; exact info27
  go_wp2_with (first | (refine wpList_load_new rfl 27 _ rfl _ _ rfl _ Try.underlying27 rfl hi1 ?_) | (refine wpList_store_new rfl 27 _ _ rfl _ _ _ rfl rfl hi1 hz1.symm hall1 ?_))
  refine (zback_last h a1 s1 hz1 h11 (by omega) (by omega) (by omega) _).mono ?_
  rintro e w2 ⟨rfl, hb2⟩
  have hg2 : w2.heap[w1.heap.size]? = some (.cells h 27 (0, 0)) := (hb2.block _ (by simp)).trans (heap_alloc_last w1 _)
  have B2 : Below w.heap.size w w2 := by
    have := hb1.size
    simp at this
    exact ((Below.refl _ _).alloc (Nat.le_refl _) _).trans (((hb1.mono (by simp)).alloc (by omega) _).trans (hb2.mono (by simp; omega)))
  clear hb1 hb2 hall1
  go_wp2_with (refine wpList_load_row rfl 27 _ rfl _ rfl 27 _ (0, 0) _ ?hl2 Try.underlying27 rfl hi1 ?_)
  case hl2 => exact hg2
  refine (zback_last h a1 s2 hz1 h11 (by omega) (by omega) (by omega) _).mono ?_
  rintro e w3 ⟨rfl, hb3⟩
  have B3 : Below w.heap.size w w3 := B2.trans (hb3.mono B2.size)
  clear hb3 B2 hg2 h11 hz1 hi1
  go_wp2_with (first | (go_at_call 9; refine (fits_yes _ _ (by omega) (by omega) (by omega) _).mono ?_; rintro e w' ⟨rfl, rfl⟩) | (go_at_call 10; first | (refine (next_no _ _ (by omega) (by omega) (by omega) (by omega) _).mono ?_; rintro e w' ⟨rfl, rfl⟩) | (refine (next_yes _ _ (by omega) (by omega) (by omega) _).mono ?_; rintro e w' ⟨rfl, rfl⟩)))
  go_ret
  exact ⟨rfl, B3⟩

set_option maxHeartbeats 1000000 in
theorem grow_d0 (a0 a2 a3 a5 a6 a7 s1 s2 : Int) (g : Array Value) (hz : g.size = 16) (h1 : g.all (·.oneCell') = true) (hs : 512 ≤ s1) (hss : s1 ≤ s2) (hs' : s2 ≤ 9223372036854775807) (hl : 1 < s2 / 512 - 1) (w : World) :
    Calls Try.prog 4 #[.int .u64 a0, .int .u64 (s2 / 512 - 1), .int .u64 a2, .int .u64 a3, .agg g, .int .u64 a5, .int .u32 a6, .int .u32 a7, .int .i64 s1, .int .i64 s2] w fun e w' => e = .returned (.bool true) ∧ Below w.heap.size w w' := by
  have hi23 : (Try.prog.info? 23).map (·.size) = some g.size := by rw [hz]; exact info23
  go_enter Try.func4, Try.ntmps4
  go_wp2_with (refine wpList_load_new rfl 23 _ rfl _ _ rfl _ Try.underlying23 rfl hi23 ?_)
  refine (make_any a0 (s2 / 512 - 1) a2 a3 a5 a6 a7 g hz h1 _).mono ?_
  rintro e w1 ⟨h, rfl, hz1, h11, hall1, hb1⟩
  have hi1 : (Try.prog.info? 27).map (·.size) = some h.size := by rw [hz1]; exact info27
  go_wp2_with (first | (refine wpList_load_new rfl 27 _ rfl _ _ rfl _ Try.underlying27 rfl hi1 ?_) | (refine wpList_store_new rfl 27 _ _ rfl _ _ _ rfl rfl hi1 hz1.symm hall1 ?_))
  refine (zback_last h (s2 / 512 - 1) s1 hz1 h11 (by omega) (by omega) (by omega) _).mono ?_
  rintro e w2 ⟨rfl, hb2⟩
  have hg2 : w2.heap[w1.heap.size]? = some (.cells h 27 (0, 0)) := (hb2.block _ (by simp)).trans (heap_alloc_last w1 _)
  have B2 : Below w.heap.size w w2 := by
    have := hb1.size
    simp at this
    exact ((Below.refl _ _).alloc (Nat.le_refl _) _).trans (((hb1.mono (by simp)).alloc (by omega) _).trans (hb2.mono (by simp; omega)))
  clear hb1 hb2 hall1
  go_wp2_with (refine wpList_load_row rfl 27 _ rfl _ rfl 27 _ (0, 0) _ ?hl2 Try.underlying27 rfl hi1 ?_)
  case hl2 => exact hg2
  refine (zback_last h (s2 / 512 - 1) s2 hz1 h11 (by omega) (by omega) (by omega) _).mono ?_
  rintro e w3 ⟨rfl, hb3⟩
  have B3 : Below w.heap.size w w3 := B2.trans (hb3.mono B2.size)
  clear hb3 B2 hg2 h11 hz1 hi1
  go_wp2_with (first | (go_at_call 9; refine (fits_yes _ _ (by omega) (by omega) (by omega) _).mono ?_; rintro e w' ⟨rfl, rfl⟩) | (go_at_call 10; first | (refine (next_no _ _ (by omega) (by omega) (by omega) (by omega) _).mono ?_; rintro e w' ⟨rfl, rfl⟩) | (refine (next_yes _ _ (by omega) (by omega) (by omega) _).mono ?_; rintro e w' ⟨rfl, rfl⟩)))
  go_ret
  exact ⟨rfl, B3⟩
end Go.Proofs.Qxb6617366a
