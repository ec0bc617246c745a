import Derived.Test.Qxb6617366aZb
namespace Go.Proofs.Qxb6617366a
open Go.RowKit

theorem named_small (a0 a1 a2 a3 a5 a6 a7 s : Int) (g : Array Value) (hs : s < 512) (w : World) :
    Calls Try.prog 3 #[.int .u64 a0, .int .u64 a1, .int .u64 a2, .int .u64 a3, .agg g, .int .u64 a5, .int .u32 a6, .int .u32 a7, .int .i64 s] w fun e w' => e = .returned (.bool true) ∧ Below w.heap.size w w' := by
  go_enter Try.func3, Try.ntmps3
  go_wp2
  go_ret
  exact ⟨rfl, (Below.refl _ _).alloc (Nat.le_refl _) _⟩

set_option maxHeartbeats 1000000 in
theorem named_alt (a0 a1 a2 a3 a5 a6 a7 s : Int) (g : Array Value) (hz : g.size = 16) (h1 : g.all (·.oneCell') = true) (hs : 512 ≤ s) (hs' : s ≤ 9223372036854775807) (hl : 1 < a1) (hl' : a1 < s / 512 - 1) (w : World) :
    Calls Try.prog 3 #[.int .u64 a0, .int .u64 a1, .int .u64 a2, .int .u64 a3, .agg g, .int .u64 a5, .int .u32 a6, .int .u32 a7, .int .i64 s] w fun e w' => e = .returned (.bool true) ∧ Below w.heap.size w w' := by
  have hi23 : (Try.prog.info? 23).map (·.size) = some g.size := by rw [hz]; exact info23
  go_enter Try.func3, Try.ntmps3
  go_wp2_with (refine wpList_load_new rfl 23 _ rfl _ _ rfl _ Try.underlying23 rfl hi23 ?_)
  refine (make_any a0 a1 a2 a3 a5 a6 a7 g hz h1 _).mono ?_
  rintro e w1 ⟨h, rfl, hz1, h11, hall1, hb1⟩
  have hi1 : (Try.prog.info? 27).map (·.size) = some h.size := by rw [hz1]; exact info27
  go_wp2_with (first | (refine wpList_load_new rfl 27 _ rfl _ _ rfl _ Try.underlying27 rfl hi1 ?_) | (refine wpList_store_new rfl 27 _ _ rfl _ _ _ rfl rfl hi1 hz1.symm hall1 ?_))
  refine (zback_named h a1 s hz1 h11 hl hl' hs hs' _).mono ?_
  rintro e w2 ⟨rfl, hb2⟩
  have B2 : Below (w.heap.size + 1) (w.alloc (.cells g 23)) w2 := by
    have := hb1.size
    simp at this
    refine ((hb1.mono (by simp)).alloc (by omega) _).trans (hb2.mono (by simp; omega))
  clear hb1 hb2 hi1 hz1 h11 hall1
  go_wp2_with (first | (refine wpList_load_new rfl 27 _ rfl _ _ rfl _ Try.underlying27 rfl info27 ?_))
  refine (zback_last _ 0 s rfl rfl (Or.inl (by omega)) hs hs' _).mono ?_
  rintro e w3 ⟨rfl, hb3⟩
  have B3 : Below (w.heap.size + 1) (w.alloc (.cells g 23)) w3 := by
    have := B2.size
    simp at this
    exact (B2.alloc (by omega) _).trans (hb3.mono (by simp; omega))
  clear hb3 B2
  go_wp2_with (first | (go_at_call 9; refine (fits_yes _ _ (by omega) (by omega) hs' _).mono ?_; rintro e w' ⟨rfl, rfl⟩) | (go_at_call 10; first | (refine (next_no _ _ (by omega) (by omega) (by omega) hs' _).mono ?_; rintro e w' ⟨rfl, rfl⟩) | (refine (next_yes _ _ (by omega) (by omega) hs' _).mono ?_; rintro e w' ⟨rfl, rfl⟩)) | (refine wpList_load_new rfl 27 _ rfl _ _ rfl _ Try.underlying27 rfl info27 ?_))
  refine (zback_named _ a1 s rfl rfl hl hl' hs hs' _).mono ?_
  rintro e w4 ⟨rfl, hb4⟩
  have B4 : Below (w.heap.size + 1) (w.alloc (.cells g 23)) w4 := by
    have := B3.size
    simp at this
    exact (B3.alloc (by omega) _).trans (hb4.mono (by simp; omega))
  clear hb4 B3
  go_wp2_with (refine wpList_load_row rfl 23 _ rfl _ rfl 23 _ (0, 0) _ ?hl2 Try.underlying23 rfl hi23 ?_)
  case hl2 => exact (B4.block _ (by omega)).trans (heap_alloc_last w _)
  refine (make_any a0 a1 a2 a3 a5 a6 a7 g hz h1 _).mono ?_
  rintro e w5 ⟨h, rfl, hz1, h11, hall1, hb5⟩
  have B5 : Below (w.heap.size + 1) (w.alloc (.cells g 23)) w5 := by
    have := B4.size
    simp at this
    exact B4.trans (hb5.mono (by omega))
  clear hb5 B4
  have hi1 : (Try.prog.info? 27).map (·.size) = some h.size := by rw [hz1]; exact info27
  go_wp2_with (first | (refine wpList_load_new rfl 27 _ rfl _ _ rfl _ Try.underlying27 rfl hi1 ?_) | (refine wpList_store_new rfl 27 _ _ rfl _ _ _ rfl rfl hi1 hz1.symm hall1 ?_))
  refine (zback_named h a1 s hz1 h11 hl hl' hs hs' _).mono ?_
  rintro e w6 ⟨rfl, hb6⟩
  have B6 : Below w.heap.size w w6 := by
    have := B5.size
    simp at this
    exact ((Below.refl _ _).alloc (Nat.le_refl _) _).trans (((B5.mono (by omega)).alloc (by omega) _).trans (hb6.mono (by simp; omega)))
  clear hb6 B5
  go_wp2
  go_ret
  exact ⟨rfl, B6⟩
set_option maxHeartbeats 1000000 in
theorem named_last (a0 a1 a2 a3 a5 a6 a7 s : Int) (g : Array Value) (hz : g.size = 16) (h1 : g.all (·.oneCell') = true) (hs : 512 ≤ s) (hs' : s ≤ 9223372036854775807) (ha : 0 ≤ a1) (hl : a1 ≤ 1 ∨ s / 512 - 1 ≤ a1) (hc : a1 ≤ 1 ∨ ¬ a1 ≤ 1) (w : World) :
    Calls Try.prog 3 #[.int .u64 a0, .int .u64 a1, .int .u64 a2, .int .u64 a3, .agg g, .int .u64 a5, .int .u32 a6, .int .u32 a7, .int .i64 s] w fun e w' => e = .returned (.bool true) ∧ Below w.heap.size w w' := by
  have hi23 : (Try.prog.info? 23).map (·.size) = some g.size := by rw [hz]; exact info23
  have HL : Hid (a1 ≤ 1 ∨ s / 512 - 1 ≤ a1) := hl
  rcases hc with hc | hc
  · clear hl
    go_enter Try.func3, Try.ntmps3
    go_wp2_with (refine wpList_load_new rfl 23 _ rfl _ _ rfl _ Try.underlying23 rfl hi23 ?_)
    refine (make_any a0 a1 a2 a3 a5 a6 a7 g hz h1 _).mono ?_
    rintro e w1 ⟨h, rfl, hz1, h11, hall1, hb1⟩
    have hi1 : (Try.prog.info? 27).map (·.size) = some h.size := by rw [hz1]; exact info27
    go_wp2_with (first | (refine wpList_load_new rfl 27 _ rfl _ _ rfl _ Try.underlying27 rfl hi1 ?_) | (refine wpList_store_new rfl 27 _ _ rfl _ _ _ rfl rfl hi1 hz1.symm hall1 ?_))
    refine (zback_last h a1 s hz1 h11 HL.out hs hs' _).mono ?_
    rintro e w2 ⟨rfl, hb2⟩
    have B2 : Below (w.heap.size + 1) (w.alloc (.cells g 23)) w2 := by
      have := hb1.size
      simp at this
      refine ((hb1.mono (by simp)).alloc (by omega) _).trans (hb2.mono (by simp; omega))
    clear hb1 hb2 hi1 hz1 h11 hall1
    go_wp2_with (first | (refine wpList_load_new rfl 27 _ rfl _ _ rfl _ Try.underlying27 rfl info27 ?_))
    refine (zback_last _ 0 s rfl rfl (Or.inl (by omega)) hs hs' _).mono ?_
    rintro e w3 ⟨rfl, hb3⟩
    have B3 : Below (w.heap.size + 1) (w.alloc (.cells g 23)) w3 := by
      have := B2.size
      simp at this
      exact (B2.alloc (by omega) _).trans (hb3.mono (by simp; omega))
    clear hb3 B2
    go_wp2_with (first | (go_at_call 9; refine (fits_yes _ _ (by omega) (by omega) hs' _).mono ?_; rintro e w' ⟨rfl, rfl⟩) | (go_at_call 10; first | (refine (next_no _ _ (by omega) (by omega) (by omega) hs' _).mono ?_; rintro e w' ⟨rfl, rfl⟩) | (refine (next_no _ _ (by omega) (by omega) hs' _).mono ?_; rintro e w' ⟨rfl, rfl⟩)) | (refine wpList_load_new rfl 27 _ rfl _ _ rfl _ Try.underlying27 rfl info27 ?_))
    refine (zback_last _ a1 s rfl rfl HL.out hs hs' _).mono ?_
    rintro e w4 ⟨rfl, hb4⟩
    have B4 : Below (w.heap.size + 1) (w.alloc (.cells g 23)) w4 := by
      have := B3.size
      simp at this
      exact (B3.alloc (by omega) _).trans (hb4.mono (by simp; omega))
    clear hb4 B3
    go_wp2_with (refine wpList_load_row rfl 23 _ rfl _ rfl 23 _ (0, 0) _ ?hl2 Try.underlying23 rfl hi23 ?_)
    case hl2 => exact (B4.block _ (by omega)).trans (heap_alloc_last w _)
    refine (make_any a0 (s / 512 - 1) a2 a3 a5 a6 a7 g hz h1 _).mono ?_
    rintro e w5 ⟨h, rfl, hz1, h11, hall1, hb5⟩
    have B5 : Below (w.heap.size + 1) (w.alloc (.cells g 23)) w5 := by
      have := B4.size
      simp at this
      exact B4.trans (hb5.mono (by omega))
    clear hb5 B4
    have hi1 : (Try.prog.info? 27).map (·.size) = some h.size := by rw [hz1]; exact info27
    go_wp2_with (first | (refine wpList_load_new rfl 27 _ rfl _ _ rfl _ Try.underlying27 rfl hi1 ?_) | (refine wpList_store_new rfl 27 _ _ rfl _ _ _ rfl rfl hi1 hz1.symm hall1 ?_))
    refine (zback_last h (s / 512 - 1) s hz1 h11 (Or.inr (Int.le_refl _)) hs hs' _).mono ?_
    rintro e w6 ⟨rfl, hb6⟩
    have B6 : Below w.heap.size w w6 := by
      have := B5.size
      simp at this
      exact ((Below.refl _ _).alloc (Nat.le_refl _) _).trans (((B5.mono (by omega)).alloc (by omega) _).trans (hb6.mono (by simp; omega)))
    clear hb6 B5
    go_wp2
    go_ret
    exact ⟨rfl, B6⟩
  · have hl2 : s / 512 - 1 ≤ a1 := by omega
    clear hl
    go_enter Try.func3, Try.ntmps3
    go_wp2_with (refine wpList_load_new rfl 23 _ rfl _ _ rfl _ Try.underlying23 rfl hi23 ?_)
    refine (make_any a0 a1 a2 a3 a5 a6 a7 g hz h1 _).mono ?_
    rintro e w1 ⟨h, rfl, hz1, h11, hall1, hb1⟩
    have hi1 : (Try.prog.info? 27).map (·.size) = some h.size := by rw [hz1]; exact info27
    go_wp2_with (first | (refine wpList_load_new rfl 27 _ rfl _ _ rfl _ Try.underlying27 rfl hi1 ?_) | (refine wpList_store_new rfl 27 _ _ rfl _ _ _ rfl rfl hi1 hz1.symm hall1 ?_))
    refine (zback_last h a1 s hz1 h11 HL.out hs hs' _).mono ?_
    rintro e w2 ⟨rfl, hb2⟩
    have B2 : Below (w.heap.size + 1) (w.alloc (.cells g 23)) w2 := by
      have := hb1.size
      simp at this
      refine ((hb1.mono (by simp)).alloc (by omega) _).trans (hb2.mono (by simp; omega))
    clear hb1 hb2 hi1 hz1 h11 hall1
    go_wp2_with (first | (refine wpList_load_new rfl 27 _ rfl _ _ rfl _ Try.underlying27 rfl info27 ?_))
    refine (zback_last _ 0 s rfl rfl (Or.inl (by omega)) hs hs' _).mono ?_
    rintro e w3 ⟨rfl, hb3⟩
    have B3 : Below (w.heap.size + 1) (w.alloc (.cells g 23)) w3 := by
      have := B2.size
      simp at this
      exact (B2.alloc (by omega) _).trans (hb3.mono (by simp; omega))
    clear hb3 B2
    go_wp2_with (first | (go_at_call 9; refine (fits_yes _ _ (by omega) (by omega) hs' _).mono ?_; rintro e w' ⟨rfl, rfl⟩) | (go_at_call 10; first | (refine (next_no _ _ (by omega) (by omega) (by omega) hs' _).mono ?_; rintro e w' ⟨rfl, rfl⟩) | (refine (next_no _ _ (by omega) (by omega) hs' _).mono ?_; rintro e w' ⟨rfl, rfl⟩)) | (refine wpList_load_new rfl 27 _ rfl _ _ rfl _ Try.underlying27 rfl info27 ?_))
    refine (zback_last _ a1 s rfl rfl HL.out hs hs' _).mono ?_
    rintro e w4 ⟨rfl, hb4⟩
    have B4 : Below (w.heap.size + 1) (w.alloc (.cells g 23)) w4 := by
      have := B3.size
      simp at this
      exact (B3.alloc (by omega) _).trans (hb4.mono (by simp; omega))
    clear hb4 B3
    go_wp2_with (refine wpList_load_row rfl 23 _ rfl _ rfl 23 _ (0, 0) _ ?hl2 Try.underlying23 rfl hi23 ?_)
    case hl2 => exact (B4.block _ (by omega)).trans (heap_alloc_last w _)
    refine (make_any a0 (s / 512 - 1) a2 a3 a5 a6 a7 g hz h1 _).mono ?_
    rintro e w5 ⟨h, rfl, hz1, h11, hall1, hb5⟩
    have B5 : Below (w.heap.size + 1) (w.alloc (.cells g 23)) w5 := by
      have := B4.size
      simp at this
      exact B4.trans (hb5.mono (by omega))
    clear hb5 B4
    have hi1 : (Try.prog.info? 27).map (·.size) = some h.size := by rw [hz1]; exact info27
    go_wp2_with (first | (refine wpList_load_new rfl 27 _ rfl _ _ rfl _ Try.underlying27 rfl hi1 ?_) | (refine wpList_store_new rfl 27 _ _ rfl _ _ _ rfl rfl hi1 hz1.symm hall1 ?_))
    refine (zback_last h (s / 512 - 1) s hz1 h11 (Or.inr (Int.le_refl _)) hs hs' _).mono ?_
    rintro e w6 ⟨rfl, hb6⟩
    have B6 : Below w.heap.size w w6 := by
      have := B5.size
      simp at this
      exact ((Below.refl _ _).alloc (Nat.le_refl _) _).trans (((B5.mono (by omega)).alloc (by omega) _).trans (hb6.mono (by simp; omega)))
    clear hb6 B5
    go_wp2
    go_ret
    exact ⟨rfl, B6⟩
end Go.Proofs.Qxb6617366a
