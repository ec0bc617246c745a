import Derived.Test.Qxb6617366aMk
namespace Go.Proofs.Qxb6617366a
open Go.RowKit

theorem cell_one (w : World) (h : Array Value) (alt : Int) (h1 : h[1]? = some (.int .u64 alt)) : (w.alloc (.cells h 27)).cell? ⟨w.heap.size, 1, none⟩ = some (.int .u64 alt) := by
  rw [cell_of_row _ _ _ h 27 (0, 0) (heap_alloc_last w _)]; exact h1

set_option maxHeartbeats 400000 in
theorem back_named (h : Array Value) (alt s : Int) (h1 : h[1]? = some (.int .u64 alt)) (ha : 1 < alt) (ha' : alt < s / 512 - 1) (hs : 512 ≤ s) (hs' : s ≤ 9223372036854775807) (w : World) :
    Calls Try.prog 17 #[.agg h, .int .i64 s] w fun e w' => e = .returned (.int .u64 alt) ∧ Below w.heap.size w w' := by
  have hc := cell_one w h alt h1
  go_enter Try.func17, Try.ntmps17
  go_wp2
  go_ret
  exact ⟨rfl, (Below.refl _ _).alloc (Nat.le_refl _) _⟩

set_option maxHeartbeats 400000 in
theorem back_last (h : Array Value) (alt s : Int) (h1 : h[1]? = some (.int .u64 alt)) (ha : alt ≤ 1 ∨ s / 512 - 1 ≤ alt) (hs : 512 ≤ s) (hs' : s ≤ 9223372036854775807) (w : World) :
    Calls Try.prog 17 #[.agg h, .int .i64 s] w fun e w' => e = .returned (.int .u64 (s / 512 - 1)) ∧ Below w.heap.size w w' := by
  have hc := cell_one w h alt h1
  by_cases h2 : alt ≤ 1
  · clear ha
    go_enter Try.func17, Try.ntmps17
    go_wp2
    go_ret
    exact ⟨rfl, (Below.refl _ _).alloc (Nat.le_refl _) _⟩
  · have h3 : s / 512 - 1 ≤ alt := by omega
    clear ha
    go_enter Try.func17, Try.ntmps17
    go_wp2
    go_ret
    exact ⟨rfl, (Below.refl _ _).alloc (Nat.le_refl _) _⟩

set_option maxHeartbeats 400000 in
theorem zback_of (h : Array Value) (s r : Int) (hz : h.size = 23) (hb : ∀ w, Calls Try.prog 17 #[.agg h, .int .i64 s] w fun e w' => e = .returned (.int .u64 r) ∧ Below w.heap.size w w') (w : World) :
    Calls Try.prog 8 #[.agg h, .int .i64 s] w fun e w' => e = .returned (.int .u64 r) ∧ Below w.heap.size w w' := by
  have hi : (Try.prog.info? 27).map (·.size) = some h.size := by rw [hz]; exact info27
  have HB : Hid (∀ w, Calls Try.prog 17 #[.agg h, .int .i64 s] w fun e w' => e = .returned (.int .u64 r) ∧ Below w.heap.size w w') := hb
  clear hb
  go_enter Try.func8, Try.ntmps8
  go_wp2_with (first | (go_at_call 17; refine (HB.out _).mono ?_; rintro e w' ⟨rfl, hw1⟩) | (refine wpList_load_row rfl 27 _ rfl _ rfl 27 _ (0, 0) _ ?hl1 Try.underlying27 rfl hi ?_))
  case hl1 => exact heap_alloc_last w _
  go_ret
  exact ⟨rfl, ((Below.refl _ _).alloc (Nat.le_refl _) _).trans (hw1.mono (by simp))⟩

theorem zback_named (h : Array Value) (alt s : Int) (hz : h.size = 23) (h1 : h[1]? = some (.int .u64 alt)) (ha : 1 < alt) (ha' : alt < s / 512 - 1) (hs : 512 ≤ s) (hs' : s ≤ 9223372036854775807) (w : World) :
    Calls Try.prog 8 #[.agg h, .int .i64 s] w fun e w' => e = .returned (.int .u64 alt) ∧ Below w.heap.size w w' :=
  zback_of h s alt hz (back_named h alt s h1 ha ha' hs hs') w

theorem zback_last (h : Array Value) (alt s : Int) (hz : h.size = 23) (h1 : h[1]? = some (.int .u64 alt)) (ha : alt ≤ 1 ∨ s / 512 - 1 ≤ alt) (hs : 512 ≤ s) (hs' : s ≤ 9223372036854775807) (w : World) :
    Calls Try.prog 8 #[.agg h, .int .i64 s] w fun e w' => e = .returned (.int .u64 (s / 512 - 1)) ∧ Below w.heap.size w w' :=
  zback_of h s _ hz (back_last h alt s h1 ha hs hs') w

/-- fitsImage, yes and no. -/
theorem fits_yes (k s : Int) (hk : 0 ≤ k) (h2 : (k + 1) * 512 ≤ s) (hs' : s ≤ 9223372036854775807) (w : World) :
    Calls Try.prog 9 #[.int .u64 k, .int .i64 s] w fun e w' => e = .returned (.bool true) ∧ w = w' := by
  have hk' : k < 18014398509481984 := by omega
  have hs : 0 ≤ s := by omega
  go_enter Try.func9, Try.ntmps9
  go_wp2
  go_ret
  exact ⟨rfl, rfl⟩

theorem fits_no (k s : Int) (hk : 0 ≤ k) (h2 : s < (k + 1) * 512) (hs : 0 ≤ s) (hs' : s ≤ 9223372036854775807) (w : World) :
    Calls Try.prog 9 #[.int .u64 k, .int .i64 s] w fun e w' => e = .returned (.bool false) ∧ w = w' := by
  have hd : decide ((k + 1) * 512 ≤ s) = false := decide_eq_false (by omega)
  by_cases hk' : k < 18014398509481984
  all_goals
    go_enter Try.func9, Try.ntmps9
    go_wp2
    go_ret
    exact ⟨rfl, rfl⟩

theorem next_yes (k s : Int) (hk : 0 ≤ k) (h2 : k < s / 512 - 1) (hs' : s ≤ 9223372036854775807) (w : World) :
    Calls Try.prog 10 #[.int .u64 k, .int .i64 s] w fun e w' => e = .returned (.bool true) ∧ w = w' := by
  have hk' : k < 18014398509481984 := by omega
  go_enter Try.func10, Try.ntmps10
  go_wp2_with (go_at_call 9; refine (fits_yes _ _ (by omega) (by omega) hs' _).mono ?_; rintro e w' ⟨rfl, rfl⟩)
  go_ret
  exact ⟨rfl, rfl⟩

theorem next_no (k s : Int) (hk : 0 ≤ k) (h2 : s / 512 - 1 ≤ k) (hs : 0 ≤ s) (hs' : s ≤ 9223372036854775807) (w : World) :
    Calls Try.prog 10 #[.int .u64 k, .int .i64 s] w fun e w' => e = .returned (.bool false) ∧ w = w' := by
  by_cases hk' : k < 18014398509481984
  all_goals
    go_enter Try.func10, Try.ntmps10
    go_wp2_with (go_at_call 9; refine (fits_no _ _ (by omega) (by omega) hs hs' _).mono ?_; rintro e w' ⟨rfl, rfl⟩)
    go_ret
    exact ⟨rfl, rfl⟩
end Go.Proofs.Qxb6617366a
