import Derived.Test.Qxb6617376aWk
namespace Go.Proofs.Qxb6617376a
open Go.RowKit

theorem last_to' (b o n c : Nat) (g : Nat → Op4) (key r : Int) (hr : lw g key n = r) (hn : n ≤ 1048576) (w : World) (hb : b < w.heap.size) (hc : OpsAt w b o n g) :
    Calls Try.prog 8 #[.slice (some ⟨b, o, none⟩) n c, .int .i64 key] w fun e w' => e = .returned (.int .i64 r) ∧ Below w.heap.size w w' := by
  subst hr
  exact last_any b o n c g key hn w hb hc

theorem wk_lo {w : World} {B n W : Nat} (h : OpsAt w B 0 n (wk W)) {k : Nat} (hk : k < W) (hn : k < n) :
    w.cell? ⟨B, k * 4, none⟩ = some (.int .i64 k) ∧ w.cell? ⟨B, k * 4 + 1, none⟩ = some (.int .i64 0) ∧ w.cell? ⟨B, k * 4 + 2, none⟩ = some (.int .i64 (k + 1)) ∧ w.cell? ⟨B, k * 4 + 3, none⟩ = some (.bool true) := by
  have e : wk W k = ⟨k, 0, k + 1, true⟩ := by simp [wk, hk]
  have := h k hn
  rw [e, Nat.zero_add] at this
  exact this
theorem wk_hi {w : World} {B n W : Nat} (h : OpsAt w B 0 n (wk W)) {k : Nat} (hn : W + k < n) :
    w.cell? ⟨B, (W + k) * 4, none⟩ = some (.int .i64 W) ∧ w.cell? ⟨B, (W + k) * 4 + 1, none⟩ = some (.int .i64 0) ∧ w.cell? ⟨B, (W + k) * 4 + 2, none⟩ = some (.int .i64 (k + 1)) ∧ w.cell? ⟨B, (W + k) * 4 + 3, none⟩ = some (.bool false) := by
  have e : wk W (W + k) = ⟨W, 0, k + 1, false⟩ := by
    simp only [wk]
    rw [if_neg (by omega), show (((W + k : Nat) : Int) - W + 1) = (k : Int) + 1 by omega]
  have := h (W + k) hn
  rw [e, Nat.zero_add] at this
  exact this

theorem wk_write {w : World} {B n W : Nat} (h : OpsAt w B 0 n (wk W)) {C : Nat} (hC : C < W) (hn : C < n) : w.cell? ⟨B, C * 4 + 3, none⟩ = some (.bool true) := (wk_lo h hC hn).2.2.2
theorem wk_read {w : World} {B n W : Nat} (h : OpsAt w B 0 n (wk W)) {C : Nat} (hC : W ≤ C) (hn : C < n) :
    w.cell? ⟨B, C * 4 + 2, none⟩ = some (.int .i64 ((C : Int) - W + 1)) ∧ w.cell? ⟨B, C * 4 + 3, none⟩ = some (.bool false) := by
  have e : wk W C = ⟨W, 0, (C : Int) - W + 1, false⟩ := by simp only [wk]; rw [if_neg (by omega)]
  have := h C hn
  rw [e, Nat.zero_add] at this
  exact ⟨this.2.2.1, this.2.2.2⟩

set_option maxRecDepth 10000 in
set_option maxHeartbeats 4000000 in
theorem watch_main (W C : Nat) (key : Int) (hW : W ≤ 65536) (hC : C ≤ 2 * W) (w : World) :
    Calls Try.prog 5 #[.int .i64 W, .int .i64 key, .int .i64 C] w fun e w' => e = .returned (.bool true) ∧ Below w.heap.size w w' := by
  have l0 : (W : Int) ≤ 65536 := by omega
  have l1 : (C : Int) ≤ 2 * (W : Int) := by omega
  go_enter Try.func5, Try.ntmps5
  go_wp2_with fail
  refine (watched_any W hW w).mono ?_
  rintro e w1 ⟨rfl, hs1, ho1, hb1⟩
  go_wp2_with fail
  go_loopw [8] (fun i wr => ∃ k : Nat, k ≤ W ∧ i = .int .i64 k ∧ w.heap.size < wr.heap.size ∧ OpsAt wr w.heap.size 0 (2 * W) (wk W) ∧ Below w.heap.size w wr) (fun i _ => W - (intOf i).toNat)
  case atStart => exact ⟨0, Nat.zero_le _, rfl, hs1, ho1, hb1⟩
  case round =>
    clear hs1 ho1 hb1
    obtain ⟨k, hk, rfl, hs, ho, hb⟩ := hrel
    by_cases hlt : k < W
    · obtain ⟨c0, c1, c2, c3⟩ := wk_lo ho hlt (by omega)
      obtain ⟨d0, d1, d2, d3⟩ := wk_hi (ho.later ((Below.refl wr.heap.size wr).alloc (Nat.le_refl _) (.cells #[.int .i64 k, .int .i64 0, .int .i64 (k + 1), .bool true] 31)) hs) (k := k) (by omega)
      have l2 : (k : Int) < (W : Int) := by omega
      have H : Hid (w.heap.size < wr.heap.size ∧ OpsAt wr w.heap.size 0 (2 * W) (wk W) ∧ Below w.heap.size w wr) := ⟨hs, ho, hb⟩
      clear hs ho hb
      go_wp2
      go_roundw
      case rel =>
        obtain ⟨hs, ho, hb⟩ := H.out
        have hA := ((Below.refl wr.heap.size wr).alloc (Nat.le_refl _) (.cells #[.int .i64 k, .int .i64 0, .int .i64 (k + 1), .bool true] 31)).alloc (by simp) (.cells #[.int .i64 W, .int .i64 0, .int .i64 (k + 1), .bool false] 31)
        exact ⟨k + 1, by omega, by go_num, Nat.lt_of_lt_of_le hs hA.size, ho.later hA hs, hb.trans (hA.mono hb.size)⟩
      case measure => simp [intOf]; omega
    · obtain rfl : k = W := by omega
      clear hlt hk
      by_cases hkey : key = 0
      · subst hkey
        go_wp2_with fail
        refine (last_to' _ 0 (2 * k) (2 * k) (wk k) 0 k (by rw [lw_wk_zero]; split <;> omega) (by omega) wr hs ho).mono ?_
        rintro e w2 ⟨rfl, hb2⟩
        have ho2 := ho.later hb2 hs
        have hs2 : w.heap.size < w2.heap.size := Nat.lt_of_lt_of_le hs hb2.size
        have B2 : Below w.heap.size w w2 := hb.trans (hb2.mono hb.size)
        clear hs ho hb hb2
        rcases (show C < k ∨ (k ≤ C ∧ C < 2 * k) ∨ 2 * k ≤ C by omega) with hc | ⟨hc, hc2⟩ | hc
        · have m1 : (C : Int) < (k : Int) := by omega
          go_wp2_with (go_at_call 8; refine (last_to' _ 0 C (2 * k) (wk k) 0 C (by rw [lw_wk_zero, if_pos (by omega)]) (by omega) w2 hs2 (fun i hi => ho2 i (by omega))).mono ?_; rintro e w3 ⟨rfl, hb3⟩; have f3 := wk_write (ho2.later hb3 hs2) hc (by omega))
          all_goals
            go_ret
            exact ⟨rfl, B2.trans (Below.mono (by assumption) B2.size)⟩
        · have m1 : (k : Int) ≤ (C : Int) := by omega
          have m2 : (C : Int) < 2 * (k : Int) := by omega
          go_wp2_with (go_at_call 8; refine (last_to' _ 0 C (2 * k) (wk k) 0 k (by rw [lw_wk_zero]; split <;> omega) (by omega) w2 hs2 (fun i hi => ho2 i (by omega))).mono ?_; rintro e w3 ⟨rfl, hb3⟩; obtain ⟨f2, f3⟩ := wk_read (ho2.later hb3 hs2) hc (by omega))
          all_goals
            go_ret
            exact ⟨rfl, B2.trans (Below.mono (by assumption) B2.size)⟩
        · have m1 : 2 * (k : Int) ≤ (C : Int) := by omega
          go_wp2_with (go_at_call 8; refine (last_to' _ 0 C (2 * k) (wk k) 0 k (by rw [lw_wk_zero]; split <;> omega) (by omega) w2 hs2 (fun i hi => ho2 i (by omega))).mono ?_; rintro e w3 ⟨rfl, hb3⟩)
          all_goals
            go_ret
            exact ⟨rfl, B2.trans (Below.mono (by assumption) B2.size)⟩
      · have hk0 : (key == 0) = false := by simpa using hkey
        have HK : Hid (key ≠ 0) := hkey
        clear hkey
        go_wp2_with fail
        refine (last_to' _ 0 (2 * k) (2 * k) (wk k) key 0 (lw_wk_other k key HK.out _) (by omega) wr hs ho).mono ?_
        rintro e w2 ⟨rfl, hb2⟩
        have ho2 := ho.later hb2 hs
        have hs2 : w.heap.size < w2.heap.size := Nat.lt_of_lt_of_le hs hb2.size
        have B2 : Below w.heap.size w w2 := hb.trans (hb2.mono hb.size)
        clear hs ho hb hb2
        rcases (show C < k ∨ (k ≤ C ∧ C < 2 * k) ∨ 2 * k ≤ C by omega) with hc | ⟨hc, hc2⟩ | hc
        · have m1 : (C : Int) < (k : Int) := by omega
          go_wp2_with (go_at_call 8; refine (last_to' _ 0 C (2 * k) (wk k) 0 C (by rw [lw_wk_zero, if_pos (by omega)]) (by omega) w2 hs2 (fun i hi => ho2 i (by omega))).mono ?_; rintro e w3 ⟨rfl, hb3⟩; have f3 := wk_write (ho2.later hb3 hs2) hc (by omega))
          all_goals
            go_ret
            exact ⟨rfl, B2.trans (Below.mono (by assumption) B2.size)⟩
        · have m1 : (k : Int) ≤ (C : Int) := by omega
          have m2 : (C : Int) < 2 * (k : Int) := by omega
          go_wp2_with (go_at_call 8; refine (last_to' _ 0 C (2 * k) (wk k) 0 k (by rw [lw_wk_zero]; split <;> omega) (by omega) w2 hs2 (fun i hi => ho2 i (by omega))).mono ?_; rintro e w3 ⟨rfl, hb3⟩; obtain ⟨f2, f3⟩ := wk_read (ho2.later hb3 hs2) hc (by omega))
          all_goals
            go_ret
            exact ⟨rfl, B2.trans (Below.mono (by assumption) B2.size)⟩
        · have m1 : 2 * (k : Int) ≤ (C : Int) := by omega
          go_wp2_with (go_at_call 8; refine (last_to' _ 0 C (2 * k) (wk k) 0 k (by rw [lw_wk_zero]; split <;> omega) (by omega) w2 hs2 (fun i hi => ho2 i (by omega))).mono ?_; rintro e w3 ⟨rfl, hb3⟩)
          all_goals
            go_ret
            exact ⟨rfl, B2.trans (Below.mono (by assumption) B2.size)⟩
end Go.Proofs.Qxb6617376a
