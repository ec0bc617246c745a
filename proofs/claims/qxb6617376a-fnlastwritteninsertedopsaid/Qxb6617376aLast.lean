import Derived.Test.Qxb6617376aRows
import Derived.Test.Qxb6617376aPlain
import Derived.WalkSpells
import Derived.WalkLawsBesides
import Derived.Deep.MidRow
namespace Go.Proofs.Qxb6617376a
open Go.RowKit

/-- THE FIRST n OPERATIONS OF g LIE IN BLOCK b from offset o on, four cells each. -/
def OpsAt (w : World) (b o n : Nat) (g : Nat → Op4) : Prop := ∀ i, i < n →
  w.cell? ⟨b, o + i * 4, none⟩ = some (.int .i64 (g i).s) ∧ w.cell? ⟨b, o + i * 4 + 1, none⟩ = some (.int .i64 (g i).k) ∧ w.cell? ⟨b, o + i * 4 + 2, none⟩ = some (.int .i64 (g i).v) ∧ w.cell? ⟨b, o + i * 4 + 3, none⟩ = some (.bool (g i).b)

theorem OpsAt.later {w w' : World} {b o n : Nat} {g : Nat → Op4} (h : OpsAt w b o n g) {B : Nat} (hb : Below B w w') (hB : b < B) : OpsAt w' b o n g := fun i hi => by
  obtain ⟨h0, h1, h2, h3⟩ := h i hi
  exact ⟨(hb.cell hB).trans h0, (hb.cell hB).trans h1, (hb.cell hB).trans h2, (hb.cell hB).trans h3⟩

theorem ret_int {k : IntKind} {a b : Int} (h : a = b) : Ending.returned (.int k a) = .returned (.int k b) := by rw [h]
theorem ret_bool {a b : Bool} (h : a = b) : Ending.returned (.bool a) = .returned (.bool b) := by rw [h]

set_option maxHeartbeats 400000 in
theorem last_any (b o n c : Nat) (g : Nat → Op4) (key : Int) (hn : n ≤ 1048576) (w : World) (hb : b < w.heap.size) (hc : OpsAt w b o n g) :
    Calls Try.prog 8 #[.slice (some ⟨b, o, none⟩) n c, .int .i64 key] w fun e w' => e = .returned (.int .i64 (lw g key n)) ∧ Below w.heap.size w w' := by
  have HC : Hid (OpsAt w b o n g) := hc
  clear hc
  go_enter Try.func8, Try.ntmps8
  go_wp2
  go_loopw [5, 10] (fun l i wr => ∃ k : Nat, k ≤ n ∧ i = .int .i64 k ∧ l = .int .i64 (lw g key k) ∧ Below w.heap.size w wr) (fun _ i _ => n - (intOf i).toNat)
  case atStart => exact ⟨0, Nat.zero_le _, rfl, rfl, Below.refl _ _⟩
  case round =>
    obtain ⟨k, hk, rfl, rfl, hbel⟩ := hrel
    by_cases hlt : k < n
    · obtain ⟨c0, c1, c2, c3⟩ := HC.out.later hbel hb k hlt
      have l1 : (k : Int) < (n : Int) := by omega
      cases hb1 : (g k).b with
      | false =>
        have L : Hid (lw g key (k + 1) = lw g key k) := lw_skip (by simp [hit, hb1])
        go_wp2
        go_roundw
        case rel => exact ⟨k + 1, by omega, by go_num, by rw [L.out], hbel.alloc hbel.size _⟩
        case measure => simp [intOf]; omega
      | true =>
        cases hk1 : ((g k).k == key) with
        | false =>
          have L : Hid (lw g key (k + 1) = lw g key k) := lw_skip (by simp [hit, hb1, hk1])
          go_wp2
          go_roundw
          case rel => exact ⟨k + 1, by omega, by go_num, by rw [L.out], hbel.alloc hbel.size _⟩
          case measure => simp [intOf]; omega
        | true =>
          have L : Hid (lw g key (k + 1) = (g k).v) := lw_hit (by simp [hit, hb1, hk1])
          go_wp2
          go_roundw
          case rel => exact ⟨k + 1, by omega, by go_num, by rw [L.out], hbel.alloc hbel.size _⟩
          case measure => simp [intOf]; omega
    · obtain rfl : k = n := by omega
      go_wp2
      go_ret
      exact ⟨rfl, hbel⟩

set_option maxHeartbeats 400000 in
theorem last_nil (key : Int) (w : World) :
    Calls Try.prog 8 #[.slice none 0 0, .int .i64 key] w fun e w' => e = .returned (.int .i64 0) ∧ Below w.heap.size w w' := by
  go_enter Try.func8, Try.ntmps8
  go_wp2
  refine wp_loop_rounds 1 ?_
  rw [rounds_succ]
  go_wp2
  go_ret
  exact ⟨rfl, Below.refl _ _⟩

set_option maxHeartbeats 400000 in
theorem has_any (b o n c : Nat) (g : Nat → Op4) (key : Int) (hn : n ≤ 1048576) (w : World) (hc : OpsAt w b o n g) :
    Calls Try.prog 10 #[.slice (some ⟨b, o, none⟩) n c, .int .i64 key] w fun e w' => e = .returned (.bool (hw g key n)) ∧ w = w' := by
  have HC : Hid (OpsAt w b o n g) := hc
  clear hc
  go_enter Try.func10, Try.ntmps10
  go_wp2
  go_loop [5] (fun i => ∃ k : Nat, k ≤ n ∧ i = .int .i64 k ∧ Hid (hw g key k = false)) (fun i => n - (intOf i).toNat)
  case atStart => exact ⟨0, Nat.zero_le _, rfl, rfl⟩
  case round =>
    obtain ⟨k, hk, rfl, HW⟩ := hrel
    by_cases hlt : k < n
    · obtain ⟨c0, c1, c2, c3⟩ := HC.out k hlt
      have l1 : (k : Int) < (n : Int) := by omega
      cases hb1 : (g k).b with
      | false =>
        have L : Hid (hw g key (k + 1) = false) := by show hw g key (k + 1) = false; rw [hw_skip (by simp [hit, hb1])]; exact HW.out
        go_wp2
        go_round
        case rel => exact ⟨k + 1, by omega, by go_num, L⟩
        case measure => simp [intOf]; omega
      | true =>
        cases hk1 : ((g k).k == key) with
        | false =>
          have L : Hid (hw g key (k + 1) = false) := by show hw g key (k + 1) = false; rw [hw_skip (by simp [hit, hb1, hk1])]; exact HW.out
          go_wp2
          go_round
          case rel => exact ⟨k + 1, by omega, by go_num, L⟩
          case measure => simp [intOf]; omega
        | true =>
          have L : Hid (hw g key n = true) := hw_of_hit (i := k) (by simp [hit, hb1, hk1]) n hlt
          go_wp2
          go_ret
          exact ⟨ret_bool L.out.symm, rfl⟩
    · obtain rfl : k = n := by omega
      go_wp2
      go_ret
      exact ⟨ret_bool HW.out.symm, rfl⟩

set_option maxHeartbeats 400000 in
theorem has_nil (key : Int) (w : World) :
    Calls Try.prog 10 #[.slice none 0 0, .int .i64 key] w fun e w' => e = .returned (.bool false) ∧ w = w' := by
  go_enter Try.func10, Try.ntmps10
  go_wp2
  refine wp_loop_rounds 1 ?_
  rw [rounds_succ]
  go_wp2
  go_ret
  exact ⟨rfl, rfl⟩

set_option maxHeartbeats 400000 in
theorem back_any (b o n c : Nat) (g : Nat → Op4) (key : Int) (hn : n ≤ 1048576) (w : World) (hc : OpsAt w b o n g) :
    Calls Try.prog 9 #[.slice (some ⟨b, o, none⟩) n c, .int .i64 key] w fun e w' => e = .returned (.int .i64 (lw g key n)) ∧ w = w' := by
  have HC : Hid (OpsAt w b o n g) := hc
  clear hc
  go_enter Try.func9, Try.ntmps9
  go_wp2
  go_loop [5] (fun i => ∃ k : Nat, k ≤ n ∧ i = .int .i64 ((k : Int) - 1) ∧ Hid (lw g key n = lw g key k)) (fun i => (intOf i + 1).toNat)
  case atStart => exact ⟨n, Nat.le_refl _, rfl, rfl⟩
  case round =>
    obtain ⟨k, hk, rfl, HW⟩ := hrel
    match k, hk, HW with
    | 0, hk, HW =>
      go_wp2
      go_ret
      exact ⟨ret_int HW.out.symm, rfl⟩
    | k + 1, hk, HW =>
      have e1 : (((k + 1 : Nat) : Int) - 1) = (k : Int) := by omega
      rw [e1]
      obtain ⟨c0, c1, c2, c3⟩ := HC.out k (by omega)
      have l1 : (k : Int) < (n : Int) := by omega
      cases hb1 : (g k).b with
      | false =>
        have L : Hid (lw g key n = lw g key k) := HW.out.trans (lw_skip (by simp [hit, hb1]))
        go_wp2
        go_round
        case rel => exact ⟨k, by omega, by go_num, L⟩
        case measure => simp [intOf]
      | true =>
        cases hk1 : ((g k).k == key) with
        | false =>
          have L : Hid (lw g key n = lw g key k) := HW.out.trans (lw_skip (by simp [hit, hb1, hk1]))
          go_wp2
          go_round
          case rel => exact ⟨k, by omega, by go_num, L⟩
          case measure => simp [intOf]
        | true =>
          have L : Hid (lw g key n = (g k).v) := HW.out.trans (lw_hit (by simp [hit, hb1, hk1]))
          go_wp2
          go_ret
          exact ⟨ret_int L.out.symm, rfl⟩

set_option maxHeartbeats 400000 in
theorem back_nil (key : Int) (w : World) :
    Calls Try.prog 9 #[.slice none 0 0, .int .i64 key] w fun e w' => e = .returned (.int .i64 0) ∧ w = w' := by
  go_enter Try.func9, Try.ntmps9
  go_wp2
  refine wp_loop_rounds 1 ?_
  rw [rounds_succ]
  go_wp2
  go_ret
  exact ⟨rfl, rfl⟩
end Go.Proofs.Qxb6617376a
