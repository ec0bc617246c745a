import Derived.Test.Qxb6617376aToGen
namespace Go.Proofs.Qxb6617376a
open Go.RowKit

theorem OpsAt.part {w : World} {b n : Nat} {g : Nat → Op4} (h : OpsAt w b 0 n g) {p : Nat} (hp : p ≤ n) : OpsAt w b 0 p g := fun i hi => h i (by omega)
theorem OpsAt.rest {w : World} {b n : Nat} {g : Nat → Op4} (h : OpsAt w b 0 n g) {p : Nat} (hp : p ≤ n) : OpsAt w b (p * 4) (n - p) (shift g p) := fun i hi => by
  have := h (p + i) (by omega)
  rw [show 0 + (p + i) * 4 = p * 4 + i * 4 by omega] at this
  exact this

theorem last_to (b o n c : Nat) (g : Nat → Op4) (key r : Int) (hr : lw g key n = r) (hn : n ≤ 1048576) (w : World) (hb : b < w.heap.size) (hc : OpsAt w b o n g) :
    Calls Try.prog 8 #[.slice (some ⟨b, o, none⟩) n c, .int .i64 key] w fun e w' => e = .returned (.int .i64 r) ∧ Below w.heap.size w w' := by
  subst hr
  exact last_any b o n c g key hn w hb hc
theorem has_to (b o n c : Nat) (g : Nat → Op4) (key : Int) (r : Bool) (hr : hw g key n = r) (hn : n ≤ 1048576) (w : World) (hc : OpsAt w b o n g) :
    Calls Try.prog 10 #[.slice (some ⟨b, o, none⟩) n c, .int .i64 key] w fun e w' => e = .returned (.bool r) ∧ w = w' := by
  subst hr
  exact has_any b o n c g key hn w hc
theorem back_to (b o n c : Nat) (g : Nat → Op4) (key r : Int) (hr : lw g key n = r) (hn : n ≤ 1048576) (w : World) (hc : OpsAt w b o n g) :
    Calls Try.prog 9 #[.slice (some ⟨b, o, none⟩) n c, .int .i64 key] w fun e w' => e = .returned (.int .i64 r) ∧ w = w' := by
  subst hr
  exact back_any b o n c g key hn w hc

set_option maxHeartbeats 400000 in
theorem toGen_zero (x : Addr) (c : Nat) (g : Nat → Op4) (w : World) :
    Calls Try.prog 7 #[.slice (some x) 0 c] w fun e w' => e = .returned (.slice (some ⟨w.heap.size, 0, none⟩) 0 0) ∧ w.heap.size < w'.heap.size ∧ OpsAt w' w.heap.size 0 0 g ∧ Below w.heap.size w w' := by
  have hmk : ∀ w, (Instr.makeSlice 24 (.int .i64 0) (.int .i64 0)).run Try.prog w = .ok (.slice (some ⟨w.heap.size, 0, none⟩) 0 0) (w.alloc (.cells (madeCells #[.int .i64 0, .int .i64 0, .int .i64 0, .bool false] (0 * 4)) 31)) := fun w => make_ops 0 0 (Nat.le_refl _) (by omega) w
  have q22 : ∀ (w : World) (a : Option Addr) (n c n' c' : Nat), (binOp .eql 22 (.slice a n c) (.slice none n' c')).run Try.prog w = .ok (.bool a.isNone) w := fun w a n c n' c' => Lib.run_eql_slice_nil w _ _ a n c n' c' Try.underlying22
  go_enter Try.func7, Try.ntmps7
  go_wp2
  refine wp_loop_rounds 1 ?_
  rw [rounds_succ]
  go_wp2
  go_ret
  exact ⟨rfl, by simp, fun i hi => by omega, (Below.refl _ _).alloc (Nat.le_refl _) _⟩

theorem bytes3_yes (a : Option Addr) (n c : Nat) (k p : Int) (hn : n ≤ 1048576) (w : World) : Calls Try.prog 6 #[.slice a n c, .int .i64 k, .int .i64 p] w fun e w' => e = .returned (.bool true) ∧ w = w' := by
  have hn' : (n : Int) ≤ 1048576 := by omega
  go_enter Try.func6, Try.ntmps6
  go_wp2
  go_ret
  exact ⟨rfl, rfl⟩
theorem bytes3_no (a : Option Addr) (n c : Nat) (k p : Int) (hn : 1048576 < n) (w : World) : Calls Try.prog 6 #[.slice a n c, .int .i64 k, .int .i64 p] w fun e w' => e = .returned (.bool false) ∧ w = w' := by
  have hn' : (1048576 : Int) < (n : Int) := by omega
  go_enter Try.func6, Try.ntmps6
  go_wp2
  go_ret
  exact ⟨rfl, rfl⟩

set_option maxHeartbeats 1000000 in
theorem cut_main (a : Option Addr) (n c p : Nat) (g : Nat → Op4) (key : Int) (hn : n ≤ 32768) (hp : p ≤ n) (w : World)
    (HT : Calls Try.prog 7 #[.slice a n c] w fun e w' => e = .returned (.slice (some ⟨w.heap.size, 0, none⟩) n n) ∧ w.heap.size < w'.heap.size ∧ OpsAt w' w.heap.size 0 n g ∧ Below w.heap.size w w') :
    Calls Try.prog 3 #[.slice a n c, .int .i64 key, .int .i64 p] w fun e w' => e = .returned (.bool true) ∧ Below w.heap.size w w' := by
  have HT' : Hid (Calls Try.prog 7 #[.slice a n c] w fun e w' => e = .returned (.slice (some ⟨w.heap.size, 0, none⟩) n n) ∧ w.heap.size < w'.heap.size ∧ OpsAt w' w.heap.size 0 n g ∧ Below w.heap.size w w') := HT
  clear HT
  have l1 : (n : Int) ≤ 32768 := by omega
  have l2 : (p : Int) ≤ (n : Int) := by omega
  have l3 : (0 : Int) ≤ (p : Int) := by omega
  go_enter Try.func3, Try.ntmps3
  go_wp2_with fail
  refine (bytes3_yes a n c key p (by omega) _).mono ?_
  rintro e w' ⟨rfl, rfl⟩
  go_wp2_with fail
  refine HT'.out.mono ?_
  rintro e w1 ⟨rfl, hs1, ho1, hb1⟩
  go_wp2_with fail
  refine (last_to _ 0 n n g key _ rfl (by omega) w1 hs1 ho1).mono ?_
  rintro e w2 ⟨rfl, hb2⟩
  have ho2 := ho1.later hb2 hs1
  have hs2 : w.heap.size < w2.heap.size := Nat.lt_of_lt_of_le hs1 hb2.size
  have B2 : Below w.heap.size w w2 := hb1.trans (hb2.mono hb1.size)
  clear ho1 hs1 hb1 hb2
  go_wp2_with fail
  refine (back_to _ 0 n n g key _ rfl (by omega) w2 ho2).mono ?_
  rintro e w' ⟨rfl, rfl⟩
  go_wp2_with fail
  refine (last_to _ 0 p n g key _ rfl (by omega) w2 hs2 (ho2.part hp)).mono ?_
  rintro e w3 ⟨rfl, hb3⟩
  have ho3 := ho2.later hb3 hs2
  have hs3 : w.heap.size < w3.heap.size := Nat.lt_of_lt_of_le hs2 hb3.size
  have B3 : Below w.heap.size w w3 := B2.trans (hb3.mono B2.size)
  clear ho2 hs2 hb3 B2
  go_wp2_with fail
  · refine (last_to _ 0 0 0 g key 0 rfl (by omega) w3 hs3 (fun i hi => by omega)).mono ?_
    rintro e w4 ⟨rfl, hb4⟩
    have B4 : Below w.heap.size w w4 := B3.trans (hb4.mono B3.size)
    clear ho3 hs3 hb4 B3
    go_wp2_with fail
    refine (has_to _ 0 0 0 g key false rfl (by omega) w4 (fun i hi => by omega)).mono ?_
    rintro e w' ⟨rfl, rfl⟩
    go_wp2
    go_ret
    exact ⟨rfl, B4⟩
  · have hcut := lw_cut g key p (n - p)
    rw [show p + (n - p) = n by omega] at hcut
    refine (last_to _ (p * 4) (n - p) (n - p) (shift g p) key _ rfl (by omega) w3 hs3 (ho3.rest hp)).mono ?_
    rintro e w4 ⟨rfl, hb4⟩
    have ho4 := ho3.later hb4 hs3
    have B4 : Below w.heap.size w w4 := B3.trans (hb4.mono B3.size)
    clear ho3 hs3 hb4 B3
    cases hh : hw (shift g p) key (n - p) with
    | false =>
      have hfin : (lw g key n == lw g key p) = true := by rw [hcut, hh]; simp
      clear hcut
      go_wp2_with fail
      refine (has_to _ (p * 4) (n - p) (n - p) (shift g p) key false hh (by omega) w4 (ho4.rest hp)).mono ?_
      rintro e w' ⟨rfl, rfl⟩
      go_wp2
      go_ret
      exact ⟨rfl, B4⟩
    | true =>
      have hfin : (lw g key n == lw (shift g p) key (n - p)) = true := by rw [hcut, hh]; simp
      clear hcut
      go_wp2_with fail
      refine (has_to _ (p * 4) (n - p) (n - p) (shift g p) key true hh (by omega) w4 (ho4.rest hp)).mono ?_
      rintro e w' ⟨rfl, rfl⟩
      go_wp2
      go_ret
      exact ⟨rfl, B4⟩

set_option maxHeartbeats 1000000 in
theorem cut_nil (key : Int) (w : World) :
    Calls Try.prog 3 #[.slice none 0 0, .int .i64 key, .int .i64 0] w fun e w' => e = .returned (.bool true) ∧ Below w.heap.size w w' := by
  go_enter Try.func3, Try.ntmps3
  go_wp2_with fail
  refine (bytes3_yes none 0 0 key 0 (by omega) _).mono ?_
  rintro e w' ⟨rfl, rfl⟩
  go_wp2_with fail
  refine (toGen_nil _).mono ?_
  rintro e w' ⟨rfl, rfl⟩
  go_wp2_with fail
  refine (last_nil key _).mono ?_
  rintro e w1 ⟨rfl, hb1⟩
  go_wp2_with fail
  refine (back_nil key _).mono ?_
  rintro e w' ⟨rfl, rfl⟩
  go_wp2_with fail
  refine (last_nil key _).mono ?_
  rintro e w2 ⟨rfl, hb2⟩
  go_wp2_with fail
  refine (last_nil key _).mono ?_
  rintro e w3 ⟨rfl, hb3⟩
  go_wp2_with fail
  refine (has_nil key _).mono ?_
  rintro e w' ⟨rfl, rfl⟩
  go_wp2
  go_ret
  exact ⟨rfl, hb1.trans ((hb2.mono hb1.size).trans (hb3.mono (Nat.le_trans hb1.size hb2.size)))⟩

set_option maxHeartbeats 400000 in
theorem cut_long (a : Option Addr) (n c : Nat) (key p : Int) (hn : 1048576 < n) (w : World) :
    Calls Try.prog 3 #[.slice a n c, .int .i64 key, .int .i64 p] w fun e w' => e = .returned (.bool true) ∧ Below w.heap.size w w' := by
  go_enter Try.func3, Try.ntmps3
  go_wp2_with fail
  refine (bytes3_no a n c key p hn _).mono ?_
  rintro e w' ⟨rfl, rfl⟩
  go_wp2
  go_ret
  exact ⟨rfl, Below.refl _ _⟩

set_option maxHeartbeats 400000 in
theorem cut_out (a : Option Addr) (n c : Nat) (key p : Int) (hn : n ≤ 1048576) (h : 32768 < n ∨ p < 0 ∨ (n : Int) < p) (w : World) :
    Calls Try.prog 3 #[.slice a n c, .int .i64 key, .int .i64 p] w fun e w' => e = .returned (.bool true) ∧ Below w.heap.size w w' := by
  by_cases h1 : 32768 < n
  · have l1 : (32768 : Int) < (n : Int) := by omega
    clear h
    go_enter Try.func3, Try.ntmps3
    go_wp2_with fail
    refine (bytes3_yes a n c key p hn _).mono ?_
    rintro e w' ⟨rfl, rfl⟩
    go_wp2
    go_ret
    exact ⟨rfl, Below.refl _ _⟩
  · have l1 : (n : Int) ≤ 32768 := by omega
    by_cases h2 : p < 0
    · clear h
      go_enter Try.func3, Try.ntmps3
      go_wp2_with fail
      refine (bytes3_yes a n c key p hn _).mono ?_
      rintro e w' ⟨rfl, rfl⟩
      go_wp2
      go_ret
      exact ⟨rfl, Below.refl _ _⟩
    · have l2 : (n : Int) < p := by omega
      clear h
      go_enter Try.func3, Try.ntmps3
      go_wp2_with fail
      refine (bytes3_yes a n c key p hn _).mono ?_
      rintro e w' ⟨rfl, rfl⟩
      go_wp2
      go_ret
      exact ⟨rfl, Below.refl _ _⟩
end Go.Proofs.Qxb6617376a
