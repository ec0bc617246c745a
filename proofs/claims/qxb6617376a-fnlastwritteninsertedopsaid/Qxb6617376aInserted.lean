import Derived.Test.Qxb6617376aIns
namespace Go.Proofs.Qxb6617376a
open Go.RowKit

theorem bytes4_yes (a : Option Addr) (n c : Nat) (i1 i2 i3 i4 i5 : Int) (hn : n ≤ 1048576) (w : World) : Calls Try.prog 11 #[.slice a n c, .int .i64 i1, .int .i64 i2, .int .i64 i3, .int .i64 i4, .int .i64 i5] w fun e w' => e = .returned (.bool true) ∧ w = w' := by
  have hn' : (n : Int) ≤ 1048576 := by omega
  go_enter Try.func11, Try.ntmps11
  go_wp2
  go_ret
  exact ⟨rfl, rfl⟩
theorem bytes4_no (a : Option Addr) (n c : Nat) (i1 i2 i3 i4 i5 : Int) (hn : 1048576 < n) (w : World) : Calls Try.prog 11 #[.slice a n c, .int .i64 i1, .int .i64 i2, .int .i64 i3, .int .i64 i4, .int .i64 i5] w fun e w' => e = .returned (.bool false) ∧ w = w' := by
  have hn' : (1048576 : Int) < (n : Int) := by omega
  go_enter Try.func11, Try.ntmps11
  go_wp2
  go_ret
  exact ⟨rfl, rfl⟩

/-- A history that lies in a block which is there, and what has been from the call's start on. -/
structure Lies (w wr : World) (B n : Nat) (g : Nat → Op4) : Prop where
  ops : OpsAt wr B 0 n g
  lt : B < wr.heap.size
theorem Lies.later {w wr w' : World} {B n : Nat} {g : Nat → Op4} (h : Lies w wr B n g) (hb : Below wr.heap.size wr w') : Lies w w' B n g := ⟨h.ops.later hb h.lt, Nat.lt_of_lt_of_le h.lt hb.size⟩

theorem hit_write (s k v : Int) : hit ⟨s, k, v, true⟩ k = true := by simp [hit]
theorem hit_read (s k v key : Int) : hit ⟨s, k, v, false⟩ key = false := by simp [hit]
theorem hit_other (s k v key : Int) (h : key ≠ k) : hit ⟨s, k, v, true⟩ key = false := by
  have : (k == key) = false := by simp; exact fun e => h e.symm
  simp [hit, this]

set_option maxRecDepth 10000 in
set_option maxHeartbeats 4000000 in
theorem ins_main (a : Option Addr) (n c p : Nat) (g : Nat → Op4) (ss key val other : Int) (hn : n ≤ 32768) (hp : p ≤ n) (w : World)
    (HT : Calls Try.prog 7 #[.slice a n c] w fun e w' => e = .returned (.slice (some ⟨w.heap.size, 0, none⟩) n n) ∧ w.heap.size < w'.heap.size ∧ OpsAt w' w.heap.size 0 n g ∧ Below w.heap.size w w') :
    Calls Try.prog 4 #[.slice a n c, .int .i64 ss, .int .i64 key, .int .i64 val, .int .i64 other, .int .i64 p] w fun e w' => e = .returned (.bool true) ∧ Below w.heap.size w w' := by
  have HT' : Hid (Calls Try.prog 7 #[.slice a n c] w fun e w' => e = .returned (.slice (some ⟨w.heap.size, 0, none⟩) n n) ∧ w.heap.size < w'.heap.size ∧ OpsAt w' w.heap.size 0 n g ∧ Below w.heap.size w w') := HT
  clear HT
  have l1 : (n : Int) ≤ 32768 := by omega
  have l2 : (p : Int) ≤ (n : Int) := by omega
  have l3 : (0 : Int) ≤ (p : Int) := by omega
  go_enter Try.func4, Try.ntmps4
  go_wp2_with fail
  refine (bytes4_yes a n c ss key val other p (by omega) _).mono ?_
  rintro e w' ⟨rfl, rfl⟩
  go_wp2_with fail
  refine HT'.out.mono ?_
  rintro e w1 ⟨rfl, hs1, ho1, hb1⟩
  clear HT'
  have L1 : Lies w w1 w.heap.size n g := ⟨ho1, hs1⟩
  clear ho1 hs1
  go_wp2_with fail
  refine (last_to _ 0 n n g key _ rfl (by omega) w1 L1.lt L1.ops).mono ?_
  rintro e w2 ⟨rfl, hb2⟩
  have L2 := L1.later hb2
  have B2 : Below w.heap.size w w2 := hb1.trans (hb2.mono hb1.size)
  clear L1 hb1 hb2
  go_wp2_with fail
  refine (insert_any w.heap.size n n p g ⟨ss, key, val, true⟩ hn hp w2 L2.lt L2.ops).mono ?_
  rintro e w3 ⟨G, rfl, hlt3, hop3, hb3⟩
  have L3 := L2.later hb3
  have M3 : Lies w w3 G (n + 1) (ins g p ⟨ss, key, val, true⟩) := ⟨hop3, hlt3⟩
  have B3 : Below w.heap.size w w3 := B2.trans (hb3.mono B2.size)
  clear L2 hop3 hlt3 hb3 B2
  go_wp2_with fail
  · have hnp : p = n := by omega
    subst hnp
    refine (has_to _ 0 0 0 g key false rfl (by omega) w3 (fun i hi => by omega)).mono ?_
    rintro e w' ⟨rfl, rfl⟩
    go_wp2_with fail
    refine (last_to G 0 (p + 1) (p + 1) (ins g p ⟨ss, key, val, true⟩) key val (by rw [lw_ins g p _ key p (Nat.le_refl _), Nat.sub_self, if_neg (by simp [hw]), if_pos (hit_write _ _ _)]) (by omega) w3 M3.lt M3.ops).mono ?_
    rintro e w5 ⟨rfl, hb5⟩
    have L5 := L3.later hb5
    have M5 := M3.later hb5
    have B5 : Below w.heap.size w w5 := B3.trans (hb5.mono B3.size)
    clear L3 M3 hb5 B3
    go_wp2_with fail
    refine (insert_any w.heap.size p p p g ⟨ss, key, val, false⟩ (by omega) (by omega) w5 L5.lt L5.ops).mono ?_
    rintro e w6 ⟨G2, rfl, hlt6, hop6, hb6⟩
    have L6 := L5.later hb6
    have M6 := M5.later hb6
    have B6 : Below w.heap.size w w6 := B5.trans (hb6.mono B5.size)
    clear L5 M5 hb6 B5
    go_wp2_with fail
    refine (last_to G2 0 (p + 1) (p + 1) (ins g p ⟨ss, key, val, false⟩) key (lw g key p) (lw_ins_idle g p _ key p (by omega) (hit_read _ _ _ _)) (by omega) w6 hlt6 hop6).mono ?_
    rintro e w7 ⟨rfl, hb7⟩
    have L7 := L6.later hb7
    have M7 := M6.later hb7
    have B7 : Below w.heap.size w w7 := B6.trans (hb7.mono B6.size)
    clear L6 M6 hb7 B6 hop6 hlt6
    cases hok : (other == key) with
    | true =>
      obtain rfl : other = key := by simpa using hok
      clear hok
      go_wp2
      go_ret
      exact ⟨rfl, B7⟩
    | false =>
      have HN : Hid (other ≠ key) := by simpa [Hid] using hok
      have hok2 : (other != key) = true := by simpa using hok
      clear hok
      go_wp2_with fail
      refine (last_to G 0 (p + 1) (p + 1) (ins g p ⟨ss, key, val, true⟩) other (lw g other p) (lw_ins_idle g p _ other p (by omega) (hit_other _ _ _ _ HN.out)) (by omega) w7 M7.lt M7.ops).mono ?_
      rintro e w8 ⟨rfl, hb8⟩
      have L8 := L7.later hb8
      have B8 : Below w.heap.size w w8 := B7.trans (hb8.mono B7.size)
      clear L7 M7 hb8 B7
      go_wp2_with fail
      refine (last_to w.heap.size 0 p p g other _ rfl (by omega) w8 L8.lt L8.ops).mono ?_
      rintro e w9 ⟨rfl, hb9⟩
      have B9 : Below w.heap.size w w9 := B8.trans (hb9.mono B8.size)
      clear L8 hb9 B8
      go_wp2
      go_ret
      exact ⟨rfl, B9⟩
  · cases hh : hw (shift g p) key (n - p) with
    | false =>
      refine (has_to _ (p * 4) (n - p) (n - p) (shift g p) key false hh (by omega) w3 (L3.ops.rest hp)).mono ?_
      rintro e w' ⟨rfl, rfl⟩
      have HH : Hid (hw (shift g p) key (n - p) = false) := hh
      clear hh
      go_wp2_with fail
      refine (last_to G 0 (n + 1) (n + 1) (ins g p ⟨ss, key, val, true⟩) key val (by rw [lw_ins g p _ key n hp, if_neg (by simp [HH.out]), if_pos (hit_write _ _ _)]) (by omega) w3 M3.lt M3.ops).mono ?_
      rintro e w5 ⟨rfl, hb5⟩
      have L5 := L3.later hb5
      have M5 := M3.later hb5
      have B5 : Below w.heap.size w w5 := B3.trans (hb5.mono B3.size)
      clear L3 M3 hb5 B3
      go_wp2_with fail
      refine (insert_any w.heap.size n n p g ⟨ss, key, val, false⟩ (by omega) (by omega) w5 L5.lt L5.ops).mono ?_
      rintro e w6 ⟨G2, rfl, hlt6, hop6, hb6⟩
      have L6 := L5.later hb6
      have M6 := M5.later hb6
      have B6 : Below w.heap.size w w6 := B5.trans (hb6.mono B5.size)
      clear L5 M5 hb6 B5
      go_wp2_with fail
      refine (last_to G2 0 (n + 1) (n + 1) (ins g p ⟨ss, key, val, false⟩) key (lw g key n) (lw_ins_idle g p _ key n (by omega) (hit_read _ _ _ _)) (by omega) w6 hlt6 hop6).mono ?_
      rintro e w7 ⟨rfl, hb7⟩
      have L7 := L6.later hb7
      have M7 := M6.later hb7
      have B7 : Below w.heap.size w w7 := B6.trans (hb7.mono B6.size)
      clear L6 M6 hb7 B6 hop6 hlt6
      cases hok : (other == key) with
      | true =>
        obtain rfl : other = key := by simpa using hok
        clear hok
        go_wp2
        go_ret
        exact ⟨rfl, B7⟩
      | false =>
        have HN : Hid (other ≠ key) := by simpa [Hid] using hok
        have hok2 : (other != key) = true := by simpa using hok
        clear hok
        go_wp2_with fail
        refine (last_to G 0 (n + 1) (n + 1) (ins g p ⟨ss, key, val, true⟩) other (lw g other n) (lw_ins_idle g p _ other n (by omega) (hit_other _ _ _ _ HN.out)) (by omega) w7 M7.lt M7.ops).mono ?_
        rintro e w8 ⟨rfl, hb8⟩
        have L8 := L7.later hb8
        have B8 : Below w.heap.size w w8 := B7.trans (hb8.mono B7.size)
        clear L7 M7 hb8 B7
        go_wp2_with fail
        refine (last_to w.heap.size 0 n n g other _ rfl (by omega) w8 L8.lt L8.ops).mono ?_
        rintro e w9 ⟨rfl, hb9⟩
        have B9 : Below w.heap.size w w9 := B8.trans (hb9.mono B8.size)
        clear L8 hb9 B8
        go_wp2
        go_ret
        exact ⟨rfl, B9⟩
    | true =>
      refine (has_to _ (p * 4) (n - p) (n - p) (shift g p) key true hh (by omega) w3 (L3.ops.rest hp)).mono ?_
      rintro e w' ⟨rfl, rfl⟩
      have HH : Hid (hw (shift g p) key (n - p) = true) := hh
      clear hh
      go_wp2_with fail
      refine (last_to G 0 (n + 1) (n + 1) (ins g p ⟨ss, key, val, true⟩) key (lw g key n) (by rw [lw_ins g p _ key n hp, if_pos HH.out]) (by omega) w3 M3.lt M3.ops).mono ?_
      rintro e w5 ⟨rfl, hb5⟩
      have L5 := L3.later hb5
      have M5 := M3.later hb5
      have B5 : Below w.heap.size w w5 := B3.trans (hb5.mono B3.size)
      clear L3 M3 hb5 B3
      go_wp2_with fail
      refine (insert_any w.heap.size n n p g ⟨ss, key, val, false⟩ (by omega) (by omega) w5 L5.lt L5.ops).mono ?_
      rintro e w6 ⟨G2, rfl, hlt6, hop6, hb6⟩
      have L6 := L5.later hb6
      have M6 := M5.later hb6
      have B6 : Below w.heap.size w w6 := B5.trans (hb6.mono B5.size)
      clear L5 M5 hb6 B5
      go_wp2_with fail
      refine (last_to G2 0 (n + 1) (n + 1) (ins g p ⟨ss, key, val, false⟩) key (lw g key n) (lw_ins_idle g p _ key n (by omega) (hit_read _ _ _ _)) (by omega) w6 hlt6 hop6).mono ?_
      rintro e w7 ⟨rfl, hb7⟩
      have L7 := L6.later hb7
      have M7 := M6.later hb7
      have B7 : Below w.heap.size w w7 := B6.trans (hb7.mono B6.size)
      clear L6 M6 hb7 B6 hop6 hlt6
      cases hok : (other == key) with
      | true =>
        obtain rfl : other = key := by simpa using hok
        clear hok
        go_wp2
        go_ret
        exact ⟨rfl, B7⟩
      | false =>
        have HN : Hid (other ≠ key) := by simpa [Hid] using hok
        have hok2 : (other != key) = true := by simpa using hok
        clear hok
        go_wp2_with fail
        refine (last_to G 0 (n + 1) (n + 1) (ins g p ⟨ss, key, val, true⟩) other (lw g other n) (lw_ins_idle g p _ other n (by omega) (hit_other _ _ _ _ HN.out)) (by omega) w7 M7.lt M7.ops).mono ?_
        rintro e w8 ⟨rfl, hb8⟩
        have L8 := L7.later hb8
        have B8 : Below w.heap.size w w8 := B7.trans (hb8.mono B7.size)
        clear L7 M7 hb8 B7
        go_wp2_with fail
        refine (last_to w.heap.size 0 n n g other _ rfl (by omega) w8 L8.lt L8.ops).mono ?_
        rintro e w9 ⟨rfl, hb9⟩
        have B9 : Below w.heap.size w w9 := B8.trans (hb9.mono B8.size)
        clear L8 hb9 B8
        go_wp2
        go_ret
        exact ⟨rfl, B9⟩

set_option maxHeartbeats 400000 in
theorem ins_long (a : Option Addr) (n c : Nat) (ss key val other p : Int) (hn : 1048576 < n) (w : World) :
    Calls Try.prog 4 #[.slice a n c, .int .i64 ss, .int .i64 key, .int .i64 val, .int .i64 other, .int .i64 p] w fun e w' => e = .returned (.bool true) ∧ Below w.heap.size w w' := by
  go_enter Try.func4, Try.ntmps4
  go_wp2_with fail
  refine (bytes4_no a n c ss key val other p hn _).mono ?_
  rintro e w' ⟨rfl, rfl⟩
  go_wp2
  go_ret
  exact ⟨rfl, Below.refl _ _⟩

set_option maxHeartbeats 400000 in
theorem ins_out (a : Option Addr) (n c : Nat) (ss key val other p : Int) (hn : n ≤ 1048576) (h : 32768 < n ∨ p < 0 ∨ (n : Int) < p) (w : World) :
    Calls Try.prog 4 #[.slice a n c, .int .i64 ss, .int .i64 key, .int .i64 val, .int .i64 other, .int .i64 p] w fun e w' => e = .returned (.bool true) ∧ Below w.heap.size w w' := by
  by_cases h1 : 32768 < n
  · have l1 : (32768 : Int) < (n : Int) := by omega
    clear h
    go_enter Try.func4, Try.ntmps4
    go_wp2_with fail
    refine (bytes4_yes a n c ss key val other p hn _).mono ?_
    rintro e w' ⟨rfl, rfl⟩
    go_wp2
    go_ret
    exact ⟨rfl, Below.refl _ _⟩
  · have l1 : (n : Int) ≤ 32768 := by omega
    by_cases h2 : p < 0
    · clear h
      go_enter Try.func4, Try.ntmps4
      go_wp2_with fail
      refine (bytes4_yes a n c ss key val other p hn _).mono ?_
      rintro e w' ⟨rfl, rfl⟩
      go_wp2
      go_ret
      exact ⟨rfl, Below.refl _ _⟩
    · have l2 : (n : Int) < p := by omega
      clear h
      go_enter Try.func4, Try.ntmps4
      go_wp2_with fail
      refine (bytes4_yes a n c ss key val other p hn _).mono ?_
      rintro e w' ⟨rfl, rfl⟩
      go_wp2
      go_ret
      exact ⟨rfl, Below.refl _ _⟩

/-- The row that make([]gen.Op, 0, 1) lays. -/
def one4 : Array Value := madeCells #[.int .i64 0, .int .i64 0, .int .i64 0, .bool false] (1 * 4)
theorem one_owns (w : World) (o : Op4) : ((w.alloc (boxOf o)).alloc (.cells one4 31)).ownsRow (w.heap.size + 1) 31 4 (.slice (some ⟨w.heap.size + 1, 0, none⟩) 0 1) 0 [] := made_owns w o 1 (by omega)

set_option maxHeartbeats 400000 in
/-- insertAt at the nil slice. -/
theorem insert_nil (o : Op4) (w : World) :
    Calls Try.prog 12 #[.slice none 0 0, .int .i64 0, .agg #[.int .i64 o.s, .int .i64 o.k, .int .i64 o.v, .bool o.b]] w fun e w' => ∃ G, e = .returned (.slice (some ⟨G, 0, none⟩) 1 1) ∧ G < w'.heap.size ∧ OpsAt w' G 0 1 (fun _ => o) ∧ Below w.heap.size w w' := by
  obtain ⟨i0, hi, hz0, hz1, hz2⟩ := info_parts info31
  have hmk : ∀ w, (Instr.makeSlice 24 (.int .i64 0) (.int .i64 1)).run Try.prog w = .ok (.slice (some ⟨w.heap.size, 0, none⟩) 0 1) (w.alloc (.cells one4 31)) := fun w => make_ops 0 1 (Nat.zero_le _) (by omega) w
  have HI : Hid (Try.prog.info? 31 = some i0 ∧ i0.size = 4) := ⟨hi, hz1⟩
  clear hi hz0 hz1 hz2
  go_enter Try.func12, Try.ntmps12
  go_wp2
  clear hmk
  have hown : ((w.alloc (.cells #[.int .i64 o.s, .int .i64 o.k, .int .i64 o.v, .bool o.b] 31)).alloc (.cells one4 31)).ownsRow (w.heap.size + 1) 31 4 (.slice (some ⟨w.heap.size + 1, 0, none⟩) 0 1) 0 [] := one_owns w o
  have hbel : Below (w.heap.size + 1) (w.alloc (boxOf o)) ((w.alloc (.cells #[.int .i64 o.s, .int .i64 o.k, .int .i64 o.v, .bool o.b] 31)).alloc (.cells one4 31)) := (Below.refl _ _).alloc (by simp) _
  generalize (w.alloc (.cells #[.int .i64 o.s, .int .i64 o.k, .int .i64 o.v, .bool o.b] 31)).alloc (.cells one4 31) = wr at hown hbel ⊢
  have hsz := hbel.size
  simp only [World.size_alloc] at hsz
  have bx := box_cells w o
  obtain ⟨x0, x1, x2, x3⟩ : wr.cell? ⟨w.heap.size, 0, none⟩ = some (.int .i64 o.s) ∧ wr.cell? ⟨w.heap.size, 1, none⟩ = some (.int .i64 o.k) ∧ wr.cell? ⟨w.heap.size, 2, none⟩ = some (.int .i64 o.v) ∧ wr.cell? ⟨w.heap.size, 3, none⟩ = some (.bool o.b) :=
    ⟨(hbel.cell (show w.heap.size < w.heap.size + 1 by omega)).trans bx.1, (hbel.cell (show w.heap.size < w.heap.size + 1 by omega)).trans bx.2.1, (hbel.cell (show w.heap.size < w.heap.size + 1 by omega)).trans bx.2.2.1, (hbel.cell (show w.heap.size < w.heap.size + 1 by omega)).trans bx.2.2.2⟩
  clear bx
  refine wp_loop_rounds 1 ?_
  rw [rounds_succ]
  go_wp2_with (at_builtin; refine wpList_append_fits _ rfl _ _ 24 rfl (w.heap.size + 1) 31 i0 4 Try.underlying24 HI.out.1 HI.out.2 (w.heap.size + 1) 0 1 [] rfl (hown.alloc _) ⟨wr.heap.size, 0, none⟩ 1 1 o.cells rfl rfl ?d1 ?d2 ?d3 ?_)
  case d1 => exact news_at wr o
  case d2 => exact cells_one _
  case d3 => omega
  intro w2 hown2 hg2
  have R : Hid (w.heap.size + 1 < w2.heap.size ∧ OpsAt w2 (w.heap.size + 1) 0 1 (fun _ => o) ∧ Below w.heap.size w w2) :=
    ⟨(hown2.lt (w.heap.size + 1) rfl).2, ops_of_owns (g := fun _ => o) (n := 1) hown2, ((Below.refl w.heap.size w).alloc (Nat.le_refl _) (boxOf o)).trans (((hbel.mono (Nat.le_succ _)).alloc (by omega) _).grown hg2 (by simp; omega) (fun j hj => by cases hj; omega))⟩
  clear hown2 hg2 hown hbel x0 x1 x2 x3 hsz
  go_wp2
  refine wp_loop_rounds 1 ?_
  rw [rounds_succ]
  go_wp2
  go_ret
  exact ⟨w.heap.size + 1, rfl, R.out⟩

set_option maxHeartbeats 1000000 in
theorem ins_nil (ss key val other : Int) (w : World) :
    Calls Try.prog 4 #[.slice none 0 0, .int .i64 ss, .int .i64 key, .int .i64 val, .int .i64 other, .int .i64 0] w fun e w' => e = .returned (.bool true) ∧ Below w.heap.size w w' := by
  go_enter Try.func4, Try.ntmps4
  go_wp2_with fail
  refine (bytes4_yes none 0 0 ss key val other 0 (by omega) _).mono ?_
  rintro e w' ⟨rfl, rfl⟩
  go_wp2_with fail
  refine (toGen_nil _).mono ?_
  rintro e w' ⟨rfl, rfl⟩
  go_wp2_with fail
  refine (last_nil key _).mono ?_
  rintro e w1 ⟨rfl, B1⟩
  go_wp2_with fail
  refine (insert_nil ⟨ss, key, val, true⟩ _).mono ?_
  rintro e w2 ⟨G, rfl, hlt2, hop2, hb2⟩
  have M2 : Lies w w2 G 1 (fun _ => ⟨ss, key, val, true⟩) := ⟨hop2, hlt2⟩
  have B2 : Below w.heap.size w w2 := B1.trans (hb2.mono B1.size)
  clear hlt2 hop2 hb2 B1
  go_wp2_with fail
  refine (has_nil key _).mono ?_
  rintro e w' ⟨rfl, rfl⟩
  go_wp2_with fail
  refine (last_to G 0 1 1 (fun _ => ⟨ss, key, val, true⟩) key val (lw_hit (hit_write _ _ _)) (by omega) w2 M2.lt M2.ops).mono ?_
  rintro e w3 ⟨rfl, hb3⟩
  have M3 := M2.later hb3
  have B3 : Below w.heap.size w w3 := B2.trans (hb3.mono B2.size)
  clear M2 hb3 B2
  go_wp2_with fail
  refine (insert_nil ⟨ss, key, val, false⟩ _).mono ?_
  rintro e w4 ⟨G2, rfl, hlt4, hop4, hb4⟩
  have M4 := M3.later hb4
  have B4 : Below w.heap.size w w4 := B3.trans (hb4.mono B3.size)
  clear M3 hb4 B3
  go_wp2_with fail
  refine (last_to G2 0 1 1 (fun _ => ⟨ss, key, val, false⟩) key 0 (lw_skip (hit_read _ _ _ _)) (by omega) w4 hlt4 hop4).mono ?_
  rintro e w5 ⟨rfl, hb5⟩
  have M5 := M4.later hb5
  have B5 : Below w.heap.size w w5 := B4.trans (hb5.mono B4.size)
  clear M4 hb5 B4 hlt4 hop4
  cases hok : (other == key) with
  | true =>
    obtain rfl : other = key := by simpa using hok
    clear hok
    go_wp2
    go_ret
    exact ⟨rfl, B5⟩
  | false =>
    have HN : Hid (other ≠ key) := by simpa [Hid] using hok
    have hok2 : (other != key) = true := by simpa using hok
    clear hok
    go_wp2_with fail
    refine (last_to G 0 1 1 (fun _ => ⟨ss, key, val, true⟩) other 0 (lw_skip (hit_other _ _ _ _ HN.out)) (by omega) w5 M5.lt M5.ops).mono ?_
    rintro e w6 ⟨rfl, hb6⟩
    have B6 : Below w.heap.size w w6 := B5.trans (hb6.mono B5.size)
    clear M5 hb6 B5
    go_wp2_with fail
    refine (last_nil other _).mono ?_
    rintro e w7 ⟨rfl, hb7⟩
    have B7 : Below w.heap.size w w7 := B6.trans (hb7.mono B6.size)
    clear hb7 B6
    go_wp2
    go_ret
    exact ⟨rfl, B7⟩
end Go.Proofs.Qxb6617376a
