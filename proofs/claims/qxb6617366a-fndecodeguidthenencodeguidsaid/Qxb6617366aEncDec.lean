import Derived.Test.Qxb6617366aEq
namespace Go.Proofs.Qxb6617366a
open Go.RowKit

theorem info23' : (Try.prog.info? 23).map (·.size) = some 16 := by kernel_rfl

theorem perm_perm (i : Nat) (h : i < 16) : perm (perm i) = i := by
  match i, h with
  | 0, _ | 1, _ | 2, _ | 3, _ | 4, _ | 5, _ | 6, _ | 7, _ | 8, _ | 9, _ | 10, _ | 11, _ | 12, _ | 13, _ | 14, _ | 15, _ => rfl
  | n + 16, h => omega
theorem perm_lt (i : Nat) (h : i < 16) : perm i < 16 := by
  match i, h with
  | 0, _ | 1, _ | 2, _ | 3, _ | 4, _ | 5, _ | 6, _ | 7, _ | 8, _ | 9, _ | 10, _ | 11, _ | 12, _ | 13, _ | 14, _ | 15, _ => decide
  | n + 16, h => omega
theorem guidOf_congr {x y : Nat → Int} (h : ∀ i, i < 16 → x i = y i) : guidOf x = guidOf y := by
  simp only [guidOf, h 0 (by omega), h 1 (by omega), h 2 (by omega), h 3 (by omega), h 4 (by omega), h 5 (by omega), h 6 (by omega), h 7 (by omega), h 8 (by omega), h 9 (by omega), h 10 (by omega), h 11 (by omega), h 12 (by omega), h 13 (by omega), h 14 (by omega), h 15 (by omega)]

/-- What decodeGUID reads, said by the GUID itself. -/
theorem zdec_to (b n c : Nat) (z y : Nat → Int) (hn : 16 ≤ n) (w : World) (hr : w.rowIs b 5 n (fun i => .int .u8 (z i))) (hz : ∀ i, i < 16 → z (perm i) = y i) :
    Calls Try.prog 15 #[.slice (some ⟨b, 0, none⟩) n c] w fun e w' => e = .returned (.agg (guidOf y)) ∧ Below w.heap.size w w' := by
  have := zdec_any b n c z hn w hr
  rwa [guidOf_congr hz] at this

/-- WHAT STANDS BETWEEN THE CALLS: the box of g, the copy 'want' in block A, the buffer in block B; nothing old has turned. -/
structure Mid (w wr : World) (y : Nat → Int) (A B n : Nat) (z f : Nat → Int) : Prop where
  box : wr.heap[w.heap.size]? = some (.cells (guidOf y) 23 (0, 0))
  want : wr.rowIs A 5 n (fun i => .int .u8 (z i))
  buf : wr.rowIs B 5 n (fun i => .int .u8 (f i))
  ne : A ≠ B
  lo : w.heap.size < A
  loB : w.heap.size < B
  bel : Below w.heap.size w wr

theorem Mid.later {w wr w' : World} {y : Nat → Int} {A B n : Nat} {z f : Nat → Int} (h : Mid w wr y A B n z f) (hb : Below wr.heap.size wr w') : Mid w w' y A B n z f :=
  ⟨(hb.block _ (Nat.lt_trans h.lo h.want.lt)).trans h.box, h.want.of_block (hb.block _ h.want.lt), h.buf.of_block (hb.block _ h.buf.lt), h.ne, h.lo, h.loB, h.bel.trans (hb.mono h.bel.size)⟩

theorem Mid.drewN {w wr : World} {y : Nat → Int} {A B n : Nat} {z f : Nat → Int} (h : Mid w wr y A B n z f) (k : Nat) : Mid w (wr.drewN k) y A B n z f := h.later (below_drewN (Below.refl _ _) k)

theorem Mid.written {w wr w' : World} {y : Nat → Int} {A B n : Nat} {z f f' : Nat → Int} (h : Mid w wr y A B n z f) (hg : wr.grownBy w' (some B)) (hr : w'.rowIs B 5 n (fun i => .int .u8 (f' i))) : Mid w w' y A B n z f' :=
  ⟨(hg.block _ (Nat.lt_trans h.lo h.want.lt) (by have := h.loB; simp; omega)).trans h.box, h.want.of_block (hg.block _ h.want.lt (by have := h.ne; simpa using this)), hr, h.ne, h.lo, h.loB,
   h.bel.grown hg h.bel.size (fun k hk => by cases hk; exact Nat.le_of_lt h.loB)⟩

theorem box_range {w : World} {b : Nat} {C : Array Value} {t : TypeId} (hb : w.heap[b]? = some (.cells C t (0, 0))) : w.rangeAt b 0 C.toList := fun j v hv => by
  rw [Nat.zero_add, cell_of_row w b j C t (0, 0) hb]; simpa using hv

set_option maxHeartbeats 400000 in
theorem encdec_walk (b off n c : Nat) (z y : Nat → Int) (hy : ∀ i, i < 16 → 0 ≤ y i ∧ y i ≤ 255) (hn : 16 ≤ n) (hn' : n ≤ 1048576) (w : World) (hcl : ∀ i, i < n → w.cell? ⟨b, off + i, none⟩ = some (.int .u8 (z i))) (hb : b < w.heap.size) :
    Calls Try.prog 5 #[.slice (some ⟨b, off, none⟩) n c, .agg (guidOf y)] w fun e w' => e = .returned (.bool true) ∧ Below w.heap.size w w' := by
  have HC : Hid (∀ i, i < n → w.cell? ⟨b, off + i, none⟩ = some (.int .u8 (z i))) := hcl
  have HY : Hid (∀ i, i < 16 → 0 ≤ y i ∧ y i ≤ 255) := hy
  clear hcl hy
  have l1 : (n : Int) ≤ 1048576 := by omega
  have l2 : (16 : Int) ≤ (n : Int) := by omega
  go_enter Try.func5, Try.ntmps5
  go_wp2_with (refine wpList_load_new rfl 23 _ rfl _ _ rfl _ Try.underlying23 rfl info23' ?_)
  refine (bytes5_any _ n c _ hn' _).mono ?_
  rintro e w1 ⟨rfl, hb1⟩
  go_wp2_with fail
  refine (clone_any b off n c z hn' w1 ?_ ?_).mono ?_
  · intro i hi
    rw [hb1.cell (show b < _ by simp; omega), World.cell?_alloc_lt _ _ _ (show b < w.heap.size from hb)]
    exact HC.out i hi
  · have := hb1.size; simp at this; omega
  rintro e w2 ⟨rfl, hr2, hb2⟩
  go_wp2_with fail
  have hs1 := hb1.size
  have hs2 := hb2.size
  simp only [World.size_alloc] at hs1
  refine (clone_any b off n c z hn' w2 ?_ ?_).mono ?_
  · intro i hi
    rw [hb2.cell (show b < _ by omega), hb1.cell (show b < _ by simp; omega), World.cell?_alloc_lt _ _ _ (show b < w.heap.size from hb)]
    exact HC.out i hi
  · omega
  rintro e w3 ⟨rfl, hr3, hb3⟩
  have M3 : Mid w w3 y w1.heap.size w2.heap.size n z z := by
    have hlt := hr2.lt
    refine ⟨?_, hr2.of_block (hb3.block _ hlt), hr3, by omega, by omega, by omega, ?_⟩
    · rw [hb3.block _ (by omega), hb2.block _ (by omega), hb1.block _ (by simp)]
      exact heap_alloc_last w _
    · exact ((Below.refl _ _).alloc (Nat.le_refl _) _).trans ((hb1.mono (by simp)).trans ((hb2.mono (by omega)).trans (hb3.mono (by omega))))
  clear hb1 hb2 hb3 hr2 hr3 hs1 hs2 HC
  generalize w1.heap.size = A at M3 ⊢
  generalize w2.heap.size = B at M3 ⊢
  have H3 := M3
  clear M3
  go_wp2_with (refine wpList_load_row rfl 23 _ rfl _ rfl 23 (guidOf y) (0, 0) _ ?hl3 Try.underlying23 rfl info23' ?_)
  case hl3 => exact H3.box
  refine (zenc_any B n n z y hn (Nat.le_refl _) _ H3.buf).mono ?_
  rintro e w4 ⟨rfl, hr4, hg4⟩
  have H4 := H3.written hg4 hr4
  clear H3 hr4 hg4
  go_wp2_with (refine wpList_load_row rfl 23 _ rfl _ rfl 23 (guidOf y) (0, 0) _ ?hl4 Try.underlying23 rfl info23' ?_)
  case hl4 => exact H4.box
  refine (stored_any B n n _ y HY.out hn _ H4.buf (fun i hi => by rw [if_pos hi])).mono ?_
  rintro e w5 ⟨rfl, hb5⟩
  have H5 := H4.later hb5
  clear H4 hb5
  go_wp2_with fail
  go_loopw [6] (fun i wr => ∃ k : Nat, 16 ≤ k ∧ k ≤ n ∧ i = .int .i64 k ∧ Mid w wr y A B n z (fun i => if i < 16 then y (perm i) else z i)) (fun i _ => n - (intOf i).toNat)
  case atStart => exact ⟨16, by omega, by omega, rfl, H5⟩
  case round =>
    obtain ⟨k, hk1, hk2, rfl, hm⟩ := hrel
    by_cases hlt : k < n
    · have c1 : wr.cell? ⟨B, k, none⟩ = some (.int .u8 (z k)) := by rw [hm.buf.cell hlt, if_neg (by omega)]
      have c2 : wr.cell? ⟨A, k, none⟩ = some (.int .u8 (z k)) := hm.want.cell hlt
      have l3 : (k : Int) < (n : Int) := by omega
      go_wp2
      go_quiet (fail)
      go_wp2
      go_roundw
      case rel => exact ⟨k + 1, by omega, by omega, by go_num, hm.drewN _⟩
      case measure => simp [intOf]; omega
    · go_wp2
      have hu := Try.underlying23
      have hi : (Try.prog.info? 23).map (·.size) = some (guidOf y).toList.length := info23'
      have he := eql_guid y
      have hgd := guard_guid y
      have hrg : wr.rangeAt w.heap.size 0 (guidOf y).toList := box_range hm.box
      have HM : Hid (Mid w wr y A B n z (fun i => if i < 16 then y (perm i) else z i)) := hm
      clear hm
      go_region_held3 (fun v => v.rangeAt w.heap.size 0 (guidOf y).toList) (first | exact hrg | exact box_range ((HM.out.drewN 1).later hb6).box) ((go_at_call 15; refine (zdec_to B n n (fun i => if i < 16 then y (perm i) else z i) y hn _ ?_ ?_).mono ?_; (exact HM.out.buf); (intro i hi; rw [if_pos (perm_lt i hi), perm_perm i hi]); rintro e w' ⟨rfl, hb6⟩))
      go_wp2
      go_ret
      exact ⟨rfl, ((HM.out.drewN 1).later hb6).bel⟩
end Go.Proofs.Qxb6617366a
