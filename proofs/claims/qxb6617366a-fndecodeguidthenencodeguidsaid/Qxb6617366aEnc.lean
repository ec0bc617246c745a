import Derived.Test.Qxb6617366aDec
import Derived.Deep.Cut
namespace Go.Proofs.Qxb6617366a
open Go.RowKit

set_option maxHeartbeats 400000 in
theorem zdec_any (b n c : Nat) (z : Nat → Int) (hn : 16 ≤ n) (w : World) (hr : w.rowIs b 5 n (fun i => .int .u8 (z i))) :
    Calls Try.prog 15 #[.slice (some ⟨b, 0, none⟩) n c] w fun e w' => e = .returned (.agg (guidOf (fun i => z (perm i)))) ∧ Below w.heap.size w w' := by
  have HR : Hid (w.rowIs b 5 n (fun i => .int .u8 (z i))) := hr
  clear hr
  go_enter Try.func15, Try.ntmps15
  go_wp2_with fail
  refine (dec_any b n c z hn _ (HR.out.alloc _)).mono ?_
  rintro e w1 ⟨rfl, hb1⟩
  obtain ⟨Z, hr1, hZ⟩ : ∃ Z, w1.heap[w.heap.size]? = some (.cells Z 25 (0, 0)) ∧ Z.size = 16 := ⟨_, (hb1.block _ (by simp)).trans (heap_alloc_last w _), rfl⟩
  have hbel : Below w.heap.size w w1 := ((Below.refl _ _).alloc (Nat.le_refl _) _).trans (hb1.mono (by simp))
  have hold : Z.size = (guidOf (fun i => z (perm i))).size := hZ
  have HO : Hid (Z.size = (guidOf (fun i => z (perm i))).size) := hold
  clear hold hZ hb1
  go_wp2_with (refine wpList_store_row rfl 25 _ _ rfl _ _ rfl rfl 25 Z ?hr4 info25' ?hold (guidOf_all _) ?_)
  case hr4 => exact hr1
  case hold => exact HO.out
  refine bodyPost_ret (v := .agg (guidOf (fun i => z (perm i)))) ?_ rfl ⟨rfl, below_setRow hbel (Nat.le_refl _) _⟩
  exact results_cell_row Try.results15 _ _ w.heap.size 25 (guidOf (fun i => z (perm i))) (0, 0) _ rfl (setRow_heap _ _ _ _ _ _ hr1) Try.underlying25 rfl info25'

theorem grown_setCell {w w' : World} {row : Option Nat} {b o : Nat} {v : Value} (h : w.grownBy w' row) (hr : row = some b) : w.grownBy (w'.setCell ⟨b, o, none⟩ v) row := by
  have hs : (w'.setCell ⟨b, o, none⟩ v).heap.size = w'.heap.size := by simp [World.setCell]
  exact ⟨h.os, h.tape, h.output, by rw [hs]; exact h.size, fun k hk hne => by rw [Below.heap_setCell _ _ _ _ (by intro e; exact hne (by rw [hr, e]))]; exact h.block k hk hne⟩

theorem grown_alloc {w w' : World} {row : Option Nat} (h : w.grownBy w' row) (o : Obj) : w.grownBy (w'.alloc o) row :=
  ⟨h.os, h.tape, h.output, Nat.le_trans h.size (by simp), fun k hk hne => by rw [Below.heap_alloc _ _ _ (Nat.lt_of_lt_of_le hk h.size)]; exact h.block k hk hne⟩

theorem info5 : (Try.prog.info? 5).map (·.size) = some 1 := by kernel_rfl

/-- The world behind the eight stores. -/
theorem stored8 (w : World) (b n : Nat) (z y : Nat → Int) (hr : w.rowIs b 5 n (fun i => .int .u8 (z i))) :
    ((((((((((w.setCell ⟨b, 0, none⟩ (.int .u8 (y 3))).setCell ⟨b, 1, none⟩ (.int .u8 (y 2))).setCell ⟨b, 2, none⟩ (.int .u8 (y 1))).setCell ⟨b, 3, none⟩ (.int .u8 (y 0))).setCell ⟨b, 4, none⟩ (.int .u8 (y 5))).setCell ⟨b, 5, none⟩ (.int .u8 (y 4))).setCell ⟨b, 6, none⟩ (.int .u8 (y 7))).setCell ⟨b, 7, none⟩ (.int .u8 (y 6)))).alloc (.cells (guidOf y) 25)).rowIs b 5 n (fun j => .int .u8 (if j < 8 then y (perm j) else z j)) ∧
    ((((((((((w.setCell ⟨b, 0, none⟩ (.int .u8 (y 3))).setCell ⟨b, 1, none⟩ (.int .u8 (y 2))).setCell ⟨b, 2, none⟩ (.int .u8 (y 1))).setCell ⟨b, 3, none⟩ (.int .u8 (y 0))).setCell ⟨b, 4, none⟩ (.int .u8 (y 5))).setCell ⟨b, 5, none⟩ (.int .u8 (y 4))).setCell ⟨b, 6, none⟩ (.int .u8 (y 7))).setCell ⟨b, 7, none⟩ (.int .u8 (y 6)))).alloc (.cells (guidOf y) 25)).heap[w.heap.size]? = some (.cells (guidOf y) 25 (0, 0)) ∧
    w.grownBy ((((((((((w.setCell ⟨b, 0, none⟩ (.int .u8 (y 3))).setCell ⟨b, 1, none⟩ (.int .u8 (y 2))).setCell ⟨b, 2, none⟩ (.int .u8 (y 1))).setCell ⟨b, 3, none⟩ (.int .u8 (y 0))).setCell ⟨b, 4, none⟩ (.int .u8 (y 5))).setCell ⟨b, 5, none⟩ (.int .u8 (y 4))).setCell ⟨b, 6, none⟩ (.int .u8 (y 7))).setCell ⟨b, 7, none⟩ (.int .u8 (y 6)))).alloc (.cells (guidOf y) 25)) (some b) := by
  refine ⟨?_, ?_, ?_⟩
  · refine (((((((((hr.set 0 _).set 1 _).set 2 _).set 3 _).set 4 _).set 5 _).set 6 _).set 7 _).alloc _).congr (fun i hi => ?_)
    by_cases h : i < 8
    · match i, h with
      | 0, _ | 1, _ | 2, _ | 3, _ | 4, _ | 5, _ | 6, _ | 7, _ => rfl
      | i + 8, h => omega
    · simp only [if_neg h]
      rw [if_neg (by omega), if_neg (by omega), if_neg (by omega), if_neg (by omega), if_neg (by omega), if_neg (by omega), if_neg (by omega), if_neg (by omega)]
  · have e : (((((((((w.setCell ⟨b, 0, none⟩ (.int .u8 (y 3))).setCell ⟨b, 1, none⟩ (.int .u8 (y 2))).setCell ⟨b, 2, none⟩ (.int .u8 (y 1))).setCell ⟨b, 3, none⟩ (.int .u8 (y 0))).setCell ⟨b, 4, none⟩ (.int .u8 (y 5))).setCell ⟨b, 5, none⟩ (.int .u8 (y 4))).setCell ⟨b, 6, none⟩ (.int .u8 (y 7))).setCell ⟨b, 7, none⟩ (.int .u8 (y 6)))).heap.size = w.heap.size := by simp [World.setCell]
    rw [← e]
    exact heap_alloc_last _ _
  · have g0 : w.grownBy (((((((((w.setCell ⟨b, 0, none⟩ (.int .u8 (y 3))).setCell ⟨b, 1, none⟩ (.int .u8 (y 2))).setCell ⟨b, 2, none⟩ (.int .u8 (y 1))).setCell ⟨b, 3, none⟩ (.int .u8 (y 0))).setCell ⟨b, 4, none⟩ (.int .u8 (y 5))).setCell ⟨b, 5, none⟩ (.int .u8 (y 4))).setCell ⟨b, 6, none⟩ (.int .u8 (y 7))).setCell ⟨b, 7, none⟩ (.int .u8 (y 6)))) (some b) := by
      exact grown_setCells b [.int .u8 (y 3), .int .u8 (y 2), .int .u8 (y 1), .int .u8 (y 0), .int .u8 (y 5), .int .u8 (y 4), .int .u8 (y 7), .int .u8 (y 6)] 0 w
    exact grown_alloc g0 _

/-- copy(b[8:16], g[8:16]). -/
theorem copy_run (w : World) (b n cc g : Nat) (z y : Nat → Int) (ty : TypeId) (hn : 16 ≤ n) (hr : w.rowIs b 5 n (fun j => .int .u8 (if j < 8 then y (perm j) else z j))) (hx : w.heap[g]? = some (.cells (guidOf y) 25 (0, 0))) :
    (Builtin.copy_ #[33, 33] ty #[.slice (some ⟨b, 8, none⟩) 8 cc, .slice (some ⟨g, 8, none⟩) 8 8]).run Try.prog w = .ok (.int .i64 8) (w.setCells b 8 [.int .u8 (y 8), .int .u8 (y 9), .int .u8 (y 10), .int .u8 (y 11), .int .u8 (y 12), .int .u8 (y 13), .int .u8 (y 14), .int .u8 (y 15)]) := by
  have h := run_copy_cells (P := Try.prog) w 33 33 ty 5 b 8 8 cc ⟨g, 8, none⟩ 8 8 [.int .u8 (y 8), .int .u8 (y 9), .int .u8 (y 10), .int .u8 (y 11), .int .u8 (y 12), .int .u8 (y 13), .int .u8 (y 14), .int .u8 (y 15)] Try.underlying33 info5 rfl
    (fun j v hj => by
      rw [Addr.add_mid, cell_of_row w g (8 + j) _ _ _ hx]
      have hl : j < 8 := (List.getElem?_eq_some_iff.1 hj).1
      rw [guidOf_at y (8 + j) (by omega), ← hj]
      match j, hl with
      | 0, _ | 1, _ | 2, _ | 3, _ | 4, _ | 5, _ | 6, _ | 7, _ => rfl
      | j + 8, h => omega)
    (fun j hj => by rw [hr.cell (by simp at hj; omega)]; rfl) (fun j hj => hr.frozen _) (by simp [Value.oneCell'])
  exact h

theorem grown_trans {w w1 w2 : World} {row : Option Nat} (h : w.grownBy w1 row) (k : w1.grownBy w2 row) : w.grownBy w2 row :=
  ⟨k.os.trans h.os, k.tape.trans h.tape, k.output.trans h.output, Nat.le_trans h.size k.size, fun i hi hne => (k.block i (Nat.lt_of_lt_of_le hi h.size) hne).trans (h.block i hi hne)⟩

/-- The world behind the copy. -/
theorem stored16 (w w8 : World) (b n : Nat) (z y : Nat → Int) (hn : 16 ≤ n) (hr : w8.rowIs b 5 n (fun j => .int .u8 (if j < 8 then y (perm j) else z j))) (hg : w.grownBy w8 (some b)) :
    (w8.drew.setCells b 8 [.int .u8 (y 8), .int .u8 (y 9), .int .u8 (y 10), .int .u8 (y 11), .int .u8 (y 12), .int .u8 (y 13), .int .u8 (y 14), .int .u8 (y 15)]).rowIs b 5 n (fun i => .int .u8 (if i < 16 then y (perm i) else z i)) ∧
    w.grownBy (w8.drew.setCells b 8 [.int .u8 (y 8), .int .u8 (y 9), .int .u8 (y 10), .int .u8 (y 11), .int .u8 (y 12), .int .u8 (y 13), .int .u8 (y 14), .int .u8 (y 15)]) (some b) := by
  have hd : w8.grownBy w8.drew (some b) := ⟨rfl, rfl, rfl, Nat.le_refl _, fun _ _ _ => rfl⟩
  refine ⟨?_, grown_trans hg (grown_trans hd (grown_setCells b _ 8 w8.drew))⟩
  obtain ⟨C, hb, hz, hc⟩ := hr
  obtain ⟨C', h, z', q, i'⟩ := heap_setCells_same b 5 [.int .u8 (y 8), .int .u8 (y 9), .int .u8 (y 10), .int .u8 (y 11), .int .u8 (y 12), .int .u8 (y 13), .int .u8 (y 14), .int .u8 (y 15)] 8 w8.drew C hb (by simp; omega)
  refine ⟨C', h, by omega, fun i hi => ?_⟩
  have hci := hc i hi
  dsimp only at hci ⊢
  by_cases h8 : i < 8
  · rw [q i (Or.inl h8), hci, if_pos h8, if_pos (by omega)]
  by_cases h16 : i < 16
  · have := i' (i - 8) (by simp; omega)
    rw [show 8 + (i - 8) = i by omega] at this
    rw [this, if_pos h16]
    match i, h8, h16 with
    | 8, _, _ | 9, _, _ | 10, _, _ | 11, _, _ | 12, _, _ | 13, _, _ | 14, _, _ | 15, _, _ => rfl
    | i + 16, _, h => omega
    | 0, h, _ | 1, h, _ | 2, h, _ | 3, h, _ | 4, h, _ | 5, h, _ | 6, h, _ | 7, h, _ => omega
  · rw [q i (Or.inr (by simp; omega)), hci, if_neg h8, if_neg h16]

set_option maxHeartbeats 1000000 in
theorem enc_any (b n c : Nat) (z y : Nat → Int) (hn : 16 ≤ n) (hc : n ≤ c) (w : World) (hr : w.rowIs b 5 n (fun i => .int .u8 (z i))) :
    Calls Try.prog 18 #[.slice (some ⟨b, 0, none⟩) n c, .agg (guidOf y)] w fun e w' => e = .returned (.tuple #[]) ∧ w'.rowIs b 5 n (fun i => .int .u8 (if i < 16 then y (perm i) else z i)) ∧ w.grownBy w' (some b) := by
  have hb := hr.lt
  have cs : ∀ i, i < 16 → w.cell? ⟨b, i, none⟩ = some (.int .u8 (z i)) := fun i hi => hr.cell (by omega)
  have fs : ∀ i, w.frozen? ⟨b, i, none⟩ = false := fun i => hr.frozen i
  have cb := box_at w y 25
  have cg := guidOf_at y
  have s0 := cs 0 (by decide); have s1 := cs 1 (by decide); have s2 := cs 2 (by decide); have s3 := cs 3 (by decide); have s4 := cs 4 (by decide); have s5 := cs 5 (by decide); have s6 := cs 6 (by decide); have s7 := cs 7 (by decide)
  have b0 := cb 0 (by decide); have b1 := cb 1 (by decide); have b2 := cb 2 (by decide); have b3 := cb 3 (by decide); have b4 := cb 4 (by decide); have b5 := cb 5 (by decide); have b6 := cb 6 (by decide); have b7 := cb 7 (by decide)
  have g0 := cg 0 (by decide); have g1 := cg 1 (by decide); have g2 := cg 2 (by decide); have g3 := cg 3 (by decide); have g4 := cg 4 (by decide); have g5 := cg 5 (by decide); have g6 := cg 6 (by decide); have g7 := cg 7 (by decide)
  have e0 := fs 0; have e1 := fs 1; have e2 := fs 2; have e3 := fs 3; have e4 := fs 4; have e5 := fs 5; have e6 := fs 6; have e7 := fs 7
  have HR : Hid (w.rowIs b 5 n (fun i => .int .u8 (z i))) := hr
  clear cs cb cg fs hr
  have hne : b ≠ w.heap.size := by omega
  have q0 : 0 < n := by omega
  have q1 : (1 : Int) < (n : Int) := by omega
  have q2 : (2 : Int) < (n : Int) := by omega
  have q3 : (3 : Int) < (n : Int) := by omega
  have q4 : (4 : Int) < (n : Int) := by omega
  have q5 : (5 : Int) < (n : Int) := by omega
  have q6 : (6 : Int) < (n : Int) := by omega
  have q7 : (7 : Int) < (n : Int) := by omega
  go_enter Try.func18, Try.ntmps18
  go_upto_region 4 with fail
  clear s0 s1 s2 s3 s4 s5 s6 s7 b0 b1 b2 b3 b4 b5 b6 b7 g0 g1 g2 g3 g4 g5 g6 g7 e0 e1 e2 e3 e4 e5 e6 e7 q0 q1 q2 q3 q4 q5 q6 q7
  obtain ⟨hr8, hx8, hg8⟩ := stored8 w b n z y HR.out
  generalize (((((((((w.setCell ⟨b, 0, none⟩ (.int .u8 (y 3))).setCell ⟨b, 1, none⟩ (.int .u8 (y 2))).setCell ⟨b, 2, none⟩ (.int .u8 (y 1))).setCell ⟨b, 3, none⟩ (.int .u8 (y 0))).setCell ⟨b, 4, none⟩ (.int .u8 (y 5))).setCell ⟨b, 5, none⟩ (.int .u8 (y 4))).setCell ⟨b, 6, none⟩ (.int .u8 (y 7))).setCell ⟨b, 7, none⟩ (.int .u8 (y 6)))).alloc (.cells (guidOf y) 25) = w8 at hr8 hx8 hg8 ⊢
  have H8 : Hid (w8.rowIs b 5 n (fun j => .int .u8 (if j < 8 then y (perm j) else z j)) ∧ w.grownBy w8 (some b)) := ⟨hr8, hg8⟩
  have hcp := fun ty => copy_run w8.drew b n (c - 8) w.heap.size z y ty hn hr8 hx8
  have k8 : (8 : Int) ≤ 16 := by omega
  have kc : (16 : Int) ≤ (c : Int) := by omega
  clear hr8 hx8 hg8
  go_region
  go_wp2
  go_end0
  obtain ⟨r1, r2⟩ := stored16 w w8 b n z y hn H8.out.1 H8.out.2
  exact ⟨rfl, r1, r2⟩
end Go.Proofs.Qxb6617366a
