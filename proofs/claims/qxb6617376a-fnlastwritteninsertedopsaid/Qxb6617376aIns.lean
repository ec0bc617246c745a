import Derived.Test.Qxb6617376aWk
import Derived.Test.Qxb6617376aCut
namespace Go.Proofs.Qxb6617376a
open Go.RowKit

theorem OpsAt.at0 {w : World} {b n : Nat} {g : Nat → Op4} (h : OpsAt w b 0 n g) {i : Nat} (hi : i < n) :
    w.cell? ⟨b, i * 4, none⟩ = some (.int .i64 (g i).s) ∧ w.cell? ⟨b, i * 4 + 1, none⟩ = some (.int .i64 (g i).k) ∧ w.cell? ⟨b, i * 4 + 2, none⟩ = some (.int .i64 (g i).v) ∧ w.cell? ⟨b, i * 4 + 3, none⟩ = some (.bool (g i).b) := by
  have := h i hi
  rwa [Nat.zero_add] at this

/-- The block of the operation that is put in. -/
def boxOf (o : Op4) : Obj := .cells #[.int .i64 o.s, .int .i64 o.k, .int .i64 o.v, .bool o.b] 31

theorem box_cells (w : World) (o : Op4) : (w.alloc (boxOf o)).cell? ⟨w.heap.size, 0, none⟩ = some (.int .i64 o.s) ∧ (w.alloc (boxOf o)).cell? ⟨w.heap.size, 1, none⟩ = some (.int .i64 o.k) ∧ (w.alloc (boxOf o)).cell? ⟨w.heap.size, 2, none⟩ = some (.int .i64 o.v) ∧ (w.alloc (boxOf o)).cell? ⟨w.heap.size, 3, none⟩ = some (.bool o.b) := by
  have h := heap_alloc_last w (boxOf o)
  unfold boxOf at h ⊢
  refine ⟨?_, ?_, ?_, ?_⟩ <;> rw [cell_of_row _ _ _ _ _ _ h] <;> rfl

theorem made_owns (w : World) (o : Op4) (m : Nat) (hm : m ≤ 1048576) : ((w.alloc (boxOf o)).alloc (.cells (madeCells #[.int .i64 0, .int .i64 0, .int .i64 0, .bool false] (m * 4)) 31)).ownsRow (w.heap.size + 1) 31 4 (.slice (some ⟨w.heap.size + 1, 0, none⟩) 0 m) 0 [] := by
  have e : (w.alloc (boxOf o)).heap.size = w.heap.size + 1 := by simp
  have := World.ownsRow_made (base := w.heap.size + 1) (e := 31) (size := 4) (w.alloc (boxOf o)) (madeCells #[.int .i64 0, .int .i64 0, .int .i64 0, .bool false] (m * 4)) m (by omega) (by unfold maxLen; omega) (size_madeCells _ _)
  rwa [e] at this

theorem ins_lo (g : Nat → Op4) (p : Nat) (o : Op4) {k : Nat} (h : k < p) : ins g p o k = g k := by simp [ins, h]
theorem ins_at (g : Nat → Op4) (p : Nat) (o : Op4) : ins g p o p = o := by simp [ins]
theorem ins_hi (g : Nat → Op4) (p : Nat) (o : Op4) {k : Nat} (h : p ≤ k) : ins g p o (k + 1) = g k := by
  simp only [ins]; rw [if_neg (by omega), if_neg (by omega)]; simp

set_option maxHeartbeats 1000000 in
theorem insert_any (b n c p : Nat) (g : Nat → Op4) (o : Op4) (hn : n ≤ 32768) (hp : p ≤ n) (w : World) (hb : b < w.heap.size) (hc : OpsAt w b 0 n g) :
    Calls Try.prog 12 #[.slice (some ⟨b, 0, none⟩) n c, .int .i64 p, .agg #[.int .i64 o.s, .int .i64 o.k, .int .i64 o.v, .bool o.b]] w fun e w' => ∃ G, e = .returned (.slice (some ⟨G, 0, none⟩) (n + 1) (n + 1)) ∧ G < w'.heap.size ∧ OpsAt w' G 0 (n + 1) (ins g p o) ∧ Below w.heap.size w w' := by
  obtain ⟨i0, hi, hz0, hz1, hz2⟩ := info_parts info31
  have hmk : ∀ w, (Instr.makeSlice 24 (.int .i64 0) (.int .i64 ((n : Int) + 1))).run Try.prog w = .ok (.slice (some ⟨w.heap.size, 0, none⟩) 0 (n + 1)) (w.alloc (.cells (madeCells #[.int .i64 0, .int .i64 0, .int .i64 0, .bool false] ((n + 1) * 4)) 31)) := fun w => by
    have := make_ops 0 (n + 1) (Nat.zero_le _) (by omega) w
    simpa using this
  have l0 : (n : Int) ≤ 32768 := by omega
  have l1 : (p : Int) ≤ (n : Int) := by omega
  have HI : Hid (Try.prog.info? 31 = some i0 ∧ i0.size = 4) := ⟨hi, hz1⟩
  have HC : Hid (OpsAt w b 0 n g) := hc
  clear hi hz0 hz1 hz2 hc
  go_enter Try.func12, Try.ntmps12
  go_wp2
  clear hmk
  go_loopw [7, 8] (fun v i wr => ∃ k : Nat, k ≤ p ∧ i = .int .i64 k ∧ v = .slice (some ⟨w.heap.size + 1, 0, none⟩) k (n + 1) ∧ wr.ownsRow (w.heap.size + 1) 31 4 (.slice (some ⟨w.heap.size + 1, 0, none⟩) k (n + 1)) k (flat (ins g p o) k) ∧ Below (w.heap.size + 1) (w.alloc (boxOf o)) wr) (fun _ i _ => p - (intOf i).toNat)
  case atStart => exact ⟨0, Nat.zero_le _, rfl, rfl, made_owns w o (n + 1) (by omega), (Below.refl _ _).alloc (by simp) _⟩
  case round =>
    obtain ⟨k, hk, rfl, rfl, hown, hbel⟩ := hrel
    have hsz := hbel.size
    simp only [World.size_alloc] at hsz
    have hoA : OpsAt wr b 0 n g := (HC.out.later ((Below.refl w.heap.size w).alloc (Nat.le_refl _) (boxOf o)) hb).later hbel (by omega)
    by_cases hlt : k < p
    · obtain ⟨c0, c1, c2, c3⟩ := hoA.at0 (i := k) (by omega)
      have l2 : (k : Int) < (p : Int) := by omega
      have l3 : (k : Int) < (n : Int) := by omega
      have HE : Hid (ins g p o k = g k) := ins_lo g p o hlt
      clear hoA
      go_wp2_with (at_builtin; refine wpList_append_fits _ rfl _ _ 24 rfl (w.heap.size + 1) 31 i0 4 Try.underlying24 HI.out.1 HI.out.2 (w.heap.size + 1) k (n + 1) (flat (ins g p o) k) rfl (hown.alloc _) ⟨wr.heap.size, 0, none⟩ 1 1 (ins g p o k).cells rfl rfl ?c1 ?c2 ?c3 ?_)
      case c1 => rw [HE.out]; exact news_at wr (g k)
      case c2 => exact cells_one _
      case c3 => omega
      intro w2 hown2 hg2
      have R : Hid (w2.ownsRow (w.heap.size + 1) 31 4 (.slice (some ⟨w.heap.size + 1, 0, none⟩) (k + 1) (n + 1)) (k + 1) (flat (ins g p o) (k + 1)) ∧ Below (w.heap.size + 1) (w.alloc (boxOf o)) w2) :=
        ⟨hown2, (hbel.alloc hsz _).grown hg2 (by simp; omega) (fun j hj => by cases hj; exact Nat.le_refl _)⟩
      clear hown2 hg2 hown hbel
      go_wp2
      go_roundw
      case rel => exact ⟨k + 1, by omega, by go_num, rfl, R.out.1, R.out.2⟩
      case measure => simp [intOf]; omega
    · obtain rfl : k = p := by omega
      clear hoA hlt hk
      have bx := box_cells w o
      obtain ⟨x0, x1, x2, x3⟩ : wr.cell? ⟨w.heap.size, 0, none⟩ = some (.int .i64 o.s) ∧ wr.cell? ⟨w.heap.size, 1, none⟩ = some (.int .i64 o.k) ∧ wr.cell? ⟨w.heap.size, 2, none⟩ = some (.int .i64 o.v) ∧ wr.cell? ⟨w.heap.size, 3, none⟩ = some (.bool o.b) :=
        ⟨(hbel.cell (show w.heap.size < w.heap.size + 1 by omega)).trans bx.1, (hbel.cell (show w.heap.size < w.heap.size + 1 by omega)).trans bx.2.1, (hbel.cell (show w.heap.size < w.heap.size + 1 by omega)).trans bx.2.2.1, (hbel.cell (show w.heap.size < w.heap.size + 1 by omega)).trans bx.2.2.2⟩
      clear bx
      have HE : Hid (ins g k o k = o) := ins_at g k o
      go_wp2_with (at_builtin; refine wpList_append_fits _ rfl _ _ 24 rfl (w.heap.size + 1) 31 i0 4 Try.underlying24 HI.out.1 HI.out.2 (w.heap.size + 1) k (n + 1) (flat (ins g k o) k) rfl (hown.alloc _) ⟨wr.heap.size, 0, none⟩ 1 1 (ins g k o k).cells rfl rfl ?d1 ?d2 ?d3 ?_)
      case d1 => rw [HE.out]; exact news_at wr o
      case d2 => exact cells_one _
      case d3 => omega
      intro w2 hown2 hg2
      have R : Hid (w2.ownsRow (w.heap.size + 1) 31 4 (.slice (some ⟨w.heap.size + 1, 0, none⟩) (k + 1) (n + 1)) (k + 1) (flat (ins g k o) (k + 1)) ∧ Below (w.heap.size + 1) (w.alloc (boxOf o)) w2) :=
        ⟨hown2, (hbel.alloc hsz _).grown hg2 (by simp; omega) (fun j hj => by cases hj; exact Nat.le_refl _)⟩
      clear hown2 hg2 hown hbel x0 x1 x2 x3 HE hsz
      go_wp2
      go_loopw [7, 9] (fun v i wr => ∃ j : Nat, k ≤ j ∧ j ≤ n ∧ i = .int .i64 j ∧ v = .slice (some ⟨w.heap.size + 1, 0, none⟩) (j + 1) (n + 1) ∧ wr.ownsRow (w.heap.size + 1) 31 4 (.slice (some ⟨w.heap.size + 1, 0, none⟩) (j + 1) (n + 1)) (j + 1) (flat (ins g k o) (j + 1)) ∧ Below (w.heap.size + 1) (w.alloc (boxOf o)) wr) (fun _ i _ => n - (intOf i).toNat)
      case atStart => exact ⟨k, Nat.le_refl _, hp, rfl, rfl, R.out.1, R.out.2⟩
      case round =>
        clear R
        obtain ⟨j, hj1, hj2, rfl, rfl, hown, hbel⟩ := hrel
        have hsz := hbel.size
        simp only [World.size_alloc] at hsz
        by_cases hlt : j < n
        · have hoA : OpsAt wr b 0 n g := (HC.out.later ((Below.refl w.heap.size w).alloc (Nat.le_refl _) (boxOf o)) hb).later hbel (by omega)
          obtain ⟨c0, c1, c2, c3⟩ := hoA.at0 (i := j) hlt
          have l3 : (j : Int) < (n : Int) := by omega
          have HE : Hid (ins g k o (j + 1) = g j) := ins_hi g k o hj1
          clear hoA
          go_wp2_with (at_builtin; refine wpList_append_fits _ rfl _ _ 24 rfl (w.heap.size + 1) 31 i0 4 Try.underlying24 HI.out.1 HI.out.2 (w.heap.size + 1) (j + 1) (n + 1) (flat (ins g k o) (j + 1)) rfl (hown.alloc _) ⟨wr.heap.size, 0, none⟩ 1 1 (ins g k o (j + 1)).cells rfl rfl ?f1 ?f2 ?f3 ?_)
          case f1 => rw [HE.out]; exact news_at wr (g j)
          case f2 => exact cells_one _
          case f3 => omega
          intro w2 hown2 hg2
          have R : Hid (w2.ownsRow (w.heap.size + 1) 31 4 (.slice (some ⟨w.heap.size + 1, 0, none⟩) (j + 1 + 1) (n + 1)) (j + 1 + 1) (flat (ins g k o) (j + 1 + 1)) ∧ Below (w.heap.size + 1) (w.alloc (boxOf o)) w2) :=
            ⟨hown2, (hbel.alloc hsz _).grown hg2 (by simp; omega) (fun j hj => by cases hj; exact Nat.le_refl _)⟩
          clear hown2 hg2 hown hbel
          go_wp2
          go_roundw
          case rel => exact ⟨j + 1, by omega, by omega, by go_num, rfl, R.out.1, R.out.2⟩
          case measure => simp [intOf]; omega
        · obtain rfl : j = n := by omega
          have R : Hid (w.heap.size + 1 < wr.heap.size ∧ OpsAt wr (w.heap.size + 1) 0 (j + 1) (ins g k o) ∧ Below w.heap.size w wr) := ⟨(hown.lt (w.heap.size + 1) rfl).2, ops_of_owns hown, ((Below.refl w.heap.size w).alloc (Nat.le_refl _) (boxOf o)).trans (hbel.mono (by omega))⟩
          clear hown hbel hsz
          go_wp2
          go_ret
          exact ⟨w.heap.size + 1, rfl, R.out⟩
end Go.Proofs.Qxb6617376a
