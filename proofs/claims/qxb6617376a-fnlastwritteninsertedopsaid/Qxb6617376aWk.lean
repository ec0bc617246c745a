import Derived.Test.Qxb6617376aToGen
namespace Go.Proofs.Qxb6617376a
open Go.RowKit

/-- The cells of the first n operations, in a row. -/
def flat (g : Nat → Op4) : Nat → List Value
  | 0 => []
  | n + 1 => flat g n ++ (g n).cells

theorem flat_length (g : Nat → Op4) : ∀ n, (flat g n).length = n * 4
  | 0 => rfl
  | n + 1 => by simp only [flat, List.length_append, flat_length g n, Op4.cells, List.length_cons, List.length_nil]; omega
theorem flat_at (g : Nat → Op4) : ∀ n i, i < n → ∀ j, j < 4 → (flat g n)[i * 4 + j]? = (g i).cells[j]?
  | 0, i, hi, _, _ => by omega
  | n + 1, i, hi, j, hj => by
    have hl := flat_length g n
    by_cases e : i = n
    · subst e
      rw [flat, List.getElem?_append_right (by omega), hl, show i * 4 + j - i * 4 = j by omega]
    · rw [flat, List.getElem?_append_left (by omega)]
      exact flat_at g n i (by omega) j hj
theorem flat_congr {g g' : Nat → Op4} : ∀ n, (∀ i, i < n → g i = g' i) → flat g n = flat g' n
  | 0, _ => rfl
  | n + 1, h => by rw [flat, flat, h n (by omega), flat_congr n (fun i hi => h i (by omega))]

theorem ops_of_owns {w : World} {base G n cap : Nat} {g : Nat → Op4} (h : w.ownsRow base 31 4 (.slice (some ⟨G, 0, none⟩) n cap) n (flat g n)) : OpsAt w G 0 n g := fun i hi => by
  have key : ∀ j, j < 4 → w.cell? ⟨G, i * 4 + j, none⟩ = (g i).cells[j]? := fun j hj => by
    rw [h.cellAt (i * 4 + j) (by omega)]; exact flat_at g n i hi j hj
  refine ⟨?_, ?_, ?_, ?_⟩ <;> rw [Nat.zero_add]
  · exact key 0 (by omega)
  · exact key 1 (by omega)
  · exact key 2 (by omega)
  · exact key 3 (by omega)

/-- The one operation that is appended lies in the block that was made last. -/
theorem news_at (w : World) (o : Op4) : ∀ j u, o.cells[j]? = some u → (w.alloc (.cells #[.int .i64 o.s, .int .i64 o.k, .int .i64 o.v, .bool o.b] 31)).cell? ((⟨w.heap.size, 0, none⟩ : Addr).add j) = some u := fun j u hj => by
  rw [Addr.add_mid, Nat.zero_add, cell_of_row _ _ _ _ _ _ (heap_alloc_last w _)]
  simpa [Op4.cells] using hj
theorem cells_one (o : Op4) : ∀ u ∈ o.cells, u.oneCell' = true := by simp [Op4.cells, Value.oneCell']

set_option maxHeartbeats 400000 in
theorem watched_any (W : Nat) (hW : W ≤ 65536) (w : World) :
    Calls Try.prog 13 #[.int .i64 W] w fun e w' => e = .returned (.slice (some ⟨w.heap.size, 0, none⟩) (2 * W) (2 * W)) ∧ w.heap.size < w'.heap.size ∧ OpsAt w' w.heap.size 0 (2 * W) (wk W) ∧ Below w.heap.size w w' := by
  obtain ⟨i0, hi, hz0, hz1, hz2⟩ := info_parts info31
  have hmk : ∀ w, (Instr.makeSlice 24 (.int .i64 0) (.int .i64 (2 * (W : Int)))).run Try.prog w = .ok (.slice (some ⟨w.heap.size, 0, none⟩) 0 (2 * W)) (w.alloc (.cells (madeCells #[.int .i64 0, .int .i64 0, .int .i64 0, .bool false] (2 * W * 4)) 31)) := fun w => by
    have := make_ops 0 (2 * W) (Nat.zero_le _) (by omega) w
    simpa using this
  have l0 : (W : Int) ≤ 65536 := by omega
  have HI : Hid (Try.prog.info? 31 = some i0 ∧ i0.size = 4) := ⟨hi, hz1⟩
  clear hi hz0 hz1 hz2
  go_enter Try.func13, Try.ntmps13
  go_wp2
  clear hmk
  go_loopw [3, 10] (fun v i wr => ∃ k : Nat, k ≤ W ∧ i = .int .i64 k ∧ v = .slice (some ⟨w.heap.size, 0, none⟩) k (2 * W) ∧ wr.ownsRow w.heap.size 31 4 (.slice (some ⟨w.heap.size, 0, none⟩) k (2 * W)) k (flat (wk W) k) ∧ Below w.heap.size w wr) (fun _ i _ => W - (intOf i).toNat)
  case atStart => exact ⟨0, Nat.zero_le _, rfl, rfl, World.ownsRow_made w _ (2 * W) (Nat.le_refl _) (by unfold maxLen; omega) (size_madeCells _ _), (Below.refl _ _).alloc (Nat.le_refl _) _⟩
  case round =>
    obtain ⟨k, hk, rfl, rfl, hown, hbel⟩ := hrel
    by_cases hlt : k < W
    · have l1 : (k : Int) < (W : Int) := by omega
      have e1 : wk W k = ⟨k, 0, k + 1, true⟩ := by simp [wk, hlt]
      have HE : Hid (wk W k = ⟨k, 0, k + 1, true⟩) := e1
      clear e1
      go_wp2_with (at_builtin; refine wpList_append_fits _ rfl _ _ 24 rfl w.heap.size 31 i0 4 Try.underlying24 HI.out.1 HI.out.2 w.heap.size k (2 * W) (flat (wk W) k) rfl (hown.alloc _) ⟨wr.heap.size, 0, none⟩ 1 1 (wk W k).cells rfl rfl ?c1 ?c2 ?c3 ?_)
      case c1 => rw [HE.out]; exact news_at wr ⟨k, 0, k + 1, true⟩
      case c2 => exact cells_one _
      case c3 => omega
      intro w2 hown2 hg2
      have hsz := hbel.size
      have R : Hid (w2.ownsRow w.heap.size 31 4 (.slice (some ⟨w.heap.size, 0, none⟩) (k + 1) (2 * W)) (k + 1) (flat (wk W) (k + 1)) ∧ Below w.heap.size w w2) :=
        ⟨hown2, (hbel.alloc hsz _).grown hg2 (by simp; omega) (fun j hj => by cases hj; exact Nat.le_refl _)⟩
      clear hown2 hg2 hown hbel
      go_wp2
      go_roundw
      case rel => exact ⟨k + 1, by omega, by go_num, rfl, R.out.1, R.out.2⟩
      case measure => simp [intOf]; omega
    · obtain rfl : k = W := by omega
      have R : Hid (wr.ownsRow w.heap.size 31 4 (.slice (some ⟨w.heap.size, 0, none⟩) k (2 * k)) k (flat (wk k) k) ∧ Below w.heap.size w wr) := ⟨hown, hbel⟩
      clear hown hbel
      go_wp2
      go_loopw [3, 22] (fun v i wr => ∃ j : Nat, j ≤ k ∧ i = .int .i64 j ∧ v = .slice (some ⟨w.heap.size, 0, none⟩) (k + j) (2 * k) ∧ wr.ownsRow w.heap.size 31 4 (.slice (some ⟨w.heap.size, 0, none⟩) (k + j) (2 * k)) (k + j) (flat (wk k) (k + j)) ∧ Below w.heap.size w wr) (fun _ i _ => k - (intOf i).toNat)
      case atStart => exact ⟨0, Nat.zero_le _, rfl, rfl, R.out.1, R.out.2⟩
      case round =>
        clear R
        obtain ⟨j, hj, rfl, rfl, hown, hbel⟩ := hrel
        by_cases hjk : j < k
        · have l1 : (j : Int) < (k : Int) := by omega
          have HE : Hid (wk k (k + j) = ⟨k, 0, j + 1, false⟩) := by
            show wk k (k + j) = _
            simp only [wk]
            rw [if_neg (by omega), show (((k + j : Nat) : Int) - k + 1) = (j : Int) + 1 by omega]
          go_wp2_with (at_builtin; refine wpList_append_fits _ rfl _ _ 24 rfl w.heap.size 31 i0 4 Try.underlying24 HI.out.1 HI.out.2 w.heap.size (k + j) (2 * k) (flat (wk k) (k + j)) rfl (hown.alloc _) ⟨wr.heap.size, 0, none⟩ 1 1 (wk k (k + j)).cells rfl rfl ?d1 ?d2 ?d3 ?_)
          case d1 => rw [HE.out]; exact news_at wr ⟨k, 0, j + 1, false⟩
          case d2 => exact cells_one _
          case d3 => omega
          intro w2 hown2 hg2
          have hsz := hbel.size
          have R : Hid (w2.ownsRow w.heap.size 31 4 (.slice (some ⟨w.heap.size, 0, none⟩) (k + j + 1) (2 * k)) (k + j + 1) (flat (wk k) (k + j + 1)) ∧ Below w.heap.size w w2) :=
            ⟨hown2, (hbel.alloc hsz _).grown hg2 (by simp; omega) (fun j hj => by cases hj; exact Nat.le_refl _)⟩
          clear hown2 hg2 hown hbel
          go_wp2
          go_roundw
          case rel => exact ⟨j + 1, by omega, by go_num, rfl, R.out.1, R.out.2⟩
          case measure => simp [intOf]; omega
        · obtain rfl : j = k := by omega
          rw [show j + j = 2 * j by omega] at hown
          have R : Hid (w.heap.size < wr.heap.size ∧ OpsAt wr w.heap.size 0 (2 * j) (wk j) ∧ Below w.heap.size w wr) := ⟨(hown.lt w.heap.size rfl).2, ops_of_owns hown, hbel⟩
          clear hown hbel
          go_wp2
          go_ret
          exact ⟨by rw [show 2 * j = j + j by omega]; rfl, R.out⟩
end Go.Proofs.Qxb6617376a
