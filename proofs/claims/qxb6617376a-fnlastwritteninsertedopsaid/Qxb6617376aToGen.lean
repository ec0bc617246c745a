import Derived.Test.Qxb6617376aLast
import Derived.Test.Qxb6617376aLaws
import Derived.Deep.OwnRows
namespace Go.Proofs.Qxb6617376a
open Go.RowKit

/-- The cells of a block hold the first k operations of g. -/
def RowAt (C : Array Value) (g : Nat → Op4) (k : Nat) : Prop := ∀ i, i < k →
  C[i * 4]? = some (.int .i64 (g i).s) ∧ C[i * 4 + 1]? = some (.int .i64 (g i).k) ∧ C[i * 4 + 2]? = some (.int .i64 (g i).v) ∧ C[i * 4 + 3]? = some (.bool (g i).b)

theorem RowAt.ops {C : Array Value} {g : Nat → Op4} {k : Nat} (h : RowAt C g k) {w : World} {B : Nat} {t : TypeId} (hb : w.heap[B]? = some (.cells C t (0, 0))) : OpsAt w B 0 k g := fun i hi => by
  obtain ⟨h0, h1, h2, h3⟩ := h i hi
  refine ⟨?_, ?_, ?_, ?_⟩ <;> rw [cell_of_row _ _ _ _ _ _ hb, Nat.zero_add] <;> assumption

theorem lt_of_some {w : World} {B : Nat} {o : Obj} (h : w.heap[B]? = some o) : B < w.heap.size := by
  obtain ⟨hlt, _⟩ := Array.getElem?_eq_some_iff.1 h
  exact hlt

/-- One operation more is written. -/
theorem RowAt.more {C C' : Array Value} {g : Nat → Op4} {k : Nat} (h : RowAt C g k) (hq : ∀ j, j < k * 4 ∨ k * 4 + 4 ≤ j → C'[j]? = C[j]?)
    (hi : ∀ j, j < 4 → C'[k * 4 + j]? = [Value.int .i64 (g k).s, .int .i64 (g k).k, .int .i64 (g k).v, .bool (g k).b][j]?) : RowAt C' g (k + 1) := fun i hik => by
  by_cases e : i = k
  · subst e
    exact ⟨hi 0 (by omega), hi 1 (by omega), hi 2 (by omega), hi 3 (by omega)⟩
  · obtain ⟨h0, h1, h2, h3⟩ := h i (by omega)
    refine ⟨?_, ?_, ?_, ?_⟩ <;> rw [hq _ (by omega)] <;> assumption

theorem info31 : (Try.prog.info? 31).map (fun i => (i.zero, i.size, i.bytes)) = some (some (.agg #[.int .i64 0, .int .i64 0, .int .i64 0, .bool false]), 4, 32) := by kernel_rfl
theorem size31 : (Try.prog.info? 31).map (·.size) = some 4 := by kernel_rfl

/-- make([]gen.Op, l, c). -/
theorem make_ops (l c : Nat) (hlc : l ≤ c) (hc : c ≤ 1048576) (w : World) : (Instr.makeSlice 24 (.int .i64 l) (.int .i64 c)).run Try.prog w =
    .ok (.slice (some ⟨w.heap.size, 0, none⟩) l c) (w.alloc (.cells (madeCells #[.int .i64 0, .int .i64 0, .int .i64 0, .bool false] (c * 4)) 31)) := by
  obtain ⟨i, hi, hz0, hz1, hz2⟩ := info_parts info31
  have := run_make (P := Try.prog) w 24 31 i _ Try.underlying24 hi hz0 .i64 .i64 l c (by omega) (by omega) (by rw [hz2]; omega) (by omega)
  rw [hz1] at this
  simpa [Value.cells] using this

set_option maxHeartbeats 400000 in
theorem toGen_any (b o n c : Nat) (g : Nat → Op4) (hn : n ≤ 32768) (w : World) (hb : b < w.heap.size ∨ n = 0) (hc : OpsAt w b o n g) :
    Calls Try.prog 7 #[.slice (some ⟨b, o, none⟩) n c] w fun e w' => e = .returned (.slice (some ⟨w.heap.size, 0, none⟩) n n) ∧ w.heap.size < w'.heap.size ∧ OpsAt w' w.heap.size 0 n g ∧ Below w.heap.size w w' := by
  have hmk := make_ops n n (Nat.le_refl _) (by omega)
  have q22 : ∀ (w : World) (a : Option Addr) (n c n' c' : Nat), (binOp .eql 22 (.slice a n c) (.slice none n' c')).run Try.prog w = .ok (.bool a.isNone) w := fun w a n c n' c' => Lib.run_eql_slice_nil w _ _ a n c n' c' Try.underlying22
  have HC : Hid (OpsAt w b o n g) := hc
  clear hc
  have HB : Hid (b < w.heap.size ∨ n = 0) := hb
  clear hb
  go_enter Try.func7, Try.ntmps7
  go_wp2
  clear hmk q22
  go_loopw [4] (fun i wr => ∃ k : Nat, k ≤ n ∧ i = .int .i64 k ∧ (∃ C, wr.heap[w.heap.size]? = some (.cells C 31 (0, 0)) ∧ C.size = n * 4 ∧ RowAt C g k) ∧ Below w.heap.size w wr) (fun i _ => n - (intOf i).toNat)
  case atStart => exact ⟨0, Nat.zero_le _, rfl, ⟨_, heap_alloc_last w _, size_madeCells _ _, fun i hi => by omega⟩, (Below.refl _ _).alloc (Nat.le_refl _) _⟩
  case round =>
    obtain ⟨k, hk, rfl, ⟨C, hC, hz, hrow⟩, hbel⟩ := hrel
    by_cases hlt : k < n
    · have hb : b < w.heap.size := by have := HB.out; omega
      obtain ⟨c0, c1, c2, c3⟩ := HC.out.later hbel hb k hlt
      have l1 : (k : Int) < (n : Int) := by omega
      have H : Hid (wr.heap[w.heap.size]? = some (.cells C 31 (0, 0)) ∧ C.size = n * 4 ∧ RowAt C g k) := ⟨hC, hz, hrow⟩
      clear hC hz hrow
      go_wp2_with (refine wpList_store_in rfl 31 _ _ rfl _ _ _ rfl rfl ?C 31 ?hs1 ?hs2 size31 ?hs3 ?_)
      case C => exact C
      case hs1 => rw [Below.heap_alloc _ _ _ (Nat.lt_of_lt_of_le (lt_of_some H.out.1) (Nat.le_refl _))]; exact H.out.1
      case hs2 => rw [H.out.2.1]; simp; omega
      case hs3 => simp [Value.oneCell']
      intro w2 C2 hC2 hz2 hq2 hi2 hg2
      have hsz := hbel.size
      have R : Hid ((∃ C, w2.heap[w.heap.size]? = some (.cells C 31 (0, 0)) ∧ C.size = n * 4 ∧ RowAt C g (k + 1)) ∧ Below w.heap.size w w2) :=
        ⟨⟨C2, hC2, hz2.trans H.out.2.1, H.out.2.2.more hq2 hi2⟩, (hbel.alloc hsz _).grown hg2 (by simp; omega) (fun j hj => by cases hj; exact Nat.le_refl _)⟩
      clear hC2 hz2 hq2 hi2 hg2 hbel H c0 c1 c2 c3
      go_wp2
      go_roundw
      case rel => exact ⟨k + 1, by omega, by go_num, R.out.1, R.out.2⟩
      case measure => simp [intOf]; omega
    · obtain rfl : k = n := by omega
      have R : Hid (w.heap.size < wr.heap.size ∧ OpsAt wr w.heap.size 0 k g ∧ Below w.heap.size w wr) := ⟨lt_of_some hC, hrow.ops hC, hbel⟩
      clear hC hz hrow hbel
      go_wp2
      go_ret
      exact ⟨rfl, R.out⟩

set_option maxHeartbeats 400000 in
theorem toGen_nil (w : World) : Calls Try.prog 7 #[.slice none 0 0] w fun e w' => e = .returned (.slice none 0 0) ∧ w = w' := by
  have q22 : ∀ (w : World) (a : Option Addr) (n c n' c' : Nat), (binOp .eql 22 (.slice a n c) (.slice none n' c')).run Try.prog w = .ok (.bool a.isNone) w := fun w a n c n' c' => Lib.run_eql_slice_nil w _ _ a n c n' c' Try.underlying22
  go_enter Try.func7, Try.ntmps7
  go_wp2
  go_ret
  exact ⟨rfl, rfl⟩
end Go.Proofs.Qxb6617376a
