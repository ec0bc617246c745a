import Derived.Test.Qxb6617366aEnc
namespace Go.Proofs.Qxb6617366a
open Go.RowKit

set_option maxHeartbeats 400000 in
theorem zenc_any (b n c : Nat) (z y : Nat → Int) (hn : 16 ≤ n) (hc : n ≤ c) (w : World) (hr : w.rowIs b 5 n (fun i => .int .u8 (z i))) :
    Calls Try.prog 13 #[.slice (some ⟨b, 0, none⟩) n c, .agg (guidOf y)] w fun e w' => e = .returned (.tuple #[]) ∧ w'.rowIs b 5 n (fun i => .int .u8 (if i < 16 then y (perm i) else z i)) ∧ w.grownBy w' (some b) := by
  have HR : Hid (w.rowIs b 5 n (fun i => .int .u8 (z i))) := hr
  clear hr
  go_enter Try.func13, Try.ntmps13
  go_wp2_with (refine wpList_load_new rfl 25 _ rfl _ _ rfl _ Try.underlying25 rfl info25' ?_)
  refine (enc_any b n c z y hn hc _ (HR.out.alloc _)).mono ?_
  rintro e w1 ⟨rfl, r1, r2⟩
  have R : Hid (w1.rowIs b 5 n (fun i => .int .u8 (if i < 16 then y (perm i) else z i)) ∧ w.grownBy w1 (some b)) := ⟨r1, grown_trans (grown_alloc (World.grownBy.refl _ _) _) r2⟩
  clear r1 r2
  go_wp2
  go_end0
  exact ⟨rfl, R.out.1, R.out.2⟩

theorem bytes5_any (a : Option Addr) (n c : Nat) (g : Array Value) (hn : n ≤ 1048576) (w : World) : Calls Try.prog 11 #[.slice a n c, .agg g] w fun e w' => e = .returned (.bool true) ∧ Below w.heap.size w w' := by
  have hn' : (n : Int) ≤ 1048576 := by omega
  go_enter Try.func11, Try.ntmps11
  go_wp2
  go_ret
  exact ⟨rfl, (Below.refl _ _).alloc (Nat.le_refl _) _⟩
theorem bytes5_no (a : Option Addr) (n c : Nat) (g : Array Value) (hn : 1048576 < n) (w : World) : Calls Try.prog 11 #[.slice a n c, .agg g] w fun e w' => e = .returned (.bool false) ∧ Below w.heap.size w w' := by
  have hn' : (1048576 : Int) < (n : Int) := by omega
  go_enter Try.func11, Try.ntmps11
  go_wp2
  go_ret
  exact ⟨rfl, (Below.refl _ _).alloc (Nat.le_refl _) _⟩
theorem bytes6_any (a : Option Addr) (n c : Nat) (hn : n ≤ 1048576) (w : World) : Calls Try.prog 16 #[.slice a n c] w fun e w' => e = .returned (.bool true) ∧ w = w' := by
  have hn' : (n : Int) ≤ 1048576 := by omega
  go_enter Try.func16, Try.ntmps16
  go_wp2
  go_ret
  exact ⟨rfl, rfl⟩
theorem bytes6_no (a : Option Addr) (n c : Nat) (hn : 1048576 < n) (w : World) : Calls Try.prog 16 #[.slice a n c] w fun e w' => e = .returned (.bool false) ∧ w = w' := by
  have hn' : (1048576 : Int) < (n : Int) := by omega
  go_enter Try.func16, Try.ntmps16
  go_wp2
  go_ret
  exact ⟨rfl, rfl⟩

theorem info5m : (Try.prog.info? 5).map (fun i => (i.zero, i.size, i.bytes)) = some (some (.int .u8 0), 1, 1) := by kernel_rfl

set_option maxHeartbeats 400000 in
theorem clone_any (b off n c : Nat) (z : Nat → Int) (hn : n ≤ 1048576) (w : World) (hcl : ∀ i, i < n → w.cell? ⟨b, off + i, none⟩ = some (.int .u8 (z i))) (hb : b < w.heap.size) :
    Calls Try.prog 12 #[.slice (some ⟨b, off, none⟩) n c] w fun e w' => e = .returned (.slice (some ⟨w.heap.size, 0, none⟩) n n) ∧ w'.rowIs w.heap.size 5 n (fun i => .int .u8 (z i)) ∧ Below w.heap.size w w' := by
  have hmk := run_make_row' (P := Try.prog) 33 5 (.int .u8 0) 1 Try.underlying33 info5m rfl .i64 .i64 n (by omega) (by omega)
  have q33 : ∀ (w : World) (a : Option Addr) (n c n' c' : Nat), (binOp .eql 33 (.slice a n c) (.slice none n' c')).run Try.prog w = .ok (.bool a.isNone) w := fun w a n c n' c' => Lib.run_eql_slice_nil w _ _ a n c n' c' Try.underlying33
  have HC : Hid (∀ i, i < n → w.cell? ⟨b, off + i, none⟩ = some (.int .u8 (z i))) := hcl
  clear hcl
  go_enter Try.func12, Try.ntmps12
  go_wp2
  clear hmk q33
  go_loopw [4] (fun i wr => ∃ k : Nat, k ≤ n ∧ i = .int .i64 k ∧ wr.rowIs w.heap.size 5 n (fun j => .int .u8 (if j < k then z j else 0)) ∧ Below w.heap.size w wr) (fun i _ => n - (intOf i).toNat)
  case atStart => exact ⟨0, Nat.zero_le _, rfl, (World.rowIs_made w (.int .u8 0) n 5).congr (fun i hi => rfl), (Below.refl _ _).alloc (Nat.le_refl _) _⟩
  case round =>
    obtain ⟨k, hk, rfl, hrow, hbel⟩ := hrel
    by_cases hlt : k < n
    · have c1 : wr.cell? ⟨b, off + k, none⟩ = some (.int .u8 (z k)) := by rw [hbel.cell (show b < w.heap.size from hb)]; exact HC.out k hlt
      have c2 : wr.cell? ⟨w.heap.size, k, none⟩ = some (.int .u8 0) := by rw [hrow.cell hlt, if_neg (by omega)]
      have c3 : wr.frozen? ⟨w.heap.size, k, none⟩ = false := hrow.frozen k
      have R : Hid ((wr.setCell ⟨w.heap.size, k, none⟩ (.int .u8 (z k))).rowIs w.heap.size 5 n (fun j => .int .u8 (if j < k + 1 then z j else 0)) ∧ Below w.heap.size w (wr.setCell ⟨w.heap.size, k, none⟩ (.int .u8 (z k)))) := by
        refine ⟨(hrow.set k _).congr (fun j hj => ?_), hbel.setCell (Nat.le_refl _) _⟩
        by_cases e : j = k
        · subst e; simp
        · rw [if_neg e]
          by_cases h2 : j < k
          · rw [if_pos h2, if_pos (by omega)]
          · rw [if_neg h2, if_neg (by omega)]
      have l1 : (k : Int) < (n : Int) := by omega
      clear hrow hbel
      go_wp2
      go_roundw
      case rel => exact ⟨k + 1, by omega, by go_num, R.out.1, R.out.2⟩
      case measure => simp [intOf]; omega
    · have H : Hid (wr.rowIs w.heap.size 5 n (fun i => .int .u8 (z i)) ∧ Below w.heap.size w wr) := ⟨hrow.congr (fun i hi => by rw [if_pos (by omega)]), hbel⟩
      clear hrow hbel
      go_wp2
      go_ret
      exact ⟨rfl, H.out.1, H.out.2⟩
end Go.Proofs.Qxb6617366a
