import Derived.Test.Qxb6617366aBits
import Derived.Test.Qxb6617366aLaws
import Derived.Deep.OwnRows
import Derived.Deep.QuietTactic
import Derived.BigQuiet
namespace Go.Proofs.Qxb6617366a
open Go.RowKit

/-- A GUID as a value: sixteen bytes by their index. -/
def guidOf (y : Nat → Int) : Array Value := #[.int .u8 (y 0), .int .u8 (y 1), .int .u8 (y 2), .int .u8 (y 3), .int .u8 (y 4), .int .u8 (y 5), .int .u8 (y 6), .int .u8 (y 7), .int .u8 (y 8), .int .u8 (y 9), .int .u8 (y 10), .int .u8 (y 11), .int .u8 (y 12), .int .u8 (y 13), .int .u8 (y 14), .int .u8 (y 15)]
/-- WHERE THE STORED FORM KEEPS byte i of the text's order (and back: it is its own inverse). -/
def perm (i : Nat) : Nat := if i < 4 then 3 - i else if i < 6 then 9 - i else if i < 8 then 13 - i else i

theorem guidOf_size (y : Nat → Int) : (guidOf y).size = 16 := rfl
theorem guidOf_all (y : Nat → Int) : (guidOf y).all (·.oneCell') = true := by simp [guidOf, Value.oneCell']
theorem guidOf_at (y : Nat → Int) (i : Nat) (h : i < 16) : (guidOf y)[i]? = some (.int .u8 (y i)) := by
  match i, h with
  | 0, _ | 1, _ | 2, _ | 3, _ | 4, _ | 5, _ | 6, _ | 7, _ | 8, _ | 9, _ | 10, _ | 11, _ | 12, _ | 13, _ | 14, _ | 15, _ => rfl
  | n + 16, h => omega
theorem box_at (w : World) (y : Nat → Int) (t : TypeId) (i : Nat) (h : i < 16) : (w.alloc (.cells (guidOf y) t)).cell? ⟨w.heap.size, i, none⟩ = some (.int .u8 (y i)) := by
  rw [cell_of_row _ _ _ _ _ _ (heap_alloc_last w _)]; exact guidOf_at y i h

set_option maxHeartbeats 1000000 in
/-- storedMatchesText: the stored form of y, and y: yes. -/
theorem stored_any (b n c : Nat) (s y : Nat → Int) (hy : ∀ i, i < 16 → 0 ≤ y i ∧ y i ≤ 255) (hn : 16 ≤ n) (w : World) (hr : w.rowIs b 5 n (fun i => .int .u8 (s i))) (hs : ∀ i, i < 16 → s i = y (perm i)) :
    Calls Try.prog 14 #[.slice (some ⟨b, 0, none⟩) n c, .agg (guidOf y)] w fun e w' => e = .returned (.bool true) ∧ Below w.heap.size w w' := by
  have hb := hr.lt
  have cs : ∀ i, i < 16 → (w.alloc (.cells (guidOf y) 23)).cell? ⟨b, i, none⟩ = some (.int .u8 (y (perm i))) := fun i hi => by
    rw [← hs i hi]; exact (hr.alloc _).cell (by omega)
  have cb := box_at w y 23
  have s0 := cs 0 (by decide); have s1 := cs 1 (by decide); have s2 := cs 2 (by decide); have s3 := cs 3 (by decide); have s4 := cs 4 (by decide); have s5 := cs 5 (by decide); have s6 := cs 6 (by decide); have s7 := cs 7 (by decide)
  have b0 := cb 0 (by decide); have b1 := cb 1 (by decide); have b2 := cb 2 (by decide); have b3 := cb 3 (by decide); have b4 := cb 4 (by decide); have b5 := cb 5 (by decide); have b6 := cb 6 (by decide); have b7 := cb 7 (by decide)
  have y0 := hy 0 (by decide); have y1 := hy 1 (by decide); have y2 := hy 2 (by decide); have y3 := hy 3 (by decide); have y4 := hy 4 (by decide); have y5 := hy 5 (by decide); have y6 := hy 6 (by decide); have y7 := hy 7 (by decide)
  simp only [show perm 0 = 3 from rfl, show perm 1 = 2 from rfl, show perm 2 = 1 from rfl, show perm 3 = 0 from rfl, show perm 4 = 5 from rfl, show perm 5 = 4 from rfl, show perm 6 = 7 from rfl, show perm 7 = 6 from rfl] at s0 s1 s2 s3 s4 s5 s6 s7
  have CS : Hid (∀ i, i < 16 → (w.alloc (.cells (guidOf y) 23)).cell? ⟨b, i, none⟩ = some (.int .u8 (y (perm i)))) := cs
  have CB : Hid (∀ i, i < 16 → (w.alloc (.cells (guidOf y) 23)).cell? ⟨w.heap.size, i, none⟩ = some (.int .u8 (y i))) := cb
  clear cs cb hs hr hy
  have q0 : (0 : Int) < (n : Int) := by omega
  have q1 : (1 : Int) < (n : Int) := by omega
  have q2 : (2 : Int) < (n : Int) := by omega
  have q3 : (3 : Int) < (n : Int) := by omega
  have q4 : (4 : Int) < (n : Int) := by omega
  have q5 : (5 : Int) < (n : Int) := by omega
  have q6 : (6 : Int) < (n : Int) := by omega
  have q7 : (7 : Int) < (n : Int) := by omega
  go_enter Try.func14, Try.ntmps14
  go_wp2
  go_quiet ((first | (go_at_call 19; exact Calls.quiet_of_same (le32_any _ _ _ _ y3.1 y3.2 y2.1 y2.2 y1.1 y1.2 y0.1 y0.2 _)) | (go_at_call 20; exact Calls.quiet_of_same (be32_any _ _ _ _ y3.1 y3.2 y2.1 y2.2 y1.1 y1.2 y0.1 y0.2 _))))
  go_wp2
  have t4 : ((w.alloc (.cells (guidOf y) 23)).drewN nq).cell? ⟨b, 4, none⟩ = some (.int .u8 (y 5)) := s4
  have u4 : ((w.alloc (.cells (guidOf y) 23)).drewN nq).cell? ⟨w.heap.size, 4, none⟩ = some (.int .u8 (y 4)) := b4
  have t5 : ((w.alloc (.cells (guidOf y) 23)).drewN nq).cell? ⟨b, 5, none⟩ = some (.int .u8 (y 4)) := s5
  have u5 : ((w.alloc (.cells (guidOf y) 23)).drewN nq).cell? ⟨w.heap.size, 5, none⟩ = some (.int .u8 (y 5)) := b5
  have t6 : ((w.alloc (.cells (guidOf y) 23)).drewN nq).cell? ⟨b, 6, none⟩ = some (.int .u8 (y 7)) := s6
  have u6 : ((w.alloc (.cells (guidOf y) 23)).drewN nq).cell? ⟨w.heap.size, 6, none⟩ = some (.int .u8 (y 6)) := b6
  have t7 : ((w.alloc (.cells (guidOf y) 23)).drewN nq).cell? ⟨b, 7, none⟩ = some (.int .u8 (y 6)) := s7
  have u7 : ((w.alloc (.cells (guidOf y) 23)).drewN nq).cell? ⟨w.heap.size, 7, none⟩ = some (.int .u8 (y 7)) := b7
  have hal2 : Below (w.heap.size + 1) (w.alloc (.cells (guidOf y) 23)) ((w.alloc (.cells (guidOf y) 23)).drewN nq) := below_drewN (Below.refl _ _) _
  clear s0 s1 s2 s3 s4 s5 s6 s7 b0 b1 b2 b3 b4 b5 b6 b7 y0 y1 y2 y3 q0 q1 q2 q3
  generalize (w.alloc (.cells (guidOf y) 23)).drewN nq = w2 at t4 t5 t6 t7 u4 u5 u6 u7 hal2 ⊢
  have HA2 : Hid (Below (w.heap.size + 1) (w.alloc (.cells (guidOf y) 23)) w2) := hal2
  clear hal2
  go_quiet ((first | (go_at_call 21; exact Calls.quiet_of_same (le16_any _ _ y5.1 y5.2 y4.1 y4.2 _)) | (go_at_call 22; exact Calls.quiet_of_same (be16_any _ _ y5.1 y5.2 y4.1 y4.2 _))))
  go_wp2
  have t6' : (w2.drewN nq).cell? ⟨b, 6, none⟩ = some (.int .u8 (y 7)) := t6
  have t7' : (w2.drewN nq).cell? ⟨b, 7, none⟩ = some (.int .u8 (y 6)) := t7
  have u6' : (w2.drewN nq).cell? ⟨w.heap.size, 6, none⟩ = some (.int .u8 (y 6)) := u6
  have u7' : (w2.drewN nq).cell? ⟨w.heap.size, 7, none⟩ = some (.int .u8 (y 7)) := u7
  have hal3 : Below (w.heap.size + 1) (w.alloc (.cells (guidOf y) 23)) (w2.drewN nq) := below_drewN HA2.out _
  clear t4 t5 t6 t7 u4 u5 u6 u7 y4 y5 q4 q5 HA2
  generalize w2.drewN nq = w3 at t6' t7' u6' u7' hal3 ⊢
  have HA3 : Hid (Below (w.heap.size + 1) (w.alloc (.cells (guidOf y) 23)) w3) := hal3
  clear hal3
  go_quiet ((first | (go_at_call 21; exact Calls.quiet_of_same (le16_any _ _ y7.1 y7.2 y6.1 y6.2 _)) | (go_at_call 22; exact Calls.quiet_of_same (be16_any _ _ y7.1 y7.2 y6.1 y6.2 _))))
  go_wp2
  have hal4 : Below (w.heap.size + 1) (w.alloc (.cells (guidOf y) 23)) (w3.drewN nq) := below_drewN HA3.out _
  clear t6' t7' u6' u7' y6 y7 q6 q7 HA3
  generalize w3.drewN nq = w4 at hal4 ⊢
  have HA4 : Hid (Below (w.heap.size + 1) (w.alloc (.cells (guidOf y) 23)) w4) := hal4
  clear hal4
  go_loopw [5] (fun i wr => ∃ k : Nat, 8 ≤ k ∧ k ≤ 16 ∧ i = .int .i64 k ∧ Below (w.heap.size + 1) (w.alloc (.cells (guidOf y) 23)) wr) (fun i _ => 16 - (intOf i).toNat)
  case atStart => exact ⟨8, by omega, by omega, rfl, HA4.out⟩
  case round =>
    obtain ⟨k, hk1, hk2, rfl, hal⟩ := hrel
    by_cases hlt : k < 16
    · have c1 : wr.cell? ⟨b, k, none⟩ = some (.int .u8 (y k)) := by
        rw [hal.cell (show b < w.heap.size + 1 by omega), CS.out k hlt, show perm k = k by unfold perm; rw [if_neg (by omega), if_neg (by omega), if_neg (by omega)]]
      have c2 : wr.cell? ⟨w.heap.size, k, none⟩ = some (.int .u8 (y k)) := by rw [hal.cell (show w.heap.size < w.heap.size + 1 by omega), CB.out k hlt]
      have l1 : (k : Int) < (n : Int) := by omega
      have l2 : (k : Int) < 16 := by omega
      have HA : Hid (Below (w.heap.size + 1) (w.alloc (.cells (guidOf y) 23)) wr) := hal
      clear hal
      go_wp2
      go_quiet (fail)
      go_wp2
      go_roundw
      case rel => exact ⟨k + 1, by omega, by omega, by go_num, below_drewN HA.out _⟩
      case measure => simp [intOf]; omega
    · go_wp2
      go_ret
      exact ⟨rfl, ((Below.refl _ _).alloc (Nat.le_refl _) _).trans (hal.mono (by omega))⟩
end Go.Proofs.Qxb6617366a
