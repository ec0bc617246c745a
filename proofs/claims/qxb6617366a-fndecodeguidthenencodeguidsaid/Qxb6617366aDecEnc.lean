import Derived.Test.Qxb6617366aEncDec
namespace Go.Proofs.Qxb6617366a
open Go.RowKit

/-- WHAT STANDS BETWEEN THE CALLS: the variable d in block D, the copy 'want' in block A; nothing old has turned. -/
structure Kept (w wr : World) (y z : Nat → Int) (A D n : Nat) : Prop where
  dbox : wr.heap[D]? = some (.cells (guidOf y) 25 (0, 0))
  want : wr.rowIs A 5 n (fun i => .int .u8 (z i))
  bel : Below w.heap.size w wr

theorem Kept.dlt {w wr : World} {y z : Nat → Int} {A D n : Nat} (h : Kept w wr y z A D n) : D < wr.heap.size := by
  obtain ⟨hlt, _⟩ := Array.getElem?_eq_some_iff.1 h.dbox
  exact hlt

theorem Kept.later {w wr w' : World} {y z : Nat → Int} {A D n : Nat} (h : Kept w wr y z A D n) (hb : Below wr.heap.size wr w') : Kept w w' y z A D n :=
  ⟨(hb.block _ h.dlt).trans h.dbox, h.want.of_block (hb.block _ h.want.lt), h.bel.trans (hb.mono h.bel.size)⟩

theorem Kept.drewN {w wr : World} {y z : Nat → Int} {A D n : Nat} (h : Kept w wr y z A D n) (k : Nat) : Kept w (wr.drewN k) y z A D n := h.later (below_drewN (Below.refl _ _) k)
theorem Kept.alloc {w wr : World} {y z : Nat → Int} {A D n : Nat} (h : Kept w wr y z A D n) (o : Obj) : Kept w (wr.alloc o) y z A D n := h.later ((Below.refl _ _).alloc (Nat.le_refl _) o)

theorem Kept.written {w wr w' : World} {y z : Nat → Int} {A D n X : Nat} (h : Kept w wr y z A D n) (hg : wr.grownBy w' (some X)) (hA : A ≠ X) (hD : D ≠ X) (hX : w.heap.size ≤ X) : Kept w w' y z A D n :=
  ⟨(hg.block _ h.dlt (by simpa using hD)).trans h.dbox, h.want.of_block (hg.block _ h.want.lt (by simpa using hA)), h.bel.grown hg h.bel.size (fun k hk => by cases hk; exact hX)⟩

theorem Kept.set {w wr : World} {y z : Nat → Int} {A D n X : Nat} (h : Kept w wr y z A D n) (i : Nat) (v : Value) (hA : A ≠ X) (hD : D ≠ X) (hX : w.heap.size ≤ X) : Kept w (wr.setCell ⟨X, i, none⟩ v) y z A D n :=
  h.written (grown_setCell (World.grownBy.refl _ _) rfl) hA hD hX

theorem below_rows {wr w' : World} {X n : Nat} {f : Nat → Value} (h : wr.rowIs X 5 n f) (hb : Below wr.heap.size wr w') : w'.rowIs X 5 n f := h.of_block (hb.block _ h.lt)

def zeros16 : Array Value := madeCells #[.int .u8 0] 16
theorem make16 (W : World) : (Instr.makeSlice 33 (.int .i64 16) (.int .i64 16)).run Try.prog W = .ok (.slice (some ⟨W.heap.size, 0, none⟩) 16 16) (W.alloc (.cells zeros16 5)) :=
  run_make_row' (P := Try.prog) 33 5 (.int .u8 0) 1 Try.underlying33 info5m rfl .i64 .i64 16 (by omega) (by omega) W

theorem infoG (y : Nat → Int) : (Try.prog.info? 25).map (·.size) = some (guidOf y).size := info25'

set_option maxHeartbeats 1000000 in
theorem decenc_walk (b off n c : Nat) (z : Nat → Int) (hz : ∀ i, i < n → 0 ≤ z i ∧ z i ≤ 255) (hn : 16 ≤ n) (hn' : n ≤ 1048576) (w : World) (hcl : ∀ i, i < n → w.cell? ⟨b, off + i, none⟩ = some (.int .u8 (z i))) (hb : b < w.heap.size) :
    Calls Try.prog 6 #[.slice (some ⟨b, off, none⟩) n c] w fun e w' => e = .returned (.bool true) ∧ Below w.heap.size w w' := by
  have HC : Hid (∀ i, i < n → w.cell? ⟨b, off + i, none⟩ = some (.int .u8 (z i))) := hcl
  obtain ⟨y, hyd⟩ : ∃ y : Nat → Int, y = fun i => z (perm i) := ⟨_, rfl⟩
  have HY : Hid (∀ i, i < 16 → 0 ≤ y i ∧ y i ≤ 255) := fun i hi => by rw [hyd]; exact hz _ (by have := perm_lt i hi; omega)
  have HZ : Hid (∀ i, i < 16 → z (perm i) = y i) := fun i hi => by rw [hyd]
  have HZ' : Hid (∀ i, i < 16 → z i = y (perm i)) := fun i hi => by rw [hyd]; show z i = z (perm (perm i)); rw [perm_perm i hi]
  clear hcl hz hyd
  have l1 : (n : Int) ≤ 1048576 := by omega
  have l2 : (16 : Int) ≤ (n : Int) := by omega
  go_enter Try.func6, Try.ntmps6
  go_wp2_with fail
  refine (bytes6_any _ n c hn' _).mono ?_
  rintro e w' ⟨rfl, rfl⟩
  go_wp2_with fail
  refine (clone_any b off n c z hn' w HC.out hb).mono ?_
  rintro e w2 ⟨rfl, hr2, hb2⟩
  have hs2 := hb2.size
  go_wp2_with fail
  refine (clone_any b off n c z hn' w2 ?_ (by omega)).mono ?_
  · intro i hi
    rw [hb2.cell (show b < _ from hb)]
    exact HC.out i hi
  rintro e w3 ⟨rfl, hr3, hb3⟩
  have hs3 := hb3.size
  go_wp2_with fail
  refine (zdec_to w2.heap.size n n z y hn _ hr3 HZ.out).mono ?_
  rintro e w4 ⟨rfl, hb4⟩
  have hs4 := hb4.size
  have hr2' : w4.rowIs w.heap.size 5 n (fun i => .int .u8 (z i)) := below_rows (below_rows hr2 hb3) hb4
  have hr3' : w4.rowIs w2.heap.size 5 n (fun i => .int .u8 (z i)) := below_rows hr3 hb4
  have hbel : Below w.heap.size w w4 := hb2.trans ((hb3.mono hs2).trans (hb4.mono (by omega)))
  clear hr2 hr3 hb2 hb3 hb4 HC
  go_wp2_with (first | (refine wpList_store_new rfl 25 _ _ rfl _ (guidOf y) _ rfl rfl (infoG y) ?hsz (guidOf_all y) ?_) | (refine wpList_load_new rfl 25 _ rfl (guidOf y) _ rfl _ Try.underlying25 rfl (infoG y) ?_))
  case hsz => rfl
  have K5 : Kept w (w4.alloc (.cells (guidOf y) 25)) y z w.heap.size w4.heap.size n := ⟨heap_alloc_last _ _, hr2'.alloc _, hbel.alloc (by omega) _⟩
  have hB5 : (w4.alloc (.cells (guidOf y) 25)).rowIs w2.heap.size 5 n (fun i => .int .u8 (z i)) := hr3'.alloc _
  clear hr2' hr3' hbel
  refine (stored_any w.heap.size n n z y HY.out hn _ K5.want HZ'.out).mono ?_
  rintro e w6 ⟨rfl, hb6⟩
  have K6 := K5.later hb6
  have hB6 := below_rows hB5 hb6
  clear K5 hB5 hb6
  generalize w2.heap.size = B at hB6 ⊢
  generalize w4.heap.size = D at K6 ⊢
  go_wp2_with fail
  clear hs2 hs3 hs4
  go_loopw [5] (fun i wr => ∃ k : Nat, k ≤ n ∧ i = .int .i64 k ∧ Kept w wr y z w.heap.size D n ∧ wr.rowIs B 5 n (fun i => .int .u8 (z i))) (fun i _ => n - (intOf i).toNat)
  case atStart => exact ⟨0, Nat.zero_le _, rfl, K6, hB6⟩
  case round =>
    obtain ⟨k, hk, rfl, K, hB⟩ := hrel
    by_cases hlt : k < n
    · have c1 : wr.cell? ⟨B, k, none⟩ = some (.int .u8 (z k)) := hB.cell hlt
      have c2 : wr.cell? ⟨w.heap.size, k, none⟩ = some (.int .u8 (z k)) := K.want.cell hlt
      have l3 : (k : Int) < (n : Int) := by omega
      have HB : Hid (wr.rowIs B 5 n (fun i => .int .u8 (z i))) := hB
      clear hB
      go_wp2
      go_quiet (fail)
      go_wp2
      go_roundw
      case rel => exact ⟨k + 1, by omega, by go_num, K.drewN _, HB.out⟩
      case measure => simp [intOf]; omega
    · clear hB K6 hB6
      have hm16 := make16
      go_wp2
      clear hm16
      have K2 : Kept w (wr.alloc (.cells zeros16 5)) y z w.heap.size D n := K.alloc _
      have hE2 : (wr.alloc (.cells zeros16 5)).rowIs wr.heap.size 5 16 (fun j => .int .u8 (if j < 0 then z j else 0)) := (World.rowIs_made wr (.int .u8 0) 16 5).congr (fun i hi => rfl)
      have neA : w.heap.size ≠ wr.heap.size := Nat.ne_of_lt K.want.lt
      have neD : D ≠ wr.heap.size := Nat.ne_of_lt K.dlt
      have loE : w.heap.size ≤ wr.heap.size := K.bel.size
      clear K hlt hk
      generalize wr.alloc (.cells zeros16 5) = v at K2 hE2 ⊢
      generalize wr.heap.size = E at hE2 neA neD loE ⊢
      have NE : Hid (w.heap.size ≠ E ∧ D ≠ E ∧ w.heap.size ≤ E) := ⟨neA, neD, loE⟩
      clear neA neD loE
      go_loopw [7] (fun i wr => ∃ k : Nat, k ≤ 16 ∧ i = .int .i64 k ∧ Kept w wr y z w.heap.size D n ∧ wr.rowIs E 5 16 (fun j => .int .u8 (if j < k then z j else 0))) (fun i _ => 16 - (intOf i).toNat)
      case atStart => exact ⟨0, Nat.zero_le _, rfl, K2, hE2⟩
      case round =>
        clear K2 hE2
        obtain ⟨k, hk, rfl, K, hE⟩ := hrel
        by_cases hlt : k < 16
        · have c1 : wr.cell? ⟨w.heap.size, k, none⟩ = some (.int .u8 (z k)) := K.want.cell (by omega)
          have c2 : wr.cell? ⟨E, k, none⟩ = some (.int .u8 0) := by rw [hE.cell hlt, if_neg (by omega)]
          have c3 : wr.frozen? ⟨E, k, none⟩ = false := hE.frozen k
          have l3 : (k : Int) < (n : Int) := by omega
          have l4 : (k : Int) < 16 := by omega
          have R : Hid ((wr.setCell ⟨E, k, none⟩ (.int .u8 (z k))).rowIs E 5 16 (fun j => .int .u8 (if j < k + 1 then z j else 0)) ∧ Kept w (wr.setCell ⟨E, k, none⟩ (.int .u8 (z k))) y z w.heap.size D n) := by
            refine ⟨(hE.set k _).congr (fun j hj => ?_), K.set k _ NE.out.1 NE.out.2.1 NE.out.2.2⟩
            by_cases e : j = k
            · subst e; simp
            · rw [if_neg e]
              by_cases h2 : j < k
              · rw [if_pos h2, if_pos (by omega)]
              · rw [if_neg h2, if_neg (by omega)]
          clear K hE
          go_wp2
          go_roundw
          case rel => exact ⟨k + 1, by omega, by go_num, R.out.2, R.out.1⟩
          case measure => simp [intOf]; omega
        · go_wp2
          obtain rfl : k = 16 := by omega
          have hu := Try.underlying25
          have hi : (Try.prog.info? 25).map (·.size) = some (guidOf y).toList.length := info25'
          have he := neq_guid y
          have hgd := guard_guid' y
          have hrg : wr.rangeAt D 0 (guidOf y).toList := box_range K.dbox
          have HK : Hid (Kept w wr y z w.heap.size D n) := K
          have HE : Hid (wr.rowIs E 5 16 (fun j => .int .u8 (if j < 16 then z j else 0))) := hE
          clear K hE hlt hk
          go_region_held3 (fun v => v.rangeAt D 0 (guidOf y).toList) (first | exact hrg | exact box_range ((HK.out.drewN 1).later hb7).dbox) ((go_at_call 15; refine (zdec_to E 16 16 (fun j => if j < 16 then z j else 0) y (Nat.le_refl _) _ ?_ ?_).mono ?_; (exact HE.out); (intro i hi; rw [if_pos (perm_lt i hi)]; exact HZ.out i hi); rintro e w7 ⟨rfl, hb7⟩))
          have K7 := (HK.out.drewN 1).later hb7
          clear HK HE hb7 hrg he hgd hi hu NE
          have hmk := run_make_row' (P := Try.prog) 33 5 (.int .u8 0) 1 Try.underlying33 info5m rfl .i64 .i64 n (by omega) (by omega)
          go_wp2_with (refine wpList_load_row rfl 25 _ rfl _ rfl 25 (guidOf y) (0, 0) _ ?hl7 Try.underlying25 rfl (infoG y) ?_)
          case hl7 => exact (K7.alloc _).dbox
          clear hmk
          have K8 : Kept w (w7.alloc (.cells (madeCells #[.int .u8 0] n) 5)) y z w.heap.size D n := K7.alloc _
          have hF8 : (w7.alloc (.cells (madeCells #[.int .u8 0] n) 5)).rowIs w7.heap.size 5 n (fun j => .int .u8 0) := World.rowIs_made w7 (.int .u8 0) n 5
          have NF : Hid (w.heap.size ≠ w7.heap.size ∧ D ≠ w7.heap.size ∧ w.heap.size ≤ w7.heap.size) := ⟨Nat.ne_of_lt K7.want.lt, Nat.ne_of_lt K7.dlt, K7.bel.size⟩
          clear K7
          generalize w7.alloc (.cells (madeCells #[.int .u8 0] n) 5) = w8 at K8 hF8 ⊢
          generalize w7.heap.size = F at hF8 NF ⊢
          refine (zenc_any F n n (fun _ => 0) y hn (Nat.le_refl _) w8 hF8).mono ?_
          rintro e w9 ⟨rfl, hF9, hg9⟩
          have K9 := K8.written hg9 NF.out.1 NF.out.2.1 NF.out.2.2
          clear K8 hF8 hg9 NF
          go_wp2_with fail
          go_loopw [9] (fun i wr => ∃ k : Nat, k ≤ n ∧ i = .int .i64 k ∧ Kept w wr y z w.heap.size D n ∧ wr.rowIs F 5 n (fun i => .int .u8 (if i < 16 then y (perm i) else 0))) (fun i _ => n - (intOf i).toNat)
          case atStart => exact ⟨0, Nat.zero_le _, rfl, K9, hF9⟩
          case round =>
            clear K9 hF9
            obtain ⟨k, hk, rfl, K, hF⟩ := hrel
            by_cases hlt : k < n
            · have c2 : wr.cell? ⟨w.heap.size, k, none⟩ = some (.int .u8 (z k)) := K.want.cell hlt
              have l3 : (k : Int) < (n : Int) := by omega
              have HF : Hid (wr.rowIs F 5 n (fun i => .int .u8 (if i < 16 then y (perm i) else 0))) := hF
              clear hF
              by_cases h16 : k < 16
              · have c1 : wr.cell? ⟨F, k, none⟩ = some (.int .u8 (z k)) := by rw [HF.out.cell hlt, if_pos h16, HZ'.out k h16]
                have l4 : (k : Int) < 16 := by omega
                go_wp2
                go_quiet (fail)
                go_wp2
                go_roundw
                case rel => exact ⟨k + 1, by omega, by go_num, K.drewN _, HF.out⟩
                case measure => simp [intOf]; omega
              · have c1 : wr.cell? ⟨F, k, none⟩ = some (.int .u8 0) := by rw [HF.out.cell hlt, if_neg h16]
                have l4 : (16 : Int) ≤ (k : Int) := by omega
                go_wp2
                go_roundw
                case rel => exact ⟨k + 1, by omega, by go_num, K, HF.out⟩
                case measure => simp [intOf]; omega
            · clear hF
              go_wp2_with fail
              refine (clone_any w.heap.size 0 n n z hn' wr ?_ K.want.lt).mono ?_
              · intro i hi
                rw [Nat.zero_add]
                exact K.want.cell hi
              rintro e w10 ⟨rfl, hG10, hb10⟩
              have K10 := K.later hb10
              have NG : Hid (w.heap.size ≠ wr.heap.size ∧ D ≠ wr.heap.size ∧ w.heap.size ≤ wr.heap.size) := ⟨Nat.ne_of_lt K.want.lt, Nat.ne_of_lt K.dlt, K.bel.size⟩
              clear K hb10 hlt hk
              generalize wr.heap.size = G at hG10 NG ⊢
              go_wp2_with (refine wpList_load_row rfl 25 _ rfl _ rfl 25 (guidOf y) (0, 0) _ ?hl10 Try.underlying25 rfl (infoG y) ?_)
              case hl10 => exact K10.dbox
              refine (zenc_any G n n z y hn (Nat.le_refl _) w10 hG10).mono ?_
              rintro e w11 ⟨rfl, hG11, hg11⟩
              have K11 := K10.written hg11 NG.out.1 NG.out.2.1 NG.out.2.2
              clear K10 hG10 hg11 NG
              go_wp2_with fail
              go_loopw [11] (fun i wr => ∃ k : Nat, k ≤ n ∧ i = .int .i64 k ∧ Kept w wr y z w.heap.size D n ∧ wr.rowIs G 5 n (fun i => .int .u8 (if i < 16 then y (perm i) else z i))) (fun i _ => n - (intOf i).toNat)
              case atStart => exact ⟨0, Nat.zero_le _, rfl, K11, hG11⟩
              case round =>
                clear K11 hG11
                obtain ⟨k, hk, rfl, K, hG⟩ := hrel
                by_cases hlt : k < n
                · have c2 : wr.cell? ⟨w.heap.size, k, none⟩ = some (.int .u8 (z k)) := K.want.cell hlt
                  have c1 : wr.cell? ⟨G, k, none⟩ = some (.int .u8 (z k)) := by
                    rw [hG.cell hlt]
                    by_cases h16 : k < 16
                    · rw [if_pos h16, HZ'.out k h16]
                    · rw [if_neg h16]
                  have l3 : (k : Int) < (n : Int) := by omega
                  have HG : Hid (wr.rowIs G 5 n (fun i => .int .u8 (if i < 16 then y (perm i) else z i))) := hG
                  clear hG
                  go_wp2
                  go_quiet (fail)
                  go_wp2
                  go_roundw
                  case rel => exact ⟨k + 1, by omega, by go_num, K.drewN _, HG.out⟩
                  case measure => simp [intOf]; omega
                · clear hG
                  go_wp2
                  go_ret
                  exact ⟨rfl, K.bel⟩
end Go.Proofs.Qxb6617366a
