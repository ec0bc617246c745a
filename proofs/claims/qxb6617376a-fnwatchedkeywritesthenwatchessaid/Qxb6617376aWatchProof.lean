import Derived.Test.Qxb6617376aWatch
import Derived.Test.Qxb6617376aOpen
namespace Go.Proofs.Qxb6617376a
open Go.ChangeShapes Go.WideShapes Go.ChangeAt Go.RowKit

set_option maxHeartbeats 400000 in
theorem watch_neg (m key p : Int) (h : m < 0) (w : World) :
    Calls Try.prog 5 #[.int .i64 m, .int .i64 key, .int .i64 p] w fun e w' => e = .returned (.bool true) ∧ Below w.heap.size w w' := by
  go_enter Try.func5, Try.ntmps5
  go_wp2
  go_ret
  exact ⟨rfl, Below.refl _ _⟩
set_option maxHeartbeats 400000 in
theorem watch_big (m key p : Int) (h0 : 0 ≤ m) (h : 65536 < m) (w : World) :
    Calls Try.prog 5 #[.int .i64 m, .int .i64 key, .int .i64 p] w fun e w' => e = .returned (.bool true) ∧ Below w.heap.size w w' := by
  go_enter Try.func5, Try.ntmps5
  go_wp2
  go_ret
  exact ⟨rfl, Below.refl _ _⟩
set_option maxHeartbeats 400000 in
theorem watch_cutneg (m key p : Int) (h0 : 0 ≤ m) (h : m ≤ 65536) (hp : p < 0) (w : World) :
    Calls Try.prog 5 #[.int .i64 m, .int .i64 key, .int .i64 p] w fun e w' => e = .returned (.bool true) ∧ Below w.heap.size w w' := by
  go_enter Try.func5, Try.ntmps5
  go_wp2
  go_ret
  exact ⟨rfl, Below.refl _ _⟩
set_option maxHeartbeats 400000 in
theorem watch_cutbig (m key p : Int) (h0 : 0 ≤ m) (h : m ≤ 65536) (hp : 0 ≤ p) (hp2 : 2 * m < p) (w : World) :
    Calls Try.prog 5 #[.int .i64 m, .int .i64 key, .int .i64 p] w fun e w' => e = .returned (.bool true) ∧ Below w.heap.size w w' := by
  go_enter Try.func5, Try.ntmps5
  go_wp2
  go_ret
  exact ⟨rfl, Below.refl _ _⟩

theorem watch_all (m key p : Int) (w : World) :
    Calls Try.prog 5 #[.int .i64 m, .int .i64 key, .int .i64 p] w fun e w' => e = .returned (.bool true) ∧ Below w.heap.size w w' := by
  by_cases h1 : m < 0
  · exact watch_neg m key p h1 w
  by_cases h2 : 65536 < m
  · exact watch_big m key p (by omega) h2 w
  by_cases h3 : p < 0
  · exact watch_cutneg m key p (by omega) (by omega) h3 w
  by_cases h4 : 2 * m < p
  · exact watch_cutbig m key p (by omega) (by omega) (by omega) h4 w
  obtain ⟨W, rfl⟩ : ∃ W : Nat, m = (W : Int) := ⟨m.toNat, by omega⟩
  obtain ⟨C, rfl⟩ : ∃ C : Nat, p = (C : Int) := ⟨p.toNat, by omega⟩
  exact watch_main W C key (by omega) (by omega) w

set_option maxRecDepth 100000 in
theorem watch_lifted (os : Os) (started : os.Started) (H : Type) (enc : TypeId × Value → H) :
    ReturnsInHanded {} Try.checked os 5 .any (Rows.fnWatchedKeyWritesThenWatchesSpec.pre6 enc Try.prog Try.f5 Rows.fnWatchedKeyWritesThenWatchesRow.domain false) (Rows.fnWatchedKeyWritesThenWatchesSpec.post enc Try.prog Try.f5 false true false false) := by
  refine returnsInHanded_of_change (C := Try.checked) own started (by kernel_rfl) Try.func5
    (ChangeSpec.witness6 (enc := enc) (C := Try.checked) false ⟨#[], #[.int .i64 0, .int .i64 0, .int .i64 0], []⟩ 8 (by kernel_rfl) (by kernel_rfl) (by kernel_rfl) (by kernel_rfl)) ?_
  intro W base args ds gs before hval0 hW hcnd _
  have hval : ∀ (j : Nat) t v, Try.f5.params[j]? = some t → args[j]? = some v → Value.okWide Try.prog W .any base t v := hval0
  have hW' := hW
  obtain ⟨p, q, hA0, hV, rfl, hfz, hnd⟩ := hW
  have hA : DataW.TrodAll enc Try.prog W 0 (fun _ => true) true Try.f5.params.toList args.toList ds p := hA0
  rw [Try.params5] at hA hval
  obtain ⟨v0, vs0, d0, ds0, p0, q0, hargs, rfl, rfl, h0, r0⟩ := trodAll_cons hA
  obtain ⟨v1, vs1, d1, ds1, p1, q1, rfl, rfl, rfl, h1, r1⟩ := trodAll_cons r0
  obtain ⟨v2, vs2, d2, ds2, p2, q2, rfl, rfl, rfl, h2, r2⟩ := trodAll_cons r1
  obtain ⟨rfl, rfl, rfl⟩ := trodAll_nil r2
  obtain rfl : args = #[v0, v1, v2] := by cases args; simp_all
  obtain ⟨rfl, rfl⟩ := trodVars_none hV
  obtain ⟨a0, rfl, rfl, rfl, w0⟩ := open_int Try.underlying3 (hval 0 3 v0 rfl rfl) h0
  obtain ⟨a1, rfl, rfl, rfl, w1⟩ := open_int Try.underlying3 (hval 1 3 v1 rfl rfl) h1
  obtain ⟨a2, rfl, rfl, rfl, w2⟩ := open_int Try.underlying3 (hval 2 3 v2 rfl rfl) h2
  clear hA0 hval0
  refine (watch_all a0 a1 a2 W).mono fun e W' ⟨he, bel⟩ => ?_
  subst he
  exact ⟨_, rfl, _, _, _, [], _, [], hW', trodAll_mk1 (shut_bool Try.underlying4 _), (trodAll_cons_mk (shut_int Try.underlying3 w0) (trodAll_cons_mk (shut_int Try.underlying3 w1) (trodAll_cons_mk (shut_int Try.underlying3 w2) trodAll_mk0))), rfl, bel.frame _, fun h => by cases h⟩

theorem watch_over : Rows.fnWatchedKeyWritesThenWatchesRow.holds Try.pinned (OpenSpec.ofChange Rows.fnWatchedKeyWritesThenWatchesSpec) :=
  OpenClaim.holds_of_wide 5 Try.f5 rfl rfl rfl rfl rfl rfl rfl ⟨rfl, rfl, rfl, rfl, rfl⟩ rfl rfl rfl rfl rfl (by kernel_rfl) Try.func5 (by kernel_rfl)
    (of_decide_eq_true (by kernel_rfl)) (by unfold Func.isWrapper; first | (rw [if_pos (by decide +kernel)]; kernel_rfl) | (rw [if_neg (by decide +kernel)]; exact ⟨rfl, rfl⟩))
    (fun os started H enc _ => watch_lifted os started H enc)

theorem watch_proved : Rows.FnWatchedKeyWritesThenWatchesSaid := watch_over
#print axioms watch_proved
end Go.Proofs.Qxb6617376a
