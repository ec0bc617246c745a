import Derived.Test.Qxb6617366aEncDec
import Derived.Test.Qxb6617366aOpen
namespace Go.Proofs.Qxb6617366a
open Go.ChangeShapes Go.WideShapes Go.ChangeAt Go.RowKit

set_option maxHeartbeats 400000 in
theorem encdec_short (a : Option Addr) (n c : Nat) (y : Nat → Int) (hn : n < 16) (w : World) :
    Calls Try.prog 5 #[.slice a n c, .agg (guidOf y)] w fun e w' => e = .returned (.bool true) ∧ Below w.heap.size w w' := by
  have l1 : (n : Int) ≤ 1048576 := by omega
  have l2 : (n : Int) < 16 := by omega
  go_enter Try.func5, Try.ntmps5
  go_wp2_with (refine wpList_load_new rfl 23 _ rfl _ _ rfl _ Try.underlying23 rfl info23' ?_)
  refine (bytes5_any _ n c _ (by omega) _).mono ?_
  rintro e w1 ⟨rfl, hb1⟩
  go_wp2
  go_ret
  exact ⟨rfl, ((Below.refl _ _).alloc (Nat.le_refl _) _).trans (hb1.mono (by simp))⟩

set_option maxHeartbeats 400000 in
theorem encdec_long (a : Option Addr) (n c : Nat) (y : Nat → Int) (hn : 1048576 < n) (w : World) :
    Calls Try.prog 5 #[.slice a n c, .agg (guidOf y)] w fun e w' => e = .returned (.bool true) ∧ Below w.heap.size w w' := by
  go_enter Try.func5, Try.ntmps5
  go_wp2_with (refine wpList_load_new rfl 23 _ rfl _ _ rfl _ Try.underlying23 rfl info23' ?_)
  refine (bytes5_no _ n c _ hn _).mono ?_
  rintro e w1 ⟨rfl, hb1⟩
  go_wp2
  go_ret
  exact ⟨rfl, ((Below.refl _ _).alloc (Nat.le_refl _) _).trans (hb1.mono (by simp))⟩

/-- WHAT THE WALK IS TOLD OF A SLICE OF INTEGERS THAT CAME IN. -/
def IsRow (k : IntKind) (w : World) (a : Option Addr) (len cap : Nat) (zs : List Int) : Prop :=
  (a = none ∧ len = 0 ∧ cap = 0 ∧ zs = []) ∨
  ∃ x, a = some x ∧ len ≤ cap ∧ cap ≤ maxLen ∧ zs.length = cap ∧ (∀ i, i < zs.length → w.cell? (x.add i) = some (.int k (zs.getD i 0))) ∧ ∀ n ∈ zs, (Lit.int k n).wf = true

/-- A row with at least one element lies at a plain address, in a block that is there. -/
theorem IsRow.plain {k : IntKind} {w : World} {a : Option Addr} {len cap : Nat} {zs : List Int} (h : IsRow k w a len cap zs) (hl : 0 < len) :
    ∃ b off, a = some ⟨b, off, none⟩ ∧ b < w.heap.size ∧ (∀ i, i < len → w.cell? ⟨b, off + i, none⟩ = some (.int k (zs.getD i 0))) ∧ ∀ i, i < len → (Lit.int k (zs.getD i 0)).wf = true := by
  rcases h with ⟨_, rfl, _, _⟩ | ⟨x, rfl, hlc, _, hz, hc, hw⟩
  · omega
  · obtain ⟨b, off, spot⟩ := x
    have h0 := hc 0 (by omega)
    have hspot : spot = none := by simpa [Addr.add] using World.cell?_spot h0
    subst hspot
    have hcell : ∀ i, i < len → w.cell? ⟨b, off + i, none⟩ = some (.int k (zs.getD i 0)) := fun i hi => by rw [← Addr.add_mid]; exact hc i (by omega)
    refine ⟨b, off, rfl, ?_, hcell, fun i hi => hw _ ?_⟩
    · exact World.block_lt_of_cell? w _ (hcell 0 hl)
    · rw [List.getD_eq_getElem?_getD, List.getElem?_eq_getElem (by omega)]; simp

theorem encdec_all (a0 : Option Addr) (len0 cap0 : Nat) (z0 : List Int) (y : Nat → Int) (hy : ∀ i, i < 16 → 0 ≤ y i ∧ y i ≤ 255) (w : World) (w0 : IsRow .u8 w a0 len0 cap0 z0) :
    Calls Try.prog 5 #[.slice a0 len0 cap0, .agg (guidOf y)] w fun e w' => e = .returned (.bool true) ∧ Below w.heap.size w w' := by
  by_cases h1 : len0 < 16
  · exact encdec_short a0 len0 cap0 y h1 w
  by_cases h2 : 1048576 < len0
  · exact encdec_long a0 len0 cap0 y h2 w
  obtain ⟨b, off, rfl, hb, hc, _⟩ := w0.plain (by omega)
  exact encdec_walk b off len0 cap0 (fun i => z0.getD i 0) y hy (by omega) (by omega) w hc hb

theorem guid_of {g : Array Value} (hz : g.size = 16) (h : ∀ i, i < 16 → ∃ n : Int, g[i]? = some (.int .u8 n) ∧ 0 ≤ n ∧ n ≤ 255) : ∃ y, g = guidOf y ∧ ∀ i, i < 16 → 0 ≤ y i ∧ y i ≤ 255 := by
  let y : Nat → Int := fun i => if hi : i < 16 then Classical.choose (h i hi) else 0
  have hy : ∀ i, i < 16 → g[i]? = some (.int .u8 (y i)) ∧ 0 ≤ y i ∧ y i ≤ 255 := fun i hi => by
    have := Classical.choose_spec (h i hi)
    simp only [y, dif_pos hi]
    exact this
  refine ⟨y, ?_, fun i hi => (hy i hi).2⟩
  apply Array.ext_getElem?
  intro i
  by_cases hi : i < 16
  · rw [(hy i hi).1, guidOf_at y i hi]
  · rw [Array.getElem?_eq_none (by omega), Array.getElem?_eq_none (by rw [guidOf_size]; omega)]

set_option maxRecDepth 100000 in
theorem encdec_lifted (os : Os) (started : os.Started) (H : Type) (enc : TypeId × Value → H) :
    ReturnsInHanded {} Try.checked os 5 .any (Rows.fnEncodeGUIDThenDecodeGUIDSpec.pre6 enc Try.prog Try.f5 Rows.fnEncodeGUIDThenDecodeGUIDRow.domain false) (Rows.fnEncodeGUIDThenDecodeGUIDSpec.post enc Try.prog Try.f5 false true false false) := by
  refine returnsInHanded_of_change (C := Try.checked) own started (by kernel_rfl) Try.func5
    (ChangeSpec.witness6 (enc := enc) (C := Try.checked) false ⟨#[], #[.slice none 0 0, .agg #[.int .u8 0, .int .u8 0, .int .u8 0, .int .u8 0, .int .u8 0, .int .u8 0, .int .u8 0, .int .u8 0, .int .u8 0, .int .u8 0, .int .u8 0, .int .u8 0, .int .u8 0, .int .u8 0, .int .u8 0, .int .u8 0]], []⟩ 8 (by kernel_rfl) (by kernel_rfl) (by kernel_rfl) (by kernel_rfl)) ?_
  intro W base args ds gs before hval0 hW hcnd _
  have hval : ∀ (j : Nat) t v, Try.f5.params[j]? = some t → args[j]? = some v → Value.okWide Try.prog W .any base t v := hval0
  have hW' := hW
  obtain ⟨p, q, hA0, hV, rfl, hfz, hnd⟩ := hW
  have hA : DataW.TrodAll enc Try.prog W 0 (fun _ => true) true Try.f5.params.toList args.toList ds p := hA0
  rw [Try.params5] at hA hval
  obtain ⟨v0, vs0, d0, ds0, p0, q0, hargs, rfl, rfl, h0, r0⟩ := trodAll_cons hA
  obtain ⟨v1, vs1, d1, ds1, p1, q1, rfl, rfl, rfl, h1, r1⟩ := trodAll_cons r0
  obtain ⟨rfl, rfl, rfl⟩ := trodAll_nil r1
  obtain rfl : args = #[v0, v1] := by cases args; simp_all
  obtain ⟨rfl, rfl⟩ := trodVars_none hV
  obtain ⟨a0, len0, cap0, rfl⟩ := okWide_slice Try.underlying33 (hval 0 33 v0 rfl rfl)
  have k0 := h0
  have k1 := h1
  have lt0 : ∀ x ∈ p0, x.block < W.heap.size := by obtain ⟨m, hm⟩ := k0; exact DataW.trod_lt m _ _ _ hm
  have lt1 : ∀ x ∈ p1, x.block < W.heap.size := by obtain ⟨m, hm⟩ := k1; exact DataW.trod_lt m _ _ _ hm
  obtain ⟨z0, w0⟩ : ∃ zs, IsRow .u8 W a0 len0 cap0 zs := by
    obtain ⟨fuel, hf⟩ := h0
    rcases open_ints Try.underlying33 Try.underlying5 (by kernel_rfl) hf with ⟨hcs, _⟩ | ⟨x, l, c, zs, hcs, _, hl, hm, hz, _, hcell, hwz⟩
    · simp [Value.cells] at hcs
      obtain ⟨rfl, rfl, rfl⟩ := hcs
      exact ⟨[], .inl ⟨rfl, rfl, rfl, rfl⟩⟩
    · simp [Value.cells] at hcs
      obtain ⟨rfl, rfl, rfl⟩ := hcs
      exact ⟨zs, .inr ⟨_, rfl, hl, hm, by simpa using hz, hcell, hwz⟩⟩
  obtain ⟨g, rfl, hgz, hg⟩ := open_guid (hval 1 23 v1 rfl rfl) h1
  obtain ⟨y, rfl, hy⟩ := guid_of hgz hg
  clear hA0 hval0
  refine (encdec_all a0 len0 cap0 z0 y hy W w0).mono fun e W' ⟨he, bel⟩ => ?_
  subst he
  exact ⟨_, rfl, _, _, _, [], _, [], hW', trodAll_mk1 (shut_bool Try.underlying4 _), (trodAll_cons_mk (Below.trod laidOut (by kernel_rfl) (of_decide_eq_true (by kernel_rfl)) k0 bel lt0) (trodAll_cons_mk (Below.trod laidOut (by kernel_rfl) (of_decide_eq_true (by kernel_rfl)) k1 bel lt1) trodAll_mk0)), rfl, bel.frame _, fun h => by cases h⟩

theorem encdec_over : Rows.fnEncodeGUIDThenDecodeGUIDRow.holds Try.pinned (OpenSpec.ofChange Rows.fnEncodeGUIDThenDecodeGUIDSpec) :=
  OpenClaim.holds_of_wide 5 Try.f5 rfl rfl rfl rfl rfl rfl rfl ⟨rfl, rfl, rfl, rfl, rfl⟩ rfl rfl rfl rfl rfl (by kernel_rfl) Try.func5 (by kernel_rfl)
    (of_decide_eq_true (by kernel_rfl)) (by unfold Func.isWrapper; first | (rw [if_pos (by decide +kernel)]; kernel_rfl) | (rw [if_neg (by decide +kernel)]; exact ⟨rfl, rfl⟩))
    (fun os started H enc _ => encdec_lifted os started H enc)

theorem encdec_proved : Rows.FnEncodeGUIDThenDecodeGUIDSaid := encdec_over
#print axioms encdec_proved
end Go.Proofs.Qxb6617366a
