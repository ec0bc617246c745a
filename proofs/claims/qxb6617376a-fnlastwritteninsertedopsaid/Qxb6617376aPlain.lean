import Derived.WalkKit
namespace Go.Proofs.Qxb6617376a

/-- ONE OPERATION of a history, as plain data. -/
structure Op4 where
  s : Int
  k : Int
  v : Int
  b : Bool

/-- Its four cells. -/
def Op4.cells (o : Op4) : List Value := [.int .i64 o.s, .int .i64 o.k, .int .i64 o.v, .bool o.b]
/-- It is a write to key. -/
def hit (o : Op4) (key : Int) : Bool := o.b && (o.k == key)
/-- The value of the last write to key among the first n, 0 where there is none. -/
def lw (g : Nat → Op4) (key : Int) : Nat → Int
  | 0 => 0
  | n + 1 => if hit (g n) key then (g n).v else lw g key n
/-- There is a write to key among the first n. -/
def hw (g : Nat → Op4) (key : Int) : Nat → Bool
  | 0 => false
  | n + 1 => hit (g n) key || hw g key n
def shift (g : Nat → Op4) (c : Nat) : Nat → Op4 := fun i => g (c + i)
def ins (g : Nat → Op4) (p : Nat) (o : Op4) : Nat → Op4 := fun i => if i < p then g i else if i = p then o else g (i - 1)
/-- The history of WatchedKey. -/
def wk (W : Nat) : Nat → Op4 := fun i => if i < W then ⟨i, 0, i + 1, true⟩ else ⟨W, 0, (i : Int) - W + 1, false⟩

theorem hw_of_hit {g : Nat → Op4} {key : Int} {i : Nat} (h : hit (g i) key = true) : ∀ n, i < n → hw g key n = true
  | 0, hn => by omega
  | n + 1, hn => by
    by_cases e : i = n
    · subst e; simp [hw, h]
    · simp [hw, hw_of_hit h n (by omega)]
theorem lw_skip {g : Nat → Op4} {key : Int} {n : Nat} (h : hit (g n) key = false) : lw g key (n + 1) = lw g key n := by simp [lw, h]
theorem lw_hit {g : Nat → Op4} {key : Int} {n : Nat} (h : hit (g n) key = true) : lw g key (n + 1) = (g n).v := by simp [lw, h]
theorem hw_skip {g : Nat → Op4} {key : Int} {n : Nat} (h : hit (g n) key = false) : hw g key (n + 1) = hw g key n := by simp [hw, h]

theorem lw_cut (g : Nat → Op4) (key : Int) (c : Nat) : ∀ m, lw g key (c + m) = if hw (shift g c) key m then lw (shift g c) key m else lw g key c
  | 0 => by simp [hw]
  | m + 1 => by
    have ih := lw_cut g key c m
    by_cases h : hit (g (c + m)) key = true
    · simp [lw, hw, shift, h]
    · have h' : hit (g (c + m)) key = false := by simpa using h
      have hs : hit (shift g c m) key = false := h'
      rw [← Nat.add_assoc, lw_skip h', hw_skip hs, lw_skip hs, ih]

theorem lw_congr {g g' : Nat → Op4} (key : Int) : ∀ n, (∀ i, i < n → g i = g' i) → lw g key n = lw g' key n
  | 0, _ => rfl
  | n + 1, h => by simp only [lw, h n (by omega), lw_congr key n (fun i hi => h i (by omega))]

theorem shift_ins (g : Nat → Op4) (p : Nat) (o : Op4) : shift (ins g p o) (p + 1) = shift g p := by
  funext i
  simp only [shift, ins]
  rw [if_neg (by omega), if_neg (by omega)]
  congr 1; omega

theorem lw_ins (g : Nat → Op4) (p : Nat) (o : Op4) (key : Int) (n : Nat) (hp : p ≤ n) :
    lw (ins g p o) key (n + 1) = if hw (shift g p) key (n - p) then lw g key n else if hit o key then o.v else lw g key p := by
  have h1 := lw_cut (ins g p o) key (p + 1) (n - p)
  have h2 := lw_cut g key p (n - p)
  rw [show p + 1 + (n - p) = n + 1 by omega, shift_ins] at h1
  rw [show p + (n - p) = n by omega] at h2
  have h3 : lw (ins g p o) key (p + 1) = if hit o key then o.v else lw g key p := by
    have e : ins g p o p = o := by simp [ins]
    have e2 : lw (ins g p o) key p = lw g key p := lw_congr key p (fun i hi => by simp [ins, hi])
    simp only [lw, e, e2]
  rw [h1, h3]
  split
  · rename_i h; rw [h2, if_pos h]
  · rfl

theorem lw_ins_idle (g : Nat → Op4) (p : Nat) (o : Op4) (key : Int) (n : Nat) (hp : p ≤ n) (h : hit o key = false) : lw (ins g p o) key (n + 1) = lw g key n := by
  have h2 := lw_cut g key p (n - p)
  rw [show p + (n - p) = n by omega] at h2
  rw [lw_ins g p o key n hp, h2]
  split
  · rfl
  · simp [h]

theorem lw_wk_zero (W : Nat) : ∀ n, lw (wk W) 0 n = if n ≤ W then (n : Int) else W
  | 0 => by simp [lw]
  | n + 1 => by
    have ih := lw_wk_zero W n
    by_cases h : n < W
    · have e : wk W n = ⟨n, 0, n + 1, true⟩ := by simp [wk, h]
      rw [lw_hit (by rw [e]; rfl), e, if_pos (by omega)]
      simp
    · have e : wk W n = ⟨W, 0, (n : Int) - W + 1, false⟩ := by simp [wk, h]
      rw [lw_skip (by rw [e]; rfl), ih, if_neg (show ¬ n + 1 ≤ W by omega)]
      split <;> omega
theorem lw_wk_other (W : Nat) (key : Int) (hk : key ≠ 0) : ∀ n, lw (wk W) key n = 0
  | 0 => rfl
  | n + 1 => by
    have e : (wk W n).k = 0 := by simp only [wk]; split <;> rfl
    have : hit (wk W n) key = false := by
      have : (0 == key) = false := by simp; omega
      simp [hit, e, this]
    rw [lw_skip this, lw_wk_other W key hk n]
end Go.Proofs.Qxb6617376a
