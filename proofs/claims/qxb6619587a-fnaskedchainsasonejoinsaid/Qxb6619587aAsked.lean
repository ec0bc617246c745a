import Derived.Test.Qxb6619587aRows
import Derived.WalkKit
import Derived.WalkSpells
import Derived.WalkLawsBesides
namespace Go.Proofs.Qxb6619587a
open Go.RowKit

/-- What asked gives: a, then ": " and b; either alone where the other is empty. -/
def ask (a b : ByteArray) : ByteArray := if b.toList.isEmpty then a else if a.toList.isEmpty then b else a ++ ⟨#[58, 32]⟩ ++ b

/-! ### THE PLAIN LAW: no Go in sight -/
theorem empty_of {a : ByteArray} (h : a.toList.isEmpty = true) : a = ⟨#[]⟩ := by
  obtain ⟨⟨l⟩⟩ := a
  have : l = [] := by simpa [ByteArray.toList_eq] using h
  rw [this]
theorem notEmpty_of {a : ByteArray} (h : 0 < a.size) : a.toList.isEmpty = false := by
  obtain ⟨⟨l⟩⟩ := a
  have hl : 0 < l.length := h
  have : l ≠ [] := List.ne_nil_of_length_pos hl
  simpa [ByteArray.toList_eq] using this
theorem nil_append (b : ByteArray) : (⟨#[]⟩ : ByteArray) ++ b = b := ByteArray.empty_append
theorem ask_left (a : ByteArray) : ask a ⟨#[]⟩ = a := by simp [ask, ByteArray.toList_eq]
theorem ask_right (b : ByteArray) : ask ⟨#[]⟩ b = b := by
  unfold ask
  split
  · rename_i h; exact (empty_of h).symm
  · simp [ByteArray.toList_eq]
theorem ask_both {a b : ByteArray} (ha : a.toList.isEmpty = false) (hb : b.toList.isEmpty = false) : ask a b = a ++ ⟨#[58, 32]⟩ ++ b := by simp [ask, ha, hb]
theorem joined {a b : ByteArray} : (a ++ (⟨#[58, 32]⟩ : ByteArray) ++ b).toList.isEmpty = false := by
  apply notEmpty_of
  have : (⟨#[58, 32]⟩ : ByteArray).size = 2 := rfl
  simp only [ByteArray.size_append, this]; omega
theorem ask_assoc (a b c : ByteArray) : ask a (ask b c) = ask (ask a b) c := by
  by_cases ha : a.toList.isEmpty = true
  · rw [empty_of ha, ask_right, ask_right]
  by_cases hb : b.toList.isEmpty = true
  · rw [empty_of hb, ask_right, ask_left]
  by_cases hc : c.toList.isEmpty = true
  · rw [empty_of hc, ask_left, ask_left]
  have ha' : a.toList.isEmpty = false := by simpa using ha
  have hb' : b.toList.isEmpty = false := by simpa using hb
  have hc' : c.toList.isEmpty = false := by simpa using hc
  rw [ask_both hb' hc', ask_both ha' hb', ask_both ha' joined, ask_both joined hc']
  simp only [ByteArray.append_assoc]
theorem ask_size (a b : ByteArray) : (ask a b).size ≤ a.size + b.size + 2 := by
  unfold ask
  split
  · omega
  · split
    · omega
    · have : (⟨#[58, 32]⟩ : ByteArray).size = 2 := rfl
      simp only [ByteArray.size_append, this]; omega

/-! ### THE WALKS -/
theorem ret_string {a b : ByteArray} (h : a = b) : Ending.returned (.string a) = .returned (.string b) := by rw [h]

set_option maxHeartbeats 400000 in
theorem asked_any (a b : ByteArray) (ha : a.size ≤ 1048576) (hb : b.size ≤ 1048576) (w : World) :
    Calls Try.prog 15 #[.string a, .string b] w fun e w' => e = .returned (.string (ask a b)) ∧ w = w' := by
  by_cases h1 : b.toList.isEmpty = true
  · go_enter Try.func15, Try.ntmps15
    go_wp2
    go_ret
    exact ⟨ret_string (by simp [ask, h1]), rfl⟩
  · have h1' : b.toList.isEmpty = false := by simpa using h1
    clear h1
    by_cases h2 : a.toList.isEmpty = true
    · go_enter Try.func15, Try.ntmps15
      go_wp2
      go_ret
      exact ⟨ret_string (by simp [ask, h1', h2]), rfl⟩
    · have h2' : a.toList.isEmpty = false := by simpa using h2
      clear h2
      go_enter Try.func15, Try.ntmps15
      go_wp2
      go_ret
      exact ⟨ret_string (ask_both h2' h1').symm, rfl⟩

theorem zasked_any (a b r : ByteArray) (hr : ask a b = r) (ha : a.size ≤ 1048576) (hb : b.size ≤ 1048576) (w : World) :
    Calls Try.prog 13 #[.string a, .string b] w fun e w' => e = .returned (.string r) ∧ w = w' := by
  subst hr
  go_enter Try.func13, Try.ntmps13
  go_wp2_with fail
  refine (asked_any a b ha hb _).mono ?_
  rintro e w' ⟨rfl, rfl⟩
  go_wp2
  go_ret
  exact ⟨rfl, rfl⟩

set_option maxHeartbeats 1000000 in
theorem join_any (a b c : ByteArray) (ha : a.size ≤ 262144) (hb : b.size ≤ 262144) (hc : c.size ≤ 262144) (w : World) :
    Calls Try.prog 12 #[.string a, .string b, .string c] w fun e w' => e = .returned (.string (ask (ask a b) c)) ∧ w = w' := by
  by_cases h1 : a.toList.isEmpty = true
  · obtain rfl := empty_of h1
    rw [ask_right]
    clear h1
    by_cases h2 : b.toList.isEmpty = true
    · obtain rfl := empty_of h2
      rw [ask_right]
      clear h2
      by_cases h3 : c.toList.isEmpty = true
      · obtain rfl := empty_of h3
        clear h3
        go_enter Try.func12, Try.ntmps12
        go_wp2
        go_ret
        exact ⟨rfl, rfl⟩
      · have h3' : c.toList.isEmpty = false := by simpa using h3
        clear h3
        have n1 := nil_append c
        go_enter Try.func12, Try.ntmps12
        go_wp2
        go_ret
        exact ⟨rfl, rfl⟩
    · have h2' : b.toList.isEmpty = false := by simpa using h2
      clear h2
      have n1 := nil_append b
      by_cases h3 : c.toList.isEmpty = true
      · obtain rfl := empty_of h3
        rw [ask_left]
        clear h3
        go_enter Try.func12, Try.ntmps12
        go_wp2
        go_ret
        exact ⟨rfl, rfl⟩
      · have h3' : c.toList.isEmpty = false := by simpa using h3
        clear h3
        rw [ask_both h2' h3']
        go_enter Try.func12, Try.ntmps12
        go_wp2
        go_ret
        exact ⟨rfl, rfl⟩
  · have h1' : a.toList.isEmpty = false := by simpa using h1
    clear h1
    by_cases h2 : b.toList.isEmpty = true
    · obtain rfl := empty_of h2
      rw [ask_left]
      clear h2
      by_cases h3 : c.toList.isEmpty = true
      · obtain rfl := empty_of h3
        rw [ask_left]
        clear h3
        go_enter Try.func12, Try.ntmps12
        go_wp2
        go_ret
        exact ⟨rfl, rfl⟩
      · have h3' : c.toList.isEmpty = false := by simpa using h3
        clear h3
        rw [ask_both h1' h3']
        go_enter Try.func12, Try.ntmps12
        go_wp2
        go_ret
        exact ⟨rfl, rfl⟩
    · have h2' : b.toList.isEmpty = false := by simpa using h2
      clear h2
      rw [ask_both h1' h2']
      have j1 := @joined a b
      by_cases h3 : c.toList.isEmpty = true
      · obtain rfl := empty_of h3
        rw [ask_left]
        clear h3
        go_enter Try.func12, Try.ntmps12
        go_wp2
        go_ret
        exact ⟨rfl, rfl⟩
      · have h3' : c.toList.isEmpty = false := by simpa using h3
        clear h3
        rw [ask_both j1 h3']
        go_enter Try.func12, Try.ntmps12
        go_wp2
        go_ret
        exact ⟨rfl, rfl⟩

set_option maxHeartbeats 400000 in
theorem bytes_yes (a b c : ByteArray) (h : a.size + b.size + c.size ≤ 1048576) (w : World) :
    Calls Try.prog 11 #[.string a, .string b, .string c] w fun e w' => e = .returned (.bool true) ∧ w = w' := by
  go_enter Try.func11, Try.ntmps11
  go_wp2
  go_ret
  exact ⟨rfl, rfl⟩

set_option maxHeartbeats 400000 in
theorem bytes_no (a b c : ByteArray) (h : 1048576 < a.size + b.size + c.size) (ha : a.size ≤ 9223372036854775807) (hb : b.size ≤ 9223372036854775807) (hc : c.size ≤ 9223372036854775807) (w : World) :
    Calls Try.prog 11 #[.string a, .string b, .string c] w fun e w' => e = .returned (.bool false) ∧ w = w' := by
  go_enter Try.func11, Try.ntmps11
  go_wp2
  all_goals
    go_ret
    exact ⟨rfl, rfl⟩

set_option maxHeartbeats 400000 in
theorem law_no (a b c : ByteArray) (h : 1048576 < a.size + b.size + c.size) (ha : a.size ≤ 9223372036854775807) (hb : b.size ≤ 9223372036854775807) (hc : c.size ≤ 9223372036854775807) (w : World) :
    Calls Try.prog 5 #[.string a, .string b, .string c] w fun e w' => e = .returned (.bool true) ∧ w = w' := by
  go_enter Try.func5, Try.ntmps5
  go_wp2_with fail
  refine (bytes_no a b c h ha hb hc _).mono ?_
  rintro e w' ⟨rfl, rfl⟩
  go_wp2
  go_ret
  exact ⟨rfl, rfl⟩

set_option maxHeartbeats 400000 in
theorem law_long (a b c : ByteArray) (h : a.size + b.size + c.size ≤ 1048576) (hl : 262144 < a.size ∨ 262144 < b.size ∨ 262144 < c.size) (w : World) :
    Calls Try.prog 5 #[.string a, .string b, .string c] w fun e w' => e = .returned (.bool true) ∧ w = w' := by
  have HL : Hid (262144 < a.size ∨ 262144 < b.size ∨ 262144 < c.size) := hl
  clear hl
  go_enter Try.func5, Try.ntmps5
  go_wp2_with (first | (go_at_call 11; refine (bytes_yes a b c h _).mono ?_; rintro e w' ⟨rfl, rfl⟩) | (go_at_call 12; exfalso; have := HL.out; omega))
  all_goals
    go_ret
    exact ⟨rfl, rfl⟩

set_option maxHeartbeats 400000 in
theorem law_main (a b c : ByteArray) (ha : a.size ≤ 262144) (hb : b.size ≤ 262144) (hc : c.size ≤ 262144) (w : World) :
    Calls Try.prog 5 #[.string a, .string b, .string c] w fun e w' => e = .returned (.bool true) ∧ w = w' := by
  have s1 := ask_size a b
  have s2 := ask_size b c
  go_enter Try.func5, Try.ntmps5
  go_wp2_with fail
  refine (bytes_yes a b c (by omega) _).mono ?_
  rintro e w' ⟨rfl, rfl⟩
  go_wp2_with fail
  refine (join_any a b c ha hb hc _).mono ?_
  rintro e w' ⟨rfl, rfl⟩
  go_wp2_with fail
  refine (zasked_any a b _ rfl (by omega) (by omega) _).mono ?_
  rintro e w' ⟨rfl, rfl⟩
  go_wp2_with fail
  refine (zasked_any (ask a b) c _ rfl (by omega) (by omega) _).mono ?_
  rintro e w' ⟨rfl, rfl⟩
  go_wp2_with fail
  refine (zasked_any b c _ rfl (by omega) (by omega) _).mono ?_
  rintro e w' ⟨rfl, rfl⟩
  go_wp2_with fail
  refine (zasked_any a (ask b c) _ (ask_assoc a b c) (by omega) (by omega) _).mono ?_
  rintro e w' ⟨rfl, rfl⟩
  go_wp2
  go_ret
  exact ⟨rfl, rfl⟩
end Go.Proofs.Qxb6619587a
