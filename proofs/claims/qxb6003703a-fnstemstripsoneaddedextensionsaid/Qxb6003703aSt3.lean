/-
  FnStemStripsOneAddedExtension (4), walked.
-/
import Derived.Test.Qxb6003703aSt1
namespace Go.Proofs.Qxb6003703a
open Go.RowKit
set_option linter.unusedSimpArgs false
set_option linter.unusedVariables false

set_option maxHeartbeats 800000 in
set_option maxRecDepth 100000 in
theorem bytes9 (s t : ByteArray) (hs : s.size ≤ maxLen) (ht : t.size ≤ maxLen) (w : World) :
    Calls Try.prog 9 #[.string s, .string t] w fun e w' => e = .returned (.bool (decide (s.size + t.size ≤ 1048576))) ∧ w' = w := by
  have h1 : s.size ≤ 9223372036854775807 := Nat.le_trans hs (by decide)
  have h2 : t.size ≤ 9223372036854775807 := Nat.le_trans ht (by decide)
  clear hs ht
  by_cases hb : s.size + t.size ≤ 1048576
  · rw [decide_eq_true hb]
    go_enter Try.func9, Try.ntmps9
    go_wp2
    go_ret
    exact ⟨rfl, rfl⟩
  · rw [decide_eq_false hb]
    by_cases hs : s.size ≤ 1048576
    · by_cases ht : t.size ≤ 1048576
      · go_enter Try.func9, Try.ntmps9
        go_wp2
        go_ret
        exact ⟨rfl, rfl⟩
      · go_enter Try.func9, Try.ntmps9
        go_wp2
        go_ret
        exact ⟨rfl, rfl⟩
    · go_enter Try.func9, Try.ntmps9
      go_wp2
      go_ret
      exact ⟨rfl, rfl⟩

theorem empty_of {s : ByteArray} (h : s.size = 0) : s = ⟨#[]⟩ := by
  cases s with
  | mk d =>
    have : d = #[] := Array.eq_empty_of_size_eq_zero h
    rw [this]
theorem len_of (s : ByteArray) : s.data.toList.length = s.size := Array.length_toList

theorem first_or (s : ByteArray) : (∃ n, ∃ hn : n < s.size, s[n].toNat = 46 ∧ ∀ (j : Nat) (hj : j < s.size), j < n → s[j].toNat ≠ 46) ∨ ∀ (j : Nat) (hj : j < s.size), s[j].toNat ≠ 46 := by
  have key : ∀ m : Nat, m ≤ s.size → (∃ n, ∃ hn : n < s.size, s[n].toNat = 46 ∧ ∀ (j : Nat) (hj : j < s.size), j < n → s[j].toNat ≠ 46) ∨ ∀ (j : Nat) (hj : j < s.size), j < m → s[j].toNat ≠ 46 := by
    intro m
    induction m with
    | zero => intro _; exact .inr fun j hj h => by omega
    | succ m ih =>
      intro hm
      rcases ih (by omega) with h | h
      · exact .inl h
      · by_cases h0 : s[m].toNat = 46
        · exact .inl ⟨m, by omega, h0, fun j hj hlt => h j hj (by omega)⟩
        · refine .inr fun j hj hle e => ?_
          by_cases hx : j = m
          · subst hx; exact h0 e
          · exact h j hj (by omega) e
  rcases key s.size (Nat.le_refl _) with h | h
  · exact .inl h
  · exact .inr fun j hj => h j hj hj

def dotted (s t : ByteArray) : ByteArray := s ++ ⟨#[46]⟩ ++ t
theorem dotted_size (s t : ByteArray) : (dotted s t).size = s.size + 1 + t.size := by
  simp only [dotted, ByteArray.size_append]; rfl
theorem dotted_at (s t : ByteArray) (h : s.size < (dotted s t).size) : (dotted s t)[s.size].toNat = 46 := by
  have e1 : s.size < (s ++ ⟨#[46]⟩ : ByteArray).size := by simp only [ByteArray.size_append]; exact Nat.lt_succ_self _
  have e : (dotted s t)[s.size] = (s ++ ⟨#[46]⟩ : ByteArray)[s.size] := by unfold dotted; exact ByteArray.getElem_append_left e1
  rw [e, ByteArray.getElem_append_right (Nat.le_refl _)]
  simp
  rfl
theorem dotted_past (s t : ByteArray) (j : Nat) (hj : j < (dotted s t).size) (h : s.size < j) (ht : ∀ (i : Nat) (hi : i < t.size), t[i].toNat ≠ 46) : (dotted s t)[j].toNat ≠ 46 := by
  have e1 : (s ++ ⟨#[46]⟩ : ByteArray).size = s.size + 1 := by simp only [ByteArray.size_append]; rfl
  have e : (dotted s t)[j] = t[j - (s ++ ⟨#[46]⟩ : ByteArray).size]'(by rw [dotted_size] at hj; omega) := by unfold dotted; exact ByteArray.getElem_append_right (by omega)
  rw [e]
  exact ht _ _
theorem dotted_cut (s t : ByteArray) : (dotted s t).extract 0 s.size = s := by
  apply ByteArray.ext
  simp [dotted, ByteArray.data_extract, ByteArray.data_append]

set_option maxHeartbeats 1600000 in
set_option maxRecDepth 100000 in
theorem strip4 (s t : ByteArray) (hs : s.size ≤ maxLen) (ht : t.size ≤ maxLen) (w : World) :
    Calls Try.prog 4 #[.string s, .string t] w fun e w' => e = .returned (.bool true) ∧ Below w.heap.size w w' := by
  have H9 := bytes9 s t hs ht w
  by_cases hb : s.size + t.size ≤ 1048576
  · rw [decide_eq_true hb] at H9
    clear hs ht
    by_cases hz : s = ⟨#[]⟩
    · subst hz
      go_enter Try.func4, Try.ntmps4
      go_wp2_with (first
        | (go_at_call 9; refine H9.mono ?_; rintro e w1 ⟨rfl, hw⟩; obtain rfl := hw.symm))
      go_ret
      exact ⟨rfl, Below.refl _ _⟩
    · have hpos : 0 < s.size := by
        rcases Nat.eq_zero_or_pos s.size with h | h
        · exact absurd (empty_of h) hz
        · exact h
      have hne : (s.toList == []) = false := by
        rw [beq_eq_false_iff_ne, ByteArray.toList_eq]
        intro e
        have h1 : s.data.toList.length = 0 := by rw [e]; rfl
        have h2 := len_of s
        omega
      clear hz
      rcases first_or t with ⟨n, hn, hd, hf⟩ | hno
      · have H10 := fun w => dot_yes t (by omega) w n hn hd hf
        clear hf
        go_enter Try.func4, Try.ntmps4
        go_wp2_with (first
          | (go_at_call 9; refine H9.mono ?_; rintro e w1 ⟨rfl, hw⟩; obtain rfl := hw.symm)
          | (go_at_call 10; refine (H10 _).mono ?_; rintro e w2 ⟨rfl, hw⟩; obtain rfl := hw.symm))
        go_ret
        exact ⟨rfl, Below.refl _ _⟩
      · have H10 := fun w => dot_no t (by omega) w hno
        have hsz := dotted_size s t
        have H11 := stem_cut (dotted s t) (by omega) w s.size (by omega) hpos (dotted_at s t (by omega)) (fun j hj h => dotted_past s t j hj h hno)
        rw [dotted_cut] at H11
        clear hno
        have hcat : s ++ ⟨#[46]⟩ ++ t = dotted s t := rfl
        go_enter Try.func4, Try.ntmps4
        go_wp2_with (first
          | (go_at_call 9; refine H9.mono ?_; rintro e w1 ⟨rfl, hw⟩; obtain rfl := hw.symm)
          | (go_at_call 10; refine (H10 _).mono ?_; rintro e w2 ⟨rfl, hw⟩; obtain rfl := hw.symm)
          | (go_at_call 11; refine H11.mono ?_; rintro e w2 ⟨rfl, hw⟩; obtain rfl := hw.symm))
        go_ret
        exact ⟨by simp, Below.refl _ _⟩
  · rw [decide_eq_false hb] at H9
    clear hs ht
    go_enter Try.func4, Try.ntmps4
    go_wp2_with (first | (go_at_call 9; refine H9.mono ?_; rintro e w1 ⟨rfl, hw⟩; obtain rfl := hw.symm))
    go_ret
    exact ⟨rfl, Below.refl _ _⟩

end Go.Proofs.Qxb6003703a
