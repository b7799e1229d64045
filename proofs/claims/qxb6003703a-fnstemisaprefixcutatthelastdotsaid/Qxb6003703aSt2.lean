/-
  FnStemIsAPrefixCutAtTheLastDot (5), walked.
-/
import Derived.Test.Qxb6003703aSt1
namespace Go.Proofs.Qxb6003703a
open Go.RowKit
set_option linter.unusedSimpArgs false
set_option linter.unusedVariables false

/-- Either a last dot lies past the first byte, or there is none past it. -/
theorem last_or (s : ByteArray) : (∃ n, ∃ hn : n < s.size, 0 < n ∧ s[n].toNat = 46 ∧ ∀ (j : Nat) (hj : j < s.size), n < j → s[j].toNat ≠ 46) ∨ ∀ (j : Nat) (hj : j < s.size), 0 < j → s[j].toNat ≠ 46 := by
  have key : ∀ m : Nat, m ≤ s.size → (∃ n, ∃ hn : n < s.size, 0 < n ∧ s[n].toNat = 46 ∧ ∀ (j : Nat) (hj : j < s.size), n < j → s[j].toNat ≠ 46) ∨ ∀ (j : Nat) (hj : j < s.size), s.size - m ≤ j → 0 < j → s[j].toNat ≠ 46 := by
    intro m
    induction m with
    | zero => intro _; exact .inr fun j hj h => by omega
    | succ m ih =>
      intro hm
      rcases ih (by omega) with h | h
      · exact .inl h
      · by_cases h0 : 0 < s.size - (m + 1) ∧ s[s.size - (m + 1)].toNat = 46
        · exact .inl ⟨s.size - (m + 1), by omega, h0.1, h0.2, fun j hj hlt => h j hj (by omega) (by omega)⟩
        · refine .inr fun j hj hle h1 e => ?_
          by_cases hx : j = s.size - (m + 1)
          · subst hx; exact h0 ⟨h1, e⟩
          · exact h j hj (by omega) h1 e
  rcases key s.size (Nat.le_refl _) with h | h
  · exact .inl h
  · exact .inr fun j hj h0 => h j hj (by omega) h0

theorem extract_at (s : ByteArray) (a b j : Nat) (hb : b ≤ s.size) (hj : j < (s.extract a b).size) (hj2 : a + j < s.size) : (s.extract a b)[j] = s[a + j] := by
  simp [ByteArray.getElem_extract]

set_option maxHeartbeats 1600000 in
set_option maxRecDepth 100000 in
theorem stem5 (s : ByteArray) (hs : s.size ≤ maxLen) (w : World) :
    Calls Try.prog 5 #[.string s] w fun e w' => e = .returned (.bool true) ∧ Below w.heap.size w w' := by
  have H12 := bytes12 s hs w
  by_cases hb : s.size ≤ 1048576
  · rw [decide_eq_true hb] at H12
    rcases last_or s with ⟨n, hn, h0, hd, hl⟩ | hl
    · have H11 := stem_cut s (by omega) w n hn h0 hd hl
      have hsz : (s.extract 0 n).size = n := by simp; omega
      have H13 := prefix13 (s.extract 0 n) s (by omega) (by omega) w (fun j hj hj2 => by rw [extract_at s 0 n j (by omega) hj (by omega)]; simp)
      have H10 := fun w => dot_no (s.extract (n + 1) s.size) (by simp; omega) w (fun j hj => by
        have hj' : j < s.size - (n + 1) := by simpa using hj
        rw [extract_at s (n + 1) s.size j (Nat.le_refl _) hj (by omega)]
        exact hl _ (by omega) (by omega))
      obtain ⟨r, hr⟩ : ∃ r, r = s.extract 0 n := ⟨_, rfl⟩
      rw [← hr] at H11 H13 hsz
      clear hr hl hs
      go_enter Try.func5, Try.ntmps5
      go_wp2_with (first
        | (go_at_call 12; refine H12.mono ?_; rintro e w1 ⟨rfl, hw⟩; obtain rfl := hw.symm)
        | (go_at_call 11; refine H11.mono ?_; rintro e w1 ⟨rfl, hw⟩; obtain rfl := hw.symm)
        | (go_at_call 13; refine H13.mono ?_; rintro e w1 ⟨rfl, hb1⟩)
        | (go_at_call 10; refine (H10 _).mono ?_; rintro e w2 ⟨rfl, hw⟩; obtain rfl := hw.symm))
      go_ret
      exact ⟨rfl, hb1⟩
    · have H11 := stem_whole s (by omega) w hl
      have H13 := prefix13 s s (by omega) (by omega) w (fun j hj hj2 => rfl)
      have H10 : 0 < s.size → ∀ w, Calls Try.prog 10 #[.string (s.extract 1 s.size)] w fun e w' => e = .returned (.bool false) ∧ w' = w := fun h0 w => dot_no (s.extract 1 s.size) (by simp; omega) w (fun j hj => by
        have hj' : j < s.size - 1 := by simpa using hj
        rw [extract_at s 1 s.size j (Nat.le_refl _) hj (by omega)]
        exact hl _ (by omega) (by omega))
      clear hl hs
      by_cases hz : s.size = 0
      · clear H10
        go_enter Try.func5, Try.ntmps5
        go_wp2_with (first
          | (go_at_call 12; refine H12.mono ?_; rintro e w1 ⟨rfl, hw⟩; obtain rfl := hw.symm)
          | (go_at_call 11; refine H11.mono ?_; rintro e w1 ⟨rfl, hw⟩; obtain rfl := hw.symm)
          | (go_at_call 13; refine H13.mono ?_; rintro e w1 ⟨rfl, hb1⟩))
        go_ret
        exact ⟨rfl, hb1⟩
      · replace H10 := H10 (by omega)
        have h1 : 1 ≤ s.size := by omega
        go_enter Try.func5, Try.ntmps5
        go_wp2_with (first
          | (go_at_call 12; refine H12.mono ?_; rintro e w1 ⟨rfl, hw⟩; obtain rfl := hw.symm)
          | (go_at_call 11; refine H11.mono ?_; rintro e w1 ⟨rfl, hw⟩; obtain rfl := hw.symm)
          | (go_at_call 13; refine H13.mono ?_; rintro e w1 ⟨rfl, hb1⟩)
          | (go_at_call 10; refine (H10 _).mono ?_; rintro e w2 ⟨rfl, hw⟩; obtain rfl := hw.symm))
        go_ret
        exact ⟨rfl, hb1⟩
  · rw [decide_eq_false hb] at H12
    clear hs
    go_enter Try.func5, Try.ntmps5
    go_wp2_with (first | (go_at_call 12; refine H12.mono ?_; rintro e w1 ⟨rfl, hw⟩; obtain rfl := hw.symm))
    go_ret
    exact ⟨rfl, Below.refl _ _⟩

end Go.Proofs.Qxb6003703a
