/-
  The strings of the laws: zzHasDot (10), LastIndexByteString (20), LastIndexByte (19), stem (17), ZZstem (11), zzIsPrefix (13), and the bounds (9, 12).
-/
import Derived.Test.Qxb6003703aRows
import Derived.WalkKit
import Derived.ProofKit
import Derived.RegionTactic
import Derived.Handy
import Derived.BigQuiet
import Derived.WalkSpells
namespace Go.Proofs.Qxb6003703a
open Go.RowKit
set_option linter.unusedSimpArgs false
set_option linter.unusedVariables false

set_option maxHeartbeats 800000 in
set_option maxRecDepth 100000 in
theorem dot_no (s : ByteArray) (hs : s.size ≤ 4194304) (w : World) (h : ∀ (j : Nat) (hj : j < s.size), s[j].toNat ≠ 46) :
    Calls Try.prog 10 #[.string s] w fun e w' => e = .returned (.bool false) ∧ w' = w := by
  go_enter Try.func10, Try.ntmps10
  go_wp2
  go_loop [3] (fun i => ∃ k : Nat, k ≤ s.size ∧ i = .int .i64 k) (fun i => s.size - (intOf i).toNat)
  case atStart => exact ⟨0, Nat.zero_le _, rfl⟩
  case round =>
    obtain ⟨k, hk, rfl⟩ := hrel
    by_cases hlt : k < s.size
    · have h1 := h k hlt
      clear h
      go_wp2
      go_round
      case rel => exact ⟨k + 1, by omega, by go_num⟩
      case measure => simp [intOf]; omega
    · go_wp2
      go_ret
      exact ⟨rfl, rfl⟩

set_option maxHeartbeats 800000 in
set_option maxRecDepth 100000 in
theorem dot_yes (s : ByteArray) (hs : s.size ≤ 4194304) (w : World) (n : Nat) (hn : n < s.size) (h : s[n].toNat = 46) (hf : ∀ (j : Nat) (hj : j < s.size), j < n → s[j].toNat ≠ 46) :
    Calls Try.prog 10 #[.string s] w fun e w' => e = .returned (.bool true) ∧ w' = w := by
  go_enter Try.func10, Try.ntmps10
  go_wp2
  go_loop [3] (fun i => ∃ k : Nat, k ≤ n ∧ i = .int .i64 k) (fun i => n - (intOf i).toNat)
  case atStart => exact ⟨0, Nat.zero_le _, rfl⟩
  case round =>
    obtain ⟨k, hk, rfl⟩ := hrel
    by_cases hlt : k < n
    · have h1 := hf k (by omega) hlt
      clear hf
      go_wp2
      go_round
      case rel => exact ⟨k + 1, by omega, by go_num⟩
      case measure => simp [intOf]; omega
    · obtain rfl : k = n := by omega
      go_wp2
      go_ret
      exact ⟨rfl, rfl⟩

set_option maxHeartbeats 800000 in
set_option maxRecDepth 100000 in
theorem last_hit (s : ByteArray) (hs : s.size ≤ 4194304) (w : World) (n : Nat) (hn : n < s.size) (h : s[n].toNat = 46) (hf : ∀ (j : Nat) (hj : j < s.size), n < j → s[j].toNat ≠ 46) :
    Calls Try.prog 20 #[.string s, .int .u8 46] w fun e w' => e = .returned (.int .i64 n) ∧ w' = w := by
  go_enter Try.func20, Try.ntmps20
  go_wp2
  go_loop [5] (fun i => ∃ k : Nat, n ≤ k ∧ k < s.size ∧ i = .int .i64 k) (fun i => (intOf i).toNat)
  case atStart => exact ⟨s.size - 1, by omega, by omega, by go_num⟩
  case round =>
    obtain ⟨k, hk, hk2, rfl⟩ := hrel
    by_cases hlt : n < k
    · have h1 := hf k (by omega) hlt
      clear hf
      go_wp2
      go_round
      case rel => exact ⟨k - 1, by omega, by omega, by go_num⟩
      case measure => simp [intOf]; omega
    · obtain rfl : k = n := by omega
      go_wp2
      go_ret
      exact ⟨rfl, rfl⟩

set_option maxHeartbeats 800000 in
set_option maxRecDepth 100000 in
theorem last_miss (s : ByteArray) (hs : s.size ≤ 4194304) (w : World) (hf : ∀ (j : Nat) (hj : j < s.size), s[j].toNat ≠ 46) :
    Calls Try.prog 20 #[.string s, .int .u8 46] w fun e w' => e = .returned (.int .i64 (-1)) ∧ w' = w := by
  go_enter Try.func20, Try.ntmps20
  go_wp2
  go_loop [5] (fun i => ∃ k : Nat, k ≤ s.size ∧ i = .int .i64 ((k : Int) - 1)) (fun i => (intOf i + 1).toNat)
  case atStart => exact ⟨s.size, by omega, by go_num⟩
  case round =>
    obtain ⟨k, hk, rfl⟩ := hrel
    by_cases hlt : 0 < k
    · have h1 := hf (k - 1) (by omega)
      clear hf
      have h2 : ((k : Int) - 1).toNat = k - 1 := by omega
      go_wp2
      go_round
      case rel => exact ⟨k - 1, by omega, by go_num⟩
      case measure => simp [intOf]; omega
    · obtain rfl : k = 0 := by omega
      go_wp2
      go_ret
      exact ⟨rfl, rfl⟩

set_option maxHeartbeats 800000 in
set_option maxRecDepth 100000 in
theorem stem_cut (s : ByteArray) (hs : s.size ≤ 4194304) (w : World) (n : Nat) (hn : n < s.size) (h0 : 0 < n) (h : s[n].toNat = 46) (hf : ∀ (j : Nat) (hj : j < s.size), n < j → s[j].toNat ≠ 46) :
    Calls Try.prog 11 #[.string s] w fun e w' => e = .returned (.string (s.extract 0 n)) ∧ w' = w := by
  have h17 : Calls Try.prog 17 #[.string s] w fun e w' => e = .returned (.string (s.extract 0 n)) ∧ w' = w := by
    have h19 : Calls Try.prog 19 #[.string s, .int .u8 46] w fun e w' => e = .returned (.int .i64 n) ∧ w' = w := by
      go_enter Try.func19, Try.ntmps19
      go_wp2_with (first | (go_at_call 20; refine (last_hit s hs _ n hn h hf).mono ?_; rintro e w1 ⟨rfl, rfl⟩))
      go_ret
      exact ⟨rfl, rfl⟩
    clear hf
    go_enter Try.func17, Try.ntmps17
    go_wp2_with (first | (go_at_call 19; refine h19.mono ?_; rintro e w1 ⟨rfl, hw⟩; obtain rfl := hw.symm))
    go_ret
    exact ⟨rfl, rfl⟩
  clear hf
  go_enter Try.func11, Try.ntmps11
  go_wp2_with (first | (go_at_call 17; refine h17.mono ?_; rintro e w1 ⟨rfl, hw⟩; obtain rfl := hw.symm))
  go_ret
  exact ⟨rfl, rfl⟩

set_option maxHeartbeats 800000 in
set_option maxRecDepth 100000 in
theorem stem_whole (s : ByteArray) (hs : s.size ≤ 4194304) (w : World) (hf : ∀ (j : Nat) (hj : j < s.size), 0 < j → s[j].toNat ≠ 46) :
    Calls Try.prog 11 #[.string s] w fun e w' => e = .returned (.string s) ∧ w' = w := by
  have h17 : Calls Try.prog 17 #[.string s] w fun e w' => e = .returned (.string s) ∧ w' = w := by
    have h19 : ∃ i : Int, i ≤ 0 ∧ Calls Try.prog 19 #[.string s, .int .u8 46] w fun e w' => e = .returned (.int .i64 i) ∧ w' = w := by
      by_cases hx : ∃ h : 0 < s.size, s[0].toNat = 46
      · obtain ⟨h0, h1⟩ := hx
        refine ⟨0, by omega, ?_⟩
        go_enter Try.func19, Try.ntmps19
        go_wp2_with (first | (go_at_call 20; refine (last_hit s hs _ 0 h0 h1 hf).mono ?_; rintro e w1 ⟨rfl, rfl⟩))
        go_ret
        exact ⟨rfl, rfl⟩
      · refine ⟨-1, by omega, ?_⟩
        have hm : ∀ (j : Nat) (hj : j < s.size), s[j].toNat ≠ 46 := by
          intro j hj e
          cases j with
          | zero => exact hx ⟨hj, e⟩
          | succ j => exact hf (j + 1) hj (by omega) e
        clear hx hf
        go_enter Try.func19, Try.ntmps19
        go_wp2_with (first | (go_at_call 20; refine (last_miss s hs _ hm).mono ?_; rintro e w1 ⟨rfl, rfl⟩))
        go_ret
        exact ⟨rfl, rfl⟩
    obtain ⟨i, hi, h19⟩ := h19
    clear hf
    go_enter Try.func17, Try.ntmps17
    go_wp2_with (first | (go_at_call 19; refine h19.mono ?_; rintro e w1 ⟨rfl, hw⟩; obtain rfl := hw.symm))
    go_ret
    exact ⟨rfl, rfl⟩
  clear hf
  go_enter Try.func11, Try.ntmps11
  go_wp2_with (first | (go_at_call 17; refine h17.mono ?_; rintro e w1 ⟨rfl, hw⟩; obtain rfl := hw.symm))
  go_ret
  exact ⟨rfl, rfl⟩

set_option maxHeartbeats 800000 in
set_option maxRecDepth 100000 in
theorem prefix13 (p s : ByteArray) (hs : s.size ≤ 4194304) (hp : p.size ≤ s.size) (w : World) (h : ∀ (j : Nat) (hj : j < p.size) (hj2 : j < s.size), p[j].toNat = s[j].toNat) :
    Calls Try.prog 13 #[.string p, .string s] w fun e w' => e = .returned (.bool true) ∧ Below w.heap.size w w' := by
  go_enter Try.func13, Try.ntmps13
  go_wp2
  go_loopw [5] (fun i wr => ∃ k : Nat, k ≤ p.size ∧ i = .int .i64 k ∧ Below w.heap.size w wr) (fun i _ => p.size - (intOf i).toNat)
  case atStart => exact ⟨0, Nat.zero_le _, rfl, Below.refl _ _⟩
  case round =>
    obtain ⟨k, hk, rfl, hb⟩ := hrel
    by_cases hlt : k < p.size
    · have hk2 : k < s.size := by omega
      have h1 := h k hlt hk2
      clear h
      go_wp2
      go_quiet (fail)
      go_wp2
      go_round
      case rel => exact ⟨k + 1, by omega, by go_num, hb.trans ⟨rfl, rfl, rfl, Nat.le_refl _, fun _ _ => rfl⟩⟩
      case measure => simp [intOf]; omega
    · go_wp2
      go_ret
      exact ⟨rfl, hb⟩

set_option maxHeartbeats 800000 in
set_option maxRecDepth 100000 in
theorem bytes12 (s : ByteArray) (hs : s.size ≤ maxLen) (w : World) :
    Calls Try.prog 12 #[.string s] w fun e w' => e = .returned (.bool (decide (s.size ≤ 1048576))) ∧ w' = w := by
  by_cases hb : s.size ≤ 1048576
  · go_enter Try.func12, Try.ntmps12
    go_wp2
    go_ret
    exact ⟨by simp [hb], rfl⟩
  · have : s.size ≤ 9223372036854775807 := Nat.le_trans hs (by decide)
    go_enter Try.func12, Try.ntmps12
    go_wp2
    go_ret
    exact ⟨by rw [decide_eq_false hb]; rfl, rfl⟩

end Go.Proofs.Qxb6003703a
