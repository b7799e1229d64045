/-
  The blanks: isBlank (16), skipBlanks (18), ZZSkipBlanks (15), the bound (14), and the law (6), walked.
-/
import Derived.Test.Qxb6003703aRows
import Derived.WalkKit
import Derived.ProofKit
import Derived.RegionTactic
import Derived.Handy
import Derived.BigQuiet
import Derived.WalkSpells
import Derived.Deep.DrawnRows
namespace Go.Proofs.Qxb6003703a
open Go.RowKit
set_option linter.unusedSimpArgs false
set_option linter.unusedVariables false

def Blank (b : UInt8) : Prop := b.toNat = 32 ∨ b.toNat = 9

set_option maxHeartbeats 800000 in
set_option maxRecDepth 100000 in
theorem blank16_yes (n : Nat) (h : n = 32 ∨ n = 9) (w : World) : Calls Try.prog 16 #[.int .u8 (n : Int)] w fun e w' => e = .returned (.bool true) ∧ w' = w := by
  rcases h with rfl | rfl
  · go_enter Try.func16, Try.ntmps16
    go_wp2
    go_ret
    exact ⟨rfl, rfl⟩
  · go_enter Try.func16, Try.ntmps16
    go_wp2
    go_ret
    exact ⟨rfl, rfl⟩

set_option maxHeartbeats 800000 in
set_option maxRecDepth 100000 in
theorem blank16_no (n : Nat) (h1 : n ≠ 32) (h2 : n ≠ 9) (w : World) : Calls Try.prog 16 #[.int .u8 (n : Int)] w fun e w' => e = .returned (.bool false) ∧ w' = w := by
  have e1 : ((n : Int) == 32) = false := by rw [beq_eq_false_iff_ne]; omega
  have e2 : ((n : Int) == 9) = false := by rw [beq_eq_false_iff_ne]; omega
  go_enter Try.func16, Try.ntmps16
  go_wp2
  go_ret
  exact ⟨rfl, rfl⟩

theorem empty_of {s : ByteArray} (h : s.size = 0) : s = ⟨#[]⟩ := by
  cases s with
  | mk d =>
    have : d = #[] := Array.eq_empty_of_size_eq_zero h
    rw [this]
theorem len_of (s : ByteArray) : s.data.toList.length = s.size := Array.length_toList
theorem ne_empty {s : ByteArray} (h : 0 < s.size) : (s.toList == []) = false := by
  rw [beq_eq_false_iff_ne, ByteArray.toList_eq]
  intro e
  have h1 : s.data.toList.length = 0 := by rw [e]; rfl
  have h2 := len_of s
  omega

theorem extract_at (s : ByteArray) (a b j : Nat) (hb : b ≤ s.size) (hj : j < (s.extract a b).size) (hj2 : a + j < s.size) : (s.extract a b)[j] = s[a + j] := by
  simp [ByteArray.getElem_extract]

/-- k is the number of leading blanks of s. -/
structure Lead (s : ByteArray) (k : Nat) : Prop where
  le : k ≤ s.size
  yes : ∀ (j : Nat) (hj : j < s.size), j < k → s[j].toNat = 32 ∨ s[j].toNat = 9
  no : ∀ (hk : k < s.size), s[k].toNat ≠ 32 ∧ s[k].toNat ≠ 9

theorem lead_ex (s : ByteArray) : ∃ k, Lead s k := by
  have key : ∀ m : Nat, m ≤ s.size → (∃ k, Lead s k) ∨ ∀ (j : Nat) (hj : j < s.size), j < m → s[j].toNat = 32 ∨ s[j].toNat = 9 := by
    intro m
    induction m with
    | zero => intro _; exact .inr fun j hj h => by omega
    | succ m ih =>
      intro hm
      rcases ih (by omega) with h | h
      · exact .inl h
      · by_cases h0 : s[m].toNat = 32 ∨ s[m].toNat = 9
        · refine .inr fun j hj hle => ?_
          by_cases hx : j = m
          · subst hx; exact h0
          · exact h j hj (by omega)
        · exact .inl ⟨m, by omega, h, fun _ => ⟨fun e => h0 (.inl e), fun e => h0 (.inr e)⟩⟩
  rcases key s.size (Nat.le_refl _) with h | h
  · exact h
  · exact ⟨s.size, Nat.le_refl _, h, fun hk => by omega⟩

theorem tail_size (s : ByteArray) (k : Nat) (hk : k ≤ s.size) : (s.extract k s.size).size = s.size - k := by simp

theorem whole (s : ByteArray) : s.extract 0 s.size = s := by
  apply ByteArray.ext
  rw [ByteArray.data_extract]
  exact Array.extract_size

theorem toHid {p : Prop} (h : p) : Hid p := h

theorem tail_next (s : ByteArray) (k : Nat) (hk : k < s.size) : (s.extract k s.size).extract 1 (s.extract k s.size).size = s.extract (k + 1) s.size := by
  apply ByteArray.ext
  simp [ByteArray.data_extract]
  congr 1
  omega

theorem heap_new (w : World) (o : Obj) : (w.alloc o).heap[w.heap.size]? = some o := heap_alloc_new w o

/-- The length of the string that the block's first cell holds. -/
def left (w : World) (b : Nat) : Nat := match w.cell? ⟨b, 0, none⟩ with
  | some (.string r) => r.size
  | _ => 0
theorem left_of {w : World} {b : Nat} {r : ByteArray} (h : w.cell? ⟨b, 0, none⟩ = some (.string r)) : left w b = r.size := by rw [left, h]

set_option maxHeartbeats 1600000 in
set_option maxRecDepth 100000 in
theorem skip18 (s : ByteArray) (hs : s.size ≤ 4194304) (n b : Nat) (hl : Lead s n) (w : World) (hc : w.cell? ⟨b, 0, none⟩ = some (.string s)) (hz : w.frozen? ⟨b, 0, none⟩ = false) :
    Calls Try.prog 18 #[.pointer (some ⟨b, 0, none⟩)] w fun e w' => e = .returned (.tuple #[]) ∧ w'.cell? ⟨b, 0, none⟩ = some (.string (s.extract n s.size)) ∧ Below b w w' := by
  go_enter Try.func18, Try.ntmps18
  go_wp2
  go_loopw [] (fun wr => ∃ k : Nat, k ≤ n ∧ wr.cell? ⟨b, 0, none⟩ = some (.string (s.extract k s.size)) ∧ wr.frozen? ⟨b, 0, none⟩ = false ∧ Below b w wr) (fun wr => left wr b)
  case atStart => exact ⟨0, Nat.zero_le _, by rw [hc, whole], hz, Below.refl _ _⟩
  case round =>
    obtain ⟨k, hk, hcr, hzr, hbr⟩ := hrel
    have hle := hl.le
    obtain ⟨r, hr⟩ : ∃ r, r = s.extract k s.size := ⟨_, rfl⟩
    have hrs : s.size - k = r.size := by rw [hr]; exact (tail_size s k (by omega)).symm
    rw [← hr] at hcr
    have hlt0 := World.block_lt_of_cell? _ _ hcr
    by_cases hlt : k < n
    · have hpos : 0 < r.size := by omega
      have hne := ne_empty hpos
      have h0 : r[0] = s[k] := by subst hr; rw [extract_at s k s.size 0 (Nat.le_refl _) hpos (by omega)]; rfl
      have hyes : r[0].toNat = 32 ∨ r[0].toNat = 9 := by rw [h0]; exact hl.yes k (by omega) hlt
      have hnx : r.extract 1 r.size = s.extract (k + 1) s.size := by subst hr; exact tail_next s k (by omega)
      have Hnx := toHid hnx
      have h1r : 1 ≤ r.size := hpos
      clear hnx hr hl h0
      rcases hyes with hy | hy
      all_goals
        go_wp2
        go_round
        case rel =>
          refine ⟨k + 1, by omega, ?_, ?_, hbr.setCell (Nat.le_refl _) _⟩
          · rw [← Hnx.out]; exact World.cell?_setCell_same _ _ _ hcr
          · simpa using hzr
        case measure =>
          rw [left_of hcr, left_of (r := r.extract 1 r.size) (World.cell?_setCell_same _ _ _ hcr)]
          simp; omega
    · obtain rfl : k = n := by omega
      have Hr := toHid hr
      by_cases hz0 : k < s.size
      · have hpos : 0 < r.size := by omega
        have hne := ne_empty hpos
        have h0 : r[0] = s[k] := by subst hr; rw [extract_at s k s.size 0 (Nat.le_refl _) hpos (by omega)]; rfl
        have hno := hl.no hz0
        rw [← h0] at hno
        have e1 : ((r[0].toNat : Int) == 32) = false := by rw [beq_eq_false_iff_ne]; have := hno.1; omega
        have e2 : ((r[0].toNat : Int) == 9) = false := by rw [beq_eq_false_iff_ne]; have := hno.2; omega
        clear hr hl h0 hno
        go_wp2
        go_returns
        exact ⟨rfl, by rw [hcr, Hr.out], hbr⟩
      · have hem : r = ⟨#[]⟩ := empty_of (by omega)
        clear hr hl
        subst hem
        go_wp2
        go_returns
        exact ⟨rfl, by rw [hcr, ← Hr.out], hbr⟩

set_option maxHeartbeats 1600000 in
set_option maxRecDepth 100000 in
theorem skip15 (s : ByteArray) (hs : s.size ≤ 4194304) (n : Nat) (hl : Lead s n) (w : World) :
    Calls Try.prog 15 #[.string s] w fun e w' => e = .returned (.string (s.extract n s.size)) ∧ Below w.heap.size w w' := by
  have H18 := fun w' => skip18 s hs n w.heap.size hl w'
  go_enter Try.func15, Try.ntmps15
  go_wp2_with (first | (go_at_call 18; refine (H18 _ ?_ ?_).mono ?_; rotate_left 2; rintro e w1 ⟨rfl, hc1, hb1⟩))
  · go_ret
    exact ⟨rfl, ((Below.refl _ _).alloc (Nat.le_refl _) _).trans hb1⟩
  · exact cell_of_row (w.alloc (.cells #[.string s] 35)) w.heap.size 0 _ 35 (0, 0) (heap_new w _)
  · exact frozen_of_row (w.alloc (.cells #[.string s] 35)) w.heap.size 0 _ 35 (heap_new w _)

set_option maxHeartbeats 800000 in
set_option maxRecDepth 100000 in
theorem bytes14 (s : ByteArray) (hs : s.size ≤ maxLen) (w : World) :
    Calls Try.prog 14 #[.string s] w fun e w' => e = .returned (.bool (decide (s.size ≤ 1048576))) ∧ w' = w := by
  by_cases hb : s.size ≤ 1048576
  · go_enter Try.func14, Try.ntmps14
    go_wp2
    go_ret
    exact ⟨by simp [hb], rfl⟩
  · have : s.size ≤ 9223372036854775807 := Nat.le_trans hs (by decide)
    go_enter Try.func14, Try.ntmps14
    go_wp2
    go_ret
    exact ⟨by rw [decide_eq_false hb]; rfl, rfl⟩

theorem lead_zero (s : ByteArray) (n : Nat) (hl : Lead s n) : Lead (s.extract n s.size) 0 := by
  refine ⟨Nat.zero_le _, fun j hj h => by omega, fun hk => ?_⟩
  have hk' : n < s.size := by have := tail_size s n hl.le; omega
  rw [extract_at s n s.size 0 (Nat.le_refl _) hk (by omega)]
  exact hl.no hk'

set_option maxHeartbeats 1600000 in
set_option maxRecDepth 100000 in
theorem skip6 (s : ByteArray) (hs : s.size ≤ maxLen) (w : World) :
    Calls Try.prog 6 #[.string s] w fun e w' => e = .returned (.bool true) ∧ Below w.heap.size w w' := by
  have H14 := bytes14 s hs w
  by_cases hb : s.size ≤ 1048576
  · rw [decide_eq_true hb] at H14
    clear hs
    obtain ⟨n, hl⟩ := lead_ex s
    have H15 := skip15 s (by omega) n hl w
    have hle := hl.le
    have hl0 := lead_zero s n hl
    obtain ⟨r, hr⟩ : ∃ r, r = s.extract n s.size := ⟨_, rfl⟩
    have hrs : s.size - n = r.size := by rw [hr]; exact (tail_size s n hle).symm
    rw [← hr] at H15 hl0
    have H15' := fun w => skip15 r (by omega) 0 hl0 w
    rw [whole] at H15'
    have hk : (s.size : Int) - (r.size : Int) = (n : Int) := by omega
    have hsl : s.extract n s.size = r := hr.symm
    have hrle : r.size ≤ s.size := by omega
    have hsub : s.size - r.size = n := by omega
    have hd : decide (s.size < r.size) = false := by rw [decide_eq_false_iff_not]; omega
    have hfirst : (hp : 0 < r.size) → r[0].toNat ≠ 32 ∧ r[0].toNat ≠ 9 := fun hp => hl0.no hp
    have hyes := hl.yes
    clear hr hl hl0
    go_enter Try.func6, Try.ntmps6
    go_wp2_with (first
      | (go_at_call 14; refine H14.mono ?_; rintro e w1 ⟨rfl, hw⟩; obtain rfl := hw.symm)
      | (go_at_call 15; refine H15.mono ?_; rintro e w1 ⟨rfl, hb1⟩))
    go_loop [5] (fun i => ∃ k : Nat, k ≤ n ∧ i = .int .i64 k) (fun i => n - (intOf i).toNat)
    case atStart => exact ⟨0, Nat.zero_le _, rfl⟩
    case round =>
      obtain ⟨k, hkn, rfl⟩ := hrel
      by_cases hlt : k < n
      · have hks : k < s.size := by omega
        have H16 := fun w => blank16_yes s[k].toNat (hyes k hks hlt) w
        clear hyes hfirst
        go_wp2_with (first | (go_at_call 16; refine (H16 _).mono ?_; rintro e w2 ⟨rfl, hw⟩; obtain rfl := hw.symm))
        go_round
        case rel => exact ⟨k + 1, by omega, by go_num⟩
        case measure => simp [intOf]; omega
      · obtain rfl : k = n := by omega
        clear hyes
        by_cases hp : 0 < r.size
        · have hne := ne_empty hp
          have H16 := fun w => blank16_no r[0].toNat (hfirst hp).1 (hfirst hp).2 w
          clear hfirst
          go_wp2_with (first
            | (go_at_call 16; refine (H16 _).mono ?_; rintro e w2 ⟨rfl, hw⟩; obtain rfl := hw.symm)
            | (go_at_call 15; refine (H15' _).mono ?_; rintro e w2 ⟨rfl, hb2⟩))
          go_ret
          exact ⟨rfl, hb1.trans (hb2.mono hb1.size)⟩
        · have hem : r = ⟨#[]⟩ := empty_of (by omega)
          have hr0 : r.size = 0 := by omega
          subst hem
          clear hfirst hrs hsub hk hsl hrle hp hd
          go_wp2_with (first
            | (go_at_call 15; refine (H15' _).mono ?_; rintro e w2 ⟨rfl, hb2⟩))
          go_ret
          exact ⟨rfl, hb1.trans (hb2.mono hb1.size)⟩
  · rw [decide_eq_false hb] at H14
    clear hs
    go_enter Try.func6, Try.ntmps6
    go_wp2_with (first | (go_at_call 14; refine H14.mono ?_; rintro e w1 ⟨rfl, hw⟩; obtain rfl := hw.symm))
    go_ret
    exact ⟨rfl, Below.refl _ _⟩

end Go.Proofs.Qxb6003703a
