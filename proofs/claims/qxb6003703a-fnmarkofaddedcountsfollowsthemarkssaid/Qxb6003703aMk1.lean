/-
  (Section).Mark (7), zzCombineMarks (8), and the plain law of added counts.
-/
import Derived.Test.Qxb6003703aRows
import Derived.WalkKit
import Derived.ProofKit
import Derived.RegionTactic
import Derived.Deep.RegionWith
import Derived.Deep.RegionHeld3
import Derived.Handy
import Derived.BigQuiet
import Derived.WalkSpells
import Derived.Deep.DrawnRows
namespace Go.Proofs.Qxb6003703a
open Go.RowKit
set_option linter.unusedSimpArgs false
set_option linter.unusedVariables false

def dash : ByteArray := ⟨#[45]⟩
def quest : ByteArray := ⟨#[63]⟩
def plus : ByteArray := ⟨#[43]⟩

def markOf (s c : Int) : ByteArray := if s = 0 then dash else if c < s then quest else plus
def comb (x y : ByteArray) : ByteArray := if x = dash then y else if y = dash then x else if x = quest ∨ y = quest then quest else plus

set_option maxHeartbeats 800000 in
set_option maxRecDepth 100000 in
theorem mark7 (l i s c : Int) (w : World) : Calls Try.prog 7 #[.agg #[.int .i64 l, .int .i64 i, .int .u64 s, .int .u64 c]] w fun e w' => e = .returned (.string (markOf s c)) ∧ Below w.heap.size w w' := by
  by_cases h0 : s = 0
  · go_enter Try.func7, Try.ntmps7
    go_wp2
    go_ret
    refine ⟨by simp [markOf, h0, dash], by go_grown⟩
  · by_cases h1 : c < s
    · go_enter Try.func7, Try.ntmps7
      go_wp2
      go_ret
      refine ⟨by simp [markOf, h0, h1, quest], by go_grown⟩
    · go_enter Try.func7, Try.ntmps7
      go_wp2
      go_ret
      refine ⟨by rw [markOf, if_neg h0, if_neg (by omega)]; rfl, by go_grown⟩

theorem toList_of (x : ByteArray) : x.toList = x.data.toList := ByteArray.toList_eq x
theorem ba_ext {s t : ByteArray} (h : s.data.toList = t.data.toList) : s = t := by
  cases s; cases t; simp at h; simpa using h
theorem one_ne {x : ByteArray} {b : UInt8} (h : x ≠ ⟨#[b]⟩) : (x.toList == [b]) = false := by
  rw [beq_eq_false_iff_ne]
  intro e
  exact h (ba_ext (by rw [← toList_of, e]))
theorem one_eq {x : ByteArray} {b : UInt8} (h : x = ⟨#[b]⟩) : (x.toList == [b]) = true := by
  subst h; rw [toList_of]; simp

set_option maxHeartbeats 800000 in
set_option maxRecDepth 100000 in
theorem comb8 (x y : ByteArray) (w : World) : Calls Try.prog 8 #[.string x, .string y] w fun e w' => e = .returned (.string (comb x y)) ∧ w' = w := by
  by_cases hx : dash = x
  · have := one_eq hx.symm
    go_enter Try.func8, Try.ntmps8
    go_wp2
    go_ret
    exact ⟨by rw [comb, if_pos hx.symm]; rfl, rfl⟩
  · have h1 := one_ne (Ne.symm hx)
    by_cases hy : dash = y
    · have h2 := one_eq hy.symm
      go_enter Try.func8, Try.ntmps8
      go_wp2
      go_ret
      exact ⟨by rw [comb, if_neg (Ne.symm hx), if_pos hy.symm]; rfl, rfl⟩
    · have h2 := one_ne (Ne.symm hy)
      by_cases hq : quest = x
      · have h3 := one_eq hq.symm
        go_enter Try.func8, Try.ntmps8
        go_wp2
        go_ret
        exact ⟨by rw [comb, if_neg (Ne.symm hx), if_neg (Ne.symm hy), if_pos (Or.inl hq.symm)]; rfl, rfl⟩
      · have h3 := one_ne (Ne.symm hq)
        by_cases hq2 : quest = y
        · have h4 := one_eq hq2.symm
          go_enter Try.func8, Try.ntmps8
          go_wp2
          go_ret
          exact ⟨by rw [comb, if_neg (Ne.symm hx), if_neg (Ne.symm hy), if_pos (Or.inr hq2.symm)]; rfl, rfl⟩
        · have h4 := one_ne (Ne.symm hq2)
          go_enter Try.func8, Try.ntmps8
          go_wp2
          go_ret
          exact ⟨by rw [comb, if_neg (Ne.symm hx), if_neg (Ne.symm hy), if_neg (fun h => h.elim (fun h => hq h.symm) (fun h => hq2 h.symm))]; rfl, rfl⟩

theorem cell_last {w : World} {cs : Array Value} {t : TypeId} {k j : Nat} {v : Value} (hk : k = w.heap.size) (h : cs[j]? = some v) : (w.alloc (.cells cs t)).drew.cell? ⟨k, j, none⟩ = some v := by
  subst hk
  exact (cell_of_row (w.alloc (.cells cs t)).drew w.heap.size j cs t (0, 0) (heap_alloc_new w _)).trans h

theorem law (a b c d : Int) (h1 : 0 ≤ b) (h2 : b ≤ a) (h3 : 0 ≤ d) (h4 : d ≤ c) : comb (markOf a b) (markOf c d) = markOf (a + c) (b + d) := by
  have n1 : quest ≠ dash := by decide
  have n2 : plus ≠ dash := by decide
  have n3 : plus ≠ quest := by decide
  by_cases ha : a = 0
  · have hb : b = 0 := by omega
    simp [comb, markOf, ha, hb]
  · by_cases hc : c = 0
    · have hd : d = 0 := by omega
      by_cases hba : b < a <;> simp [comb, markOf, ha, hc, hd, hba, n1, n2]
    · have hs : a + c ≠ 0 := by omega
      by_cases hba : b < a
      · have : b + d < a + c := by omega
        by_cases hdc : d < c <;> simp [comb, markOf, ha, hc, hs, hba, hdc, n1, n2, n3, this]
      · by_cases hdc : d < c
        · have : b + d < a + c := by omega
          simp [comb, markOf, ha, hc, hs, hba, hdc, n1, n2, n3, this]
        · have : ¬ b + d < a + c := by omega
          simp only [comb, markOf, ha, hc, hs, hba, hdc, n1, n2, n3, this, if_false, or_self]

set_option maxHeartbeats 1600000 in
set_option maxRecDepth 100000 in
theorem added3 (a0 : Int) (a1 : Int) (a2 : Int) (a3 : Int) (w0 : (Lit.int .u64 a0).wf = true) (w1 : (Lit.int .u64 a1).wf = true) (w2 : (Lit.int .u64 a2).wf = true) (w3 : (Lit.int .u64 a3).wf = true) (w : World) :
    Calls Try.prog 3 #[.int .u64 a0, .int .u64 a1, .int .u64 a2, .int .u64 a3] w fun e w' => e = .returned (.bool true) ∧ Below w.heap.size w w' := by
  have b0 : 0 ≤ a0 ∧ a0 ≤ 18446744073709551615 := by simpa [Lit.wf, IntKind.min, IntKind.max, IntKind.signed, IntKind.bits] using w0
  have b1 : 0 ≤ a1 ∧ a1 ≤ 18446744073709551615 := by simpa [Lit.wf, IntKind.min, IntKind.max, IntKind.signed, IntKind.bits] using w1
  have b2 : 0 ≤ a2 ∧ a2 ≤ 18446744073709551615 := by simpa [Lit.wf, IntKind.min, IntKind.max, IntKind.signed, IntKind.bits] using w2
  have b3 : 0 ≤ a3 ∧ a3 ≤ 18446744073709551615 := by simpa [Lit.wf, IntKind.min, IntKind.max, IntKind.signed, IntKind.bits] using w3
  have hu := IntKind.wrap_u64 (a0 + a2)
  clear w0 w1 w2 w3
  by_cases h1 : a0 < a1
  · go_enter Try.func3, Try.ntmps3
    go_wp2
    go_ret
    exact ⟨rfl, Below.refl _ _⟩
  · by_cases h2 : a2 < a3
    · go_enter Try.func3, Try.ntmps3
      go_wp2
      go_ret
      exact ⟨rfl, Below.refl _ _⟩
    · by_cases h3 : IntKind.u64.wrap (a0 + a2) < a0
      · go_enter Try.func3, Try.ntmps3
        go_wp2
        go_ret
        exact ⟨rfl, Below.refl _ _⟩
      · have e1 : IntKind.u64.wrap (a0 + a2) = a0 + a2 := by rw [hu] at h3 ⊢; omega
        have e2 : IntKind.u64.wrap (a1 + a3) = a1 + a3 := by rw [IntKind.wrap_u64]; rw [hu] at h3; omega
        clear hu h3
        go_enter Try.func3, Try.ntmps3
        go_wp2
        go_region_held3 (fun w' => w.heap.size + 2 < w'.heap.size ∧ (w'.cell? ⟨w.heap.size, 0, none⟩ = some (.int .i64 1) ∧ w'.cell? ⟨w.heap.size, 1, none⟩ = some (.int .i64 1) ∧ w'.cell? ⟨w.heap.size, 2, none⟩ = some (.int .u64 a0) ∧ w'.cell? ⟨w.heap.size, 3, none⟩ = some (.int .u64 a1)) ∧ (w'.cell? ⟨w.heap.size + 1, 0, none⟩ = some (.int .i64 1) ∧ w'.cell? ⟨w.heap.size + 1, 1, none⟩ = some (.int .i64 1) ∧ w'.cell? ⟨w.heap.size + 1, 2, none⟩ = some (.int .u64 a2) ∧ w'.cell? ⟨w.heap.size + 1, 3, none⟩ = some (.int .u64 a3)) ∧ (w'.cell? ⟨w.heap.size + 1 + 1, 0, none⟩ = some (.int .i64 1) ∧ w'.cell? ⟨w.heap.size + 1 + 1, 1, none⟩ = some (.int .i64 1) ∧ w'.cell? ⟨w.heap.size + 1 + 1, 2, none⟩ = some (.int .u64 (a0 + a2)) ∧ w'.cell? ⟨w.heap.size + 1 + 1, 3, none⟩ = some (.int .u64 (a1 + a3))))
          (first | (go_keep; done) | ((try dsimp only); (repeat' apply And.intro) <;> first | (go_keep; done) | go_size | (have hbs := hb1.size; first | go_size | (simp at hbs ⊢; omega)) | (exact cell_later hb1 (by go_keep; done)) | (exact cell_last (by simp) rfl)))
          (first | (go_at_call 7; refine (mark7 _ _ _ _ _).mono ?_; rintro e w1 ⟨rfl, hb1⟩) | (go_at_call 8; refine (comb8 _ _ _).mono ?_; rintro e w1 ⟨rfl, rfl⟩))
        all_goals
          rename_i u1 hu1 u2 hu2 hh
          clear hh
          have hs1 := hu1.size
          have hs2 := hu2.size
          simp only [World.size_alloc, World.size_drew] at hs1
          have hall : Below w.heap.size w w1 := Below.trans (Below.trans (Below.trans (by go_grown) (hu1.mono (by simp only [World.size_alloc, World.size_drew]; omega))) (hu2.mono (by omega))) (hb1.mono (by omega))
          clear hs1 hs2 hu1 hu2 hb1
          go_wp2
          go_ret
          refine ⟨?_, hall⟩
          rw [law a0 a1 a2 a3 b1.1 h1 b3.1 h2]
          simp

end Go.Proofs.Qxb6003703a
