/-
  zzLessWave (46) at a smaller wave; zzKeyOf (47).
-/
import Derived.Test.Qxb6003667aMt2
namespace Go.Proofs.Qxb6003667a
open Go.RowKit Go.WideMaps Go.Maps
set_option linter.unusedSimpArgs false
set_option linter.unusedVariables false
attribute [local go_sem ↓] Go.wp_at_zero Go.wp_at_succ

theorem nm_lt {a b : Nat} (hab : a < b) (hb : b < 4) : (Op.bytesLess (nm 115 a).toList (nm 115 b).toList = true ∧ ((nm 115 a).toList == (nm 115 b).toList) = false) ∧ (Op.bytesLess (nm 116 a).toList (nm 116 b).toList = true ∧ ((nm 116 a).toList == (nm 116 b).toList) = false) := by
  have h : ∀ j : Fin 4, ∀ i : Fin 4, i.val < j.val → (Op.bytesLess (nm 115 i.val).toList (nm 115 j.val).toList = true ∧ ((nm 115 i.val).toList == (nm 115 j.val).toList) = false) ∧ (Op.bytesLess (nm 116 i.val).toList (nm 116 j.val).toList = true ∧ ((nm 116 i.val).toList == (nm 116 j.val).toList) = false) := by decide +kernel
  exact h ⟨b, hb⟩ ⟨a, by omega⟩ hab

set_option maxHeartbeats 1000000 in
set_option maxRecDepth 100000 in
theorem less46 {x y : Nat} {s t s' t' : ByteArray} {q q' : Int} (hx : IsWave x s t q) (hy : IsWave y s' t' q') (h : ltw x y) (w : World) :
    Calls Try.prog 46 #[.agg #[.string s, .string t, .int .u64 q, .int .u64 1, .int .i64 0, .bool false], .agg #[.string s', .string t', .int .u64 q', .int .u64 1, .int .i64 0, .bool false]] w fun e w' =>
      e = .returned (.bool true) ∧ Below w.heap.size w w' := by
  obtain ⟨hs, ht, hq⟩ := hx
  obtain ⟨hs', ht', hq'⟩ := hy
  rcases h with h | ⟨h1, h | ⟨h2, h3⟩⟩
  · have f := (nm_lt h (by omega)).1
    rw [← hs, ← hs'] at f
    obtain ⟨f1, f2⟩ := f
    clear hs hs' ht ht' hq hq' h
    go_enter Try.func46, Try.ntmps46
    go_wp2
    go_ret
    exact ⟨rfl, by go_grown⟩
  · have f := (nm_lt h (by omega)).2
    rw [← ht, ← ht'] at f
    obtain ⟨f1, f2⟩ := f
    obtain rfl : s = s' := by rw [hs, hs', h1]
    clear hs hs' ht ht' hq hq' h h1
    go_enter Try.func46, Try.ntmps46
    go_wp2
    go_ret
    exact ⟨rfl, by go_grown⟩
  · obtain rfl : s = s' := by rw [hs, hs', h1]
    obtain rfl : t = t' := by rw [ht, ht', h2]
    have hqq : q < q' := by rw [hq, hq']; omega
    have hne : (q == q') = false := by rw [beq_eq_false_iff_ne]; omega
    clear hs hs' ht ht' hq hq' h1 h2 h3
    go_enter Try.func46, Try.ntmps46
    go_wp2
    go_ret
    exact ⟨by simp [hqq], by go_grown⟩

set_option maxHeartbeats 2000000 in
set_option maxRecDepth 100000 in
theorem key47 {y : Nat} {s' t' : ByteArray} {q' : Int} (hy : IsWave y s' t' q') (hy32 : y < 32) (w : World) :
    Calls Try.prog 47 #[.agg #[.string s', .string t', .int .u64 q', .int .u64 1, .int .i64 0, .bool false]] w fun e w' =>
      e = .returned (.int .i64 y) ∧ Below w.heap.size w w' := by
  have Hy := toHid hy
  clear hy
  go_enter Try.func47, Try.ntmps47
  go_wp2
  go_loopw [3] (fun i wr => ∃ k : Nat, k ≤ y ∧ i = .int .i64 k ∧ Below w.heap.size w wr ∧ wr.heap[w.heap.size]? = some (.cells #[.string s', .string t', .int .u64 q', .int .u64 1, .int .i64 0, .bool false] 35 (0, 0))) (fun i _ => y - (intOf i).toNat)
  case atStart => exact ⟨0, Nat.zero_le _, rfl, by go_grown, heap_at rfl⟩
  case round =>
    obtain ⟨k, hk, rfl, hbw, hbox⟩ := hrel
    have H13 := toHid (fun w => wave13 k (by omega) w)
    have cb : ∀ j, wr.cell? ⟨w.heap.size, j, none⟩ = (#[Value.string s', .string t', .int .u64 q', .int .u64 1, .int .i64 0, .bool false] : Array Value)[j]? := fun j => cell_of_row wr w.heap.size j _ 35 (0, 0) hbox
    have Hb := toHid hbw
    have Hx := toHid hbox
    have hk32 : (k : Int) < 32 := by omega
    clear hbw hbox
    go_wp2_with fail
    go_region_held3 (fun w' => w'.cell? ⟨w.heap.size, 0, none⟩ = some (.string s') ∧ w'.cell? ⟨w.heap.size, 1, none⟩ = some (.string t') ∧ w'.cell? ⟨w.heap.size, 2, none⟩ = some (.int .u64 q') ∧ w'.cell? ⟨w.heap.size, 3, none⟩ = some (.int .u64 1) ∧ w'.cell? ⟨w.heap.size, 4, none⟩ = some (.int .i64 0) ∧ w'.cell? ⟨w.heap.size, 5, none⟩ = some (.bool false))
      (first | (go_keep; done) | ((try dsimp only); (repeat' apply And.intro) <;> first | (go_keep; done) | (exact cell_later hb1 (by go_keep; done)) | (simp [cb]; done)))
      (first | (go_at_call 13; refine (H13.out _).mono ?_; rintro e w1 ⟨s1, t1, q1, rfl, hw1, hb1⟩; have hq := eq35 hw1 Hy.out; have Hb1 := toHid hb1))
    all_goals
      have hxl : w.heap.size < wr.heap.size := (Array.getElem?_eq_some_iff.1 Hx.out).1
      have hbw1 : Below w.heap.size w w1 := Hb.out.drew.trans (Hb1.out.mono (by simp only [World.size_drew]; omega))
      have hbox1 : w1.heap[w.heap.size]? = some (.cells #[.string s', .string t', .int .u64 q', .int .u64 1, .int .i64 0, .bool false] 35 (0, 0)) := heap_below Hb1.out (by simp only [World.size_drew]; omega) (heap_drewn Hx.out)
      have HB := toHid (And.intro hbw1 hbox1)
      clear hbw1 hbox1 hb1 hq cb
      by_cases hky : k = y
      · obtain rfl := hky
        go_wp2
        go_ret
        exact ⟨rfl, HB.out.1⟩
      · have hd : decide (k = y) = false := decide_eq_false hky
        go_wp2
        go_roundw
        case rel => exact ⟨k + 1, by omega, by go_num, HB.out.1, HB.out.2⟩
        case measure => simp [intOf]; omega

end Go.Proofs.Qxb6003667a
