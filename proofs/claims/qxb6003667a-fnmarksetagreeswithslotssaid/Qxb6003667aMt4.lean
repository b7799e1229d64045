/-
  zzMarkSetMatches (11).
-/
import Derived.Test.Qxb6003667aMt3
namespace Go.Proofs.Qxb6003667a
open Go.RowKit Go.WideMaps Go.Maps
set_option linter.unusedSimpArgs false
set_option linter.unusedVariables false
attribute [local go_sem ↓] Go.wp_at_zero Go.wp_at_succ

/-- The slots say of the entries what they are. -/
structure Agree (es : List (Nat × Int)) (P : List Bool) (M : List Int) : Prop where
  pl : P.length = 32
  ml : M.length = 32
  yes : ∀ k, k < 32 → (P[k]? = some true ↔ k ∈ es.map (·.1))
  made : ∀ k m, (k, m) ∈ es → M[k]? = some m

def pcells (P : List Bool) : Array Value := (P.map Value.bool).toArray
def ucells (M : List Int) : Array Value := (M.map (Value.int .u64)).toArray

theorem heap_alloc2 (w : World) (a b : Obj) : ((w.alloc a).alloc b).heap[w.heap.size]? = some a ∧ ((w.alloc a).alloc b).heap[w.heap.size + 1]? = some b :=
  ⟨heap_old (heap_at rfl), heap_at (by simp)⟩

/-- What holds in the matching loop's worlds. -/
structure Mat (w wr : World) (A C : Array Value) : Prop where
  below : Below w.heap.size w wr
  pb : wr.heap[w.heap.size]? = some (.cells A 27 (0, 0))
  mb : wr.heap[w.heap.size + 1]? = some (.cells C 29 (0, 0))

theorem Mat.later {w wr w' : World} {A C : Array Value} (h : Mat w wr A C) (hb : Below wr.heap.size wr w') : Mat w w' A C :=
  ⟨h.below.trans (hb.mono h.below.size), heap_below hb (Array.getElem?_eq_some_iff.1 h.pb).1 h.pb, heap_below hb (Array.getElem?_eq_some_iff.1 h.mb).1 h.mb⟩

set_option maxHeartbeats 4000000 in
set_option maxRecDepth 100000 in
theorem matches11 {B : Nat} {w : World} {sb : Nat} {ev : Value} {ix : Option Nat} {es : List (Nat × Int)} (h : MSet B w sb ev ix es) {P : List Bool} {M : List Int} (hag : Agree es P M) :
    Calls Try.prog 11 #[.pointer (some ⟨sb, 0, none⟩), .agg (pcells P), .agg (ucells M), .int .i64 es.length] w fun e w' => e = .returned (.bool true) ∧ Below w.heap.size w w' := by
  have hl := h.len
  obtain ⟨A, hA⟩ : ∃ A, A = pcells P := ⟨_, rfl⟩
  obtain ⟨C, hC⟩ : ∃ C, C = ucells M := ⟨_, rfl⟩
  rw [← hA, ← hC]
  have hAk : ∀ k, k < 32 → A[k]? = some (.bool (decide (k ∈ es.map (·.1)))) := by
    intro k hk
    have hp : P[k]? = some (P[k]'(by rw [hag.pl]; exact hk)) := List.getElem?_eq_getElem _
    have hy := hag.yes k hk
    rw [hA, pcells]
    simp only [List.getElem?_toArray, List.getElem?_map, hp, Option.map_some]
    rw [hp] at hy
    congr 2
    by_cases hm : k ∈ es.map (·.1)
    · rw [decide_eq_true hm]
      have := hy.2 hm
      simpa using this
    · rw [decide_eq_false hm]
      cases hb : P[k]'(by rw [hag.pl]; exact hk)
      · rfl
      · exact absurd (hy.1 (by rw [hb])) hm
  have hCk : ∀ k m, (k, m) ∈ es → C[k]? = some (.int .u64 m) := by
    intro k m hkm
    rw [hC, ucells]
    simp only [List.getElem?_toArray, List.getElem?_map, hag.made k m hkm, Option.map_some]
  have H41 := toHid (len41 ((h.alloc (.cells A 27)).alloc (.cells C 29)))
  have H := toHid h
  have HA := toHid hAk
  have HC := toHid hCk
  clear h hag hA hC hAk hCk
  go_enter Try.func11, Try.ntmps11
  go_wp2_with (first | (go_at_call 41; refine H41.out.mono ?_; rintro e w1 ⟨rfl, hw⟩; obtain rfl := hw.symm))
  go_loopw [9] (fun i wr => ∃ k : Nat, k ≤ 32 ∧ i = .int .i64 k ∧ Mat w wr A C) (fun i _ => 32 - (intOf i).toNat)
  case atStart => exact ⟨0, Nat.zero_le _, rfl, by go_grown, (heap_alloc2 w _ _).1, (heap_alloc2 w _ _).2⟩
  case round =>
    obtain ⟨k, hk, rfl, hmat⟩ := hrel
    have HMt := toHid hmat
    by_cases hk32 : k < 32
    · have H13 := toHid (fun w => wave13 k hk32 w)
      clear hmat
      go_wp2_with (first | (go_at_call 13; refine (H13.out _).mono ?_; rintro e w1 ⟨s1, t1, q1, rfl, hw1, hb1⟩; have Hb1 := toHid hb1; have Hw1 := toHid hw1; clear hb1 hw1))
      have hmat2 : Mat w (w1.alloc (.cells #[.string s1, .string t1, .int .u64 q1, .int .u64 1, .int .i64 0, .bool false] 35)) A C := (HMt.out.later Hb1.out).later ((Below.refl _ _).alloc (Nat.le_refl _) _)
      refine (find42 (H.out.below hmat2.below (Nat.le_refl _)) hk32 Hw1.out).mono ?_
      rintro e w2 ⟨rfl, hb2⟩
      have hmat3 : Mat w w2 A C := hmat2.later hb2
      have hbx : w2.heap[w1.heap.size]? = some (.cells #[.string s1, .string t1, .int .u64 q1, .int .u64 1, .int .i64 0, .bool false] 35 (0, 0)) := heap_below hb2 (by simp) (heap_at rfl)
      have cb : ∀ j, w2.cell? ⟨w1.heap.size, j, none⟩ = (#[Value.string s1, .string t1, .int .u64 q1, .int .u64 1, .int .i64 0, .bool false] : Array Value)[j]? := fun j => cell_of_row w2 w1.heap.size j _ 35 (0, 0) hbx
      have cA : w2.cell? ⟨w.heap.size, k, none⟩ = some (.bool (decide (k ∈ es.map (·.1)))) := by rw [cell_of_row w2 w.heap.size k _ 27 (0, 0) hmat3.pb]; exact HA.out k hk32
      have HM3 := toHid hmat3
      clear hmat2 hmat3 hb2 hbx
      by_cases hm : k ∈ es.map (·.1)
      · rw [decide_eq_true hm] at cA
        obtain ⟨m, hkm⟩ := mem_keys.1 hm
        obtain ⟨i, hi⟩ := List.getElem?_of_mem hkm
        have hil : i < es.length := (List.getElem?_eq_some_iff.1 hi).1
        have hf : findKey es k = (i : Int) := findKey_at H.out.nodup hi rfl
        rw [hf]
        have cC : w2.cell? ⟨w.heap.size + 1, k, none⟩ = some (.int .u64 m) := by rw [cell_of_row w2 (w.heap.size + 1) k _ 29 (0, 0) HM3.out.mb]; exact HC.out k m hkm
        have Hi := toHid hi
        clear hf hm hkm hi
        have hd1 : decide ((i : Int) < 0) = false := by rw [decide_eq_false_iff_not]; omega
        have hd2 : decide (es.length ≤ i) = false := by rw [decide_eq_false_iff_not]; omega
        go_wp2_with fail
        have hM2 : MSet B w2.drew sb ev ix es := (H.out.below HM3.out.below (Nat.le_refl _)).kept ((Turned.refl (fun _ => False) _).drew) (fun _ _ => id)
        have HM2 := toHid hM2
        clear hM2
        go_region_held3 (fun w' => w'.cell? ⟨w1.heap.size, 0, none⟩ = some (.string s1) ∧ w'.cell? ⟨w1.heap.size, 1, none⟩ = some (.string t1) ∧ w'.cell? ⟨w1.heap.size, 2, none⟩ = some (.int .u64 q1) ∧ w'.cell? ⟨w1.heap.size, 3, none⟩ = some (.int .u64 1) ∧ w'.cell? ⟨w1.heap.size, 4, none⟩ = some (.int .i64 0) ∧ w'.cell? ⟨w1.heap.size, 5, none⟩ = some (.bool false) ∧ w'.cell? ⟨w.heap.size + 1, k, none⟩ = some (.int .u64 m))
          (first | (go_keep; done) | ((try dsimp only); (repeat' apply And.intro) <;> first | (go_keep; done) | (exact cell_later hb3 (by go_keep; done)) | (simp [cb]; done)))
          (first
            | (go_at_call 43; refine (wave43 HM2.out Hi.out).mono ?_; rintro e w3 ⟨s3, t3, q3, rfl, hw3, hb3⟩; have hq : ∀ w, (Op.equalIn 10000 35 (.agg #[.string s3, .string t3, .int .u64 q3, .int .u64 1, .int .i64 0, .bool false]) (.agg #[.string s1, .string t1, .int .u64 q1, .int .u64 1, .int .i64 0, .bool false])).run Try.prog w = .ok true w := (fun w => by have := eq35 hw3 Hw1.out w; simpa using this); have Hb3 := toHid hb3; have H44 := toHid (made44 (HM2.out.below hb3 (Nat.le_refl _)) Hi.out))
            | (go_at_call 44; refine H44.out.mono ?_; rintro e w4 ⟨rfl, hw⟩; obtain rfl := hw.symm))
        all_goals
          have hmat4 : Mat w w3 A C := (HM3.out.later ((Below.refl _ _).drew)).later Hb3.out
          have HM4 := toHid hmat4
          clear hmat4 hb3 hq cb cA cC
          go_wp2
          go_roundw
          case rel => exact ⟨k + 1, by omega, by go_num, HM4.out⟩
          case measure => simp [intOf]; omega
      · rw [decide_eq_false hm] at cA
        have hf : findKey es k = -1 := findKey_not hm
        rw [hf]
        clear hf hm
        go_wp2
        go_roundw
        case rel => exact ⟨k + 1, by omega, by go_num, HM3.out⟩
        case measure => simp [intOf]; omega
    · go_wp2
      go_ret
      exact ⟨rfl, HMt.out.below⟩

end Go.Proofs.Qxb6003667a
