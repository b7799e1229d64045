/-
  compareWaves (74): cmp.Compare at strings (77) and at uint64 (78), cmp.Or (76).
-/
import Derived.Test.Qxb6003667aMs1
import Derived.Deep.QuietTactic
import Derived.BigQuiet
import Derived.Sort.Grow
namespace Go.Proofs.Qxb6003667a
open Go.RowKit
attribute [local go_sem ↓] Go.wp_at_zero Go.wp_at_succ
set_option linter.unusedSimpArgs false
set_option linter.unusedVariables false

set_option maxHeartbeats 800000 in
set_option maxRecDepth 100000 in
theorem isNaN89 (x : ByteArray) (w : World) : Calls Try.prog 89 #[.string x] w fun e w' => e = .returned (.bool false) ∧ w' = w := by
  go_enter Try.func89, Try.ntmps89
  go_wp2
  go_ret
  exact ⟨by simp, rfl⟩
set_option maxHeartbeats 800000 in
set_option maxRecDepth 100000 in
theorem isNaN90 (x : Int) (w : World) : Calls Try.prog 90 #[.int .u64 x] w fun e w' => e = .returned (.bool false) ∧ w' = w := by
  go_enter Try.func90, Try.ntmps90
  go_wp2
  go_ret
  exact ⟨by simp, rfl⟩

/-- cmp.Compare at two strings, at two numbers. -/
def cmpS (x y : ByteArray) : Int := if Op.bytesLess x.toList y.toList = true then -1 else if (x.toList == y.toList) = true then 0 else 1
def cmpI (x y : Int) : Int := if x < y then -1 else if x = y then 0 else 1
theorem ret_i {a b : Int} (h : a = b) : Ending.returned (.int .i64 a) = .returned (.int .i64 b) := by rw [h]

set_option maxHeartbeats 800000 in
set_option maxRecDepth 100000 in
theorem compare77 (x y : ByteArray) (w : World) : Calls Try.prog 77 #[.string x, .string y] w fun e w' => e = .returned (.int .i64 (cmpS x y)) ∧ w' = w := by
  go_enter Try.func77, Try.ntmps77
  go_wp2_with (first | (go_at_call 89; refine (isNaN89 _ _).mono ?_; rintro e w' ⟨rfl, hw⟩; obtain rfl := hw.symm))
  · have h1 : Op.bytesLess x.toList y.toList = true := by assumption
    go_ret
    exact ⟨ret_i (by simp [cmpS, h1]), rfl⟩
  · have h1 : Op.bytesLess x.toList y.toList = false := by assumption
    have h2 : (!x.toList == y.toList) = true := by assumption
    go_ret
    exact ⟨ret_i (by rw [Bool.not_eq_true'] at h2; simp only [cmpS, h1, h2]; rfl), rfl⟩
  · have h1 : Op.bytesLess x.toList y.toList = false := by assumption
    have h2 : (!x.toList == y.toList) = false := by assumption
    go_ret
    exact ⟨ret_i (by rw [Bool.not_eq_false'] at h2; simp only [cmpS, h1, h2]; rfl), rfl⟩

set_option maxHeartbeats 800000 in
set_option maxRecDepth 100000 in
theorem compare78 (x y : Int) (w : World) : Calls Try.prog 78 #[.int .u64 x, .int .u64 y] w fun e w' => e = .returned (.int .i64 (cmpI x y)) ∧ w' = w := by
  by_cases h1 : x < y
  · have e : cmpI x y = -1 := by simp [cmpI, h1]
    rw [e]
    go_enter Try.func78, Try.ntmps78
    go_wp2_with (first | (go_at_call 90; refine (isNaN90 _ _).mono ?_; rintro e w' ⟨rfl, hw⟩; obtain rfl := hw.symm))
    go_ret
    exact ⟨rfl, rfl⟩
  · by_cases h2 : x = y
    · have e : cmpI x y = 0 := by simp [cmpI, h1, h2]
      rw [e]
      subst h2
      go_enter Try.func78, Try.ntmps78
      go_wp2_with (first | (go_at_call 90; refine (isNaN90 _ _).mono ?_; rintro e w' ⟨rfl, hw⟩; obtain rfl := hw.symm))
      go_ret
      exact ⟨rfl, rfl⟩
    · have e : cmpI x y = 1 := by simp [cmpI, h1, h2]
      rw [e]
      have h3 : y < x := by omega
      clear h2
      go_enter Try.func78, Try.ntmps78
      go_wp2_with (first | (go_at_call 90; refine (isNaN90 _ _).mono ?_; rintro e w' ⟨rfl, hw⟩; obtain rfl := hw.symm))
      go_ret
      exact ⟨rfl, rfl⟩

/-- cmp.Or: the first that is not nought. -/
def orInts : List Int → Int
  | [] => 0
  | z :: r => if z = 0 then orInts r else z

theorem ints_of_block {w : World} {b : Nat} {zs : List Int} (h : w.heap[b]? = some (.cells (zs.map (Value.int .i64)).toArray 3 (0, 0))) : ∀ (j : Nat) (z : Int), zs[j]? = some z → w.cell? ⟨b, j, none⟩ = some (.int .i64 z) := by
  intro j z hz
  rw [cell_of_row w b j _ 3 (0, 0) h]
  simp [hz]

set_option maxHeartbeats 800000 in
set_option maxRecDepth 100000 in
theorem or76 (b cap : Nat) (zs : List Int) (w : World) (hl : zs.length ≤ 1000) (hc : ∀ (j : Nat) (z : Int), zs[j]? = some z → w.cell? ⟨b, j, none⟩ = some (.int .i64 z)) :
    Calls Try.prog 76 #[.slice (some ⟨b, 0, none⟩) zs.length cap] w fun e w' => e = .returned (.int .i64 (orInts zs)) ∧ w' = w := by
  have Hc := toHid hc
  clear hc
  go_enter Try.func76, Try.ntmps76
  go_wp2
  go_loop [8] (fun i => ∃ k : Nat, k ≤ zs.length ∧ i = .int .i64 k ∧ orInts zs = orInts (zs.drop k)) (fun i => zs.length - (intOf i).toNat)
  case atStart => exact ⟨0, Nat.zero_le _, rfl, rfl⟩
  case round =>
    obtain ⟨k, hk, rfl, ho⟩ := hrel
    have Ho := toHid ho
    clear ho
    by_cases hlt : k < zs.length
    · obtain ⟨z, hz⟩ : ∃ z, zs[k]? = some z := ⟨_, List.getElem?_eq_getElem hlt⟩
      have hcx := Hc.out k z hz
      have hd : zs.drop k = z :: zs.drop (k + 1) := by rw [List.drop_eq_getElem_cons hlt]; congr 1; rw [List.getElem?_eq_getElem hlt] at hz; simpa using hz
      have Hd := toHid hd
      clear hd hz
      by_cases h0 : z = 0
      · subst h0
        go_wp2
        go_round
        case rel => exact ⟨k + 1, by omega, by go_num, by rw [Ho.out, Hd.out]; simp [orInts]⟩
        case measure => simp [intOf]; omega
      · have hb : (z != 0) = true := by simp [h0]
        go_wp2
        go_ret
        exact ⟨ret_i (by rw [Ho.out, Hd.out]; simp [orInts, h0]), rfl⟩
    · obtain rfl : k = zs.length := by omega
      go_wp2
      go_ret
      exact ⟨ret_i (by rw [Ho.out]; simp [orInts]), rfl⟩

set_option maxHeartbeats 2000000 in
set_option maxRecDepth 100000 in
theorem compare74 (s t s' t' : ByteArray) (q q' : Int) (w : World) :
    Calls Try.prog 74 #[.agg #[.string s, .string t, .int .u64 q, .int .u64 1, .int .i64 0, .bool false], .agg #[.string s', .string t', .int .u64 q', .int .u64 1, .int .i64 0, .bool false]] w fun e w' =>
      e = .returned (.int .i64 (orInts [cmpS s s', cmpS t t', cmpI q q', cmpI 1 1])) ∧ ∃ n os, w' = Sort.grow (w.drewN n) os := by
  generalize h1 : cmpS s s' = c1
  generalize h2 : cmpS t t' = c2
  generalize h3 : cmpI q q' = c3
  generalize h4 : cmpI 1 1 = c4
  have g1 := fun w => compare77 s s' w
  have g2 := fun w => compare77 t t' w
  have g3 := fun w => compare78 q q' w
  have g4 := fun w => compare78 1 1 w
  rw [h1] at g1; rw [h2] at g2; rw [h3] at g3; rw [h4] at g4
  have G1 := toHid g1; have G2 := toHid g2; have G3 := toHid g3; have G4 := toHid g4
  clear g1 g2 g3 g4 h1 h2 h3 h4
  go_enter Try.func74, Try.ntmps74
  go_wp2
  go_region_held3 (fun w' => w'.cell? ⟨w.heap.size, 0, none⟩ = some (.string s) ∧ w'.cell? ⟨w.heap.size, 1, none⟩ = some (.string t) ∧ w'.cell? ⟨w.heap.size, 2, none⟩ = some (.int .u64 q) ∧ w'.cell? ⟨w.heap.size, 3, none⟩ = some (.int .u64 1) ∧
      w'.cell? ⟨w.heap.size + 1, 0, none⟩ = some (.string s') ∧ w'.cell? ⟨w.heap.size + 1, 1, none⟩ = some (.string t') ∧ w'.cell? ⟨w.heap.size + 1, 2, none⟩ = some (.int .u64 q') ∧ w'.cell? ⟨w.heap.size + 1, 3, none⟩ = some (.int .u64 1))
    (go_keep)
    (first | (go_at_call_of 77 (Value.string s); refine (G1.out _).mono ?_; rintro e w1 ⟨rfl, hw⟩; obtain rfl := hw.symm) | (go_at_call_of 77 (Value.string t); refine (G2.out _).mono ?_; rintro e w1 ⟨rfl, hw⟩; obtain rfl := hw.symm) | (go_at_call_of 78 (Value.int IntKind.u64 q); refine (G3.out _).mono ?_; rintro e w1 ⟨rfl, hw⟩; obtain rfl := hw.symm) | (go_at_call_of 78 (Value.int IntKind.u64 1); refine (G4.out _).mono ?_; rintro e w1 ⟨rfl, hw⟩; obtain rfl := hw.symm) | (go_at_call 76; refine (or76 (w.heap.size + 2) 4 [c1, c2, c3, c4] _ (by simp) ?_).mono ?_; (refine ints_of_block (zs := [c1, c2, c3, c4]) ?_; first | (with_reducible exact heap_at (by simp)) | (with_reducible exact heap_drewn (heap_at (by simp)))); rintro e w1 ⟨rfl, hw⟩; obtain rfl := hw.symm))
  go_wp2
  go_ret
  exact ⟨rfl, 1, _, by rw [Sort.alloc_eq_grow, Sort.alloc_eq_grow, Sort.alloc_eq_grow, Sort.grow_grow, Sort.grow_grow]; rfl⟩

end Go.Proofs.Qxb6003667a
