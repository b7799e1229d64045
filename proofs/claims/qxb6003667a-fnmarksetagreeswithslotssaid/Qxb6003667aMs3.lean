/-
  slices.SortFunc (73) over waves, in the words of 'ownsRow'.
-/
import Derived.Test.Qxb6003667aMs2
import Derived.Test.Qxb6003667aSortLay
namespace Go.Proofs.Qxb6003667a
open Go.RowKit Go.Shelf Go.Lib Go.Sort
set_option linter.unusedSimpArgs false
set_option linter.unusedVariables false

theorem cmpS_nm {a b : Nat} (ha : a < 4) (hb : b < 4) : cmpS (nm 115 a) (nm 115 b) = cmpI a b ∧ cmpS (nm 116 a) (nm 116 b) = cmpI a b := by
  have h : ∀ a b : Fin 4, cmpS (nm 115 a.val) (nm 115 b.val) = cmpI a.val b.val ∧ cmpS (nm 116 a.val) (nm 116 b.val) = cmpI a.val b.val := by decide +kernel
  exact h ⟨a, ha⟩ ⟨b, hb⟩

/-- compareWaves, by the keys. -/
def cfw (x y : Nat) : Int := orInts [cmpI (x % 4 : Nat) (y % 4 : Nat), cmpI (x / 4 % 4 : Nat) (y / 4 % 4 : Nat), cmpI (x / 16 : Nat) (y / 16 : Nat), cmpI 1 1]
/-- The waves' order, by the keys. -/
def ltw (x y : Nat) : Prop := x % 4 < y % 4 ∨ (x % 4 = y % 4 ∧ (x / 4 % 4 < y / 4 % 4 ∨ (x / 4 % 4 = y / 4 % 4 ∧ x / 16 < y / 16)))

theorem cmpI_nat (a b : Nat) : cmpI (a : Int) (b : Int) = if a < b then -1 else if a = b then 0 else 1 := by
  unfold cmpI
  by_cases h : a < b
  · rw [if_pos (by omega), if_pos h]
  · rw [if_neg (by omega), if_neg h]
    by_cases h2 : a = b
    · rw [if_pos (by omega), if_pos h2]
    · rw [if_neg (by omega), if_neg h2]
theorem cfw_neg (x y : Nat) : cfw x y < 0 ↔ ltw x y := by
  unfold cfw ltw
  rw [cmpI_nat, cmpI_nat, cmpI_nat]
  generalize x % 4 = a; generalize y % 4 = b; generalize x / 4 % 4 = c; generalize y / 4 % 4 = d; generalize x / 16 = e; generalize y / 16 = f
  by_cases h1 : a < b
  · simp [orInts, h1]
  · by_cases h2 : a = b
    · by_cases h3 : c < d
      · simp [orInts, h1, h2, h3]
      · by_cases h4 : c = d
        · by_cases h5 : e < f
          · simp [orInts, h1, h2, h3, h4, h5]
          · by_cases h6 : e = f
            · simp [orInts, h1, h2, h3, h4, h5, h6, cmpI]
            · simp [orInts, h1, h2, h3, h4, h5, h6]
        · simp [orInts, h1, h2, h3, h4]
    · simp [orInts, h1, h2]
theorem ltOf_cfw (x y : Nat) : ltOf cfw x y = true ↔ ltw x y := by unfold ltOf; rw [decide_eq_true_iff]; exact cfw_neg x y
theorem ltOf_cfw_false (x y : Nat) : ltOf cfw x y = false ↔ ¬ ltw x y := by rw [← ltOf_cfw]; simp
theorem swo_cfw : SWO (ltOf cfw) :=
  ⟨fun x => (ltOf_cfw_false x x).2 (by unfold ltw; omega),
   fun x y z h1 h2 => (ltOf_cfw x z).2 (by have := (ltOf_cfw x y).1 h1; have := (ltOf_cfw y z).1 h2; unfold ltw at *; omega),
   fun x y z h1 h2 => (ltOf_cfw_false x z).2 (by have := (ltOf_cfw_false x y).1 h1; have := (ltOf_cfw_false y z).1 h2; unfold ltw at *; omega)⟩

theorem compare74w (x y : Nat) (w : World) :
    Calls Try.prog 74 #[.agg (wcells x).toArray, .agg (wcells y).toArray] w fun e w' => e = .returned (.int .i64 (cfw x y)) ∧ ∃ n os, w' = Sort.grow (w.drewN n) os := by
  have h := compare74 (nm 115 (x % 4)) (nm 116 (x / 4 % 4)) (nm 115 (y % 4)) (nm 116 (y / 4 % 4)) ((x / 16 : Nat) : Int) ((y / 16 : Nat) : Int) w
  rw [(cmpS_nm (a := x % 4) (b := y % 4) (by omega) (by omega)).1, (cmpS_nm (a := x / 4 % 4) (b := y / 4 % 4) (by omega) (by omega)).2] at h
  exact h

theorem cmpLays74 (blk off size : Nat) (w : World) : CmpLays Try.prog 74 #[] wcells 6 cfw blk off size w :=
  fun _ _ _ _ x y => compare74w x y _

theorem wcells_len (x : Nat) : (wcells x).length = 6 := rfl
theorem wcells_one (x : Nat) : ∀ v ∈ wcells x, v.oneCell' = true := by
  intro v hv
  simp [wcells] at hv
  rcases hv with rfl | rfl | rfl | rfl | rfl | rfl <;> rfl

set_option maxHeartbeats 1000000 in
theorem sort73_holds (blk off cap : Nat) (d : Array Nat) (w : World) (hH : HoldsK wcells 6 w blk off d) (hblk : blk < w.heap.size) (hsz : d.size < 4611686018427387904) :
    Calls Try.prog 73 #[.slice (some ⟨blk, off, none⟩) d.size cap, .func (.func 74) #[] #[]] w fun e w' => e = .returned (.tuple #[]) ∧ ∃ d' n os, PermIn 0 d.size d d' ∧ SortedIn (ltOf cfw) 0 d.size d' ∧ w' = sortWorldK wcells 6 w blk off n d' os := by
  have eg : ∀ args w, (callFunc 74 args).run Try.prog w = .ok (.enter 74 args) w := enters_of Try.func74 (by kernel_rfl) rfl
  have hcon := AnyQ.slices_SortFunc Try.sortW 6 Try.isAgg35 Try.sizeOf35 wcells wcells_len wcells_one cfw swo_cfw 74 #[] blk off cap d w eg (cmpLays74 blk off d.size w) hH hblk hsz
  change Calls Try.prog 73 _ _ _ at hcon
  exact hcon

/-! ### in the words of 'ownsRow' -/
theorem flatMap_at {f : Nat → List Value} {k : Nat} (hk : ∀ x, (f x).length = k) (h0 : 0 < k) : ∀ (l : List Nat) (t : Nat), (l.flatMap f)[t]? = (l[t / k]?).bind fun x => (f x)[t % k]?
  | [], t => by simp
  | x :: r, t => by
    rw [List.flatMap_cons]
    by_cases h : t < k
    · rw [List.getElem?_append_left (by rw [hk]; exact h), Nat.div_eq_of_lt h, Nat.mod_eq_of_lt h]
      rfl
    · rw [List.getElem?_append_right (by rw [hk]; omega), hk, flatMap_at hk h0 r (t - k)]
      have e1 : t / k = (t - k) / k + 1 := by rw [Nat.div_eq_sub_div h0 (by omega)]
      have e2 : t % k = (t - k) % k := by rw [Nat.mod_eq_sub_mod (by omega)]
      rw [e1, e2, List.getElem?_cons_succ]

theorem flatK_list (ks : List Nat) : (flatK wcells 6 ks.toArray).toList = ks.flatMap wcells := by
  apply List.ext_getElem?
  intro t
  rw [flatMap_at wcells_len (by decide)]
  by_cases h : t < ks.length * 6
  · have hq : t / 6 < ks.length := by omega
    have hr : t % 6 < 6 := Nat.mod_lt _ (by decide)
    rw [Array.getElem?_toList, Array.getElem?_eq_getElem (by simpa using h)]
    rw [← getElem!_pos (flatK wcells 6 ks.toArray) t (by simpa using h), get_flatK _ _ _ _ (by simpa using h)]
    rw [List.getElem?_eq_getElem hq]
    simp only [Option.bind_some]
    rw [List.getElem?_eq_getElem (by rw [wcells_len]; exact hr)]
    rw [getElem!_pos ks.toArray (t / 6) (by simpa using hq), getElem!_pos _ _ (by rw [wcells_len]; exact hr)]
    simp
  · rw [List.getElem?_eq_none (by simp; omega), List.getElem?_eq_none (l := ks) (by omega)]
    rfl

theorem flatMap_len {f : Nat → List Value} {k : Nat} (hk : ∀ x, (f x).length = k) (l : List Nat) : (l.flatMap f).length = l.length * k := by
  induction l with
  | nil => simp
  | cons x r ih => rw [List.flatMap_cons, List.length_append, hk, ih, List.length_cons, Nat.add_mul]; omega

set_option maxHeartbeats 1000000 in
theorem sort73 {B : Nat} (g cap : Nat) (ks : List Nat) (w : World) (hrow : w.ownsRow B 35 6 (.slice (some ⟨g, 0, none⟩) ks.length cap) ks.length (ks.flatMap wcells)) (hsz : ks.length ≤ 1000000) :
    Calls Try.prog 73 #[.slice (some ⟨g, 0, none⟩) ks.length cap, .func (.func 74) #[] #[]] w fun e w' => e = .returned (.tuple #[]) ∧ ∃ ks' : List Nat, ks'.Perm ks ∧ (∀ (i j : Nat) (x y : Nat), i < j → ks'[i]? = some x → ks'[j]? = some y → ¬ ltw y x) ∧
      w'.ownsRow B 35 6 (.slice (some ⟨g, 0, none⟩) ks.length cap) ks.length (ks'.flatMap wcells) ∧ w.grownBy w' (some g) := by
  obtain ⟨g', cap', cur, hv, hB, hg, hnc, hcm, hcs, htk⟩ : ∃ g' cap' cur, Value.slice (some ⟨g, 0, none⟩) ks.length cap = .slice (some ⟨g', 0, none⟩) ks.length cap' ∧ B ≤ g' ∧ w.heap[g']? = some (.cells cur 35 (0, 0)) ∧ ks.length ≤ cap' ∧ cap' ≤ maxLen ∧ cur.size = cap' * 6 ∧ cur.toList.take (ks.length * 6) = ks.flatMap wcells := by
    rcases hrow.2 with ⟨h, _⟩ | h
    · simp at h
    · exact h
  simp only [Value.slice.injEq, Option.some.injEq, Addr.mk.injEq, and_true, true_and] at hv
  obtain ⟨rfl, rfl⟩ := hv
  have hH : HoldsK wcells 6 w g 0 ks.toArray := by
    intro j hj
    have hj' : j < ks.length * 6 := by simpa using hj
    refine ⟨?_, by rw [Nat.zero_add]; exact frozen_of_row w g j cur 35 hg⟩
    rw [Nat.zero_add, hrow.cellAt j hj', ← flatK_list ks, Array.getElem?_toList, Array.getElem?_eq_getElem hj, getElem!_pos _ j hj]
    rfl
  refine (sort73_holds g 0 cap ks.toArray w hH (Array.getElem?_eq_some_iff.1 hg).1 (by simp; omega)).mono ?_
  rintro e w' ⟨rfl, d', n, os, hp, hs, rfl⟩
  have hd : d'.size = ks.length := by simpa using hp.1
  refine ⟨rfl, d'.toList, ?_, ?_, ?_, ?_⟩
  · have h2 := hp.2.2
    have e1 : (d'.extract 0 ks.toArray.size).toList = d'.toList := by
      rw [show ks.toArray.size = d'.size by simp [hd]]; simp
    have e2 : (ks.toArray.extract 0 ks.toArray.size).toList = ks := by simp
    rw [e1, e2] at h2
    exact h2
  · intro i j x y hij hx hy
    have hj : j < d'.size := by
      have := (List.getElem?_eq_some_iff.1 hy).1
      simpa using this
    have := hs i j (Nat.zero_le _) hij (by simp; omega)
    rw [ltOf_cfw_false] at this
    rw [getElem!_pos d' j hj, getElem!_pos d' i (by omega)] at this
    rw [Array.getElem?_toList, Array.getElem?_eq_getElem (by omega)] at hx
    rw [Array.getElem?_toList, Array.getElem?_eq_getElem hj] at hy
    simp at hx hy
    rw [← hx, ← hy]
    exact this
  · have hgs : g < w.heap.size := (Array.getElem?_eq_some_iff.1 hg).1
    have hheap : (sortWorldK wcells 6 w g 0 n d' os).heap[g]? = some (.cells (putCells id 0 (flatK wcells 6 d') cur) 35 (0, 0)) := by
      unfold sortWorldK putRowK
      show ((putRow id (Sort.ahead w n) g 0 (flatK wcells 6 d')).heap ++ os)[g]? = _
      rw [Array.getElem?_append_left (by simp [putRow, mapBlock, Sort.ahead]; exact hgs)]
      simp [putRow, mapBlock, Sort.ahead, Array.getElem?_modify, hg, onCells]
    refine ⟨by rw [flatMap_len wcells_len]; simp [hd], .inr ⟨g, cap, _, rfl, hB, hheap, hnc, hcm, by simp [putCells, hcs], ?_⟩⟩
    have hfl : (flatK wcells 6 d').toList = d'.toList.flatMap wcells := by
      have := flatK_list d'.toList
      simpa using this
    rw [← hfl]
    apply List.ext_getElem?
    intro t
    by_cases ht : t < ks.length * 6
    · have ht2 : t < (flatK wcells 6 d').size := by simp [hd]; exact ht
      have ht3 : t < cur.size := by rw [hcs]; have := Nat.mul_le_mul_right 6 hnc; omega
      rw [List.getElem?_take_of_lt ht, Array.getElem?_toList, Array.getElem?_toList, Array.getElem?_eq_getElem ht2]
      simp only [putCells, Array.getElem?_mapIdx, Array.getElem?_eq_getElem ht3, Option.map_some]
      rw [if_pos (by constructor <;> omega)]
      simp only [Nat.sub_zero, id]
      rw [getElem!_pos _ t ht2]
    · rw [List.getElem?_take_eq_none (by omega), List.getElem?_eq_none (by simp [hd]; omega)]
  · refine ⟨rfl, rfl, rfl, by simp [sortWorldK, putRowK, grow, putRow, mapBlock, Sort.ahead], fun k hk hne => ?_⟩
    show ((putRow id (Sort.ahead w n) g 0 (flatK wcells 6 d')).heap ++ os)[k]? = _
    rw [Array.getElem?_append_left (by simp [putRow, mapBlock, Sort.ahead]; exact hk)]
    have : g ≠ k := fun e => hne (by rw [e])
    simp [putRow, mapBlock, Sort.ahead, Array.getElem?_modify, this]

end Go.Proofs.Qxb6003667a
