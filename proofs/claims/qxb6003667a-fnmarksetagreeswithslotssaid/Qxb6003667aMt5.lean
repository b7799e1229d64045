/-
  zzSortedMatches (12).
-/
import Derived.Test.Qxb6003667aMt4
namespace Go.Proofs.Qxb6003667a
open Go.RowKit Go.WideMaps Go.Maps
set_option linter.unusedSimpArgs false
set_option linter.unusedVariables false
attribute [local go_sem ↓] Go.wp_at_zero Go.wp_at_succ

theorem ltw_of {x y : Nat} (h : ¬ ltw y x) (hne : x ≠ y) (hx : x < 32) (hy : y < 32) : ltw x y := by
  unfold ltw at *
  omega

/-- Six cells of a row of waves. -/
theorem wave_at {w : World} {B g cap N : Nat} {ks : List Nat} (h : w.ownsRow B 35 6 (.slice (some ⟨g, 0, none⟩) N cap) N (ks.flatMap wcells)) (hN : ks.length = N) {i x : Nat} (hx : ks[i]? = some x) : w.rangeAt g (i * 6) (wcells x) := by
  intro j u hu
  have hi : i < N := by rw [← hN]; exact (List.getElem?_eq_some_iff.1 hx).1
  have hj : j < 6 := (List.getElem?_eq_some_iff.1 hu).1
  rw [h.cellAt (i * 6 + j) (by have := Nat.mul_le_mul_right 6 (show i + 1 ≤ N from hi); omega)]
  exact flatMap_slice wcells_len ks i x hx j u hu

theorem six_of {w : World} {g o : Nat} {v0 v1 v2 v3 v4 v5 : Value} (h : w.rangeAt g o [v0, v1, v2, v3, v4, v5]) :
    w.cell? ⟨g, o, none⟩ = some v0 ∧ w.cell? ⟨g, o + 1, none⟩ = some v1 ∧ w.cell? ⟨g, o + 2, none⟩ = some v2 ∧ w.cell? ⟨g, o + 3, none⟩ = some v3 ∧ w.cell? ⟨g, o + 4, none⟩ = some v4 ∧ w.cell? ⟨g, o + 5, none⟩ = some v5 :=
  ⟨h 0 _ rfl, h 1 _ rfl, h 2 _ rfl, h 3 _ rfl, h 4 _ rfl, h 5 _ rfl⟩

/-- What holds in the loop's worlds. -/
structure Srt (w wr : World) (A : Array Value) (N : Nat) (ks : List Nat) : Prop where
  below : Below w.heap.size w wr
  pb : wr.heap[w.heap.size]? = some (.cells A 27 (0, 0))
  row : wr.ownsRow (w.heap.size + 1) 35 6 (.slice (some ⟨w.heap.size + 1, 0, none⟩) N N) N (ks.flatMap wcells)

theorem Srt.later {w wr w' : World} {A : Array Value} {N : Nat} {ks : List Nat} (h : Srt w wr A N ks) (hb : Below wr.heap.size wr w') : Srt w w' A N ks := by
  refine ⟨h.below.trans (hb.mono h.below.size), heap_below hb (Array.getElem?_eq_some_iff.1 h.pb).1 h.pb, (Turned.of_below hb).ownsRow h.row (fun k hk hs => ?_)⟩
  obtain ⟨cur, hc, _⟩ := row_block h.row hk
  have := (Array.getElem?_eq_some_iff.1 hc).1
  omega

set_option maxHeartbeats 4000000 in
set_option maxRecDepth 100000 in
theorem sorted12 {B : Nat} {w : World} {sb : Nat} {ev : Value} {ix : Option Nat} {es : List (Nat × Int)} (h : MSet B w sb ev ix es) {P : List Bool} {M : List Int} (hag : Agree es P M) :
    Calls Try.prog 12 #[.pointer (some ⟨sb, 0, none⟩), .agg (pcells P), .int .i64 es.length] w fun e w' => e = .returned (.bool true) ∧ Below w.heap.size w w' := by
  have hl := h.len
  obtain ⟨A, hA⟩ : ∃ A, A = pcells P := ⟨_, rfl⟩
  rw [← hA]
  have hAk : ∀ k, k ∈ es.map (·.1) → A[k]? = some (.bool true) := by
    intro k hk
    have hk32 : k < 32 := by
      obtain ⟨m, hm⟩ := mem_keys.1 hk
      exact h.lt _ hm
    have hy := (hag.yes k hk32).2 hk
    rw [hA, pcells]
    simp [hy]
  have H45 := toHid (sorted45 (h.alloc (.cells A 27)))
  have H := toHid h
  have HA := toHid hAk
  clear h hag hA hAk
  go_enter Try.func12, Try.ntmps12
  go_wp2_with (first | (go_at_call 45; refine H45.out.mono ?_; rintro e w1 ⟨rfl, hs1⟩; simp only [List.length_map, World.size_alloc] at hs1 ⊢))
  obtain ⟨ks, hperm, hsort, hrow, hbel⟩ := hs1
  have hnd : ks.Nodup := (hperm.nodup_iff).2 H.out.nodup
  have hkl : ks.length = es.length := by have := hperm.length_eq; simpa using this
  have hkm : ∀ x, x ∈ ks → x ∈ es.map (·.1) ∧ x < 32 := fun x hx => by
    have h1 := hperm.mem_iff.1 hx
    obtain ⟨m, hm⟩ := mem_keys.1 h1
    exact ⟨h1, H.out.lt _ hm⟩
  have hst : Srt w w1 A es.length ks := ⟨((Below.refl _ _).alloc (Nat.le_refl _) _).trans (hbel.mono (by simp)), heap_below hbel (by simp) (heap_at rfl), by simpa using hrow⟩
  have Hst := toHid hst
  have HK := toHid (And.intro hnd (And.intro hkl (And.intro hkm hsort)))
  clear hperm hsort hrow hbel hnd hkl hkm hst
  go_loopw [8] (fun i wr => ∃ k : Nat, k ≤ es.length ∧ i = .int .i64 k ∧ Srt w wr A es.length ks) (fun i _ => es.length - (intOf i).toNat)
  case atStart => exact ⟨0, Nat.zero_le _, rfl, Hst.out⟩
  case round =>
    obtain ⟨k, hk, rfl, hsrt⟩ := hrel
    have HS := toHid hsrt
    clear hsrt
    by_cases hlt : k < es.length
    · obtain ⟨hnd, hkl, hkm, hsort⟩ := HK.out
      obtain ⟨x, hx⟩ : ∃ x, ks[k]? = some x := ⟨_, List.getElem?_eq_getElem (by omega)⟩
      have hxm := hkm x (List.mem_of_getElem? hx)
      obtain ⟨s1, t1, q1, hw1⟩ : ∃ s1 t1 q1, IsWave x s1 t1 q1 := ⟨_, _, _, isWave_mk x⟩
      have hr1 : wr.rangeAt (w.heap.size + 1) (k * 6) [.string s1, .string t1, .int .u64 q1, .int .u64 1, .int .i64 0, .bool false] := by
        have := wave_at HS.out.row hkl hx
        rw [hw1.cells] at this
        exact this
      have six := six_of hr1
      obtain ⟨a0, a1, a2, a3, a4, a5⟩ := six
      have H47 := toHid (fun w => key47 hw1 hxm.2 w)
      have cAx := fun (w' : World) (h : Srt w w' A es.length ks) => (cell_of_row w' w.heap.size x _ 27 (0, 0) h.pb).trans (HA.out x hxm.1)
      have HcA := toHid cAx
      have hx32 : (x : Int) < 32 := by omega
      have hx0 : decide ((x : Int) < 0) = false := by rw [decide_eq_false_iff_not]; omega
      have hkl' : (k : Int) < (es.length : Int) := by omega
      by_cases hk0 : k = 0
      · have hgt : decide ((0 : Int) < (k : Int)) = false := by rw [decide_eq_false_iff_not]; omega
        have hgt' : decide (0 < k) = false := by rw [decide_eq_false_iff_not]; omega
        have hk0' : (0 : Int) ≤ (k : Int) := by omega
        clear hr1 hnd hkl hkm hsort hx hxm hw1 cAx hk0
        go_wp2_with fail
        go_quiet (fail)
        have hsW : Srt w (wr.drewN nq) A es.length ks := HS.out.later (below_drewN (Below.refl _ _) _)
        have HsW := toHid hsW
        clear hsW
        go_wp2_with (first | (go_at_call 47; refine (H47.out _).mono ?_; rintro e w4 ⟨rfl, hb4⟩; have hs4 := HsW.out.later hb4; have cA := HcA.out w4 hs4; have Hs4 := toHid hs4; clear hb4 hs4))
        go_roundw
        case rel => exact ⟨k + 1, by omega, by go_num, Hs4.out⟩
        case measure => simp [intOf]; omega
      · obtain ⟨p, hp⟩ : ∃ p, k = p + 1 := ⟨k - 1, by omega⟩
        obtain ⟨y, hy⟩ : ∃ y, ks[p]? = some y := ⟨_, List.getElem?_eq_getElem (by omega)⟩
        have hym := hkm y (List.mem_of_getElem? hy)
        obtain ⟨s2, t2, q2, hw2⟩ : ∃ s2 t2 q2, IsWave y s2 t2 q2 := ⟨_, _, _, isWave_mk y⟩
        have hr2 : wr.rangeAt (w.heap.size + 1) (p * 6) [.string s2, .string t2, .int .u64 q2, .int .u64 1, .int .i64 0, .bool false] := by
          have := wave_at HS.out.row hkl hy
          rw [hw2.cells] at this
          exact this
        obtain ⟨b0, b1, b2, b3, b4, b5⟩ := six_of hr2
        have hyx : y ≠ x := fun e => by
          have := (List.getElem?_inj (by omega : p < ks.length) hnd).1 (hy.trans (e ▸ hx.symm))
          omega
        have hless := ltw_of (hsort p k y x (by omega) hy hx) hyx hym.2 hxm.2
        have H46 := toHid (fun w => less46 hw2 hw1 hless w)
        have hkp : (k : Int) - 1 = (p : Int) := by omega
        have hgt : decide ((0 : Int) < (k : Int)) = true := by rw [decide_eq_true_iff]; omega
        have hgt' : decide (0 < k) = true := by rw [decide_eq_true_iff]; omega
        have hwr : IntKind.i64.wrap (p : Int) = (p : Int) := by simp [IntKind.wrap, IntKind.bits, IntKind.signed]; omega
        have hpl : (p : Int) < (es.length : Int) := by omega
        have hp0 : (0 : Int) ≤ (p : Int) := by omega
        have hplN : p < es.length := by omega
        have hu83 := und83
        have hk0' : (0 : Int) ≤ (k : Int) := by omega
        clear hr1 hr2 hnd hkl hkm hsort hx hxm hw1 hy hym hw2 hyx hless hk0 hp cAx
        go_wp2_with fail
        go_region_held3 (fun w' => (w'.cell? ⟨w.heap.size + 1, p * 6, none⟩ = some (.string s2) ∧ w'.cell? ⟨w.heap.size + 1, p * 6 + 1, none⟩ = some (.string t2) ∧ w'.cell? ⟨w.heap.size + 1, p * 6 + 2, none⟩ = some (.int .u64 q2) ∧ w'.cell? ⟨w.heap.size + 1, p * 6 + 3, none⟩ = some (.int .u64 1) ∧ w'.cell? ⟨w.heap.size + 1, p * 6 + 4, none⟩ = some (.int .i64 0) ∧ w'.cell? ⟨w.heap.size + 1, p * 6 + 5, none⟩ = some (.bool false)) ∧
            (w'.cell? ⟨w.heap.size + 1, k * 6, none⟩ = some (.string s1) ∧ w'.cell? ⟨w.heap.size + 1, k * 6 + 1, none⟩ = some (.string t1) ∧ w'.cell? ⟨w.heap.size + 1, k * 6 + 2, none⟩ = some (.int .u64 q1) ∧ w'.cell? ⟨w.heap.size + 1, k * 6 + 3, none⟩ = some (.int .u64 1) ∧ w'.cell? ⟨w.heap.size + 1, k * 6 + 4, none⟩ = some (.int .i64 0) ∧ w'.cell? ⟨w.heap.size + 1, k * 6 + 5, none⟩ = some (.bool false)))
          (first | (go_keep; done) | ((try dsimp only); (repeat' apply And.intro) <;> first | (go_keep; done) | (exact cell_later hb3 (by go_keep; done)) | assumption))
          (first | (go_at_call 46; refine (H46.out _).mono ?_; rintro e w3 ⟨rfl, hb3⟩; have Hb3 := toHid hb3))
        all_goals
          rename_i hheld
          obtain ⟨_, d0, d1, d2, d3, d4, d5⟩ := hheld
          have hsW : Srt w w3 A es.length ks := (HS.out.later ((Below.refl _ _).drew)).later Hb3.out
          have HsW := toHid hsW
          clear hsW hb3 a0 a1 a2 a3 a4 a5 b0 b1 b2 b3 b4 b5
          go_wp2_with (first | (go_at_call 47; refine (H47.out _).mono ?_; rintro e w4 ⟨rfl, hb4⟩; have hs4 := HsW.out.later hb4; have cA := HcA.out w4 hs4; have Hs4 := toHid hs4; clear hb4 hs4))
          go_roundw
          case rel => exact ⟨k + 1, by omega, by go_num, Hs4.out⟩
          case measure => simp [intOf]; omega
    · go_wp2
      go_ret
      exact ⟨rfl, HS.out.below⟩

end Go.Proofs.Qxb6003667a
