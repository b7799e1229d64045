/-
  FnMarkSetAgreesWithSlots (3), walked.
-/
import Derived.Test.Qxb6003667aMt7
namespace Go.Proofs.Qxb6003667a
open Go.RowKit Go.WideMaps Go.Maps
set_option linter.unusedSimpArgs false
set_option linter.unusedVariables false
attribute [local go_sem ↓] Go.wp_at_zero Go.wp_at_succ

theorem size27 : (Try.prog.info? 27).map (·.size) = some 32 := by kernel_rfl
theorem size29 : (Try.prog.info? 29).map (·.size) = some 32 := by kernel_rfl

/-- A load of a whole row, guarded, where the guard lets it by. -/
theorem wpList_load_midG {Pg : Program} {ops : Array Oper} {rest : List Oper} {op : Oper} {a : Act} {w : World} {Q : Exit → Act → World → Prop} (hw : Region.wanted op (yielded ops a.tmps) = true) (ty : TypeId) (x : Operand) (ho : op.op = .load ty x)
    (b o : Nat) (hx : a.eval x = .pointer (some ⟨b, o, none⟩)) (cs : List Value) (d : TypeDesc) (hc : w.rangeAt b o cs)
    (hu : Pg.underlying ty = some d) (hd : d.isRow = true) (hi : (Pg.info? ty).map (·.size) = some cs.length)
    (h : wpList Pg ops Q rest (a.put op.dst (.agg cs.toArray)) w) : wpList Pg ops Q (op :: rest) a w :=
  wpList_step fun _ hK => by simp only [hw, if_true]; exact wp_load_mid ty x ho b o hx cs d hc hu hd hi (hK _ _ h)

theorem rangeP {v wr : World} {P : List Bool} {M : List Int} {es : List (Nat × Int)} (h : Half v wr P M es) : wr.rangeAt v.heap.size 0 (P.map Value.bool) := fun j u hu => by
  rw [cell_of_row wr v.heap.size (0 + j) _ 27 (0, 0) h.pb, Nat.zero_add]
  simpa [pcells] using hu
theorem rangeM {v wr : World} {P : List Bool} {M : List Int} {es : List (Nat × Int)} (h : Half v wr P M es) : wr.rangeAt (v.heap.size + 1) 0 (M.map (Value.int .u64)) := fun j u hu => by
  rw [cell_of_row wr (v.heap.size + 1) (0 + j) _ 29 (0, 0) h.mb, Nat.zero_add]
  simpa [ucells] using hu

theorem half_start (v : World) : Half v (((v.alloc (.cells (pcells (List.replicate 32 false)) 27)).alloc (.cells (ucells (List.replicate 32 0)) 29)).alloc (.cells #[.slice none 0 0, .map none] 78)) (List.replicate 32 false) (List.replicate 32 0) [] := by
  refine ⟨?_, heap_old (heap_old (heap_at rfl)), heap_old (heap_at (by simp)), _, none, mset_new (heap_at (by simp)) (Nat.le_refl _)⟩
  exact (((Below.refl _ _).alloc (Nat.le_refl _) _).alloc (by simp) _).alloc (by simp; omega) _

theorem new10' (w : World) (sb : Nat) (h : w.heap.size = sb) : Calls Try.prog 10 #[] w fun e w' => e = .returned (.pointer (some ⟨sb, 0, none⟩)) ∧ w' = w.alloc (.cells #[.slice none 0 0, .map none] 78) := by
  subst h; exact new10 w

theorem m11 {v wr : World} {P : List Bool} {M : List Int} {es : List (Nat × Int)} (h : Half v wr P M es) (ha : Agree es P M) (c : Int) (hc : (es.length : Int) = c) :
    Calls Try.prog 11 #[.pointer (some ⟨v.heap.size + 2, 0, none⟩), .agg (P.map Value.bool).toArray, .agg (M.map (Value.int .u64)).toArray, .int .i64 c] wr fun e w' => e = .returned (.bool true) ∧ Below wr.heap.size wr w' := by
  subst hc
  obtain ⟨ev, ix, hM⟩ := h.set
  exact matches11 hM ha
theorem s12 {v wr : World} {P : List Bool} {M : List Int} {es : List (Nat × Int)} (h : Half v wr P M es) (ha : Agree es P M) (c : Int) (hc : (es.length : Int) = c) :
    Calls Try.prog 12 #[.pointer (some ⟨v.heap.size + 2, 0, none⟩), .agg (P.map Value.bool).toArray, .int .i64 c] wr fun e w' => e = .returned (.bool true) ∧ Below wr.heap.size wr w' := by
  subst hc
  obtain ⟨ev, ix, hM⟩ := h.set
  exact sorted12 hM ha

/-- The cells of the two arrays at a key. -/
theorem Half.cells {v wr : World} {P : List Bool} {M : List Int} {es es0 : List (Nat × Int)} (h : Half v wr P M es) (ha : Agree es0 P M) {y : Nat} (hy : y < 32) :
    wr.cell? ⟨v.heap.size, y, none⟩ = some (.bool (decide (y ∈ es0.map (·.1)))) ∧ wr.frozen? ⟨v.heap.size, y, none⟩ = false ∧ (∃ mo, wr.cell? ⟨v.heap.size + 1, y, none⟩ = some (.int .u64 mo)) ∧ wr.frozen? ⟨v.heap.size + 1, y, none⟩ = false := by
  refine ⟨?_, frozen_of_row wr _ _ _ 27 h.pb, ⟨M[y]'(by rw [ha.ml]; exact hy), ?_⟩, frozen_of_row wr _ _ _ 29 h.mb⟩
  · rw [cell_of_row wr v.heap.size y _ 27 (0, 0) h.pb]
    simp only [pcells, List.getElem?_toArray, List.getElem?_map, ha.at hy, Option.map_some]
  · rw [cell_of_row wr (v.heap.size + 1) y _ 29 (0, 0) h.mb]
    simp [ucells, List.getElem?_eq_getElem (show y < M.length by rw [ha.ml]; exact hy)]

theorem size27' {es : List (Nat × Int)} {P : List Bool} {M : List Int} (ha : Agree es P M) : (Try.prog.info? 27).map (·.size) = some (P.map Value.bool).length := by rw [List.length_map, ha.pl]; exact size27
theorem size29' {es : List (Nat × Int)} {P : List Bool} {M : List Int} (ha : Agree es P M) : (Try.prog.info? 29).map (·.size) = some (M.map (Value.int .u64)).length := by rw [List.length_map, ha.ml]; exact size29

set_option maxHeartbeats 8000000 in
set_option maxRecDepth 100000 in
theorem slots3 (a0 : Option Addr) (len0 cap0 : Nat) (z0 : List Int) (a1 : Option Addr) (len1 cap1 : Nat) (z1 : List Int) (a2 : Option Addr) (len2 cap2 : Nat) (z2 : List Int) (w : World)
    (m0 : len0 ≤ maxLen) (m1 : len1 ≤ maxLen) (m2 : len2 ≤ maxLen) (l0 : z0.length = len0) (l1 : z1.length = len1) (l2 : z2.length = len2)
    (n0 : a0 = none → len0 = 0 ∧ cap0 = 0) (n1 : a1 = none → len1 = 0 ∧ cap1 = 0) (n2 : a2 = none → len2 = 0 ∧ cap2 = 0)
    (r0 : RdRow .u8 w a0 len0 z0) (r1 : RdRow .u8 w a1 len1 z1) (r2 : RdRow .u64 w a2 len2 z2) (f0 : ∀ z ∈ z0, 0 ≤ z ∧ z ≤ 255) (f1 : ∀ z ∈ z1, 0 ≤ z ∧ z ≤ 255) :
    Calls Try.prog 3 #[.slice a0 len0 cap0, .slice a1 len1 cap1, .slice a2 len2 cap2] w fun e w' => e = .returned (.bool true) ∧ Below w.heap.size w w' := by
  have H7 := toHid (bytes7 a0 a1 a2 len0 len1 len2 cap0 cap1 cap2 m0 m1 m2 w)
  by_cases hsum : len0 + len1 + len2 ≤ 1048576
  · rw [decide_eq_true hsum] at H7
    by_cases hsum8 : len0 + len1 + 8 * len2 ≤ 1048576
    · by_cases hs : len0 ≤ 1024 ∧ len1 ≤ 1024 ∧ len2 ≤ 1024
      · obtain ⟨hs0, hs1, hs2⟩ := hs
        have H8a := toHid (clone8 a0 len0 cap0 z0 w (by omega) l0 n0 r0)
        have H8b := toHid (fun w' (h : Below w.heap.size w w') => clone8 a1 len1 cap1 z1 w' (by omega) l1 n1 (r1.later h))
        have H9 := toHid (fun w' (h : Below w.heap.size w w') => clone9 a2 len2 cap2 z2 w' (by omega) l2 n2 (r2.later h))
        have HF := toHid (And.intro f0 f1)
        have HL := toHid (And.intro l0 (And.intro l1 l2))
        clear m0 m1 m2 l0 l1 l2 n0 n1 n2 r0 r1 r2 f0 f1
        have hd0 : decide ((1024 : Int) < (len0 : Int)) = false := by rw [decide_eq_false_iff_not]; omega
        have hd1 : decide ((1024 : Int) < (len1 : Int)) = false := by rw [decide_eq_false_iff_not]; omega
        have hd2 : decide ((1024 : Int) < (len2 : Int)) = false := by rw [decide_eq_false_iff_not]; omega
        have hd8 : decide ((1048576 : Int) < (len0 : Int) + (len1 : Int) + 8 * (len2 : Int)) = false := by rw [decide_eq_false_iff_not]; omega
        go_enter Try.func3, Try.ntmps3
        go_wp2_with (first | (go_at_call 7; refine H7.out.mono ?_; rintro e w1 ⟨rfl, hw⟩; obtain rfl := hw.symm))
        refine H8a.out.mono ?_
        rintro e w1 ⟨b0, c0, rfl, r0, hb1⟩
        have Hr0 := toHid r0
        clear r0
        go_wp2_with fail
        refine (H8b.out w1 hb1).mono ?_
        rintro e w2 ⟨b1, c1, rfl, r1, hb2⟩
        have Hr1 := toHid r1
        clear r1
        go_wp2_with fail
        refine (H9.out w2 (hb1.trans (hb2.mono hb1.size))).mono ?_
        rintro e v ⟨b2, c2, rfl, r2, hb3⟩
        have hv : Below w.heap.size w v := (hb1.trans (hb2.mono hb1.size)).trans (hb3.mono (Nat.le_trans hb1.size hb2.size))
        have Hr := toHid (And.intro ((Hr0.out.later hb2).later hb3) (And.intro (Hr1.out.later hb3) r2))
        have Hv := toHid hv
        obtain ⟨n, hn, hn0, hn1, hn2⟩ : ∃ n : Nat, (if (len2 : Int) < (if (len1 : Int) < (len0 : Int) then (len1 : Int) else (len0 : Int)) then (len2 : Int) else (if (len1 : Int) < (len0 : Int) then (len1 : Int) else (len0 : Int))) = (n : Int) ∧ n ≤ len0 ∧ n ≤ len1 ∧ n ≤ len2 := by
          by_cases h1 : (len1 : Int) < (len0 : Int)
          · by_cases h2 : (len2 : Int) < (len1 : Int)
            · exact ⟨len2, by rw [if_pos h1, if_pos h2], by omega, by omega, by omega⟩
            · exact ⟨len1, by rw [if_pos h1, if_neg h2], by omega, by omega, by omega⟩
          · by_cases h2 : (len2 : Int) < (len0 : Int)
            · exact ⟨len2, by rw [if_neg h1, if_pos h2], by omega, by omega, by omega⟩
            · exact ⟨len0, by rw [if_neg h1, if_neg h2], by omega, by omega, by omega⟩
        have hmin : ∀ ts t w, (Builtin.min_ ts t #[.int .i64 (len0 : Int), .int .i64 (len1 : Int), .int .i64 (len2 : Int)]).run Try.prog w = .ok (.int .i64 (n : Int)) w := fun ts t w => by rw [run_min_int3, hn]
        clear hb1 hb2 hb3 hv r2 Hr0 Hr1 H8a H8b H9 H7 hn
        go_wp2_with fail
        refine (new10' _ (v.heap.size + 2) (by simp)).mono ?_
        rintro e w4 ⟨rfl, hw4⟩
        have hH : Half v w4 (List.replicate 32 false) (List.replicate 32 0) [] := by rw [hw4]; exact half_start v
        have hu27 := Try.underlying27
        have hu29 := Try.underlying29
        have hi27 := size27
        have hi29 := size29
        obtain ⟨P0, hP0⟩ : ∃ P0, P0 = List.replicate 32 false := ⟨_, rfl⟩
        obtain ⟨M0, hM0⟩ : ∃ M0 : List Int, M0 = List.replicate 32 0 := ⟨_, rfl⟩
        have hA := agree_start
        rw [← hP0, ← hM0] at hH hA
        have hP : (P0.map Value.bool).length = 32 := by rw [List.length_map]; exact hA.pl
        have hMl : (M0.map (Value.int .u64)).length = 32 := by rw [List.length_map]; exact hA.ml
        have hrp := rangeP hH
        have hrm := rangeM hH
        have hi27' : (Try.prog.info? 27).map (·.size) = some (P0.map Value.bool).length := by rw [hP]; exact hi27
        have hi29' : (Try.prog.info? 29).map (·.size) = some (M0.map (Value.int .u64)).length := by rw [hMl]; exact hi29
        have HH := toHid (And.intro hH hA)
        clear hH hA hw4 hP0 hM0 hP hMl hi27 hi29
        go_wp2_with (first
          | (refine wpList_load_mid rfl 27 _ rfl v.heap.size 0 rfl (P0.map Value.bool) _ hrp hu27 rfl hi27' ?_)
          | (refine wpList_load_mid rfl 29 _ rfl (v.heap.size + 1) 0 rfl (M0.map (Value.int .u64)) _ hrm hu29 rfl hi29' ?_))
        refine (m11 HH.out.1 HH.out.2 0 rfl).mono ?_
        rintro e w5 ⟨rfl, hb5⟩
        have hH5 := HH.out.1.later hb5
        have hrp5 := rangeP hH5
        have HH5 := toHid (And.intro hH5 HH.out.2)
        clear hH5 hrp hrm hb5
        go_wp2_with (first
          | (refine wpList_load_midG rfl 27 _ rfl v.heap.size 0 rfl (P0.map Value.bool) _ hrp5 hu27 rfl hi27' ?_))
        refine (s12 HH5.out.1 HH5.out.2 0 rfl).mono ?_
        rintro e w6 ⟨rfl, hb6⟩
        have hH6 := HH5.out.1.later hb6
        have HH6 := toHid (And.intro hH6 HH5.out.2)
        clear hH6 hb6 hrp5
        go_wp2_with fail
        go_loopw [10, 12] (fun cv iv wr => ∃ (j : Nat) (P : List Bool) (M : List Int) (es : List (Nat × Int)), j ≤ n ∧ iv = .int .i64 j ∧ cv = .int .i64 es.length ∧ Half v wr P M es ∧ Agree es P M) (fun _ iv _ => n - (intOf iv).toNat)
        case atStart => exact ⟨0, P0, M0, [], Nat.zero_le _, rfl, rfl, HH6.out.1, HH6.out.2⟩
        case round =>
          obtain ⟨j, P, M, es, hj, rfl, rfl, hH, hA⟩ := hrel
          by_cases hlt : j < n
          · obtain ⟨bk, ok, rfl, hbk, hck⟩ := Hr.out.2.1 j (by omega)
            obtain ⟨bo, oo, rfl, hbo, hco⟩ := Hr.out.1 j (by omega)
            obtain ⟨bm, om, rfl, hbm, hcm⟩ := Hr.out.2.2 j (by omega)
            obtain ⟨z, hz⟩ : ∃ z, z = z1.getD j 0 := ⟨_, rfl⟩
            obtain ⟨zo, hzo⟩ : ∃ z, z = z0.getD j 0 := ⟨_, rfl⟩
            obtain ⟨m, hm⟩ : ∃ z, z = z2.getD j 0 := ⟨_, rfl⟩
            rw [← hz] at hck
            rw [← hzo] at hco
            rw [← hm] at hcm
            have hck' : wr.cell? ⟨bk, ok + j, none⟩ = some (.int .u8 z) := (hH.below.cell (p := ⟨bk, ok + j, none⟩) hbk).trans hck
            have hzr : 0 ≤ z ∧ z ≤ 255 := by
              refine HF.out.2 z ?_
              rw [hz, List.getD_eq_getElem?_getD, List.getElem?_eq_getElem (by have := HL.out; omega)]
              exact List.getElem_mem _
            have hzor : 0 ≤ zo ∧ zo ≤ 255 := by
              refine HF.out.1 zo ?_
              rw [hzo, List.getD_eq_getElem?_getD, List.getElem?_eq_getElem (by have := HL.out; omega)]
              exact List.getElem_mem _
            obtain ⟨hz0', hz1'⟩ := hzr
            have HHr := toHid (And.intro hH hA)
            clear hz hzo hm hck hH hA
            have hjl : (j : Int) < (len1 : Int) := by omega
            have hj0 : (0 : Int) ≤ (j : Int) := by omega
            obtain ⟨y, hy, hy32⟩ : ∃ y : Nat, z % 32 = (y : Int) ∧ y < 32 := ⟨(z % 32).toNat, by omega, by omega⟩
            go_wp2_with fail
            refine (wave13 y hy32 wr).mono ?_
            rintro e w7 ⟨s1, t1, q1, rfl, hw7, hb7⟩
            have hH7 := HHr.out.1.later hb7
            have hco7 : w7.cell? ⟨bo, oo + j, none⟩ = some (.int .u8 zo) := (hH7.below.cell (p := ⟨bo, oo + j, none⟩) hbo).trans hco
            have hbo7 : bo < w7.heap.size := Nat.lt_of_lt_of_le hbo hH7.below.size
            have hbm7 : bm < w7.heap.size := Nat.lt_of_lt_of_le hbm hH7.below.size
            obtain ⟨hzo0, hzo1⟩ := hzor
            have hjl0 : (j : Int) < (len0 : Int) := by omega
            have hjl2 : (j : Int) < (len2 : Int) := by omega
            have H7' := toHid hH7
            have Hw7 := toHid hw7
            clear hH7 hw7 hb7 hck' hco
            have h3 : zo % 3 = 0 ∨ zo % 3 = 1 ∨ zo % 3 = 2 := by omega
            have hy0 : (0 : Int) ≤ (y : Int) := by omega
            have hyI : (y : Int) < 32 := by omega
            rcases h3 with h3 | h3 | h3
            · go_wp2_with fail
              generalize hW8 : World.alloc _ _ = W8
              have hH8 : Half v W8 P M es := by rw [← hW8]; exact H7'.out.later ((Below.refl _ _).alloc (Nat.le_refl _) _)
              have hbx : W8.heap[w7.heap.size]? = some (.cells #[.string s1, .string t1, .int .u64 q1, .int .u64 1, .int .i64 0, .bool false] 35 (0, 0)) := by rw [← hW8]; exact heap_at rfl
              have cb8 : ∀ i, W8.cell? ⟨w7.heap.size, i, none⟩ = (#[Value.string s1, .string t1, .int .u64 q1, .int .u64 1, .int .i64 0, .bool false] : Array Value)[i]? := fun i => cell_of_row W8 w7.heap.size i _ 35 (0, 0) hbx
              have hcm8 : W8.cell? ⟨bm, om + j, none⟩ = some (.int .u64 m) := (hH8.below.cell (p := ⟨bm, om + j, none⟩) hbm).trans hcm
              obtain ⟨ev, ix, hM8⟩ := hH8.set
              have hM8' : MSet (v.heap.size + 2) W8.drew (v.heap.size + 2) ev ix es := hM8.kept ((Turned.refl (fun _ => False) _).drew) (fun _ _ => id)
              have hH8' : Half v W8.drew P M es := hH8.later ((Below.refl _ _).drew)
              have H14 := toHid (set14 (m := m) hM8' hy32 Hw7.out)
              have HX := toHid (And.intro hH8' hM8')
              clear hW8 hH8 hbx hM8 hM8' hH8'
              refine wp_region_still_tail 6 mixedT (by kernel_rfl) ?_
              simp only [List.take_succ_cons, List.take_zero, List.drop_succ_cons, List.drop_zero]
              repeat still_step
              refine wpStill_nil ?_
              go_wp2_with fail
              refine H14.out.mono ?_
              rintro e w9 ⟨rfl, hs9⟩
              obtain ⟨es', hup, hnd', hH9⟩ := half_change HX.out.1 HX.out.2 hs9
              obtain ⟨cP, fP, ⟨mo, cM⟩, fM⟩ := hH9.cells HHr.out.2 hy32
              have cm9 : w9.cell? ⟨bm, om + j, none⟩ = some (.int .u64 m) := (hH9.below.cell (p := ⟨bm, om + j, none⟩) hbm).trans hcm
              have hP9 : P[y]? = some (decide (y ∈ es.map (·.1))) := HHr.out.2.at hy32
              have hAg := agree_upd HHr.out.2 hup hy32
              have hndE := HX.out.2.nodup
              have H9 := toHid hH9
              by_cases hmem : y ∈ es.map (·.1)
              · rw [decide_eq_true hmem] at cP hP9
                rw [set_same hP9] at hAg
                have hHT := hH9.putM y m
                have hAT := hAg
                obtain ⟨MT, hMT⟩ : ∃ MT, MT = M.set y m := ⟨_, rfl⟩
                rw [← hMT] at hHT hAT
                clear hMT
                have HT := toHid (And.intro hHT (And.intro hAT (show (es'.length : Int) = (es.length : Int) by rw [len_upd_in hndE hnd' hup hmem])))
                clear hHT hAT
                clear hs9 hup hnd' hH9 hP9 hAg hndE hmem hcm hcm8 cb8
                have hrpT := rangeP HT.out.1
                have hrmT := rangeM HT.out.1
                have hi27T := size27' HT.out.2.1
                have hi29T := size29' HT.out.2.1
                go_wp2_with (first
                  | (refine wpList_load_mid rfl 27 _ rfl v.heap.size 0 rfl (P.map Value.bool) _ hrpT hu27 rfl hi27T ?_)
                  | (refine wpList_load_mid rfl 29 _ rfl (v.heap.size + 1) 0 rfl (MT.map (Value.int .u64)) _ hrmT hu29 rfl hi29T ?_))
                refine (m11 HT.out.1 HT.out.2.1 _ HT.out.2.2).mono ?_
                rintro e wA ⟨rfl, hbA⟩
                have hHA := HT.out.1.later hbA
                have hrpA := rangeP hHA
                have HTA := toHid hHA
                clear hHA hbA hrpT hrmT
                go_wp2_with (first
                  | (refine wpList_load_mid rfl 27 _ rfl v.heap.size 0 rfl (P.map Value.bool) _ hrpA hu27 rfl hi27T ?_))
                refine (s12 HTA.out HT.out.2.1 _ HT.out.2.2).mono ?_
                rintro e wB ⟨rfl, hbB⟩
                have HTB := toHid (HTA.out.later hbB)
                clear hbB hrpA
                go_wp2
                go_roundw
                case rel => exact ⟨j + 1, P, MT, es', by omega, by go_num, by rw [HT.out.2.2], HTB.out, HT.out.2.1⟩
                case measure => simp [intOf]; omega
              · rw [decide_eq_false hmem] at cP
                have hHT := (hH9.putP y true).putM y m
                have hAT := hAg
                obtain ⟨PT, hPT⟩ : ∃ PT, PT = P.set y true := ⟨_, rfl⟩
                rw [← hPT] at hHT hAT
                clear hPT
                obtain ⟨MT, hMT⟩ : ∃ MT, MT = M.set y m := ⟨_, rfl⟩
                rw [← hMT] at hHT hAT
                clear hMT
                have HT := toHid (And.intro hHT (And.intro hAT (show (es'.length : Int) = (es.length : Int) + 1 by rw [len_upd_out hndE hnd' hup hmem]; rfl)))
                clear hHT hAT
                have hH10 := hH9.putP y true
                have hEl : es.length ≤ 32 := HX.out.2.len
                have cm10 : (w9.setCell ⟨v.heap.size, y, none⟩ (.bool true)).cell? ⟨bm, om + j, none⟩ = some (.int .u64 m) := (hH10.below.cell (p := ⟨bm, om + j, none⟩) hbm).trans hcm
                have cM10 : (w9.setCell ⟨v.heap.size, y, none⟩ (.bool true)).cell? ⟨v.heap.size + 1, y, none⟩ = some (.int .u64 mo) := by rw [World.cell?_setCell_far _ _ _ _ (by simp)]; exact cM
                clear hs9 hup hnd' hH9 hP9 hAg hndE hmem hcm hcm8 cb8 hH10
                have hrpT := rangeP HT.out.1
                have hrmT := rangeM HT.out.1
                have hi27T := size27' HT.out.2.1
                have hi29T := size29' HT.out.2.1
                go_wp2_with (first
                  | (refine wpList_load_mid rfl 27 _ rfl v.heap.size 0 rfl (PT.map Value.bool) _ hrpT hu27 rfl hi27T ?_)
                  | (refine wpList_load_mid rfl 29 _ rfl (v.heap.size + 1) 0 rfl (MT.map (Value.int .u64)) _ hrmT hu29 rfl hi29T ?_))
                refine (m11 HT.out.1 HT.out.2.1 _ HT.out.2.2).mono ?_
                rintro e wA ⟨rfl, hbA⟩
                have hHA := HT.out.1.later hbA
                have hrpA := rangeP hHA
                have HTA := toHid hHA
                clear hHA hbA hrpT hrmT
                go_wp2_with (first
                  | (refine wpList_load_mid rfl 27 _ rfl v.heap.size 0 rfl (PT.map Value.bool) _ hrpA hu27 rfl hi27T ?_))
                refine (s12 HTA.out HT.out.2.1 _ HT.out.2.2).mono ?_
                rintro e wB ⟨rfl, hbB⟩
                have HTB := toHid (HTA.out.later hbB)
                clear hbB hrpA
                go_wp2
                go_roundw
                case rel => exact ⟨j + 1, PT, MT, es', by omega, by go_num, by rw [HT.out.2.2], HTB.out, HT.out.2.1⟩
                case measure => simp [intOf]; omega
            · go_wp2_with fail
              generalize hW8 : World.alloc _ _ = W8
              have hH8 : Half v W8 P M es := by rw [← hW8]; exact H7'.out.later ((Below.refl _ _).alloc (Nat.le_refl _) _)
              have hbx : W8.heap[w7.heap.size]? = some (.cells #[.string s1, .string t1, .int .u64 q1, .int .u64 1, .int .i64 0, .bool false] 35 (0, 0)) := by rw [← hW8]; exact heap_at rfl
              have cb8 : ∀ i, W8.cell? ⟨w7.heap.size, i, none⟩ = (#[Value.string s1, .string t1, .int .u64 q1, .int .u64 1, .int .i64 0, .bool false] : Array Value)[i]? := fun i => cell_of_row W8 w7.heap.size i _ 35 (0, 0) hbx
              obtain ⟨ev, ix, hM8⟩ := hH8.set
              have H15 := toHid (drop15 hM8 hy32 Hw7.out)
              have HX := toHid (And.intro hH8 hM8)
              clear hW8 hH8 hbx hM8
              refine H15.out.mono ?_
              rintro e w9 ⟨rfl, hs9⟩
              obtain ⟨es', hup, hnd', hH9⟩ := half_change HX.out.1 HX.out.2 hs9
              obtain ⟨cP, fP, ⟨mo, cM⟩, fM⟩ := hH9.cells HHr.out.2 hy32
              have hP9 : P[y]? = some (decide (y ∈ es.map (·.1))) := HHr.out.2.at hy32
              have hAg := agree_del HHr.out.2 hup hy32
              have hndE := HX.out.2.nodup
              by_cases hmem : y ∈ es.map (·.1)
              · rw [decide_eq_true hmem] at cP
                have hHT := hH9.putP y false
                have hAT := hAg
                obtain ⟨PT, hPT⟩ : ∃ PT, PT = P.set y false := ⟨_, rfl⟩
                rw [← hPT] at hHT hAT
                clear hPT
                have HT := toHid (And.intro hHT (And.intro hAT (show (es'.length : Int) = (es.length : Int) - 1 by have := len_del_in hndE hnd' hup hmem; omega)))
                clear hHT hAT
                have hEl : es.length ≤ 32 := HX.out.2.len
                clear hs9 hup hnd' hH9 hP9 hAg hndE hmem hcm cb8
                have hrpT := rangeP HT.out.1
                have hrmT := rangeM HT.out.1
                have hi27T := size27' HT.out.2.1
                have hi29T := size29' HT.out.2.1
                go_wp2_with (first
                  | (refine wpList_load_mid rfl 27 _ rfl v.heap.size 0 rfl (PT.map Value.bool) _ hrpT hu27 rfl hi27T ?_)
                  | (refine wpList_load_mid rfl 29 _ rfl (v.heap.size + 1) 0 rfl (M.map (Value.int .u64)) _ hrmT hu29 rfl hi29T ?_))
                refine (m11 HT.out.1 HT.out.2.1 _ HT.out.2.2).mono ?_
                rintro e wA ⟨rfl, hbA⟩
                have hHA := HT.out.1.later hbA
                have hrpA := rangeP hHA
                have HTA := toHid hHA
                clear hHA hbA hrpT hrmT
                go_wp2_with (first
                  | (refine wpList_load_mid rfl 27 _ rfl v.heap.size 0 rfl (PT.map Value.bool) _ hrpA hu27 rfl hi27T ?_))
                refine (s12 HTA.out HT.out.2.1 _ HT.out.2.2).mono ?_
                rintro e wB ⟨rfl, hbB⟩
                have HTB := toHid (HTA.out.later hbB)
                clear hbB hrpA
                go_wp2
                go_roundw
                case rel => exact ⟨j + 1, PT, M, es', by omega, by go_num, by rw [HT.out.2.2], HTB.out, HT.out.2.1⟩
                case measure => simp [intOf]; omega
              · rw [decide_eq_false hmem] at cP hP9
                rw [set_same hP9] at hAg
                have HT := toHid (And.intro hH9 (And.intro hAg (show (es'.length : Int) = (es.length : Int) by rw [len_del_out hndE hnd' hup hmem])))
                clear hs9 hup hnd' hH9 hP9 hAg hndE hmem hcm cb8
                have hrpT := rangeP HT.out.1
                have hrmT := rangeM HT.out.1
                have hi27T := size27' HT.out.2.1
                have hi29T := size29' HT.out.2.1
                go_wp2_with (first
                  | (refine wpList_load_mid rfl 27 _ rfl v.heap.size 0 rfl (P.map Value.bool) _ hrpT hu27 rfl hi27T ?_)
                  | (refine wpList_load_mid rfl 29 _ rfl (v.heap.size + 1) 0 rfl (M.map (Value.int .u64)) _ hrmT hu29 rfl hi29T ?_))
                refine (m11 HT.out.1 HT.out.2.1 _ HT.out.2.2).mono ?_
                rintro e wA ⟨rfl, hbA⟩
                have hHA := HT.out.1.later hbA
                have hrpA := rangeP hHA
                have HTA := toHid hHA
                clear hHA hbA hrpT hrmT
                go_wp2_with (first
                  | (refine wpList_load_mid rfl 27 _ rfl v.heap.size 0 rfl (P.map Value.bool) _ hrpA hu27 rfl hi27T ?_))
                refine (s12 HTA.out HT.out.2.1 _ HT.out.2.2).mono ?_
                rintro e wB ⟨rfl, hbB⟩
                have HTB := toHid (HTA.out.later hbB)
                clear hbB hrpA
                go_wp2
                go_roundw
                case rel => exact ⟨j + 1, P, M, es', by omega, by go_num, by rw [HT.out.2.2], HTB.out, HT.out.2.1⟩
                case measure => simp [intOf]; omega
            · have HT := toHid (And.intro (H7'.out.later ((Below.refl _ _).alloc (Nat.le_refl _) (.cells #[.string s1, .string t1, .int .u64 q1, .int .u64 1, .int .i64 0, .bool false] 35))) (And.intro HHr.out.2 (show (es.length : Int) = (es.length : Int) from rfl)))
              clear hcm
              have hrpT := rangeP HT.out.1
              have hrmT := rangeM HT.out.1
              have hi27T := size27' HT.out.2.1
              have hi29T := size29' HT.out.2.1
              go_wp2_with (first
                | (refine wpList_load_mid rfl 27 _ rfl v.heap.size 0 rfl (P.map Value.bool) _ hrpT hu27 rfl hi27T ?_)
                | (refine wpList_load_mid rfl 29 _ rfl (v.heap.size + 1) 0 rfl (M.map (Value.int .u64)) _ hrmT hu29 rfl hi29T ?_))
              refine (m11 HT.out.1 HT.out.2.1 _ rfl).mono ?_
              rintro e wA ⟨rfl, hbA⟩
              have hHA := HT.out.1.later hbA
              have hrpA := rangeP hHA
              have HTA := toHid hHA
              clear hHA hbA hrpT hrmT
              go_wp2_with (first
                | (refine wpList_load_mid rfl 27 _ rfl v.heap.size 0 rfl (P.map Value.bool) _ hrpA hu27 rfl hi27T ?_))
              refine (s12 HTA.out HT.out.2.1 _ rfl).mono ?_
              rintro e wB ⟨rfl, hbB⟩
              have HTB := toHid (HTA.out.later hbB)
              clear hbB hrpA
              go_wp2
              go_roundw
              case rel => exact ⟨j + 1, P, M, es, by omega, by go_num, rfl, HTB.out, HT.out.2.1⟩
              case measure => simp [intOf]; omega
          · go_wp2
            go_ret
            exact ⟨rfl, Hv.out.trans (hH.below.mono Hv.out.size)⟩
      · clear m0 m1 m2 l0 l1 l2 n0 n1 n2 r0 r1 r2 f0 f1
        by_cases hs0 : len0 ≤ 1024
        · by_cases hs1 : len1 ≤ 1024
          · have hs2 : ¬ len2 ≤ 1024 := fun h => hs ⟨hs0, hs1, h⟩
            clear hs
            go_enter Try.func3, Try.ntmps3
            go_wp2_with (first | (go_at_call 7; refine H7.out.mono ?_; rintro e w1 ⟨rfl, hw⟩; obtain rfl := hw.symm))
            go_ret
            exact ⟨rfl, Below.refl _ _⟩
          · clear hs
            go_enter Try.func3, Try.ntmps3
            go_wp2_with (first | (go_at_call 7; refine H7.out.mono ?_; rintro e w1 ⟨rfl, hw⟩; obtain rfl := hw.symm))
            go_ret
            exact ⟨rfl, Below.refl _ _⟩
        · clear hs
          go_enter Try.func3, Try.ntmps3
          go_wp2_with (first | (go_at_call 7; refine H7.out.mono ?_; rintro e w1 ⟨rfl, hw⟩; obtain rfl := hw.symm))
          go_ret
          exact ⟨rfl, Below.refl _ _⟩
    · clear m0 m1 m2 l0 l1 l2 n0 n1 n2 r0 r1 r2 f0 f1
      go_enter Try.func3, Try.ntmps3
      go_wp2_with (first | (go_at_call 7; refine H7.out.mono ?_; rintro e w1 ⟨rfl, hw⟩; obtain rfl := hw.symm))
      go_ret
      exact ⟨rfl, Below.refl _ _⟩
  · rw [decide_eq_false hsum] at H7
    clear m0 m1 m2 l0 l1 l2 n0 n1 n2 r0 r1 r2 f0 f1
    go_enter Try.func3, Try.ntmps3
    go_wp2_with (first | (go_at_call 7; refine H7.out.mono ?_; rintro e w1 ⟨rfl, hw⟩; obtain rfl := hw.symm))
    go_ret
    exact ⟨rfl, Below.refl _ _⟩

end Go.Proofs.Qxb6003667a
