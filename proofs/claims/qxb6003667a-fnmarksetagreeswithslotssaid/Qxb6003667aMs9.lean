/-
  (*markSet).drop (50).
-/
import Derived.Test.Qxb6003667aMs8
import Derived.Test.Qxb6003667aRm
namespace Go.Proofs.Qxb6003667a
open Go.RowKit Go.WideMaps Go.Maps
set_option linter.unusedSimpArgs false
set_option linter.unusedVariables false
attribute [local go_sem ↓] Go.wp_at_zero Go.wp_at_succ

def zero19 : List Value := [.string ⟨#[]⟩, .string ⟨#[]⟩, .int .u64 0, .int .u64 0, .int .i64 0, .bool false, .pointer none, .string ⟨#[]⟩, .int .i64 0, .string ⟨#[]⟩, .int .u64 0, .bool false, .bool false, .slice none 0 0, .pointer none, .bool false, .bool false, .int .u64 0, .pointer none]

theorem ecell_one (e : Nat × Int) : ∀ v ∈ ecell e, v.oneCell' = true := by
  intro v hv
  simp [ecell, wcells, mcells] at hv
  rcases hv with rfl | rfl | rfl | rfl | rfl | rfl | rfl | rfl | rfl | rfl | rfl | rfl | rfl | rfl | rfl | rfl | rfl <;> rfl

theorem size35 : (Try.prog.info? 35).map (·.size) = some 6 := by kernel_rfl

/-- The row is cut to its first entries. -/
theorem row_cut {B g cap n : Nat} {w : World} {xs : List Value} (h : w.ownsRow B 119 19 (.slice (some ⟨g, 0, none⟩) n cap) n xs) (k : Nat) (hk : k ≤ n) : w.ownsRow B 119 19 (.slice (some ⟨g, 0, none⟩) k cap) k (xs.take (k * 19)) := by
  obtain ⟨hl, h⟩ := h
  rcases h with ⟨h, _⟩ | ⟨g', cap', cur, he, hb, hg, h1, h2, h3, h4⟩
  · cases h
  · simp at he
    obtain ⟨rfl, rfl⟩ := he
    refine ⟨by rw [List.length_take, hl]; omega, .inr ⟨g, cap, cur, rfl, hb, hg, by omega, h2, h3, ?_⟩⟩
    rw [← h4, List.take_take]
    congr 1
    omega

/-- A store of one entry into the row. -/
theorem row_put {B g cap N i : Nat} {w w' : World} {es : List (Nat × Int)} {e0 : Nat × Int} {xs : List Value} (h : w.ownsRow B 119 19 (.slice (some ⟨g, 0, none⟩) N cap) N (esCells es)) (hi : es[i]? = some e0) (hx : xs.length = 19) (he : w' = w.drew.setCells g (i * 19) xs ∨ w' = w.setCells g (i * 19) xs) :
    w'.ownsRow B 119 19 (.slice (some ⟨g, 0, none⟩) N cap) N (setAt (esCells es) (i * 19) xs) ∧ Turned (fun k => k = g) w w' := by
  rcases he with rfl | rfl
  · obtain ⟨h1, h2⟩ := ownsRow_setCells xs (i * 19) w.drew (esCells es) h.drew
    exact ⟨h1, (Turned.refl _ _).drew.grown h2 (fun k hk => by simpa using hk.symm)⟩
  · obtain ⟨h1, h2⟩ := ownsRow_setCells xs (i * 19) w (esCells es) h
    exact ⟨h1, (Turned.refl _ _).grown h2 (fun k hk => by simpa using hk.symm)⟩

theorem there_of {B g cap N i : Nat} {w : World} {xs : List Value} (h : w.ownsRow B 119 19 (.slice (some ⟨g, 0, none⟩) N cap) N xs) (hi : i < N) : w.there g (i * 19) 19 := fun j hj =>
  ⟨by rw [h.cellAt (i * 19 + j) (by have := Nat.mul_le_mul_right 19 (show i + 1 ≤ N from hi); omega), List.getElem?_eq_getElem (by rw [h.1]; have := Nat.mul_le_mul_right 19 (show i + 1 ≤ N from hi); omega)]; rfl, h.frozenAt _⟩

theorem setAt_entry {es : List (Nat × Int)} {i : Nat} {e0 el : Nat × Int} (hi : es[i]? = some e0) : setAt (esCells es) (i * 19) (ecell el) = esCells (es.set i el) :=
  setAt_flat ecell_len hi 0 (ecell el) (by rw [ecell_len]; exact Nat.le_refl _) (setAt_all _ _ (by rw [ecell_len, ecell_len]))

theorem take_setAt : ∀ (vs xs : List Value) (o : Nat), (setAt xs o vs).take o = xs.take o
  | [], _, _ => rfl
  | v :: r, xs, o => by
    rw [setAt]
    have h := take_setAt r (xs.set o v) (o + 1)
    have h2 : (setAt (xs.set o v) (o + 1) r).take o = ((setAt (xs.set o v) (o + 1) r).take (o + 1)).take o := by rw [List.take_take]; congr 1; omega
    rw [h2, h, List.take_take, show min o (o + 1) = o by omega, List.take_set_of_le (Nat.le_refl _)]

theorem flat_take (l : List (Nat × Int)) (n : Nat) (hn : n ≤ l.length) : (esCells l).take (n * 19) = esCells (l.take n) := by
  have e : esCells l = esCells (l.take n) ++ esCells (l.drop n) := by
    unfold esCells
    rw [← List.flatMap_append, List.take_append_drop]
  have hl : (esCells (l.take n)).length = n * 19 := by
    unfold esCells
    rw [flat_len ecell_len, List.length_take]
    congr 1
    omega
  rw [e, List.take_append_of_le_length (by omega), List.take_of_length_le (by omega)]

/-- Behind the slice's cut: the set's block, its row, and what has not turned. -/
theorem dropped {B : Nat} {w1 W2 W3 : World} {sb g cap n i : Nat} {ix : Option Nat} {es : List (Nat × Int)} {e0 el : Nat × Int} {zs : List Value} (hM : MSet B w1 sb (.slice (some ⟨g, 0, none⟩) es.length cap) ix es) (hi : es[i]? = some e0) (hn : es.length = n + 1)
    (hP2 : W2.ownsRow B 119 19 (.slice (some ⟨g, 0, none⟩) es.length cap) es.length (esCells (es.set i el)) ∧ Turned (fun k => k = g) w1 W2)
    (hP3 : W3.ownsRow B 119 19 (.slice (some ⟨g, 0, none⟩) es.length cap) es.length (setAt (esCells (es.set i el)) (n * 19) zs) ∧ W2.grownBy W3 (some g))
    (hs3 : W3.heap[sb]? = some (.cells #[.slice (some ⟨g, 0, none⟩) es.length cap, .map ix] 78 (0, 0))) :
    (W3.setCell ⟨sb, 0, none⟩ (.slice (some ⟨g, 0, none⟩) n cap)).heap[sb]? = some (.cells #[.slice (some ⟨g, 0, none⟩) n cap, .map ix] 78 (0, 0)) ∧
    (W3.setCell ⟨sb, 0, none⟩ (.slice (some ⟨g, 0, none⟩) n cap)).ownsRow B 119 19 (.slice (some ⟨g, 0, none⟩) n cap) n (esCells (rm es i el)) ∧
    Turned (fun k => k = sb ∨ k = g) w1 (W3.setCell ⟨sb, 0, none⟩ (.slice (some ⟨g, 0, none⟩) n cap)) := by
  refine ⟨?_, ?_, ?_⟩
  · rw [heap_setCell_same W3 sb 0 _ 78 _ hs3]; rfl
  · have h := row_cut hP3.1 n (by omega)
    have e : (setAt (esCells (es.set i el)) (n * 19) zs).take (n * 19) = esCells (rm es i el) := by
      rw [take_setAt, flat_take _ _ (by simp; omega)]
      unfold rm
      rw [hn]; rfl
    rw [e] at h
    exact (Turned.setCell (S := fun k => k = sb) (Turned.refl _ _) (p := ⟨sb, 0, none⟩) rfl _).ownsRow h (fun k hk => by simp [Value.ownBlock] at hk; subst hk; exact hM.apart.1)
  · exact ((hP2.2.mono (fun k _ hk => .inr hk)).grown hP3.2 (fun k hk => .inr (by simpa using hk.symm))).setCell (.inl rfl) _

theorem rm_lt {es : List (Nat × Int)} {i y : Nat} {m0 : Int} {el : Nat × Int} (hnd : (es.map (·.1)).Nodup) (hlt : ∀ e ∈ es, e.1 < 32) (hi : es[i]? = some (y, m0)) (hl : es[es.length - 1]? = some el) : ∀ e ∈ rm es i el, e.1 < 32 :=
  fun e he => hlt e ((rm_mem hnd hi hl e.1 e.2).1 he).1

/-- No index. -/
theorem dropped_none {B : Nat} {w1 W4 : World} {sb g cap n i y : Nat} {m0 : Int} {es : List (Nat × Int)} {el : Nat × Int} (hM : MSet B w1 sb (.slice (some ⟨g, 0, none⟩) es.length cap) none es) (hi : es[i]? = some (y, m0)) (hel : es[n]? = some el) (hn : es.length = n + 1)
    (h : W4.heap[sb]? = some (.cells #[.slice (some ⟨g, 0, none⟩) n cap, .map none] 78 (0, 0)) ∧ W4.ownsRow B 119 19 (.slice (some ⟨g, 0, none⟩) n cap) n (esCells (rm es i el)) ∧ Turned (fun k => k = sb ∨ k = g) w1 W4) :
    MSet B W4 sb (.slice (some ⟨g, 0, none⟩) n cap) none (rm es i el) := by
  have hil : i < es.length := (List.getElem?_eq_some_iff.1 hi).1
  have hl : es[es.length - 1]? = some el := by rw [hn]; exact hel
  have hlen : (rm es i el).length = n := by rw [rm_len, hn]; rfl
  exact ⟨h.1, by rw [hlen]; exact h.2.1, rm_nodup hM.nodup hil hl, rm_lt hM.nodup hM.lt hi hl, fun ib hib => absurd hib (by simp), hM.bs⟩

/-- With an index that says the new places. -/
theorem dropped_some {B : Nat} {w1 W4 w6 : World} {sb g cap n i y ib : Nat} {m0 : Int} {es : List (Nat × Int)} {el : Nat × Int} {f : Nat → Option Nat} {N : Nat} (hM : MSet B w1 sb (.slice (some ⟨g, 0, none⟩) es.length cap) (some ib) es) (hi : es[i]? = some (y, m0)) (hel : es[n]? = some el) (hn : es.length = n + 1)
    (h : W4.heap[sb]? = some (.cells #[.slice (some ⟨g, 0, none⟩) n cap, .map (some ib)] 78 (0, 0)) ∧ W4.ownsRow B 119 19 (.slice (some ⟨g, 0, none⟩) n cap) n (esCells (rm es i el)) ∧ Turned (fun k => k = sb ∨ k = g) w1 W4)
    (hT : Turned (fun k => k = ib) W4 w6) (hI : IdxFun w6 ib N f) (hN : N = n) (hf : ∀ k, f k = plc (rm es i el) k) :
    MSet B w6 sb (.slice (some ⟨g, 0, none⟩) n cap) (some ib) (rm es i el) := by
  subst hN
  have hil : i < es.length := (List.getElem?_eq_some_iff.1 hi).1
  have hl : es[es.length - 1]? = some el := by rw [hn]; exact hel
  have hlen : (rm es i el).length = N := by rw [rm_len, hn]; rfl
  have hgi : g ≠ ib := fun e => hM.apart.2 (by rw [e])
  have hsi : sb ≠ ib := fun e => by
    obtain ⟨⟨D, ⟨es', clock, hb, _⟩, _⟩, _⟩ := hM.idx ib rfl
    have := hM.cells
    rw [e, hb] at this; simp at this
  refine ⟨hT.heap h.1 hsi, by rw [hlen]; exact hT.ownsRow h.2.1 (fun k hk => by simp [Value.ownBlock] at hk; subst hk; exact hgi), rm_nodup hM.nodup hil hl, rm_lt hM.nodup hM.lt hi hl, fun ib' hib' => ?_, hM.bs⟩
  simp at hib'
  subst hib'
  rw [hlen]
  exact ⟨hI.congr (fun k _ => hf k), (hM.idx ib rfl).2⟩

set_option maxHeartbeats 2000000 in
set_option maxRecDepth 100000 in
theorem drop50_hit {B : Nat} {w : World} {sb : Nat} {ev : Value} {ix : Option Nat} {es : List (Nat × Int)} (h : MSet B w sb ev ix es) {y : Nat} (hy32 : y < 32) {s' t' : ByteArray} {q' : Int} (hy : IsWave y s' t' q') {i : Nat} {m0 : Int} (hi : es[i]? = some (y, m0)) {el : Nat × Int} (hel : es[es.length - 1]? = some el) :
    Calls Try.prog 50 #[.pointer (some ⟨sb, 0, none⟩), .agg #[.string s', .string t', .int .u64 q', .int .u64 1, .int .i64 0, .bool false]] w fun e w' =>
      e = .returned (.tuple #[]) ∧ SetPost B w w' sb ev ix (rm es i el) := by
  have hl := h.len
  have hil : i < es.length := (List.getElem?_eq_some_iff.1 hi).1
  have hf : findKey es y = i := findKey_at h.nodup hi rfl
  have q76 : ∀ (w : World) (r : Option Nat), (binOp .neq 76 (.map r) (.map none)).run Try.prog w = .ok (.bool (!r.isNone)) w := fun w r => run_neq_map_nil w _ _ _ r Try.underlying76
  have H60 := toHid (find60 (h.alloc (.cells #[.string s', .string t', .int .u64 q', .int .u64 1, .int .i64 0, .bool false] 35)) hy32 hy)
  rw [hf] at H60
  obtain ⟨g, cap, rfl, hcap⟩ := h.shape_some (by omega)
  obtain ⟨n, hn⟩ : ∃ n, es.length = n + 1 := ⟨es.length - 1, by omega⟩
  rw [hn] at hel
  simp only [Nat.add_sub_cancel] at hel
  have hn1 : (es.length : Int) - 1 = (n : Int) := by omega
  obtain ⟨xs, hxs⟩ : ∃ xs, xs = ecell el := ⟨_, rfl⟩
  have hxl : xs.length = 19 := by rw [hxs]; exact ecell_len _
  have hx1 : ∀ v ∈ xs, v.oneCell' = true := by rw [hxs]; exact ecell_one el
  have hu := Try.underlying119
  have hi119 : (Try.prog.info? 119).map (·.size) = some xs.length := by rw [hxl]; kernel_rfl
  have H := toHid h
  have Hi := toHid hi
  have Hel := toHid hel
  have Hy := toHid hy
  have Hxs := toHid hxs
  have Hn := toHid hn
  clear h hf hi hy hel hxs hn
  go_enter Try.func50, Try.ntmps50
  go_wp2_with (first | (go_at_call 60; refine H60.out.mono ?_; rintro e w1 ⟨rfl, hb1⟩; have hM1 : MSet B w1 sb (.slice (some ⟨g, 0, none⟩) es.length cap) ix es := (H.out.alloc _).below hb1 (by simp); have c1 : ∀ j, w1.cell? ⟨sb, j, none⟩ = (#[Value.slice (some ⟨g, 0, none⟩) es.length cap, .map ix] : Array Value)[j]? := fun j => cell_of_row w1 sb j _ 78 (0, 0) hM1.cells; have HM1 := toHid hM1; have Hb1 := toHid hb1; clear hM1 hb1))
  have hrange : w1.rangeAt g (n * 19) xs := by rw [Hxs.out]; exact entry_at HM1.out.row Hel.out
  have hth1 : w1.there g (i * 19) 19 := there_of HM1.out.row hil
  have e1 : (0 : Int) ≤ (i : Int) := by omega
  have e2 : (i : Int) < (es.length : Int) := by omega
  have e3 : (0 : Int) ≤ (n : Int) := by omega
  have e4 : (n : Int) < (es.length : Int) := by omega
  have e5 : ¬ (i : Int) < 0 := by omega
  refine wp_region_still_tail 13 mixedT (by kernel_rfl) ?_
  simp only [List.take_succ_cons, List.take_zero, List.drop_succ_cons, List.drop_zero]
  repeat (first | (refine wpStill_load_mid rfl 119 _ rfl g (n * 19) rfl xs _ hrange hu rfl hi119 ?_) | still_step)
  refine wpStill_nil ?_
  refine wpList_store_mid rfl 119 _ _ rfl g (i * 19) xs.toArray rfl rfl (by simpa [hxl] using hth1) (by simpa using hi119) (all_oneCell_toArray hx1) ?_
  generalize hW2 : World.setCells _ _ _ _ = W2
  have hP2 := row_put (w' := W2) (xs := xs) HM1.out.row Hi.out hxl (.inl (by rw [← hW2]; rfl))
  rw [Hxs.out, setAt_entry Hi.out] at hP2
  have hs2 : W2.heap[sb]? = some (.cells #[.slice (some ⟨g, 0, none⟩) es.length cap, .map ix] 78 (0, 0)) := hP2.2.heap HM1.out.cells (fun e => HM1.out.apart.1 e.symm)
  have c2 : ∀ j, W2.cell? ⟨sb, j, none⟩ = (#[Value.slice (some ⟨g, 0, none⟩) es.length cap, .map ix] : Array Value)[j]? := fun j => cell_of_row W2 sb j _ 78 (0, 0) hs2
  have hth2 : W2.there g (n * 19) 19 := there_of hP2.1 (by have := Hn.out; omega)
  have HP2 := toHid hP2
  have Hs2 := toHid hs2
  have hi19 : (Try.prog.info? 119).map (·.size) = some 19 := by rw [hxl] at hi119; exact hi119
  have hcapI : (n : Int) ≤ (cap : Int) := by omega
  have hu75 := Try.underlying75
  clear hW2 hP2 hs2 c1 hrange hth1 hx1 hi119
  have HT1 := toHid (show Turned (fun _ => False) w w1 from ((Turned.refl _ _).alloc _).trans ((Turned.of_below Hb1.out).mono (fun k hk hs => by omega)))
  cases ix with
  | none =>
    go_wp2_with (first
      | (refine wpList_store_mid rfl 119 _ _ rfl g (n * 19) #[.string ⟨#[]⟩, .string ⟨#[]⟩, .int .u64 0, .int .u64 0, .int .i64 0, .bool false, .pointer none, .string ⟨#[]⟩, .int .i64 0, .string ⟨#[]⟩, .int .u64 0, .bool false, .bool false, .slice none 0 0, .pointer none, .bool false, .bool false, .int .u64 0, .pointer none] rfl rfl hth2 hi19 (by simp [Value.oneCell']) ?_; generalize hW3 : World.setCells _ _ _ _ = W3; have hP3 := ownsRow_setCells zero19 (n * 19) W2 _ HP2.out.1; rw [show W2.setCells g (n * 19) zero19 = W3 from hW3] at hP3; have hs3 : W3.heap[sb]? = some (.cells #[.slice (some ⟨g, 0, none⟩) es.length cap, .map none] 78 (0, 0)) := (Turned.of_grownBy (S := fun k => k = g) hP3.2 (fun k hk => by simpa using hk.symm)).heap Hs2.out (fun e => HM1.out.apart.1 e.symm); have c3 : ∀ j, W3.cell? ⟨sb, j, none⟩ = (#[Value.slice (some ⟨g, 0, none⟩) es.length cap, .map none] : Array Value)[j]? := fun j => cell_of_row W3 sb j _ 78 (0, 0) hs3; have f3 : ∀ j, W3.frozen? ⟨sb, j, none⟩ = false := fun j => frozen_of_row W3 sb j _ 78 hs3; have HP3 := toHid hP3; have Hs3 := toHid hs3; clear hW3 hP3 hs3 c2 hth2))
    have hD := dropped (zs := zero19) HM1.out Hi.out Hn.out HP2.out HP3.out Hs3.out
    go_returns
    refine ⟨rfl, _, none, dropped_none HM1.out Hi.out Hel.out Hn.out hD, ?_⟩
    exact (HT1.out.mono (fun k _ hk => hk.elim)).trans (hD.2.2.mono (fun k _ hk => hk.elim .inl (fun e => .inr (.inr (by rw [e]; rfl)))))
  | some ib =>
    go_wp2_with (first
      | (refine wpList_store_mid rfl 119 _ _ rfl g (n * 19) #[.string ⟨#[]⟩, .string ⟨#[]⟩, .int .u64 0, .int .u64 0, .int .i64 0, .bool false, .pointer none, .string ⟨#[]⟩, .int .i64 0, .string ⟨#[]⟩, .int .u64 0, .bool false, .bool false, .slice none 0 0, .pointer none, .bool false, .bool false, .int .u64 0, .pointer none] rfl rfl hth2 hi19 (by simp [Value.oneCell']) ?_; generalize hW3 : World.setCells _ _ _ _ = W3; have hP3 := ownsRow_setCells zero19 (n * 19) W2 _ HP2.out.1; rw [show W2.setCells g (n * 19) zero19 = W3 from hW3] at hP3; have hs3 : W3.heap[sb]? = some (.cells #[.slice (some ⟨g, 0, none⟩) es.length cap, .map (some ib)] 78 (0, 0)) := (Turned.of_grownBy (S := fun k => k = g) hP3.2 (fun k hk => by simpa using hk.symm)).heap Hs2.out (fun e => HM1.out.apart.1 e.symm); have c3 : ∀ j, W3.cell? ⟨sb, j, none⟩ = (#[Value.slice (some ⟨g, 0, none⟩) es.length cap, .map (some ib)] : Array Value)[j]? := fun j => cell_of_row W3 sb j _ 78 (0, 0) hs3; have f3 : ∀ j, W3.frozen? ⟨sb, j, none⟩ = false := fun j => frozen_of_row W3 sb j _ 78 hs3; have HP3 := toHid hP3; have Hs3 := toHid hs3; clear hW3 hP3 hs3 c2 hth2))
    have hD := dropped (zs := zero19) HM1.out Hi.out Hn.out HP2.out HP3.out Hs3.out
    generalize hW4 : World.setCell _ _ _ = W4 at hD
    clear hW4 c3 f3
    have hblk := HM1.out.blk_lt
    have hb0 := H.out.blk_lt
    have hsl : sb < w.heap.size := (hb0 sb (.inl rfl)).2
    have hgl : g < w.heap.size := (hb0 g (.inr (.inr rfl))).2
    have hig : g ≠ ib := fun e => HM1.out.apart.2 (by rw [e])
    have his : ib ≠ sb := fun e => by
      obtain ⟨⟨D, ⟨es', clock, hb, _⟩, _⟩, _⟩ := HM1.out.idx ib rfl
      have := HM1.out.cells
      rw [← e, hb] at this; simp at this
    have c4 : ∀ j, W4.cell? ⟨sb, j, none⟩ = (#[Value.slice (some ⟨g, 0, none⟩) n cap, .map (some ib)] : Array Value)[j]? := fun j => cell_of_row W4 sb j _ 78 (0, 0) hD.1
    have hbx1 : w1.heap[w.heap.size]? = some (.cells #[.string s', .string t', .int .u64 q', .int .u64 1, .int .i64 0, .bool false] 35 (0, 0)) := heap_below Hb1.out (by simp) (heap_at rfl)
    have cb4 : ∀ j, W4.cell? ⟨w.heap.size, j, none⟩ = (#[Value.string s', .string t', .int .u64 q', .int .u64 1, .int .i64 0, .bool false] : Array Value)[j]? := fun j => cell_of_row W4 w.heap.size j _ 35 (0, 0) (hD.2.2.heap hbx1 (by omega))
    have hI4 : IdxFun W4 ib es.length (plc es) := (HM1.out.idx ib rfl).1.kept hD.2.2 (fun h => h.elim his (fun e => hig e.symm))
    obtain ⟨D, hD1, hD2, hD3⟩ := hI4
    have hkey := key_of_isWave hy32 Hy.out
    have hpy : plc es y = some i := (plc_iff HM1.out.nodup y i).2 (by simp [Hi.out])
    have HD := toHid hD
    have HD3 := toHid (And.intro hD2 hD3)
    have Hpy := toHid hpy
    clear hD hbx1 hD2 hD3 hpy hblk hb0
    refine wp_region_still_tail 5 mixedT (by kernel_rfl) ?_
    simp only [List.take_succ_cons, List.take_zero, List.drop_succ_cons, List.drop_zero]
    repeat still_step
    refine wpStill_nil ?_
    refine wpList_delete_own _ rfl _ _ 76 35 rfl 3 law35 Try.underlying76 _ ib es.length D rfl (show (World.drew W4).ownsMap _ _ _ _ _ _ from hD1) _ (wlit y) rfl hkey ?_
    intro w5 hown5 hmt5
    have hT5 : Turned (fun k => k = ib) W4 w5 := (Turned.refl _ _).drew.grown hmt5.grown (fun k hk => by simpa using hk.symm)
    have hI5 := IdxFun.del hD1 HD3.out.1 HD3.out.2 hy32 (by rw [Hpy.out]; rfl) hown5
    have c5 : ∀ j, w5.cell? ⟨sb, j, none⟩ = (#[Value.slice (some ⟨g, 0, none⟩) n cap, .map (some ib)] : Array Value)[j]? := fun j => cell_of_row w5 sb j _ 78 (0, 0) (hT5.heap HD.out.1 (fun e => his e.symm))
    have HT5 := toHid hT5
    clear c4 cb4 hown5 hmt5 hT5 hD1
    by_cases hlt : i < n
    · have hl' : es[es.length - 1]? = some el := by rw [Hn.out]; exact Hel.out
      have hex : el.1 < 32 := HM1.out.lt el (List.mem_of_getElem? Hel.out)
      obtain ⟨s1, t1, q1, hx⟩ : ∃ s1 t1 q1, IsWave el.1 s1 t1 q1 := ⟨_, _, _, isWave_mk el.1⟩
      have hkey1 := key_of_isWave hex hx
      have hne : el.1 ≠ y := fun e => by
        have h1 : (es.map (·.1))[n]? = some y := by simp [Hel.out, e]
        have h2 : (es.map (·.1))[i]? = some y := by simp [Hi.out]
        have := keys_inj HM1.out.nodup h1 h2
        omega
      have hrange : w5.rangeAt g (i * 19) [.string s1, .string t1, .int .u64 q1, .int .u64 1, .int .i64 0, .bool false] := by
        have hrow5 := HT5.out.ownsRow HD.out.2.1 (fun k hk => by simp [Value.ownBlock] at hk; subst hk; exact hig)
        have hlen : (rm es i el).length = n := by rw [rm_len, Hn.out]; rfl
        rw [← hlen] at hrow5
        have hget : (rm es i el)[i]? = some el := by rw [rm_get el hil, if_pos (by have := Hn.out; omega), if_pos rfl]
        intro j v hv
        have hj : j < 6 := (List.getElem?_eq_some_iff.1 hv).1
        refine entry_at hrow5 hget j v ?_
        have he : ecell el = [.string s1, .string t1, .int .u64 q1, .int .u64 1, .int .i64 0, .bool false] ++ mcells el.2 := by
          show wcells el.1 ++ mcells el.2 = _
          rw [hx.cells]
        rw [he, List.getElem?_append_left (by simpa using hj)]
        exact hv
      obtain ⟨D5, h51, h52, h53⟩ := hI5
      have hwf : (Lit.int .i64 (i : Int)).wf = true := WalkArith.wf_i64 (by omega)
      have HD5 := toHid (And.intro h52 h53)
      have Hl' := toHid hl'
      have Hne := toHid hne
      have hu35 := Try.underlying35
      have hi35 : (Try.prog.info? 35).map (·.size) = some 6 := size35
      have e6 : (i : Int) < (n : Int) := by omega
      clear h52 h53 hl' hne hx
      go_wp2
      refine wp_region_still_tail 13 mixedT (by kernel_rfl) ?_
      simp only [List.take_succ_cons, List.take_zero, List.drop_succ_cons, List.drop_zero]
      repeat (first | (refine wpStill_load_mid rfl 35 _ rfl g (i * 19) rfl [.string s1, .string t1, .int .u64 q1, .int .u64 1, .int .i64 0, .bool false] _ hrange hu35 rfl hi35 ?_) | still_step)
      refine wpStill_nil ?_
      refine wpList_mapUpdate_own _ rfl _ _ _ 76 rfl 35 3 law35 Try.underlying76 _ ib _ D5 rfl (show (World.drew w5).ownsMap _ _ _ _ _ _ from h51) (by unfold maxLen; omega) _ _ (wlit el.1) rfl rfl hkey1 _ [] (plainElem_int Try.underlying3 hwf) ?_
      intro w6 hown6 hgrow6
      have hI6 := IdxFun.put h51 HD5.out.1 HD5.out.2 hex hown6
      have hT6 : Turned (fun k => k = ib) W4 w6 := HT5.out.trans ((Turned.refl _ _).drew.grown hgrow6 (fun k hk => by simpa using hk.symm))
      have HI6 := toHid hI6
      have HT6 := toHid hT6
      clear hown6 hgrow6 hI6 hT6 h51
      go_wp2
      go_returns
      have hpe : plc es el.1 = some n := (plc_iff HM1.out.nodup el.1 n).2 (by simp [Hel.out])
      refine ⟨rfl, _, some ib, dropped_some HM1.out Hi.out Hel.out Hn.out HD.out HT6.out HI6.out ?_ (fun k => ?_), ?_⟩
      · rw [if_neg Hne.out, hpe]
        have := Hn.out
        simp; omega
      · rw [rm_plc HM1.out.nodup Hi.out Hl'.out, if_pos (c := i < es.length - 1) (by have := Hn.out; omega)]
      · exact ((HT1.out.mono (fun k _ hk => hk.elim)).trans (HD.out.2.2.mono (fun k _ hk => hk.elim .inl (fun e => .inr (.inr (by rw [e]; rfl)))))).trans (HT6.out.mono (fun k _ hk => .inr (.inl (by rw [hk]))))
    · have HI5 := toHid hI5
      clear hI5
      go_wp2
      go_returns
      refine ⟨rfl, _, some ib, dropped_some HM1.out Hi.out Hel.out Hn.out HD.out HT5.out HI5.out (by have := Hn.out; omega) (fun k => ?_), ?_⟩
      · rw [rm_plc HM1.out.nodup Hi.out (by rw [Hn.out]; exact Hel.out), if_neg (c := i < es.length - 1) (by have := Hn.out; omega)]
      · exact ((HT1.out.mono (fun k _ hk => hk.elim)).trans (HD.out.2.2.mono (fun k _ hk => hk.elim .inl (fun e => .inr (.inr (by rw [e]; rfl)))))).trans (HT5.out.mono (fun k _ hk => .inr (.inl (by rw [hk]))))

end Go.Proofs.Qxb6003667a
