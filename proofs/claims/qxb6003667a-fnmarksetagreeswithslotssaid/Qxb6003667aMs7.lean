/-
  (*markSet).set (49).
-/
import Derived.Test.Qxb6003667aMs6
import Derived.Test.Qxb6003667aRow
import Derived.StillTailTactics
namespace Go.Proofs.Qxb6003667a
open Go.RowKit Go.WideMaps Go.Maps
set_option linter.unusedSimpArgs false
set_option linter.unusedVariables false
attribute [local go_sem ↓] Go.wp_at_zero Go.wp_at_succ

theorem mixedT : Try.prog.follows .mixedOrders = true := by kernel_rfl

/-- A load of a whole struct out of the middle of a block, among the operations that only read. -/
theorem wpStill_load_mid {P : Program} {ops : Array Oper} {w : World} {Q : Act → Prop} {a : Act} {o : Oper} {rest : List Oper} (hgd : o.guard = none) (ty : TypeId) (x : Operand) (ho : o.op = .load ty x)
    (b of : Nat) (hx : a.eval x = .pointer (some ⟨b, of, none⟩)) (cs : List Value) (d : TypeDesc) (hc : w.rangeAt b of cs)
    (hu : P.underlying ty = some d) (hd : d.isRow = true) (hi : (P.info? ty).map (·.size) = some cs.length)
    (h : wpStill P ops w Q rest (a.put o.dst (.agg cs.toArray))) : wpStill P ops w Q (o :: rest) a := by
  have hw : Region.wanted o (yielded ops a.tmps) = true := by simp [Region.wanted, hgd]
  unfold wpStill
  rw [if_pos hw]
  unfold Oper.still execOp
  simp only [ho, hx, Instr.loadAt, Instr.sureAddr, Sem.run_bind, Sem.run_pure, Result.andThen_ok, run_loadVar_mid w b of ty cs d hc hu hd hi]
  exact ⟨rfl, h⟩

theorem Try.size94 : (Try.prog.info? 94).map (·.size) = some 13 := by kernel_rfl
theorem mcells_one (m : Int) : ∀ v ∈ mcells m, v.oneCell' = true := by
  intro v hv
  simp [mcells] at hv
  rcases hv with rfl | rfl | rfl | rfl | rfl | rfl | rfl | rfl | rfl | rfl | rfl <;> rfl

theorem set_same {α : Type} {l : List α} {i : Nat} {x : α} (h : l[i]? = some x) : l.set i x = l := by
  obtain ⟨hi, hx⟩ := List.getElem?_eq_some_iff.1 h
  rw [← hx, List.set_getElem_self]

theorem MSet.apart {B : Nat} {w : World} {sb g n cap : Nat} {ix : Option Nat} {es : List (Nat × Int)} (h : MSet B w sb (.slice (some ⟨g, 0, none⟩) n cap) ix es) : g ≠ sb ∧ ix ≠ some g := by
  obtain ⟨cur, hc, _⟩ := row_block h.row (k := g) rfl
  refine ⟨fun e => ?_, fun e => ?_⟩
  · have := h.cells
    rw [← e, hc] at this
    simp at this
  · obtain ⟨⟨D, ⟨es', clock, hb, _⟩, _⟩, _⟩ := h.idx g e
    rw [hc] at hb
    simp at hb

/-- The mark of one entry has been written. -/
theorem set_entry {B : Nat} {w1 w' : World} {sb g cap i : Nat} {ix : Option Nat} {es : List (Nat × Int)} {y : Nat} {m0 m : Int} {xs : List Value} (h : MSet B w1 sb (.slice (some ⟨g, 0, none⟩) es.length cap) ix es) (hi : es[i]? = some (y, m0))
    (hset : xs = esCells (es.set i (y, m))) (ho : w'.ownsRow B 119 19 (.slice (some ⟨g, 0, none⟩) es.length cap) es.length xs ∧ w1.drew.grownBy w' (some g)) :
    MSet B w' sb (.slice (some ⟨g, 0, none⟩) es.length cap) ix (es.set i (y, m)) ∧ Turned (fun k => k = g) w1 w' := by
  obtain ⟨h1, h2⟩ := ho
  have hT : Turned (fun k => k = g) w1 w' := (Turned.refl _ _).drew.grown h2 (fun k hk => by simpa using hk.symm)
  have hk : (es.set i (y, m)).map (·.1) = es.map (·.1) := by
    rw [List.map_set]
    exact set_same (by simp [hi])
  obtain ⟨a1, a2⟩ := h.apart
  refine ⟨⟨hT.heap h.cells (fun e => a1 e.symm), ?_, by rw [hk]; exact h.nodup, ?_, fun ib hib => ?_, h.bs⟩, hT⟩
  · rw [List.length_set, ← hset]; exact h1
  · intro e he
    rcases List.mem_or_eq_of_mem_set he with he | rfl
    · exact h.lt e he
    · exact h.lt (y, m0) (List.mem_of_getElem? hi)
  · have hp : plc (es.set i (y, m)) = plc es := by funext k; unfold plc; rw [hk]
    rw [hp, List.length_set]
    exact ⟨(h.idx ib hib).1.kept hT (fun e => a2 (by rw [hib, e])), (h.idx ib hib).2⟩

set_option maxHeartbeats 2000000 in
set_option maxRecDepth 100000 in
theorem set49_hit {B : Nat} {w : World} {sb : Nat} {ev : Value} {ix : Option Nat} {es : List (Nat × Int)} (h : MSet B w sb ev ix es) {y : Nat} (hy32 : y < 32) {s' t' : ByteArray} {q' m : Int} (hy : IsWave y s' t' q') {i : Nat} {m0 : Int} (hi : es[i]? = some (y, m0)) :
    Calls Try.prog 49 #[.pointer (some ⟨sb, 0, none⟩), .agg #[.string s', .string t', .int .u64 q', .int .u64 1, .int .i64 0, .bool false], .agg (mcells m).toArray] w fun e w' =>
      e = .returned (.tuple #[]) ∧ MSet B w' sb ev ix (es.set i (y, m)) ∧ Turned (msBlocks sb ev ix) w w' := by
  have hl := h.len
  have hil : i < es.length := (List.getElem?_eq_some_iff.1 hi).1
  have hf : findKey es y = i := findKey_at h.nodup hi rfl
  obtain ⟨cs, hcs⟩ : ∃ cs, cs = mcells m := ⟨_, rfl⟩
  rw [← hcs]
  have hcl : cs.length = 13 := by rw [hcs]; rfl
  have hc1 : ∀ v ∈ cs, v.oneCell' = true := by rw [hcs]; exact mcells_one m
  have hu := Try.underlying94
  have hi94 : (Try.prog.info? 94).map (·.size) = some cs.length := by rw [hcl]; exact Try.size94
  have H60 := toHid (find60 ((h.alloc (.cells #[.string s', .string t', .int .u64 q', .int .u64 1, .int .i64 0, .bool false] 35)).alloc (.cells cs.toArray 94)) hy32 hy)
  rw [hf] at H60
  obtain ⟨g, cap, rfl, hcap⟩ := h.shape_some (by omega)
  have H := toHid h
  have Hcs := toHid hcs
  have Hi := toHid hi
  clear h hf hi hy hcs
  go_enter Try.func49, Try.ntmps49
  go_wp2_with (first | (go_at_call 60; refine H60.out.mono ?_; rintro e w1 ⟨rfl, hb1⟩))
  have hM1 : MSet B w1 sb (.slice (some ⟨g, 0, none⟩) es.length cap) ix es := ((H.out.alloc _).alloc _).below hb1 (by simp)
  have c0 : w1.cell? ⟨sb, 0, none⟩ = some (.slice (some ⟨g, 0, none⟩) es.length cap) := by rw [cell_of_row w1 sb 0 _ 78 (0, 0) hM1.cells]; rfl
  have hbox : w1.heap[w.heap.size + 1]? = some (.cells cs.toArray 94 (0, 0)) := heap_below hb1 (by simp) (heap_at (by simp))
  have hrange : w1.rangeAt (w.heap.size + 1) 0 cs := fun j v hv => by rw [cell_of_row w1 _ _ _ 94 (0, 0) hbox]; simpa using hv
  have hthere : w1.there g (i * 19 + 6) 13 := fun j hj => ⟨by rw [Nat.add_assoc, hM1.row.cellAt (i * 19 + (6 + j)) (by omega), List.getElem?_eq_getElem (by rw [hM1.row.1]; omega)]; rfl, hM1.row.frozenAt _⟩
  have HM1 := toHid hM1
  have Hb1 := toHid hb1
  have e1 : (0 : Int) ≤ (i : Int) := by omega
  have e2 : (i : Int) < (es.length : Int) := by omega
  clear hM1 hb1 hbox
  refine wp_region_still_tail 8 mixedT (by kernel_rfl) ?_
  simp only [List.take_succ_cons, List.take_zero, List.drop_succ_cons, List.drop_zero]
  repeat (first | (refine wpStill_load_mid rfl 94 _ rfl (w.heap.size + 1) 0 rfl cs _ hrange hu rfl hi94 ?_) | still_step)
  refine wpStill_nil ?_
  refine wpList_store_mid rfl 94 _ _ rfl g (i * 19 + 6) cs.toArray rfl rfl (by simpa [hcl] using hthere) (by simpa using hi94) (all_oneCell_toArray hc1) ?_
  go_wp2
  have hsz := Hb1.out.size
  simp only [World.size_alloc] at hsz
  have hset : setAt (esCells es) (i * 19 + 6) cs = esCells (es.set i (y, m)) := setAt_flat ecell_len Hi.out 6 cs (by omega) (by rw [Hcs.out]; rfl)
  have hM := set_entry (w' := w1.drew.setCells g (i * 19 + 6) cs) HM1.out Hi.out hset (ownsRow_setCells cs (i * 19 + 6) w1.drew (esCells es) (HM1.out.row.drew))
  go_returns
  refine ⟨rfl, hM.1, ?_⟩
  have h1 : Turned (msBlocks sb (.slice (some ⟨g, 0, none⟩) es.length cap) ix) w w1 := (((Turned.refl _ _).alloc _).alloc _).trans ((Turned.of_below Hb1.out).mono (fun k hk hs => by simp at hk hs; omega))
  exact h1.trans (hM.2.mono (fun k _ hk => .inr (.inr (by rw [hk]; rfl))))

end Go.Proofs.Qxb6003667a
