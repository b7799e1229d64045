/-
  (*markSet).set (49) at a new wave.
-/
import Derived.Test.Qxb6003667aMs7
import Derived.Deep.AppendLies
import Derived.Deep.RegionLaw
import Derived.Deep.DeepCutAuto
namespace Go.Proofs.Qxb6003667a
open Go.RowKit Go.WideMaps Go.Maps
set_option linter.unusedSimpArgs false
set_option linter.unusedVariables false
attribute [local go_sem ↓] Go.wp_at_zero Go.wp_at_succ

theorem Try.info119 : (Try.prog.info? 119).map (fun i => (i.zero, i.size, i.bytes)) = some (some (.agg #[.string ⟨#[]⟩, .string ⟨#[]⟩, .int .u64 0, .int .u64 0, .int .i64 0, .bool false, .pointer none, .string ⟨#[]⟩, .int .i64 0, .string ⟨#[]⟩, .int .u64 0, .bool false, .bool false, .slice none 0 0, .pointer none, .bool false, .bool false, .int .u64 0, .pointer none]), 19, 184) := by kernel_rfl

theorem range_of_box {w : World} {b : Nat} {cs : List Value} {e : TypeId} (h : w.heap[b]? = some (.cells cs.toArray e (0, 0))) : w.rangeAt b 0 cs := fun j v hv => by
  rw [cell_of_row w _ _ _ e (0, 0) h]
  simpa using hv

/-- The two boxes and the set's own block, as they stand while an entry is appended. -/
def Boxes (b sb : Nat) (A0 A1 A2 : Array Value) (w : World) : Prop := w.heap[b]? = some (.cells A0 35 (0, 0)) ∧ w.heap[b + 1]? = some (.cells A1 94 (0, 0)) ∧ w.heap[sb]? = some (.cells A2 78 (0, 0))
def BoxS (b sb : Nat) (A0 A1 A2 : Array Value) (w : World) : Prop := Boxes b sb A0 A1 A2 w ∧ (∀ j, w.cell? ⟨b, j, none⟩ = A0[j]?) ∧ (∀ j, w.cell? ⟨b + 1, j, none⟩ = A1[j]?) ∧ (∀ j, w.cell? ⟨sb, j, none⟩ = A2[j]?) ∧ (∀ j, w.frozen? ⟨sb, j, none⟩ = false)
theorem boxS {b sb : Nat} {A0 A1 A2 : Array Value} {w : World} (h : Boxes b sb A0 A1 A2 w) : BoxS b sb A0 A1 A2 w :=
  ⟨h, fun j => cell_of_row w b j _ 35 (0, 0) h.1, fun j => cell_of_row w (b + 1) j _ 94 (0, 0) h.2.1, fun j => cell_of_row w sb j _ 78 (0, 0) h.2.2, fun j => frozen_of_row w sb j _ 78 h.2.2⟩
theorem Boxes.alloc {b sb : Nat} {A0 A1 A2 : Array Value} {w : World} (h : Boxes b sb A0 A1 A2 w) (o : Obj) : Boxes b sb A0 A1 A2 (w.alloc o) := ⟨heap_old h.1, heap_old h.2.1, heap_old h.2.2⟩
theorem Boxes.drew {b sb : Nat} {A0 A1 A2 : Array Value} {w : World} (h : Boxes b sb A0 A1 A2 w) : Boxes b sb A0 A1 A2 w.drew := h
theorem Boxes.grown {b sb : Nat} {A0 A1 A2 : Array Value} {w w' : World} {row : Option Nat} (h : Boxes b sb A0 A1 A2 w) (hg : w.grownBy w' row) (h1 : row ≠ some b) (h2 : row ≠ some (b + 1)) (h3 : row ≠ some sb) : Boxes b sb A0 A1 A2 w' :=
  ⟨(hg.block _ (Array.getElem?_eq_some_iff.1 h.1).1 (Ne.symm h1)).trans h.1, (hg.block _ (Array.getElem?_eq_some_iff.1 h.2.1).1 (Ne.symm h2)).trans h.2.1, (hg.block _ (Array.getElem?_eq_some_iff.1 h.2.2).1 (Ne.symm h3)).trans h.2.2⟩

theorem Boxes.own {b sb : Nat} {A0 A1 A2 : Array Value} {w : World} (h : Boxes b sb A0 A1 A2 w) : (∀ j, w.cell? ⟨sb, j, none⟩ = A2[j]?) ∧ (∀ j, w.frozen? ⟨sb, j, none⟩ = false) := ⟨(boxS h).2.2.2.1, (boxS h).2.2.2.2⟩

/-- Behind the append: the entries' field holds the new row; the index is as it was. -/
structure Appended (B : Nat) (w wc : World) (sb : Nat) (ev : Value) (ix : Option Nat) (es : List (Nat × Int)) (A0 : Array Value) : Prop where
  ex : ∃ g cap, wc.heap[sb]? = some (.cells #[.slice (some ⟨g, 0, none⟩) es.length cap, .map ix] 78 (0, 0)) ∧ wc.ownsRow B 119 19 (.slice (some ⟨g, 0, none⟩) es.length cap) es.length (esCells es)
  box : wc.heap[w.heap.size]? = some (.cells A0 35 (0, 0))
  turned : Turned (fun k => k = sb ∨ ev.ownBlock = some k) w wc

theorem appended_mk {B : Nat} {w w1 w2 : World} {sb g2 cap2 : Nat} {ev : Value} {ix : Option Nat} {es : List (Nat × Int)} {A0 A1 A2 : Array Value} {xs : List Value} {e : Nat × Int} {o : Obj} (hM : MSet B w1 sb ev ix es) (hbx : Boxes w.heap.size sb A0 A1 A2 w2) (hA : A2 = #[ev, .map ix])
    (hT : Turned (fun k => k = sb ∨ ev.ownBlock = some k) w w1) (hg : (w1.alloc o).drew.grownBy w2 ev.ownBlock) (hx : xs = esCells es ++ ecell e)
    (hown : w2.ownsRow B 119 19 (.slice (some ⟨g2, 0, none⟩) (es.length + 1) cap2) (es.length + 1) xs) :
    Appended B w (w2.setCell ⟨sb, 0, none⟩ (.slice (some ⟨g2, 0, none⟩) (es.length + 1) cap2)) sb ev ix (es ++ [e]) A0 := by
  have hgs : g2 ≠ sb := fun eq => by
    obtain ⟨cur, hc, _⟩ := row_block hown (k := g2) rfl
    rw [eq, hbx.2.2] at hc
    simp at hc
  have hls : (es ++ [e]).length = es.length + 1 := by simp
  have hcs : esCells (es ++ [e]) = esCells es ++ ecell e := by simp [esCells]
  refine ⟨⟨g2, cap2, ?_, ?_⟩, ?_, ?_⟩
  · rw [hls, heap_setCell_same w2 sb 0 _ 78 _ hbx.2.2, hA]
    rfl
  · rw [hls, hcs, ← hx]
    exact (Turned.setCell (S := fun k => k = sb) (Turned.refl _ _) (p := ⟨sb, 0, none⟩) rfl _).ownsRow hown (fun k hk => by simp [Value.ownBlock] at hk; subst hk; exact hgs)
  · rw [Below.heap_setCell _ _ _ _ (fun eq : w.heap.size = sb => by rw [← eq] at hbx; have := hbx.2.2; rw [hbx.1] at this; simp at this)]
    exact hbx.1
  · exact ((hT.alloc o).drew.grown hg (fun k hk => .inr hk)).setCell (.inl rfl) _

theorem IsWave.ecell {y : Nat} {s' t' : ByteArray} {q' : Int} (hy : IsWave y s' t' q') (m : Int) : Go.Proofs.Qxb6003667a.ecell (y, m) = [.string s', .string t', .int .u64 q', .int .u64 1, .int .i64 0, .bool false, .pointer none, .string ⟨#[]⟩, .int .i64 0, .string ⟨#[]⟩, .int .u64 0, .bool false, .bool false, .slice none 0 0, .pointer none, .bool false, .bool false, .int .u64 m, .pointer none] := by
  unfold Go.Proofs.Qxb6003667a.ecell
  rw [hy.cells]
  rfl

theorem idx_kept {B : Nat} {w wc : World} {sb ib : Nat} {ev : Value} {es : List (Nat × Int)} (h : MSet B w sb ev (some ib) es) (hT : Turned (fun k => k = sb ∨ ev.ownBlock = some k) w wc) : IdxFun wc ib es.length (plc es) := by
  obtain ⟨h1, _⟩ := h.idx ib rfl
  refine h1.kept hT ?_
  obtain ⟨D, ⟨es', clock, hb, _⟩, _⟩ := h1
  rintro (rfl | hk)
  · have := h.cells; rw [hb] at this; simp at this
  · obtain ⟨cur, hc, _⟩ := row_block h.row hk; rw [hb] at hc; simp at hc

theorem keys_snoc {es : List (Nat × Int)} {y : Nat} {m : Int} (hnd : (es.map (·.1)).Nodup) (hno : y ∉ es.map (·.1)) : ((es ++ [(y, m)]).map (·.1)).Nodup := by
  rw [List.map_append, List.nodup_append]
  exact ⟨hnd, by simp, fun a ha b hb => by simp at hb; subst hb; exact fun e => hno (e ▸ ha)⟩

/-- No index, and few entries still. -/
theorem mset_few {B : Nat} {w wc : World} {sb g cap' : Nat} {ev : Value} {es : List (Nat × Int)} {y : Nat} {m : Int} (h : MSet B w sb ev none es) (hno : y ∉ es.map (·.1)) (hy : y < 32)
    (hsb : wc.heap[sb]? = some (.cells #[.slice (some ⟨g, 0, none⟩) (es.length + 1) cap', .map none] 78 (0, 0))) (hrow : wc.ownsRow B 119 19 (.slice (some ⟨g, 0, none⟩) (es.length + 1) cap') (es.length + 1) (esCells (es ++ [(y, m)])))
    (hT : Turned (fun k => k = sb ∨ ev.ownBlock = some k) w wc) :
    MSet B wc sb (.slice (some ⟨g, 0, none⟩) (es.length + 1) cap') none (es ++ [(y, m)]) ∧ Turned (msBlocks sb ev none) w wc := by
  refine ⟨⟨hsb, by simpa using hrow, keys_snoc h.nodup hno, ?_, fun ib hib => by simp at hib, h.bs⟩, hT.mono (fun k _ hk => hk.elim .inl (fun h => .inr (.inr h)))⟩
  intro e he
  rcases List.mem_append.1 he with he | he
  · exact h.lt e he
  · simp at he; subst he; exact hy

theorem plc_snoc {es : List (Nat × Int)} {y : Nat} {m : Int} (hno : y ∉ es.map (·.1)) (k : Nat) : plc (es ++ [(y, m)]) k = if k = y then some es.length else plc es k := by
  unfold plc
  rw [List.map_append, List.findIdx?_append]
  by_cases hk : k = y
  · subst hk
    have h1 : (es.map (·.1)).findIdx? (· == k) = none := by
      rw [List.findIdx?_eq_none_iff]
      intro x hx
      simp only [beq_eq_false_iff_ne]
      exact fun e => hno (e ▸ hx)
    rw [h1]
    simp
  · rw [if_neg hk]
    cases h : (es.map (·.1)).findIdx? (· == k) with
    | some i => simp
    | none => simpa using fun e : y = k => hk e.symm

/-- An index that has got the new wave. -/
theorem mset_idx {B : Nat} {w wc w3 : World} {sb ib g cap' : Nat} {ev : Value} {es : List (Nat × Int)} {y : Nat} {m : Int} {D : DataW Unit} (h : MSet B w sb ev (some ib) es) (hno : y ∉ es.map (·.1)) (hy : y < 32)
    (hsb : wc.heap[sb]? = some (.cells #[.slice (some ⟨g, 0, none⟩) (es.length + 1) cap', .map (some ib)] 78 (0, 0))) (hrow : wc.ownsRow B 119 19 (.slice (some ⟨g, 0, none⟩) (es.length + 1) cap') (es.length + 1) (esCells (es ++ [(y, m)])))
    (hT : Turned (fun k => k = sb ∨ ev.ownBlock = some k) w wc) (h1 : wc.ownsMap Try.prog 35 (plainElem Try.prog 3) ib es.length D) (h2 : Maps.size D = es.length) (h3 : ∀ k, k < 32 → AtKey D k (plc es k))
    (hown3 : w3.ownsMap Try.prog 35 (plainElem Try.prog 3) ib (es.length + 1) (D.put (wlit y) (.lit (.int .i64 (es.length : Int))))) (hg : wc.drew.grownBy w3 (some ib)) :
    MSet B w3 sb (.slice (some ⟨g, 0, none⟩) (es.length + 1) cap') (some ib) (es ++ [(y, m)]) ∧ Turned (msBlocks sb ev (some ib)) w w3 := by
  have hT3 : Turned (fun k => k = ib) wc w3 := (Turned.refl _ _).drew.grown hg (fun k hk => by simpa using hk.symm)
  obtain ⟨es', clock, hib, _⟩ := h1
  have hs : sb ≠ ib := fun e => by rw [e, hib] at hsb; simp at hsb
  have hgi : g ≠ ib := fun e => by
    obtain ⟨cur, hc, _⟩ := row_block hrow (k := g) rfl
    rw [e, hib] at hc; simp at hc
  have hf : plc es y = none := by
    unfold plc
    rw [List.findIdx?_eq_none_iff]
    intro x hx
    simp only [beq_eq_false_iff_ne]
    exact fun e => hno (e ▸ hx)
  have hI := IdxFun.put (i := es.length) ⟨es', clock, hib, by assumption⟩ h2 h3 hy hown3
  rw [hf] at hI
  have hI' : IdxFun w3 ib (es ++ [(y, m)]).length (plc (es ++ [(y, m)])) := by
    have : (es ++ [(y, m)]).length = es.length + 1 := by simp
    rw [this]
    exact hI.congr (fun k _ => (plc_snoc hno k).symm)
  refine ⟨⟨hT3.heap hsb hs, hT3.ownsRow (by simpa using hrow) (fun k hk => by simp [Value.ownBlock] at hk; subst hk; exact hgi), keys_snoc h.nodup hno, ?_, fun ib' hib' => ?_, h.bs⟩, ?_⟩
  · intro e he
    rcases List.mem_append.1 he with he | he
    · exact h.lt e he
    · simp at he; subst he; exact hy
  · simp at hib'
    subst hib'
    exact ⟨hI', (h.idx ib rfl).2⟩
  · exact (hT.mono (fun k _ hk => hk.elim .inl (fun h => .inr (.inr h)))).trans (hT3.mono (fun k _ hk => .inr (.inl (by rw [hk]))))

theorem make76 (n : Int) (w : World) : (Instr.makeMap 76 (some (.int .i64 n))).run Try.prog w = .ok (.map (some w.heap.size)) (w.alloc (.map #[] 0)) := by
  simp [Instr.makeMap, run_underlying Try.underlying76, asInt, asIntOf, Result.andThen]

/-- While the index is filled: k entries are in it. -/
structure Filling (B : Nat) (w wr : World) (sb g cap' ib : Nat) (ev : Value) (es : List (Nat × Int)) (k : Nat) : Prop where
  cells : wr.heap[sb]? = some (.cells #[.slice (some ⟨g, 0, none⟩) es.length cap', .map (some ib)] 78 (0, 0))
  row : wr.ownsRow B 119 19 (.slice (some ⟨g, 0, none⟩) es.length cap') es.length (esCells es)
  idx : IdxFun wr ib k (plc (es.take k))
  bi : B ≤ ib
  turned : Turned (fun k => k = sb ∨ ev.ownBlock = some k) w wr
  il : w.heap.size ≤ ib
  nodup : (es.map (·.1)).Nodup
  lt : ∀ e ∈ es, e.1 < 32
  bs : B ≤ sb

theorem filling_start {B : Nat} {w wc : World} {sb g cap' : Nat} {ev : Value} {es : List (Nat × Int)} {y : Nat} {m : Int} (h : MSet B w sb ev none es) (hno : y ∉ es.map (·.1)) (hy : y < 32)
    (hsb : wc.heap[sb]? = some (.cells #[.slice (some ⟨g, 0, none⟩) (es.length + 1) cap', .map none] 78 (0, 0))) (hrow : wc.ownsRow B 119 19 (.slice (some ⟨g, 0, none⟩) (es.length + 1) cap') (es.length + 1) (esCells (es ++ [(y, m)])))
    (hT : Turned (fun k => k = sb ∨ ev.ownBlock = some k) w wc) :
    Filling B w ((wc.setCell ⟨sb, 1, none⟩ (.map (some wc.heap.size))).alloc (.map #[] 0)) sb g cap' wc.heap.size ev (es ++ [(y, m)]) 0 := by
  have hl : (es ++ [(y, m)]).length = es.length + 1 := by simp
  have hgs : g ≠ sb := fun e => by
    obtain ⟨cur, hc, _⟩ := row_block hrow (k := g) rfl
    rw [e, hsb] at hc; simp at hc
  have hsl : sb < wc.heap.size := (Array.getElem?_eq_some_iff.1 hsb).1
  have hBs := h.bs
  refine ⟨?_, ?_, ?_, by omega, (hT.setCell (.inl rfl) _).alloc _, hT.size, keys_snoc h.nodup hno, ?_, h.bs⟩
  · rw [hl]
    refine heap_old ?_
    rw [heap_setCell_same wc sb 1 _ 78 _ hsb]
    rfl
  · rw [hl]
    exact ((Turned.setCell (S := fun k => k = sb) (Turned.refl _ _) (p := ⟨sb, 1, none⟩) rfl _).ownsRow hrow (fun k hk => by simp [Value.ownBlock] at hk; subst hk; exact hgs)).alloc _
  · refine ⟨.map [], ⟨#[], 0, heap_at (by simp), ⟨by simp, MapKept.stamped_empty 0, by simp⟩, Nat.le_refl _, rfl⟩, rfl, fun k _ => ?_⟩
    show AtKey _ k (plc [] k)
    rfl
  · intro e he
    rcases List.mem_append.1 he with he | he
    · exact h.lt e he
    · simp at he; subst he; exact hy

/-- Behind a change: a mark set again, in the same block; nothing else that was there has turned. -/
def SetPost (B : Nat) (w w' : World) (sb : Nat) (ev : Value) (ix : Option Nat) (es : List (Nat × Int)) : Prop := ∃ ev' ix', MSet B w' sb ev' ix' es ∧ Turned (msBlocks sb ev ix) w w'

theorem take_snoc' {α : Type} {l : List α} {k : Nat} {x : α} (h : l[k]? = some x) : l.take (k + 1) = l.take k ++ [x] := by rw [List.take_add_one, h]; rfl

theorem filling_step {B : Nat} {w wr w3 : World} {sb g cap' ib k x : Nat} {m1 : Int} {ev : Value} {es : List (Nat × Int)} {D : DataW Unit} {o : Obj} (h : Filling B w wr sb g cap' ib ev es k) (he : es[k]? = some (x, m1)) (hx : x < 32)
    (h1 : wr.ownsMap Try.prog 35 (plainElem Try.prog 3) ib k D) (h2 : Maps.size D = k) (h3 : ∀ y, y < 32 → AtKey D y (plc (es.take k) y))
    (hown3 : w3.ownsMap Try.prog 35 (plainElem Try.prog 3) ib (k + 1) (D.put (wlit x) (.lit (.int .i64 (k : Int))))) (hg : (wr.alloc o).drew.grownBy w3 (some ib)) : Filling B w w3 sb g cap' ib ev es (k + 1) := by
  have hT3 : Turned (fun k => k = ib) wr w3 := ((Turned.refl _ _).alloc o).drew.grown hg (fun k hk => by simpa using hk.symm)
  obtain ⟨es', clock, hib, _⟩ := h1
  have hs : sb ≠ ib := fun e => by have := h.cells; rw [e, hib] at this; simp at this
  have hgi : g ≠ ib := fun e => by
    obtain ⟨cur, hc, _⟩ := row_block h.row (k := g) rfl
    rw [e, hib] at hc; simp at hc
  have hkl : k < es.length := (List.getElem?_eq_some_iff.1 he).1
  have hno : x ∉ (es.take k).map (·.1) := by
    intro hm
    obtain ⟨j, hj⟩ := List.getElem?_of_mem hm
    have hjk : j < k := by
      have := (List.getElem?_eq_some_iff.1 hj).1
      simp at this; omega
    have hj' : (es.map (·.1))[j]? = some x := by
      rw [List.map_take, List.getElem?_take_of_lt hjk] at hj
      exact hj
    have hk' : (es.map (·.1))[k]? = some x := by simp [he]
    have := (List.getElem?_inj (by simp; omega) h.nodup).1 (hj'.trans hk'.symm)
    omega
  have hf : plc (es.take k) x = none := by
    unfold plc
    rw [List.findIdx?_eq_none_iff]
    intro x' hx'
    simp only [beq_eq_false_iff_ne]
    exact fun e => hno (e ▸ hx')
  have hI := IdxFun.put (i := k) ⟨es', clock, hib, by assumption⟩ h2 h3 hx hown3
  rw [hf] at hI
  have hlen : (es.take k).length = k := by simp; omega
  refine ⟨hT3.heap h.cells hs, hT3.ownsRow h.row (fun k hk => by simp [Value.ownBlock] at hk; subst hk; exact hgi), hI.congr (fun y _ => ?_), h.bi, ?_, h.il, h.nodup, h.lt, h.bs⟩
  · rw [take_snoc' he, plc_snoc hno, hlen]
  · have hT := h.turned
    have hil := h.il
    exact ⟨hT3.os.trans hT.os, hT3.tape.trans hT.tape, hT3.output.trans hT.output, Nat.le_trans hT.size hT3.size, fun i hi hn => (hT3.block i (Nat.lt_of_lt_of_le hi hT.size) (by omega)).trans (hT.block i hi hn)⟩

theorem filling_end {B : Nat} {w wr : World} {sb g cap' ib : Nat} {ev : Value} {es : List (Nat × Int)} {n : Nat} (h : Filling B w wr sb g cap' ib ev es n) (hn : n = es.length) : SetPost B w wr sb ev none es := by
  subst hn
  refine ⟨_, some ib, ⟨h.cells, h.row, h.nodup, h.lt, fun ib' hib' => ?_, h.bs⟩, h.turned.mono (fun k _ hk => hk.elim .inl (fun h => .inr (.inr h)))⟩
  simp at hib'
  subst hib'
  have := h.idx
  rw [List.take_length] at this
  exact ⟨this, h.bi⟩

set_option maxHeartbeats 4000000 in
set_option maxRecDepth 100000 in
theorem set49_new {B : Nat} {w : World} {sb : Nat} {ev : Value} {ix : Option Nat} {es : List (Nat × Int)} (h : MSet B w sb ev ix es) {y : Nat} (hy32 : y < 32) {s' t' : ByteArray} {q' m : Int} (hy : IsWave y s' t' q') (hno : y ∉ es.map (·.1)) (hB : B ≤ w.heap.size) :
    Calls Try.prog 49 #[.pointer (some ⟨sb, 0, none⟩), .agg #[.string s', .string t', .int .u64 q', .int .u64 1, .int .i64 0, .bool false], .agg (mcells m).toArray] w fun e w' =>
      e = .returned (.tuple #[]) ∧ SetPost B w w' sb ev ix (es ++ [(y, m)]) := by
  have hl := h.len
  have hf : findKey es y = -1 := findKey_not hno
  have q76 : ∀ (w : World) (r : Option Nat), (binOp .neq 76 (.map r) (.map none)).run Try.prog w = .ok (.bool (!r.isNone)) w := fun w r => run_neq_map_nil w _ _ _ r Try.underlying76
  have H60 := toHid (find60 ((h.alloc (.cells #[.string s', .string t', .int .u64 q', .int .u64 1, .int .i64 0, .bool false] 35)).alloc (.cells (mcells m).toArray 94)) hy32 hy)
  rw [hf] at H60
  obtain ⟨i0, hi0, hz0, hz1, hz2⟩ := info_parts Try.info119
  obtain ⟨ao, cap, rfl⟩ := h.shape
  have H := toHid h
  have Hy := toHid hy
  have Hno := toHid hno
  clear h hf hy hno
  go_enter Try.func49, Try.ntmps49
  go_wp2_with (first | (go_at_call 60; refine H60.out.mono ?_; rintro e w1 ⟨rfl, hb1⟩))
  have hM1 : MSet B w1 sb (.slice ao es.length cap) ix es := ((H.out.alloc _).alloc _).below hb1 (by simp)
  have hbx : Boxes w.heap.size sb #[.string s', .string t', .int .u64 q', .int .u64 1, .int .i64 0, .bool false] #[.pointer none, .string ⟨#[]⟩, .int .i64 0, .string ⟨#[]⟩, .int .u64 0, .bool false, .bool false, .slice none 0 0, .pointer none, .bool false, .bool false, .int .u64 m, .pointer none] #[.slice ao es.length cap, .map ix] w1 :=
    ⟨heap_below hb1 (by simp only [World.size_alloc]; omega) (heap_old (heap_at rfl)), heap_below hb1 (by simp) (heap_at (by simp)), hM1.cells⟩
  have hap : Value.ownBlock (.slice ao es.length cap) ≠ some w.heap.size ∧ Value.ownBlock (.slice ao es.length cap) ≠ some (w.heap.size + 1) ∧ Value.ownBlock (.slice ao es.length cap) ≠ some sb := by
    refine ⟨fun e => ?_, fun e => ?_, fun e => ?_⟩
    · obtain ⟨cur, hc, _⟩ := row_block hM1.row e; rw [hbx.1] at hc; simp at hc
    · obtain ⟨cur, hc, _⟩ := row_block hM1.row e; rw [hbx.2.1] at hc; simp at hc
    · obtain ⟨cur, hc, _⟩ := row_block hM1.row e; rw [hbx.2.2] at hc; simp at hc
  obtain ⟨_, cw, cm, csb, fsb⟩ := boxS hbx
  have csbA : ∀ o j, (w1.alloc o).cell? ⟨sb, j, none⟩ = (#[Value.slice ao es.length cap, .map ix] : Array Value)[j]? := fun o j => (boxS (hbx.alloc o)).2.2.2.1 j
  have Hap := toHid hap
  have Hbx := toHid hbx
  have HM1 := toHid hM1
  have hs1 := hb1.size
  simp only [World.size_alloc] at hs1
  have HT1 := toHid (show Turned (fun k => k = sb ∨ Value.ownBlock (.slice ao es.length cap) = some k) w w1 from (((Turned.refl _ _).alloc _).alloc _).trans ((Turned.of_below hb1).mono (fun k hk hs => by simp at hk hs; omega)))
  clear hM1 hb1 hap hbx
  go_cut [] (fun wc => Appended B w wc sb (.slice ao es.length cap) ix (es ++ [(y, m)]) #[.string s', .string t', .int .u64 q', .int .u64 1, .int .i64 0, .bool false])
  case first =>
    go_region_law ((refine step_append_lies _ (by rfl) _ _ _ (by rfl) B 119 i0 _ 19 184 Try.underlying75 hi0 hz0 hz1 hz2 rfl (by omega) (.slice ao es.length cap) es.length (esCells es) (by rfl) ((HM1.out.row.alloc _).drew) ⟨w1.heap.size, 0, none⟩ 1 1 [.string s', .string t', .int .u64 q', .int .u64 1, .int .i64 0, .bool false, .pointer none, .string ⟨#[]⟩, .int .i64 0, .string ⟨#[]⟩, .int .u64 0, .bool false, .bool false, .slice none 0 0, .pointer none, .bool false, .bool false, .int .u64 m, .pointer none] (by rfl) (by rfl) (World.news_of_block (cs := #[.string s', .string t', .int .u64 q', .int .u64 1, .int .i64 0, .bool false, .pointer none, .string ⟨#[]⟩, .int .i64 0, .string ⟨#[]⟩, .int .u64 0, .bool false, .bool false, .slice none 0 0, .pointer none, .bool false, .bool false, .int .u64 m, .pointer none]) (t := 119) (fr := (0, 0)) (heap_alloc_new w1 _)) (by simp [Value.oneCell']) (by omega) (by unfold maxLen; omega) (by omega) (by simp; omega) (w1.heap.size + 1) (by simp) ?_; intro g2 cap2 w2 hown2 hgrow hat hlt2; obtain ⟨csb2, fsb2⟩ := Boxes.own (Boxes.grown (Boxes.drew (Boxes.alloc Hbx.out _)) hgrow Hap.out.1 Hap.out.2.1 Hap.out.2.2)))
    all_goals
      go_wp2_with fail
      go_meet
      exact appended_mk (e := (y, m)) HM1.out (Boxes.grown (Boxes.drew (Boxes.alloc Hbx.out _)) hgrow Hap.out.1 Hap.out.2.1 Hap.out.2.2) rfl HT1.out hgrow (by rw [Hy.out.ecell m]) hown2
  case rest =>
    clear cw cm csb fsb csbA hs1 hi0 hz0 hz1 hz2 H60
    obtain ⟨⟨g, cap', hsb, hrow⟩, hbw, hT⟩ := hcut
    have hlen : (es ++ [(y, m)]).length = es.length + 1 := by simp
    rw [hlen] at hsb hrow
    have csb : ∀ j, wc.cell? ⟨sb, j, none⟩ = (#[Value.slice (some ⟨g, 0, none⟩) (es.length + 1) cap', .map ix] : Array Value)[j]? := fun j => cell_of_row wc sb j _ 78 (0, 0) hsb
    have Hsb := toHid hsb
    have Hrow := toHid hrow
    have Hbw := toHid hbw
    have HT := toHid hT
    clear hsb hrow hbw hT hlen
    cases ix with
    | none =>
      by_cases hfew : es.length + 1 ≤ 8
      · go_wp2
        go_returns
        exact ⟨rfl, _, none, mset_few H.out Hno.out hy32 Hsb.out Hrow.out HT.out⟩
      · have fsb : ∀ j, wc.frozen? ⟨sb, j, none⟩ = false := fun j => frozen_of_row wc sb j _ 78 Hsb.out
        have hmm := make76
        have h8 : decide ((8 : Int) < (es.length : Int) + 1) = true := by rw [decide_eq_true_iff]; omega
        have hsbl : sb < wc.heap.size := (Array.getElem?_eq_some_iff.1 Hsb.out).1
        have hstart := filling_start H.out Hno.out hy32 Hsb.out Hrow.out HT.out
        have hu119 := Try.underlying119
        have hi119 : (Try.prog.info? 119).map (·.size) = some 19 := by kernel_rfl
        have Hi119 := toHid hi119
        have Hu119 := toHid hu119
        have Hstart := toHid hstart
        clear hi119 hu119 hstart
        go_wp2
        go_loopw [70] (fun i wr => ∃ k : Nat, k ≤ es.length + 1 ∧ i = .int .i64 k ∧ Filling B w wr sb g cap' wc.heap.size (.slice ao es.length cap) (es ++ [(y, m)]) k) (fun i _ => es.length + 1 - (intOf i).toNat)
        case atStart => exact ⟨0, Nat.zero_le _, rfl, Hstart.out⟩
        case round =>
          obtain ⟨k, hk, rfl, hfill⟩ := hrel
          have HF := toHid hfill
          clear hfill
          by_cases hlt : k < es.length + 1
          · obtain ⟨⟨x, m1⟩, he⟩ : ∃ e, (es ++ [(y, m)])[k]? = some e := ⟨_, List.getElem?_eq_getElem (by simp; omega)⟩
            obtain ⟨s1, t1, q1, hx⟩ : ∃ s1 t1 q1, IsWave x s1 t1 q1 := ⟨_, _, _, isWave_mk x⟩
            have hx32 : x < 32 := HF.out.lt (x, m1) (List.mem_of_getElem? he)
            have hrange : wr.rangeAt g (k * 19) [.string s1, .string t1, .int .u64 q1, .int .u64 1, .int .i64 0, .bool false, .pointer none, .string ⟨#[]⟩, .int .i64 0, .string ⟨#[]⟩, .int .u64 0, .bool false, .bool false, .slice none 0 0, .pointer none, .bool false, .bool false, .int .u64 m1, .pointer none] := by
              have := entry_at HF.out.row he
              rw [hx.ecell m1] at this
              exact this
            have hkey := key_of_isWave hx32 hx
            obtain ⟨D, hD1, hD2, hD3⟩ := HF.out.idx
            have csb : ∀ j, wr.cell? ⟨sb, j, none⟩ = (#[Value.slice (some ⟨g, 0, none⟩) (es.length + 1) cap', .map (some wc.heap.size)] : Array Value)[j]? := fun j => by
              have := cell_of_row wr sb j _ 78 (0, 0) HF.out.cells
              rw [this]; simp
            have hsbl : sb < wr.heap.size := (Array.getElem?_eq_some_iff.1 HF.out.cells).1
            have hwf : (Lit.int .i64 (k : Int)).wf = true := WalkArith.wf_i64 (by omega)
            have HD := toHid (And.intro hD2 hD3)
            have He := toHid he
            have Hx := toHid hx
            clear hD2 hD3 he hx
            go_wp2_with (first
              | (refine wpList_load_mid rfl 119 _ rfl g (k * 19) rfl [.string s1, .string t1, .int .u64 q1, .int .u64 1, .int .i64 0, .bool false, .pointer none, .string ⟨#[]⟩, .int .i64 0, .string ⟨#[]⟩, .int .u64 0, .bool false, .bool false, .slice none 0 0, .pointer none, .bool false, .bool false, .int .u64 m1, .pointer none] _ hrange Hu119.out rfl Hi119.out ?_)
              | (refine wpList_store_mid rfl 119 _ _ rfl wr.heap.size 0 #[.string s1, .string t1, .int .u64 q1, .int .u64 1, .int .i64 0, .bool false, .pointer none, .string ⟨#[]⟩, .int .i64 0, .string ⟨#[]⟩, .int .u64 0, .bool false, .bool false, .slice none 0 0, .pointer none, .bool false, .bool false, .int .u64 m1, .pointer none] rfl rfl (there_new wr 119 #[.string ⟨#[]⟩, .string ⟨#[]⟩, .int .u64 0, .int .u64 0, .int .i64 0, .bool false, .pointer none, .string ⟨#[]⟩, .int .i64 0, .string ⟨#[]⟩, .int .u64 0, .bool false, .bool false, .slice none 0 0, .pointer none, .bool false, .bool false, .int .u64 0, .pointer none] 19 rfl) Hi119.out (by simp [Value.oneCell']) ?_; generalize hW1 : World.setCells _ _ _ _ = W1))
            rw [alloc_setCells_all wr 119 [.string s1, .string t1, .int .u64 q1, .int .u64 1, .int .i64 0, .bool false, .pointer none, .string ⟨#[]⟩, .int .i64 0, .string ⟨#[]⟩, .int .u64 0, .bool false, .bool false, .slice none 0 0, .pointer none, .bool false, .bool false, .int .u64 m1, .pointer none] [.string ⟨#[]⟩, .string ⟨#[]⟩, .int .u64 0, .int .u64 0, .int .i64 0, .bool false, .pointer none, .string ⟨#[]⟩, .int .i64 0, .string ⟨#[]⟩, .int .u64 0, .bool false, .bool false, .slice none 0 0, .pointer none, .bool false, .bool false, .int .u64 0, .pointer none] rfl] at hW1
            have csb1 : ∀ j, W1.cell? ⟨sb, j, none⟩ = (#[Value.slice (some ⟨g, 0, none⟩) (es.length + 1) cap', .map (some wc.heap.size)] : Array Value)[j]? := fun j => by
              rw [← hW1]
              have := cell_of_row _ sb j _ 78 (0, 0) (heap_old (o := .cells #[Value.string s1, .string t1, .int .u64 q1, .int .u64 1, .int .i64 0, .bool false, .pointer none, .string ⟨#[]⟩, .int .i64 0, .string ⟨#[]⟩, .int .u64 0, .bool false, .bool false, .slice none 0 0, .pointer none, .bool false, .bool false, .int .u64 m1, .pointer none] 119) HF.out.cells)
              rw [this]; simp
            have cbx : ∀ j, W1.cell? ⟨wr.heap.size, j, none⟩ = (#[Value.string s1, .string t1, .int .u64 q1, .int .u64 1, .int .i64 0, .bool false, .pointer none, .string ⟨#[]⟩, .int .i64 0, .string ⟨#[]⟩, .int .u64 0, .bool false, .bool false, .slice none 0 0, .pointer none, .bool false, .bool false, .int .u64 m1, .pointer none] : Array Value)[j]? := fun j => by
              rw [← hW1]
              exact cell_of_row _ wr.heap.size j _ 119 (0, 0) (heap_at rfl)
            have HW1 := toHid hW1
            clear hW1 csb hrange
            refine wp_region_still_tail 7 mixedT (by kernel_rfl) ?_
            simp only [List.take_succ_cons, List.take_zero, List.drop_succ_cons, List.drop_zero]
            repeat still_step
            refine wpStill_nil ?_
            refine wpList_mapUpdate_own _ rfl _ _ _ 76 rfl 35 3 law35 Try.underlying76 _ wc.heap.size k D rfl (show (World.drew W1).ownsMap _ _ _ _ _ _ by rw [← HW1.out]; exact (hD1.alloc _)) (by unfold maxLen; omega) _ _ (wlit x) rfl rfl hkey _ [] (plainElem_int Try.underlying3 hwf) ?_
            intro w3 hown3 hgrow3
            rw [← HW1.out] at hgrow3
            have hF3 := filling_step HF.out He.out hx32 hD1 HD.out.1 HD.out.2 hown3 hgrow3
            clear hown3 hgrow3 hD1
            go_wp2
            go_roundw
            case rel => exact ⟨k + 1, by omega, by go_num, hF3⟩
            case measure => simp [intOf]; omega
          · go_wp2
            go_returns
            obtain rfl : k = es.length + 1 := by omega
            exact ⟨rfl, filling_end HF.out (by simp)⟩
    | some ib =>
      have hidx : IdxFun wc ib es.length (plc es) := idx_kept H.out HT.out
      obtain ⟨D, hD1, hD2, hD3⟩ := hidx
      have hkey := key_of_isWave hy32 Hy.out
      have hwf : (Lit.int .i64 (es.length : Int)).wf = true := WalkArith.wf_i64 (by omega)
      have cbw : ∀ j, wc.cell? ⟨w.heap.size, j, none⟩ = (#[Value.string s', .string t', .int .u64 q', .int .u64 1, .int .i64 0, .bool false] : Array Value)[j]? := fun j => cell_of_row wc w.heap.size j _ 35 (0, 0) Hbw.out
      have hwr : IntKind.i64.wrap (es.length : Int) = (es.length : Int) := by simp [IntKind.wrap, IntKind.bits, IntKind.signed]; omega
      have HD := toHid (And.intro hD2 hD3)
      clear hD2 hD3
      go_wp2
      refine wp_region_still_tail 11 mixedT (by kernel_rfl) ?_
      simp only [List.take_succ_cons, List.take_zero, List.drop_succ_cons, List.drop_zero]
      repeat still_step
      refine wpStill_nil ?_
      refine wpList_mapUpdate_own _ rfl _ _ _ 76 rfl 35 3 law35 Try.underlying76 _ ib es.length D rfl (show (World.drew wc).ownsMap _ _ _ _ _ _ from hD1) (by unfold maxLen; omega) _ _ (wlit y) rfl rfl hkey _ [] (plainElem_int Try.underlying3 hwf) ?_
      intro w3 hown3 hgrow3
      go_wp2
      go_returns
      exact ⟨rfl, _, some ib, mset_idx H.out Hno.out hy32 Hsb.out Hrow.out HT.out hD1 HD.out.1 HD.out.2 hown3 hgrow3⟩

end Go.Proofs.Qxb6003667a
