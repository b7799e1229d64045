/-
  What the law's loop keeps: the two arrays and the mark set.
-/
import Derived.Test.Qxb6003667aMt6
namespace Go.Proofs.Qxb6003667a
open Go.RowKit Go.WideMaps Go.Maps
set_option linter.unusedSimpArgs false
set_option linter.unusedVariables false

/-- The two arrays and the set, as they lie. -/
structure Half (v wr : World) (P : List Bool) (M : List Int) (es : List (Nat × Int)) : Prop where
  below : Below v.heap.size v wr
  pb : wr.heap[v.heap.size]? = some (.cells (pcells P) 27 (0, 0))
  mb : wr.heap[v.heap.size + 1]? = some (.cells (ucells M) 29 (0, 0))
  set : ∃ ev ix, MSet (v.heap.size + 2) wr (v.heap.size + 2) ev ix es

theorem Half.later {v wr w' : World} {P : List Bool} {M : List Int} {es : List (Nat × Int)} (h : Half v wr P M es) (hb : Below wr.heap.size wr w') : Half v w' P M es := by
  obtain ⟨ev, ix, hM⟩ := h.set
  exact ⟨h.below.trans (hb.mono h.below.size), heap_below hb (Array.getElem?_eq_some_iff.1 h.pb).1 h.pb, heap_below hb (Array.getElem?_eq_some_iff.1 h.mb).1 h.mb, ev, ix, hM.below hb (Nat.le_refl _)⟩

theorem half_change {v wr w' : World} {P : List Bool} {M : List Int} {es : List (Nat × Int)} {ev : Value} {ix : Option Nat} {R : List (Nat × Int) → Prop} (h : Half v wr P M es) (hM : MSet (v.heap.size + 2) wr (v.heap.size + 2) ev ix es)
    (hs : SetTo (v.heap.size + 2) wr w' (v.heap.size + 2) ev ix R) : ∃ es', R es' ∧ (es'.map (·.1)).Nodup ∧ Half v w' P M es' := by
  obtain ⟨es', h1, ev', ix', h2, h3⟩ := hs
  have hlt : ∀ k, msBlocks (v.heap.size + 2) ev ix k → v.heap.size + 2 ≤ k := fun k hk => (hM.blk_lt k hk).1
  have hb : Below (v.heap.size + 2) wr w' := h3.below (by have := (hM.blk_lt _ (.inl rfl)).2; omega) (fun k hk hs => by have := hlt k hs; omega)
  exact ⟨es', h1, h2.nodup, h.below.trans (hb.mono (by omega)), heap_below hb (by omega) h.pb, heap_below hb (by omega) h.mb, ev', ix', h2⟩

theorem pcells_set (P : List Bool) (k : Nat) (x : Bool) : (pcells P).setIfInBounds k (.bool x) = pcells (P.set k x) := by simp [pcells]
theorem ucells_set (M : List Int) (k : Nat) (x : Int) : (ucells M).setIfInBounds k (.int .u64 x) = ucells (M.set k x) := by simp [ucells]

theorem Half.putP {v wr : World} {P : List Bool} {M : List Int} {es : List (Nat × Int)} (h : Half v wr P M es) (k : Nat) (x : Bool) : Half v (wr.setCell ⟨v.heap.size, k, none⟩ (.bool x)) (P.set k x) M es := by
  obtain ⟨ev, ix, hM⟩ := h.set
  have hT : Turned (fun j => j = v.heap.size) wr (wr.setCell ⟨v.heap.size, k, none⟩ (.bool x)) := Turned.setCell (S := fun j => j = v.heap.size) (Turned.refl _ _) (p := ⟨v.heap.size, k, none⟩) rfl _
  refine ⟨h.below.setCell (Nat.le_refl _) _, ?_, hT.heap h.mb (by omega), ev, ix, hM.kept hT (fun j hj e => by have := (hM.blk_lt j hj).1; omega)⟩
  rw [heap_setCell_same wr v.heap.size k _ 27 _ h.pb, pcells_set]

theorem Half.putM {v wr : World} {P : List Bool} {M : List Int} {es : List (Nat × Int)} (h : Half v wr P M es) (k : Nat) (x : Int) : Half v (wr.setCell ⟨v.heap.size + 1, k, none⟩ (.int .u64 x)) P (M.set k x) es := by
  obtain ⟨ev, ix, hM⟩ := h.set
  have hT : Turned (fun j => j = v.heap.size + 1) wr (wr.setCell ⟨v.heap.size + 1, k, none⟩ (.int .u64 x)) := Turned.setCell (S := fun j => j = v.heap.size + 1) (Turned.refl _ _) (p := ⟨v.heap.size + 1, k, none⟩) rfl _
  refine ⟨h.below.setCell (by simp) _, hT.heap h.pb (by omega), ?_, ev, ix, hM.kept hT (fun j hj e => by have := (hM.blk_lt j hj).1; omega)⟩
  rw [heap_setCell_same wr (v.heap.size + 1) k _ 29 _ h.mb, ucells_set]

theorem Agree.at {es : List (Nat × Int)} {P : List Bool} {M : List Int} (h : Agree es P M) {k : Nat} (hk : k < 32) : P[k]? = some (decide (k ∈ es.map (·.1))) := by
  have hp : P[k]? = some (P[k]'(by rw [h.pl]; exact hk)) := List.getElem?_eq_getElem _
  have hy := h.yes k hk
  rw [hp] at hy ⊢
  congr 1
  by_cases hm : k ∈ es.map (·.1)
  · rw [decide_eq_true hm]
    simpa using hy.2 hm
  · rw [decide_eq_false hm]
    cases hb : P[k]'(by rw [h.pl]; exact hk)
    · rfl
    · exact absurd (hy.1 (by rw [hb])) hm

theorem agree_upd {es es' : List (Nat × Int)} {P : List Bool} {M : List Int} {y : Nat} {m : Int} (h : Agree es P M) (hu : Upd es y m es') (hy : y < 32) : Agree es' (P.set y true) (M.set y m) := by
  have hP := h.pl
  have hM := h.ml
  refine ⟨by simpa using h.pl, by simpa using h.ml, fun k hk => ?_, fun k m' hkm => ?_⟩
  · rw [List.getElem?_set]
    by_cases hky : y = k
    · subst hky
      rw [if_pos rfl, if_pos (by omega)]
      exact ⟨fun _ => mem_keys.2 ⟨m, (hu y m).2 (.inl ⟨rfl, rfl⟩)⟩, fun _ => rfl⟩
    · rw [if_neg hky, h.yes k hk, mem_keys, mem_keys]
      constructor
      · rintro ⟨m', hm'⟩; exact ⟨m', (hu k m').2 (.inr ⟨fun e => hky e.symm, hm'⟩)⟩
      · rintro ⟨m', hm'⟩
        rcases (hu k m').1 hm' with ⟨e, _⟩ | ⟨_, e⟩
        · exact absurd e.symm hky
        · exact ⟨m', e⟩
  · rw [List.getElem?_set]
    rcases (hu k m').1 hkm with ⟨rfl, rfl⟩ | ⟨hne, hm'⟩
    · rw [if_pos rfl, if_pos (by omega)]
    · rw [if_neg (fun e => hne e.symm)]
      exact h.made k m' hm'

theorem agree_del {es es' : List (Nat × Int)} {P : List Bool} {M : List Int} {y : Nat} (h : Agree es P M) (hu : Del es y es') (hy : y < 32) : Agree es' (P.set y false) M := by
  have hP := h.pl
  refine ⟨by simpa using h.pl, h.ml, fun k hk => ?_, fun k m' hkm => h.made k m' ((hu k m').1 hkm).2⟩
  rw [List.getElem?_set]
  by_cases hky : y = k
  · subst hky
    rw [if_pos rfl, if_pos (by omega)]
    constructor
    · intro e; simp at e
    · intro hm
      obtain ⟨m', hm'⟩ := mem_keys.1 hm
      exact absurd rfl ((hu y m').1 hm').1
  · rw [if_neg hky, h.yes k hk, mem_keys, mem_keys]
    constructor
    · rintro ⟨m', hm'⟩; exact ⟨m', (hu k m').2 ⟨fun e => hky e.symm, hm'⟩⟩
    · rintro ⟨m', hm'⟩; exact ⟨m', ((hu k m').1 hm').2⟩

theorem keys_upd {es es' : List (Nat × Int)} {y : Nat} {m : Int} (hu : Upd es y m es') (k : Nat) : k ∈ es'.map (·.1) ↔ k = y ∨ k ∈ es.map (·.1) := by
  rw [mem_keys, mem_keys]
  constructor
  · rintro ⟨m', hm'⟩
    rcases (hu k m').1 hm' with ⟨e, _⟩ | ⟨_, e⟩
    · exact .inl e
    · exact .inr ⟨m', e⟩
  · rintro (rfl | ⟨m', hm'⟩)
    · exact ⟨m, (hu k m).2 (.inl ⟨rfl, rfl⟩)⟩
    · by_cases hky : k = y
      · exact ⟨m, (hu k m).2 (.inl ⟨hky, rfl⟩)⟩
      · exact ⟨m', (hu k m').2 (.inr ⟨hky, hm'⟩)⟩
theorem keys_del {es es' : List (Nat × Int)} {y : Nat} (hu : Del es y es') (k : Nat) : k ∈ es'.map (·.1) ↔ k ≠ y ∧ k ∈ es.map (·.1) := by
  rw [mem_keys, mem_keys]
  constructor
  · rintro ⟨m', hm'⟩; exact ⟨((hu k m').1 hm').1, m', ((hu k m').1 hm').2⟩
  · rintro ⟨h1, m', hm'⟩; exact ⟨m', (hu k m').2 ⟨h1, hm'⟩⟩

theorem len_same {a b : List Nat} (ha : a.Nodup) (hb : b.Nodup) (h : ∀ k, k ∈ a ↔ k ∈ b) : a.length = b.length := ((List.perm_ext_iff_of_nodup ha hb).2 h).length_eq

theorem len_upd_in {es es' : List (Nat × Int)} {y : Nat} {m : Int} (h1 : (es.map (·.1)).Nodup) (h2 : (es'.map (·.1)).Nodup) (hu : Upd es y m es') (hy : y ∈ es.map (·.1)) : es'.length = es.length := by
  have := len_same h2 h1 (fun k => by rw [keys_upd hu]; exact ⟨fun h => h.elim (fun e => e ▸ hy) id, .inr⟩)
  simpa using this
theorem len_upd_out {es es' : List (Nat × Int)} {y : Nat} {m : Int} (h1 : (es.map (·.1)).Nodup) (h2 : (es'.map (·.1)).Nodup) (hu : Upd es y m es') (hy : y ∉ es.map (·.1)) : es'.length = es.length + 1 := by
  have := len_same h2 (List.nodup_cons.2 ⟨hy, h1⟩) (fun k => by rw [keys_upd hu, List.mem_cons])
  simpa using this
theorem len_del_in {es es' : List (Nat × Int)} {y : Nat} (h1 : (es.map (·.1)).Nodup) (h2 : (es'.map (·.1)).Nodup) (hu : Del es y es') (hy : y ∈ es.map (·.1)) : es.length = es'.length + 1 := by
  have := len_same h1 (List.nodup_cons.2 ⟨fun h => ((keys_del hu y).1 h).1 rfl, h2⟩) (fun k => by
    rw [List.mem_cons, keys_del hu]
    constructor
    · intro h; by_cases e : k = y
      · exact .inl e
      · exact .inr ⟨e, h⟩
    · rintro (e | ⟨_, h⟩)
      · exact e ▸ hy
      · exact h)
  simpa using this
theorem len_del_out {es es' : List (Nat × Int)} {y : Nat} (h1 : (es.map (·.1)).Nodup) (h2 : (es'.map (·.1)).Nodup) (hu : Del es y es') (hy : y ∉ es.map (·.1)) : es'.length = es.length := by
  have := len_same h2 h1 (fun k => by rw [keys_del hu]; exact ⟨fun h => h.2, fun h => ⟨fun e => hy (e ▸ h), h⟩⟩)
  simpa using this

theorem agree_start : Agree [] (List.replicate 32 false) (List.replicate 32 0) := by
  refine ⟨by simp, by simp, fun k hk => ?_, fun k m h => absurd h (by simp)⟩
  rw [List.getElem?_replicate, if_pos hk]
  simp

end Go.Proofs.Qxb6003667a
