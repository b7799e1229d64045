/-
  The removal that puts the last entry at the place of the one that goes, as plain lists.
-/
import Derived.Test.Qxb6003667aMs6
namespace Go.Proofs.Qxb6003667a
set_option linter.unusedVariables false

/-- The entries without the one at i: the last one, el, takes its place. -/
def rm (es : List (Nat × Int)) (i : Nat) (el : Nat × Int) : List (Nat × Int) := (es.set i el).take (es.length - 1)

theorem rm_len (es : List (Nat × Int)) (i : Nat) (el : Nat × Int) : (rm es i el).length = es.length - 1 := by simp [rm]

theorem rm_get {es : List (Nat × Int)} {i : Nat} (el : Nat × Int) (hi : i < es.length) (j : Nat) : (rm es i el)[j]? = if j < es.length - 1 then (if j = i then some el else es[j]?) else none := by
  unfold rm
  by_cases hj : j < es.length - 1
  · rw [if_pos hj, List.getElem?_take_of_lt hj, List.getElem?_set]
    by_cases hji : j = i
    · subst hji; simp; omega
    · rw [if_neg (fun e => hji e.symm), if_neg hji]
  · rw [if_neg hj, List.getElem?_take, if_neg hj]

theorem rm_keys {es : List (Nat × Int)} {i : Nat} (el : Nat × Int) (hi : i < es.length) (j : Nat) : ((rm es i el).map (·.1))[j]? = if j < es.length - 1 then (if j = i then some el.1 else (es.map (·.1))[j]?) else none := by
  rw [List.getElem?_map, rm_get el hi]
  by_cases hj : j < es.length - 1
  · simp only [if_pos hj]
    by_cases hji : j = i
    · simp [hji]
    · simp [hji]
  · simp [hj]

theorem plc_iff {es : List (Nat × Int)} (hnd : (es.map (·.1)).Nodup) (k j : Nat) : plc es k = some j ↔ (es.map (·.1))[j]? = some k := by
  unfold plc
  constructor
  · intro h
    rw [List.findIdx?_eq_some_iff_getElem] at h
    obtain ⟨hj, h1, _⟩ := h
    rw [List.getElem?_eq_getElem hj]
    simpa using h1
  · intro h
    rw [List.findIdx?_eq_some_iff_getElem]
    obtain ⟨hj, h1⟩ := List.getElem?_eq_some_iff.1 h
    refine ⟨hj, by simpa using h1, fun l hl => ?_⟩
    intro e
    simp only [beq_iff_eq] at e
    have := (List.getElem?_inj (by omega : l < _) hnd).1 ((List.getElem?_eq_getElem (by omega)).trans ((congrArg some e).trans h.symm))
    omega

theorem keys_inj {es : List (Nat × Int)} (hnd : (es.map (·.1)).Nodup) {j l k : Nat} (h : (es.map (·.1))[j]? = some k) (h' : (es.map (·.1))[l]? = some k) : j = l :=
  (List.getElem?_inj (List.getElem?_eq_some_iff.1 h).1 hnd).1 (h.trans h'.symm)

theorem nodup_of_inj {l : List Nat} (h : ∀ i j k : Nat, l[i]? = some k → l[j]? = some k → i = j) : l.Nodup := by
  rw [List.nodup_iff_pairwise_ne, List.pairwise_iff_getElem]
  intro i j hi hj hij e
  have := h i j l[i] (List.getElem?_eq_getElem hi) (by rw [e]; exact List.getElem?_eq_getElem hj)
  omega

theorem rm_nodup {es : List (Nat × Int)} {i : Nat} {el : Nat × Int} (hnd : (es.map (·.1)).Nodup) (hi : i < es.length) (hl : es[es.length - 1]? = some el) : ((rm es i el).map (·.1)).Nodup := by
  have hk : (es.map (·.1))[es.length - 1]? = some el.1 := by simp [hl]
  refine nodup_of_inj (fun a b k ha hb => ?_)
  rw [rm_keys el hi] at ha hb
  by_cases h1 : a < es.length - 1
  · by_cases h2 : b < es.length - 1
    · rw [if_pos h1] at ha
      rw [if_pos h2] at hb
      by_cases h3 : a = i
      · by_cases h4 : b = i
        · omega
        · rw [if_pos h3] at ha; rw [if_neg h4] at hb
          rw [ha] at hk
          have := keys_inj hnd hk hb; omega
      · by_cases h4 : b = i
        · rw [if_neg h3] at ha; rw [if_pos h4] at hb
          rw [hb] at hk
          have := keys_inj hnd hk ha; omega
        · rw [if_neg h3] at ha; rw [if_neg h4] at hb
          exact keys_inj hnd ha hb
    · rw [if_neg h2] at hb; cases hb
  · rw [if_neg h1] at ha; cases ha

theorem rm_mem {es : List (Nat × Int)} {i y : Nat} {m0 : Int} {el : Nat × Int} (hnd : (es.map (·.1)).Nodup) (hi : es[i]? = some (y, m0)) (hl : es[es.length - 1]? = some el) (k : Nat) (m : Int) : (k, m) ∈ rm es i el ↔ (k, m) ∈ es ∧ k ≠ y := by
  have hil : i < es.length := (List.getElem?_eq_some_iff.1 hi).1
  have hki : (es.map (·.1))[i]? = some y := by simp [hi]
  constructor
  · intro h
    obtain ⟨j, hj⟩ := List.getElem?_of_mem h
    rw [rm_get el hil] at hj
    by_cases h1 : j < es.length - 1
    · rw [if_pos h1] at hj
      by_cases h2 : j = i
      · rw [if_pos h2] at hj
        rw [hj] at hl
        refine ⟨List.mem_of_getElem? hl, fun e => ?_⟩
        have hkl : (es.map (·.1))[es.length - 1]? = some y := by simp [hl, e]
        have := keys_inj hnd hki hkl; omega
      · rw [if_neg h2] at hj
        refine ⟨List.mem_of_getElem? hj, fun e => ?_⟩
        have hkj : (es.map (·.1))[j]? = some y := by simp [hj, e]
        exact h2 (keys_inj hnd hkj hki)
    · rw [if_neg h1] at hj; cases hj
  · rintro ⟨h, hne⟩
    obtain ⟨j, hj⟩ := List.getElem?_of_mem h
    have hjl : j < es.length := (List.getElem?_eq_some_iff.1 hj).1
    have hji : j ≠ i := fun e => by rw [e, hi] at hj; simp at hj; exact hne hj.1.symm
    by_cases h1 : j < es.length - 1
    · exact List.mem_of_getElem? (i := j) (by rw [rm_get el hil, if_pos h1, if_neg hji]; exact hj)
    · have : j = es.length - 1 := by omega
      rw [this, hl] at hj
      exact List.mem_of_getElem? (i := i) (by rw [rm_get el hil, if_pos (by omega), if_pos rfl]; exact hj)

/-- The places behind the removal. -/
theorem rm_plc {es : List (Nat × Int)} {i y : Nat} {m0 : Int} {el : Nat × Int} (hnd : (es.map (·.1)).Nodup) (hi : es[i]? = some (y, m0)) (hl : es[es.length - 1]? = some el) (k : Nat) :
    plc (rm es i el) k = if i < es.length - 1 then (if k = el.1 then some i else if k = y then none else plc es k) else (if k = y then none else plc es k) := by
  have hil : i < es.length := (List.getElem?_eq_some_iff.1 hi).1
  have hki : (es.map (·.1))[i]? = some y := by simp [hi]
  have hkl : (es.map (·.1))[es.length - 1]? = some el.1 := by simp [hl]
  apply Option.ext
  intro j
  rw [plc_iff (rm_nodup hnd hil hl), rm_keys el hil]
  by_cases hlast : i < es.length - 1
  · rw [if_pos hlast]
    by_cases hke : k = el.1
    · rw [if_pos hke]
      constructor
      · intro h
        by_cases h1 : j < es.length - 1
        · rw [if_pos h1] at h
          by_cases h2 : j = i
          · rw [h2]
          · rw [if_neg h2, hke] at h
            have := keys_inj hnd h hkl; omega
        · rw [if_neg h1] at h; cases h
      · intro h
        simp at h
        subst h
        rw [if_pos hlast, if_pos rfl, hke]
    · rw [if_neg hke]
      by_cases hky : k = y
      · rw [if_pos hky]
        constructor
        · intro h
          by_cases h1 : j < es.length - 1
          · rw [if_pos h1] at h
            by_cases h2 : j = i
            · rw [if_pos h2] at h; simp at h; exact absurd h.symm hke
            · rw [if_neg h2, hky] at h
              exact absurd (keys_inj hnd h hki) h2
          · rw [if_neg h1] at h; cases h
        · intro h; cases h
      · rw [if_neg hky, plc_iff hnd]
        constructor
        · intro h
          by_cases h1 : j < es.length - 1
          · rw [if_pos h1] at h
            by_cases h2 : j = i
            · rw [if_pos h2] at h; simp at h; exact absurd h.symm hke
            · rwa [if_neg h2] at h
          · rw [if_neg h1] at h; cases h
        · intro h
          have hjl : j < es.length := by have := (List.getElem?_eq_some_iff.1 h).1; simpa using this
          have h2 : j ≠ i := fun e => by rw [e, hki] at h; simp at h; exact hky h.symm
          have h3 : j ≠ es.length - 1 := fun e => by rw [e, hkl] at h; simp at h; exact hke h.symm
          rw [if_pos (by omega), if_neg h2]; exact h
  · rw [if_neg hlast]
    have hie : i = es.length - 1 := by omega
    by_cases hky : k = y
    · rw [if_pos hky]
      constructor
      · intro h
        by_cases h1 : j < es.length - 1
        · rw [if_pos h1, if_neg (by omega), hky] at h
          have := keys_inj hnd h hki; omega
        · rw [if_neg h1] at h; cases h
      · intro h; cases h
    · rw [if_neg hky, plc_iff hnd]
      constructor
      · intro h
        by_cases h1 : j < es.length - 1
        · rw [if_pos h1, if_neg (by omega)] at h; exact h
        · rw [if_neg h1] at h; cases h
      · intro h
        have hjl : j < es.length := by have := (List.getElem?_eq_some_iff.1 h).1; simpa using this
        have h2 : j ≠ i := fun e => by rw [e, hki] at h; simp at h; exact hky h.symm
        rw [if_pos (by omega), if_neg h2]; exact h

end Go.Proofs.Qxb6003667a
