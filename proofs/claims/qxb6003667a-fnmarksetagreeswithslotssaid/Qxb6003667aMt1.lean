/-
  ZZMarkSetSet (14), ZZMarkSetDrop (15), as changes of a set of pairs.
-/
import Derived.Test.Qxb6003667aMs9
namespace Go.Proofs.Qxb6003667a
open Go.RowKit Go.WideMaps Go.Maps
set_option linter.unusedSimpArgs false
set_option linter.unusedVariables false

def Upd (es : List (Nat × Int)) (y : Nat) (m : Int) (es' : List (Nat × Int)) : Prop := ∀ k m', (k, m') ∈ es' ↔ (k = y ∧ m' = m) ∨ (k ≠ y ∧ (k, m') ∈ es)
def Del (es : List (Nat × Int)) (y : Nat) (es' : List (Nat × Int)) : Prop := ∀ k m', (k, m') ∈ es' ↔ k ≠ y ∧ (k, m') ∈ es
/-- Behind a change: the entries are such as R says. -/
def SetTo (B : Nat) (w w' : World) (sb : Nat) (ev : Value) (ix : Option Nat) (R : List (Nat × Int) → Prop) : Prop := ∃ es', R es' ∧ SetPost B w w' sb ev ix es'

theorem mem_keys {es : List (Nat × Int)} {y : Nat} : y ∈ es.map (·.1) ↔ ∃ m, (y, m) ∈ es := by
  rw [List.mem_map]
  exact ⟨fun ⟨⟨a, b⟩, h, e⟩ => ⟨b, by simp at e; subst e; exact h⟩, fun ⟨m, h⟩ => ⟨(y, m), h, rfl⟩⟩

theorem upd_set {es : List (Nat × Int)} {y i : Nat} {m0 m : Int} (hnd : (es.map (·.1)).Nodup) (hi : es[i]? = some (y, m0)) : Upd es y m (es.set i (y, m)) := by
  have hil : i < es.length := (List.getElem?_eq_some_iff.1 hi).1
  have hki : (es.map (·.1))[i]? = some y := by simp [hi]
  intro k m'
  constructor
  · intro h
    obtain ⟨j, hj⟩ := List.getElem?_of_mem h
    rw [List.getElem?_set] at hj
    by_cases hji : i = j
    · rw [if_pos hji, if_pos (by omega)] at hj
      simp at hj
      exact .inl ⟨hj.1.symm, hj.2.symm⟩
    · rw [if_neg hji] at hj
      refine .inr ⟨fun e => ?_, List.mem_of_getElem? hj⟩
      have hkj : (es.map (·.1))[j]? = some y := by simp [hj, e]
      exact hji (keys_inj hnd hki hkj)
  · rintro (⟨rfl, rfl⟩ | ⟨hne, h⟩)
    · exact List.mem_of_getElem? (i := i) (by rw [List.getElem?_set]; simp; omega)
    · obtain ⟨j, hj⟩ := List.getElem?_of_mem h
      have hji : i ≠ j := fun e => by rw [← e, hi] at hj; simp at hj; exact hne hj.1.symm
      exact List.mem_of_getElem? (i := j) (by rw [List.getElem?_set, if_neg hji]; exact hj)

theorem upd_snoc {es : List (Nat × Int)} {y : Nat} {m : Int} (hno : y ∉ es.map (·.1)) : Upd es y m (es ++ [(y, m)]) := by
  intro k m'
  rw [List.mem_append, List.mem_singleton]
  constructor
  · rintro (h | h)
    · exact .inr ⟨fun e => hno (mem_keys.2 ⟨m', e ▸ h⟩), h⟩
    · simp at h; exact .inl h
  · rintro (⟨rfl, rfl⟩ | ⟨_, h⟩)
    · exact .inr rfl
    · exact .inl h

theorem set49 {B : Nat} {w : World} {sb : Nat} {ev : Value} {ix : Option Nat} {es : List (Nat × Int)} (h : MSet B w sb ev ix es) {y : Nat} (hy32 : y < 32) {s' t' : ByteArray} {q' m : Int} (hy : IsWave y s' t' q') :
    Calls Try.prog 49 #[.pointer (some ⟨sb, 0, none⟩), .agg #[.string s', .string t', .int .u64 q', .int .u64 1, .int .i64 0, .bool false], .agg (mcells m).toArray] w fun e w' =>
      e = .returned (.tuple #[]) ∧ SetTo B w w' sb ev ix (Upd es y m) := by
  by_cases hm : y ∈ es.map (·.1)
  · obtain ⟨m0, hm0⟩ := mem_keys.1 hm
    obtain ⟨i, hi⟩ := List.getElem?_of_mem hm0
    exact (set49_hit h hy32 hy hi).mono fun e w' ⟨h1, h2, h3⟩ => ⟨h1, _, upd_set h.nodup hi, _, _, h2, h3⟩
  · have hb := h.blk_lt sb (.inl rfl)
    exact (set49_new h hy32 hy hm (by omega)).mono fun e w' ⟨h1, h2⟩ => ⟨h1, _, upd_snoc hm, h2⟩

theorem SetTo.before {B : Nat} {w w1 w' : World} {sb : Nat} {ev : Value} {ix : Option Nat} {R : List (Nat × Int) → Prop} {es : List (Nat × Int)} (hM : MSet B w sb ev ix es) (hT : Turned (fun _ => False) w w1) (h : SetTo B w1 w' sb ev ix R) : SetTo B w w' sb ev ix R := by
  obtain ⟨es', h1, ev', ix', h2, h3⟩ := h
  exact ⟨es', h1, ev', ix', h2, (hT.mono (fun k _ hk => hk.elim)).trans h3⟩

set_option maxHeartbeats 1000000 in
set_option maxRecDepth 100000 in
theorem set14 {B : Nat} {w : World} {sb : Nat} {ev : Value} {ix : Option Nat} {es : List (Nat × Int)} (h : MSet B w sb ev ix es) {y : Nat} (hy32 : y < 32) {s' t' : ByteArray} {q' m : Int} (hy : IsWave y s' t' q') :
    Calls Try.prog 14 #[.pointer (some ⟨sb, 0, none⟩), .agg #[.string s', .string t', .int .u64 q', .int .u64 1, .int .i64 0, .bool false], .int .u64 m] w fun e w' =>
      e = .returned (.tuple #[]) ∧ SetTo B w w' sb ev ix (Upd es y m) := by
  have H49 := toHid (set49 (m := m) (h.alloc (.cells #[.string s', .string t', .int .u64 q', .int .u64 1, .int .i64 0, .bool false] 35)) hy32 hy)
  have H := toHid h
  clear h hy
  go_enter Try.func14, Try.ntmps14
  go_wp2_with (first | (go_at_call 49; refine H49.out.mono ?_; rintro e w1 ⟨rfl, hb1⟩))
  go_returns
  exact ⟨rfl, SetTo.before H.out ((Turned.refl _ _).alloc _) hb1⟩

set_option maxHeartbeats 1000000 in
set_option maxRecDepth 100000 in
theorem drop50_miss {B : Nat} {w : World} {sb : Nat} {ev : Value} {ix : Option Nat} {es : List (Nat × Int)} (h : MSet B w sb ev ix es) {y : Nat} (hy32 : y < 32) {s' t' : ByteArray} {q' : Int} (hy : IsWave y s' t' q') (hno : y ∉ es.map (·.1)) :
    Calls Try.prog 50 #[.pointer (some ⟨sb, 0, none⟩), .agg #[.string s', .string t', .int .u64 q', .int .u64 1, .int .i64 0, .bool false]] w fun e w' =>
      e = .returned (.tuple #[]) ∧ SetPost B w w' sb ev ix es := by
  have hf : findKey es y = -1 := findKey_not hno
  have H60 := toHid (find60 (h.alloc (.cells #[.string s', .string t', .int .u64 q', .int .u64 1, .int .i64 0, .bool false] 35)) hy32 hy)
  rw [hf] at H60
  have H := toHid h
  clear h hf hy hno
  go_enter Try.func50, Try.ntmps50
  go_wp2_with (first | (go_at_call 60; refine H60.out.mono ?_; rintro e w1 ⟨rfl, hb1⟩))
  go_returns
  have hT : Turned (fun _ => False) w w1 := ((Turned.refl _ _).alloc _).trans ((Turned.of_below hb1).mono (fun k hk hs => by omega))
  exact ⟨rfl, ev, ix, H.out.kept hT (fun _ _ => id), hT.mono (fun k _ hk => hk.elim)⟩

theorem drop50 {B : Nat} {w : World} {sb : Nat} {ev : Value} {ix : Option Nat} {es : List (Nat × Int)} (h : MSet B w sb ev ix es) {y : Nat} (hy32 : y < 32) {s' t' : ByteArray} {q' : Int} (hy : IsWave y s' t' q') :
    Calls Try.prog 50 #[.pointer (some ⟨sb, 0, none⟩), .agg #[.string s', .string t', .int .u64 q', .int .u64 1, .int .i64 0, .bool false]] w fun e w' =>
      e = .returned (.tuple #[]) ∧ SetTo B w w' sb ev ix (Del es y) := by
  by_cases hm : y ∈ es.map (·.1)
  · obtain ⟨m0, hm0⟩ := mem_keys.1 hm
    obtain ⟨i, hi⟩ := List.getElem?_of_mem hm0
    have hil : i < es.length := (List.getElem?_eq_some_iff.1 hi).1
    obtain ⟨el, hel⟩ : ∃ el, es[es.length - 1]? = some el := ⟨_, List.getElem?_eq_getElem (by omega)⟩
    exact (drop50_hit h hy32 hy hi hel).mono fun e w' ⟨h1, h2⟩ => ⟨h1, _, fun k m' => by rw [rm_mem h.nodup hi hel]; exact And.comm, h2⟩
  · exact (drop50_miss h hy32 hy hm).mono fun e w' ⟨h1, h2⟩ => ⟨h1, _, fun k m' => ⟨fun hk => ⟨fun e => hm (mem_keys.2 ⟨m', e ▸ hk⟩), hk⟩, fun hk => hk.2⟩, h2⟩

set_option maxHeartbeats 1000000 in
set_option maxRecDepth 100000 in
theorem drop15 {B : Nat} {w : World} {sb : Nat} {ev : Value} {ix : Option Nat} {es : List (Nat × Int)} (h : MSet B w sb ev ix es) {y : Nat} (hy32 : y < 32) {s' t' : ByteArray} {q' : Int} (hy : IsWave y s' t' q') :
    Calls Try.prog 15 #[.pointer (some ⟨sb, 0, none⟩), .agg #[.string s', .string t', .int .u64 q', .int .u64 1, .int .i64 0, .bool false]] w fun e w' =>
      e = .returned (.tuple #[]) ∧ SetTo B w w' sb ev ix (Del es y) := by
  have H50 := toHid (drop50 (h.alloc (.cells #[.string s', .string t', .int .u64 q', .int .u64 1, .int .i64 0, .bool false] 35)) hy32 hy)
  have H := toHid h
  clear h hy
  go_enter Try.func15, Try.ntmps15
  go_wp2_with (first | (go_at_call 50; refine H50.out.mono ?_; rintro e w1 ⟨rfl, hb1⟩))
  go_returns
  exact ⟨rfl, SetTo.before H.out ((Turned.refl _ _).alloc _) hb1⟩

end Go.Proofs.Qxb6003667a
