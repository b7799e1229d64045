/-
  find$1 (72), slices.IndexFunc at waveMark (71).
-/
import Derived.Test.Qxb6003667aMs4
namespace Go.Proofs.Qxb6003667a
open Go.RowKit Go.WideMaps Go.Maps
set_option linter.unusedSimpArgs false
set_option linter.unusedVariables false

/-- A mark's thirteen cells: all nought but its number. -/
def mcells (m : Int) : List Value := [.pointer none, .string ⟨#[]⟩, .int .i64 0, .string ⟨#[]⟩, .int .u64 0, .bool false, .bool false, .slice none 0 0, .pointer none, .bool false, .bool false, .int .u64 m, .pointer none]
/-- An entry's nineteen cells. -/
def ecell (e : Nat × Int) : List Value := wcells e.1 ++ mcells e.2

set_option maxHeartbeats 1000000 in
set_option maxRecDepth 100000 in
theorem closure72 {x y : Nat} {s t s' t' : ByteArray} {q q' m : Int} (hx : IsWave x s t q) (hy : IsWave y s' t' q') (wb : Nat) (w : World)
    (hb : w.heap[wb]? = some (.cells #[.string s', .string t', .int .u64 q', .int .u64 1, .int .i64 0, .bool false] 35 (0, 0))) :
    Calls Try.prog 72 #[.agg #[.string s, .string t, .int .u64 q, .int .u64 1, .int .i64 0, .bool false, .pointer none, .string ⟨#[]⟩, .int .i64 0, .string ⟨#[]⟩, .int .u64 0, .bool false, .bool false, .slice none 0 0, .pointer none, .bool false, .bool false, .int .u64 m, .pointer none], .pointer (some ⟨wb, 0, none⟩)] w fun e w' =>
      e = .returned (.bool (decide (x = y))) ∧ Below w.heap.size w w' := by
  have heq := eq35 hx hy
  have hlt : wb < w.heap.size := (Array.getElem?_eq_some_iff.1 hb).1
  have cc : ∀ j, w.cell? ⟨wb, j, none⟩ = (#[Value.string s', .string t', .int .u64 q', .int .u64 1, .int .i64 0, .bool false] : Array Value)[j]? := fun j => cell_of_row w wb j _ 35 (0, 0) hb
  clear hx hy hb
  go_enter Try.func72, Try.ntmps72
  go_wp2
  go_ret
  exact ⟨rfl, (Below.refl _ _).alloc (Nat.le_refl _) _⟩

/-- The entries' row, cell by cell. -/
def esCells (es : List (Nat × Int)) : List Value := es.flatMap ecell
theorem ecell_len (e : Nat × Int) : (ecell e).length = 19 := rfl

theorem flatMap_slice {α : Type} {f : α → List Value} {k : Nat} (hk : ∀ x, (f x).length = k) : ∀ (l : List α) (i : Nat) (x : α), l[i]? = some x → ∀ j u, (f x)[j]? = some u → (l.flatMap f)[i * k + j]? = some u
  | [], i, x, h, _, _, _ => by simp at h
  | y :: r, 0, x, h, j, u, hu => by
    simp at h
    subst h
    rw [List.flatMap_cons, Nat.zero_mul, Nat.zero_add, List.getElem?_append_left (List.getElem?_eq_some_iff.1 hu).1]
    exact hu
  | y :: r, i + 1, x, h, j, u, hu => by
    rw [List.flatMap_cons, List.getElem?_append_right (by rw [hk, Nat.add_mul]; omega), hk]
    have e : (i + 1) * k + j - k = i * k + j := by rw [Nat.add_mul]; omega
    rw [e]
    exact flatMap_slice hk r i x (by simpa using h) j u hu
theorem flatMap_lenA {α : Type} {f : α → List Value} {k : Nat} (hk : ∀ x, (f x).length = k) (l : List α) : (l.flatMap f).length = l.length * k := by
  induction l with
  | nil => simp
  | cons x r ih => rw [List.flatMap_cons, List.length_append, hk, ih, List.length_cons, Nat.add_mul]; omega

/-- Entry i of an owned row of entries: nineteen cells. -/
theorem entry_at {w : World} {B g cap : Nat} {es : List (Nat × Int)} (h : w.ownsRow B 119 19 (.slice (some ⟨g, 0, none⟩) es.length cap) es.length (esCells es)) {i : Nat} {e : Nat × Int} (he : es[i]? = some e) :
    ∀ j u, (ecell e)[j]? = some u → w.cell? ⟨g, i * 19 + j, none⟩ = some u := by
  intro j u hu
  have hi : i < es.length := (List.getElem?_eq_some_iff.1 he).1
  have hj : j < 19 := by have := (List.getElem?_eq_some_iff.1 hu).1; rwa [ecell_len] at this
  rw [h.cellAt (i * 19 + j) (by omega)]
  exact flatMap_slice ecell_len es i e he j u hu

theorem nineteen {w : World} {g o x : Nat} {m : Int} (h : ∀ j u, (ecell (x, m))[j]? = some u → w.cell? ⟨g, o + j, none⟩ = some u) :
    w.cell? ⟨g, o, none⟩ = some (Value.string (nm 115 (x % 4))) ∧ w.cell? ⟨g, o + 1, none⟩ = some (Value.string (nm 116 (x / 4 % 4))) ∧ w.cell? ⟨g, o + 2, none⟩ = some (Value.int IntKind.u64 ((x / 16 : Nat) : Int)) ∧ w.cell? ⟨g, o + 3, none⟩ = some (Value.int IntKind.u64 1) ∧ w.cell? ⟨g, o + 4, none⟩ = some (Value.int IntKind.i64 0) ∧ w.cell? ⟨g, o + 5, none⟩ = some (Value.bool false) ∧ w.cell? ⟨g, o + 6, none⟩ = some (Value.pointer none) ∧ w.cell? ⟨g, o + 7, none⟩ = some (Value.string ⟨#[]⟩) ∧ w.cell? ⟨g, o + 8, none⟩ = some (Value.int IntKind.i64 0) ∧ w.cell? ⟨g, o + 9, none⟩ = some (Value.string ⟨#[]⟩) ∧ w.cell? ⟨g, o + 10, none⟩ = some (Value.int IntKind.u64 0) ∧ w.cell? ⟨g, o + 11, none⟩ = some (Value.bool false) ∧ w.cell? ⟨g, o + 12, none⟩ = some (Value.bool false) ∧ w.cell? ⟨g, o + 13, none⟩ = some (Value.slice none 0 0) ∧ w.cell? ⟨g, o + 14, none⟩ = some (Value.pointer none) ∧ w.cell? ⟨g, o + 15, none⟩ = some (Value.bool false) ∧ w.cell? ⟨g, o + 16, none⟩ = some (Value.bool false) ∧ w.cell? ⟨g, o + 17, none⟩ = some (Value.int IntKind.u64 m) ∧ w.cell? ⟨g, o + 18, none⟩ = some (Value.pointer none) :=
  ⟨h 0 _ rfl, h 1 _ rfl, h 2 _ rfl, h 3 _ rfl, h 4 _ rfl, h 5 _ rfl, h 6 _ rfl, h 7 _ rfl, h 8 _ rfl, h 9 _ rfl, h 10 _ rfl, h 11 _ rfl, h 12 _ rfl, h 13 _ rfl, h 14 _ rfl, h 15 _ rfl, h 16 _ rfl, h 17 _ rfl, h 18 _ rfl⟩

/-- The place of a key among the entries; -1 where it is not. -/
def findKey (es : List (Nat × Int)) (y : Nat) : Int := match es.findIdx? (fun e => e.1 == y) with | some i => i | none => -1

theorem findKey_hit {es : List (Nat × Int)} {y k : Nat} {e : Nat × Int} (he : es[k]? = some e) (hy : e.1 = y) (hno : ∀ (j : Nat) (e : Nat × Int), j < k → es[j]? = some e → e.1 ≠ y) : findKey es y = k := by
  have h : es.findIdx? (fun e => e.1 == y) = some k := by
    rw [List.findIdx?_eq_some_iff_getElem]
    obtain ⟨hk, hek⟩ := List.getElem?_eq_some_iff.1 he
    refine ⟨hk, by rw [hek]; simpa using hy, fun j hj => ?_⟩
    have := hno j es[j] hj (List.getElem?_eq_getElem (by omega))
    simpa using this
  simp [findKey, h]
theorem findKey_none {es : List (Nat × Int)} {y : Nat} (hno : ∀ (j : Nat) (e : Nat × Int), j < es.length → es[j]? = some e → e.1 ≠ y) : findKey es y = -1 := by
  have h : es.findIdx? (fun e => e.1 == y) = none := by
    rw [List.findIdx?_eq_none_iff]
    intro e he
    obtain ⟨j, hj⟩ := List.getElem?_of_mem he
    have := hno j e (List.getElem?_eq_some_iff.1 hj).1 hj
    simpa using this
  simp [findKey, h]

set_option maxHeartbeats 1000000 in
set_option maxRecDepth 100000 in
theorem indexFunc71 {B : Nat} {y : Nat} {s' t' : ByteArray} {q' : Int} (hy : IsWave y s' t' q') (ao : Option Addr) (cap wb : Nat) (es : List (Nat × Int)) (w : World) (hl : es.length ≤ 1000000)
    (hrow : w.ownsRow B 119 19 (.slice ao es.length cap) es.length (esCells es))
    (hb : w.heap[wb]? = some (.cells #[.string s', .string t', .int .u64 q', .int .u64 1, .int .i64 0, .bool false] 35 (0, 0))) :
    Calls Try.prog 71 #[.slice ao es.length cap, .func (.func 72) #[] #[.pointer (some ⟨wb, 0, none⟩)]] w fun e w' =>
      e = .returned (.int .i64 (findKey es y)) ∧ Below w.heap.size w w' := by
  have Hrow := toHid hrow
  have Hb := toHid hb
  have Hy := toHid hy
  clear hrow hb hy
  go_enter Try.func71, Try.ntmps71
  go_wp2
  go_loopw [8] (fun i wr => ∃ k : Nat, k ≤ es.length ∧ i = .int .i64 k ∧ (∀ j e, j < k → es[j]? = some e → e.1 ≠ y) ∧ Below w.heap.size w wr) (fun i _ => es.length - (intOf i).toNat)
  case atStart => exact ⟨0, Nat.zero_le _, rfl, fun j e hj => by omega, Below.refl _ _⟩
  case round =>
    obtain ⟨k, hk, rfl, hno, hbel⟩ := hrel
    have Hno := toHid hno
    have Hbel := toHid hbel
    by_cases hlt : k < es.length
    · obtain ⟨e, he⟩ : ∃ e, es[k]? = some e := ⟨_, List.getElem?_eq_getElem hlt⟩
      obtain ⟨g, rfl⟩ : ∃ g, ao = some ⟨g, 0, none⟩ := by
        rcases Hrow.out.2 with ⟨_, hn⟩ | ⟨g, cap', cur, h, _⟩
        · omega
        · simp at h; exact ⟨g, h.1⟩
      have hent := entry_at ((Turned.of_below hbel).ownsRow Hrow.out (fun j hj => by
        obtain ⟨cur, hc, _⟩ := row_block Hrow.out hj
        have := (Array.getElem?_eq_some_iff.1 hc).1
        omega)) he
      have hbw : wr.heap[wb]? = some (.cells #[.string s', .string t', .int .u64 q', .int .u64 1, .int .i64 0, .bool false] 35 (0, 0)) := heap_below hbel (Array.getElem?_eq_some_iff.1 Hb.out).1 Hb.out
      obtain ⟨x, m⟩ := e
      have hx := isWave_mk x
      have H72 := toHid (closure72 (m := m) hx Hy.out wb wr hbw)
      have Hent := toHid (show wr.rangeAt g (k * 19) (ecell (x, m)) from hent)
      have He := toHid he
      clear hent hbel hbw hno he hx
      go_wp2_with (first | (refine wpList_load_mid rfl 119 _ rfl g (k * 19) rfl (ecell (x, m)) _ Hent.out Try.underlying119 rfl (by kernel_rfl) ?_) | (go_at_call 72; refine H72.out.mono ?_; rintro e w1 ⟨rfl, hb1⟩))
      · have hxy : x = y := by assumption
        go_ret
        exact ⟨ret_i (findKey_hit He.out hxy Hno.out).symm, Hbel.out.trans (hb1.mono Hbel.out.size)⟩
      · have hxy : ¬ x = y := by assumption
        go_roundw
        case rel =>
          refine ⟨k + 1, by omega, by go_num, fun j e hj hje => ?_, Hbel.out.trans (hb1.mono Hbel.out.size)⟩
          by_cases hjk : j < k
          · exact Hno.out j e hjk hje
          · obtain rfl : j = k := by omega
            rw [He.out] at hje
            simp at hje
            subst hje
            exact hxy
        case measure => simp [intOf]; omega
    · go_wp2
      go_ret
      obtain rfl : k = es.length := by omega
      exact ⟨ret_i (findKey_none Hno.out).symm, Hbel.out⟩

end Go.Proofs.Qxb6003667a
