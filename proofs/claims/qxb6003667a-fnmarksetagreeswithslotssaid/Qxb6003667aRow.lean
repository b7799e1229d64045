/-
  Plain facts on rows: a run of stores into a row, element by element.
-/
import Derived.Test.Qxb6003667aNum4
import Derived.Deep.MidRow
namespace Go.Proofs.Qxb6003667a
open Go.RowKit

/-- A run of stores into a list. -/
def setAt (xs : List Value) : Nat → List Value → List Value
  | _, [] => xs
  | o, v :: r => setAt (xs.set o v) (o + 1) r

theorem setAt_len : ∀ (vs : List Value) (o : Nat) (xs : List Value), (setAt xs o vs).length = xs.length
  | [], _, _ => rfl
  | v :: r, o, xs => by rw [setAt, setAt_len r]; simp

theorem setAt_mid (p r : List Value) : ∀ (vs : List Value) (a : Nat) (q : List Value), a + vs.length ≤ q.length → setAt (p ++ q ++ r) (p.length + a) vs = p ++ setAt q a vs ++ r
  | [], _, _, _ => rfl
  | v :: vs, a, q, h => by
    have ha : a < q.length := by simp at h; omega
    have e : (p ++ q ++ r).set (p.length + a) v = p ++ q.set a v ++ r := by
      rw [List.append_assoc, List.set_append_right _ _ (by omega), Nat.add_sub_cancel_left, List.set_append_left _ _ (by omega), List.append_assoc]
    rw [setAt, e, Nat.add_assoc, setAt_mid p r vs (a + 1) (q.set a v) (by simp at h ⊢; omega)]
    rfl

theorem setAt_all : ∀ (vs q : List Value), vs.length = q.length → setAt q 0 vs = vs := by
  intro vs q h
  have : ∀ (vs done rest : List Value), vs.length = rest.length → setAt (done ++ rest) done.length vs = done ++ vs := by
    intro vs
    induction vs with
    | nil => intro done rest h; cases rest with | nil => rfl | cons a r => simp at h
    | cons v r ih =>
      intro done rest h
      cases rest with
      | nil => simp at h
      | cons b t =>
        have e : (done ++ b :: t).set done.length v = (done ++ [v]) ++ t := by
          rw [List.set_append_right _ _ (Nat.le_refl _), Nat.sub_self]
          simp
        have := ih (done ++ [v]) t (by simpa using h)
        rw [setAt, e]
        simp only [List.length_append, List.length_cons, List.length_nil, Nat.zero_add] at this
        rw [this]
        simp
  simpa using this vs [] q h

theorem split_at {α : Type} {l : List α} {i : Nat} {x : α} (h : l[i]? = some x) : l = l.take i ++ x :: l.drop (i + 1) := by
  obtain ⟨hi, hx⟩ := List.getElem?_eq_some_iff.1 h
  rw [← hx, List.getElem_cons_drop hi, List.take_append_drop]

theorem flat_len {α : Type} {f : α → List Value} {k : Nat} (hk : ∀ x, (f x).length = k) (l : List α) : (l.flatMap f).length = l.length * k := by
  induction l with
  | nil => simp
  | cons x r ih => rw [List.flatMap_cons, List.length_append, hk, ih, List.length_cons, Nat.add_mul]; omega

/-- Stores into element i, from its cell a on. -/
theorem setAt_flat {α : Type} {f : α → List Value} {k : Nat} (hk : ∀ x, (f x).length = k) {l : List α} {i : Nat} {x x' : α} (h : l[i]? = some x) (a : Nat) (vs : List Value) (ha : a + vs.length ≤ k) (hx : setAt (f x) a vs = f x') :
    setAt (l.flatMap f) (i * k + a) vs = (l.set i x').flatMap f := by
  have hi : i < l.length := (List.getElem?_eq_some_iff.1 h).1
  have e1 : l.flatMap f = (l.take i).flatMap f ++ f x ++ (l.drop (i + 1)).flatMap f := by
    conv => lhs; rw [split_at h]
    simp
  have e2 : (l.set i x').flatMap f = (l.take i).flatMap f ++ f x' ++ (l.drop (i + 1)).flatMap f := by
    rw [List.set_eq_take_append_cons_drop, if_pos hi]
    simp
  have hl : ((l.take i).flatMap f).length = i * k := by rw [flat_len hk, List.length_take, Nat.min_eq_left (by omega)]
  rw [e1, e2, ← hx, ← hl]
  exact setAt_mid _ _ vs a (f x) (by rw [hk]; exact ha)

theorem ownsRow_setCells {B g cap n : Nat} {e : TypeId} {size : Nat} : ∀ (vs : List Value) (o : Nat) (w : World) (xs : List Value), w.ownsRow B e size (.slice (some ⟨g, 0, none⟩) n cap) n xs →
    (w.setCells g o vs).ownsRow B e size (.slice (some ⟨g, 0, none⟩) n cap) n (setAt xs o vs) ∧ w.grownBy (w.setCells g o vs) (some g)
  | [], _, w, xs, h => ⟨h, World.grownBy.refl w _⟩
  | v :: r, o, w, xs, h => by
    obtain ⟨h1, h2⟩ := h.stored o v
    obtain ⟨h3, h4⟩ := ownsRow_setCells r (o + 1) (w.setCell ⟨g, o, none⟩ v) (xs.set o v) h1
    refine ⟨h3, ⟨h4.os.trans h2.os, h4.tape.trans h2.tape, h4.output.trans h2.output, Nat.le_trans h2.size h4.size, fun k hk hne => ?_⟩⟩
    exact (h4.block k (Nat.lt_of_lt_of_le hk h2.size) hne).trans (h2.block k hk hne)

/-! ### a new block, written whole -/
theorem alloc_setCells (w : World) (e : TypeId) : ∀ (vs : List Value) (o : Nat) (xs : List Value), (w.alloc (.cells xs.toArray e)).setCells w.heap.size o vs = w.alloc (.cells (setAt xs o vs).toArray e)
  | [], _, _ => rfl
  | v :: r, o, xs => by
    rw [World.setCells, World.setCell_alloc_at _ _ _ _ _ rfl]
    have e1 : xs.toArray.setIfInBounds o v = (xs.set o v).toArray := by simp
    rw [e1, alloc_setCells w e r (o + 1) (xs.set o v)]
    rfl
theorem alloc_setCells_all (w : World) (e : TypeId) (vs xs : List Value) (h : vs.length = xs.length) : (w.alloc (.cells xs.toArray e)).setCells w.heap.size 0 vs = w.alloc (.cells vs.toArray e) := by
  rw [alloc_setCells, setAt_all vs xs h]
theorem there_new (w : World) (e : TypeId) (A : Array Value) (n : Nat) (h : A.size = n) : (w.alloc (.cells A e)).there w.heap.size 0 n := by
  intro j hj
  have hb : (w.alloc (.cells A e)).heap[w.heap.size]? = some (.cells A e (0, 0)) := heap_alloc_new w _
  refine ⟨?_, frozen_of_row _ _ _ A e hb⟩
  rw [cell_of_row _ _ _ A e (0, 0) hb, Array.getElem?_eq_getElem (by omega)]
  rfl

end Go.Proofs.Qxb6003667a
