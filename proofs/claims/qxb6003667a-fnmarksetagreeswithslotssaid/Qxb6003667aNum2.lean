/-
  waitgraph.NewBuilder (62) at 0, newPicture (51), ZZNewPicture (18).
-/
import Derived.Test.Qxb6003667aNum1
import Derived.RegionTactic
import Derived.Deep.RegionWith
import Derived.Deep.RegionHeld3
import Derived.Deep.DrawnRows
import Derived.Handy
namespace Go.Proofs.Qxb6003667a
open Go.RowKit
attribute [local go_sem ↓] Go.wp_at_zero Go.wp_at_succ
set_option linter.unusedSimpArgs false

theorem bcell {W w1 : World} (hb : Below W.heap.size W w1) : (∀ b o, b < W.heap.size → w1.cell? ⟨b, o, none⟩ = W.cell? ⟨b, o, none⟩) ∧ (∀ b o, b < W.heap.size → w1.frozen? ⟨b, o, none⟩ = W.frozen? ⟨b, o, none⟩) :=
  ⟨fun b o h => hb.cell (p := ⟨b, o, none⟩) h, fun b o h => hb.frozen (p := ⟨b, o, none⟩) h⟩

set_option maxHeartbeats 800000 in
set_option maxRecDepth 100000 in
theorem grow88_nil (w : World) : Calls Try.prog 88 #[.slice none 0 0, .int .i64 0] w fun e w' => e = .returned (.slice none 0 0) ∧ w' = w := by
  go_enter Try.func88, Try.ntmps88
  go_wp2
  go_ret
  exact ⟨rfl, rfl⟩

set_option maxHeartbeats 800000 in
set_option maxRecDepth 100000 in
theorem builder62 (w : World) : Calls Try.prog 62 #[.int .i64 0] w fun e w' => e = .returned (.pointer (some ⟨w.heap.size, 0, none⟩)) ∧ Below w.heap.size w w' := by
  go_enter Try.func62, Try.ntmps62
  go_wp2_with (first | (go_at_call 88; refine (grow88_nil _).mono ?_; rintro e w' ⟨rfl, rfl⟩) | go_in)
  refine wp_loop_rounds 1 ?_
  rw [rounds_succ]
  go_wp2
  go_ret
  exact ⟨rfl, (Below.refl _ _).alloc (Nat.le_refl _) _⟩

theorem heap_at {w : World} {o : Obj} {k : Nat} (h : k = w.heap.size) : (w.alloc o).heap[k]? = some o := by subst h; exact heap_alloc_new w o
theorem heap_old {w : World} {o r : Obj} {k : Nat} (h : w.heap[k]? = some r) : (w.alloc o).heap[k]? = some r := by
  rw [Below.heap_alloc w o k (Array.getElem?_eq_some_iff.1 h).1]; exact h
theorem heap_below {B : Nat} {w w1 : World} {r : Obj} {k : Nat} (hb : Below B w w1) (hk : k < B) (h : w.heap[k]? = some r) : w1.heap[k]? = some r := by rw [hb.block k hk]; exact h
theorem heap_drewn {w : World} {r : Obj} {k : Nat} (h : w.heap[k]? = some r) : w.drew.heap[k]? = some r := h

/-- A picture's cells: the two maps, and what its field 'txns' holds. -/
def PicCells (w : World) (pb rb nb : Nat) (tx : Value) : Prop :=
  ∃ cs : Array Value, w.heap[pb]? = some (.cells cs 104 (0, 0)) ∧ cs.size = 12 ∧ cs[6]? = some (.map (some rb)) ∧ cs[7]? = some (.map (some nb)) ∧ cs[8]? = some tx

/-- A new picture. -/
structure NewPic (B : Nat) (w : World) (pb rb nb : Nat) : Prop where
  cells : PicCells w pb rb nb (.slice none 0 0)
  reqs : w.heap[rb]? = some (.map #[] 0)
  nums : w.heap[nb]? = some (.map #[] 0)
  ne : rb ≠ nb
  bp : B ≤ pb
  br : B ≤ rb
  bn : B ≤ nb

theorem NewPic.of {B : Nat} {w : World} {pb rb nb : Nat} {x0 x1 x2 x3 x4 x5 x9 x10 x11 : Value}
    (h : w.heap[pb]? = some (.cells #[x0, x1, x2, x3, x4, x5, .map (some rb), .map (some nb), .slice none 0 0, x9, x10, x11] 104 (0, 0)))
    (h1 : w.heap[rb]? = some (.map #[] 0)) (h2 : w.heap[nb]? = some (.map #[] 0)) (ne : rb ≠ nb) (bp : B ≤ pb) (br : B ≤ rb) (bn : B ≤ nb) : NewPic B w pb rb nb :=
  ⟨⟨_, h, rfl, rfl, rfl, rfl⟩, h1, h2, ne, bp, br, bn⟩

set_option maxHeartbeats 800000 in
set_option maxRecDepth 100000 in
theorem new51 (x0 x1 x2 x3 x4 x5 : Value) (w : World) : Calls Try.prog 51 #[.agg #[x0, x1, x2, x3, x4, x5]] w fun e w' => ∃ pb rb nb, e = .returned (.pointer (some ⟨pb, 0, none⟩)) ∧ NewPic w.heap.size w' pb rb nb ∧ Below w.heap.size w w' := by
  have hmm := @run_makeMap Try.prog
  go_enter Try.func51, Try.ntmps51
  go_wp2
  go_region_held3 (fun w' => w.heap.size < w'.heap.size ∧ w'.cell? ⟨w.heap.size, 0, none⟩ = some x0 ∧ w'.cell? ⟨w.heap.size, 1, none⟩ = some x1 ∧ w'.cell? ⟨w.heap.size, 2, none⟩ = some x2 ∧ w'.cell? ⟨w.heap.size, 3, none⟩ = some x3 ∧ w'.cell? ⟨w.heap.size, 4, none⟩ = some x4 ∧ w'.cell? ⟨w.heap.size, 5, none⟩ = some x5)
    (first | (go_keep; done) | ((try dsimp only); (repeat' apply And.intro) <;> first | (go_keep; done) | go_size | (have hbs := hb1.size; first | go_size | (simp at hbs ⊢; omega)) | (exact cell_later hb1 (by go_keep; done))))
    (first | (go_at_call 62; refine (builder62 _).mono ?_; rintro e w1 ⟨rfl, hb1⟩; obtain ⟨hcb, hfb⟩ := bcell hb1))
  all_goals
    go_wp2
    go_ret
    clear hcb hfb
    have hb2 : Below w.heap.size w w1 := Below.trans (by go_grown) (hb1.mono (by simp only [World.size_alloc, World.size_drew]; omega))
    have hbs := hb1.size
    simp only [World.size_alloc, World.size_drew] at hbs
    refine ⟨_, _, _, rfl, NewPic.of (heap_at (by simp)) ?_ ?_ ?_ ?_ ?_ ?_, ?_⟩
    · repeat first | (with_reducible exact heap_at rfl) | (with_reducible refine heap_at ?_; simp only [World.size_alloc, World.size_drew]; done) | (with_reducible refine heap_drewn ?_) | (with_reducible refine heap_old ?_) | (with_reducible refine heap_below hb1 (by simp only [World.size_alloc, World.size_drew]; omega) ?_)
    · repeat first | (with_reducible exact heap_at rfl) | (with_reducible refine heap_at ?_; simp only [World.size_alloc, World.size_drew]; done) | (with_reducible refine heap_drewn ?_) | (with_reducible refine heap_old ?_) | (with_reducible refine heap_below hb1 (by simp only [World.size_alloc, World.size_drew]; omega) ?_)
    · omega
    · first | omega | (simp only [World.size_alloc, World.size_drew]; omega)
    · omega
    · omega
    · go_grown

set_option maxHeartbeats 800000 in
set_option maxRecDepth 100000 in
theorem new18 (w : World) : Calls Try.prog 18 #[] w fun e w' => ∃ pb rb nb, e = .returned (.pointer (some ⟨pb, 0, none⟩)) ∧ NewPic w.heap.size w' pb rb nb ∧ Below w.heap.size w w' := by
  go_enter Try.func18, Try.ntmps18
  go_wp2_with (first | (go_at_call 51; refine (new51 _ _ _ _ _ _ _).mono ?_; rintro e w1 ⟨pb, rb, nb, rfl, hn, hb⟩))
  go_ret
  exact ⟨pb, rb, nb, rfl, hn, hb⟩

end Go.Proofs.Qxb6003667a
