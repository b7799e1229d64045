/-
  (*markSet).sorted (61), ZZMarkSetSorted (45).
-/
import Derived.Test.Qxb6003667aMt1
namespace Go.Proofs.Qxb6003667a
open Go.RowKit Go.WideMaps Go.Maps
set_option linter.unusedSimpArgs false
set_option linter.unusedVariables false
attribute [local go_sem ↓] Go.wp_at_zero Go.wp_at_succ

theorem und83 : Try.prog.underlying 83 = some (.slice 35) := by kernel_rfl
theorem info35 : (Try.prog.info? 35).map (fun i => (i.zero, i.size, i.bytes)) = some (some (.agg #[.string ⟨#[]⟩, .string ⟨#[]⟩, .int .u64 0, .int .u64 0, .int .i64 0, .bool false]), 6, 64) := by kernel_rfl
theorem size119 : (Try.prog.info? 119).map (·.size) = some 19 := by kernel_rfl

theorem take_setAt_to : ∀ (vs xs : List Value) (o : Nat), o + vs.length ≤ xs.length → (setAt xs o vs).take (o + vs.length) = xs.take o ++ vs
  | [], xs, o, _ => by simp [setAt]
  | v :: r, xs, o, h => by
    have h' : o < xs.length := by simp at h; omega
    rw [setAt]
    have ih := take_setAt_to r (xs.set o v) (o + 1) (by simp at h ⊢; omega)
    have e : o + (v :: r).length = o + 1 + r.length := by simp; omega
    rw [e, ih, List.take_add_one, List.take_set_of_le (Nat.le_refl _)]
    simp [List.getElem?_set, h']

/-- While the waves are copied: k are there. -/
structure Copying (w wr : World) (n : Nat) (ks : List Nat) (k : Nat) : Prop where
  ex : ∃ xs, wr.ownsRow w.heap.size 35 6 (.slice (some ⟨w.heap.size, 0, none⟩) n n) n xs ∧ xs.take (k * 6) = (ks.take k).flatMap wcells
  below : Below w.heap.size w wr

theorem there6 {B g cap N i : Nat} {w : World} {xs : List Value} (h : w.ownsRow B 35 6 (.slice (some ⟨g, 0, none⟩) N cap) N xs) (hi : i < N) : w.there g (i * 6) 6 := fun j hj =>
  ⟨by rw [h.cellAt (i * 6 + j) (by have := Nat.mul_le_mul_right 6 (show i + 1 ≤ N from hi); omega), List.getElem?_eq_getElem (by rw [h.1]; have := Nat.mul_le_mul_right 6 (show i + 1 ≤ N from hi); omega)]; rfl, h.frozenAt _⟩

theorem copying_step {w wr W1 : World} {n k x : Nat} {ks : List Nat} {o : Obj} {vs : List Value} (h : Copying w wr n ks k) (hk : ks[k]? = some x) (hkn : k < n) (hW : wr.alloc o = W1) (hv : vs = wcells x) : Copying w (W1.setCells w.heap.size (k * 6) vs) n ks (k + 1) := by
  subst hW hv
  obtain ⟨⟨xs, h1, h2⟩, h3⟩ := h
  have h1' := h1.alloc (o := o)
  obtain ⟨r1, r2⟩ := ownsRow_setCells (wcells x) (k * 6) (wr.alloc o) xs h1'
  refine ⟨⟨_, r1, ?_⟩, ?_⟩
  · have hl : k * 6 + (wcells x).length ≤ xs.length := by
      rw [h1.1, wcells_len]; have := Nat.mul_le_mul_right 6 (show k + 1 ≤ n from hkn); omega
    have e : (k + 1) * 6 = k * 6 + (wcells x).length := by rw [wcells_len]; omega
    rw [e, take_setAt_to _ _ _ hl, h2, List.take_add_one, hk]
    simp
  · have hs := h3.size
    exact ((h3.alloc hs _)).grown r2 (by simp; omega) (fun j hj => by simp at hj; omega)

/-- What the sorted waves are. -/
def SortedPost (w : World) (ks : List Nat) (e : Ending) (w' : World) : Prop :=
  e = .returned (.slice (some ⟨w.heap.size, 0, none⟩) ks.length ks.length) ∧ ∃ ks' : List Nat, ks'.Perm ks ∧ (∀ (i j : Nat) (x y : Nat), i < j → ks'[i]? = some x → ks'[j]? = some y → ¬ ltw y x) ∧
    w'.ownsRow w.heap.size 35 6 (.slice (some ⟨w.heap.size, 0, none⟩) ks.length ks.length) ks.length (ks'.flatMap wcells) ∧ Below w.heap.size w w'

set_option maxHeartbeats 2000000 in
set_option maxRecDepth 100000 in
theorem sorted61 {B : Nat} {w : World} {sb : Nat} {ev : Value} {ix : Option Nat} {es : List (Nat × Int)} (h : MSet B w sb ev ix es) :
    Calls Try.prog 61 #[.pointer (some ⟨sb, 0, none⟩)] w fun e w' => SortedPost w (es.map (·.1)) e w' := by
  have hl := h.len
  obtain ⟨ao, cap, rfl⟩ := h.shape
  have c0 : ∀ j, w.cell? ⟨sb, j, none⟩ = (#[Value.slice ao es.length cap, .map ix] : Array Value)[j]? := fun j => cell_of_row w sb j _ 78 (0, 0) h.cells
  obtain ⟨i0, hi, hz0, hz1, hz2⟩ := info_parts info35
  have hsl : sb < w.heap.size := (h.blk_lt sb (.inl rfl)).2
  have H := toHid h
  clear h
  go_enter Try.func61, Try.ntmps61
  go_wp2_with (first | (at_make; refine wpList_make_full _ rfl _ _ 83 rfl w.heap.size 35 i0 _ 6 und83 hi hz0 hz1 _ _ _ _ es.length rfl rfl rfl rfl ?b2 ?b3 ?b4 ?_))
  case b2 => rw [hz2]; omega
  case b3 => unfold maxLen; omega
  case b4 => exact Nat.le_refl _
  intro w1 hown hgrow
  have hb1 : Below w.heap.size w w1 := (Below.refl _ _).grown hgrow (Nat.le_refl _) (by simp)
  have hstart : Copying w w1 es.length (es.map (·.1)) 0 := ⟨⟨_, hown, by simp⟩, hb1⟩
  have c1 : ∀ j, w1.cell? ⟨sb, j, none⟩ = (#[Value.slice ao es.length cap, .map ix] : Array Value)[j]? := fun j => (hb1.cell (p := ⟨sb, j, none⟩) hsl).trans (c0 j)
  have Hst := toHid hstart
  clear hown hgrow hb1 hstart c0 hi hz0 hz1 hz2
  go_wp2
  go_loopw [17] (fun i wr => ∃ k : Nat, k ≤ es.length ∧ i = .int .i64 k ∧ Copying w wr es.length (es.map (·.1)) k) (fun i _ => es.length - (intOf i).toNat)
  case atStart => exact ⟨0, Nat.zero_le _, rfl, Hst.out⟩
  case round =>
    obtain ⟨k, hk, rfl, hcp⟩ := hrel
    have HC := toHid hcp
    clear hcp c1
    by_cases hlt : k < es.length
    · obtain ⟨⟨x, m1⟩, he⟩ : ∃ e, es[k]? = some e := ⟨_, List.getElem?_eq_getElem hlt⟩
      obtain ⟨s1, t1, q1, hx⟩ : ∃ s1 t1 q1, IsWave x s1 t1 q1 := ⟨_, _, _, isWave_mk x⟩
      have hM := H.out.below HC.out.below (Nat.le_refl _)
      obtain ⟨g, cap2, hv, hcap⟩ := hM.shape_some (by omega)
      simp only [Value.slice.injEq, true_and] at hv
      obtain ⟨rfl, rfl⟩ := hv
      have hrange : wr.rangeAt g (k * 19) [.string s1, .string t1, .int .u64 q1, .int .u64 1, .int .i64 0, .bool false, .pointer none, .string ⟨#[]⟩, .int .i64 0, .string ⟨#[]⟩, .int .u64 0, .bool false, .bool false, .slice none 0 0, .pointer none, .bool false, .bool false, .int .u64 m1, .pointer none] := by
        have := entry_at hM.row he
        rw [hx.ecell m1] at this
        exact this
      have hwl : w.heap.size < wr.heap.size := by
        obtain ⟨xs, h1, _⟩ := HC.out.ex
        obtain ⟨cur, hc, _⟩ := row_block h1 (k := w.heap.size) rfl
        exact (Array.getElem?_eq_some_iff.1 hc).1
      have hu119 := Try.underlying119
      have hi119 := size119
      have hi35 := size35
      have hcs : [Value.string s1, .string t1, .int .u64 q1, .int .u64 1, .int .i64 0, .bool false] = wcells x := hx.cells.symm
      have Hcs := toHid hcs
      have hks : (es.map (·.1))[k]? = some x := by simp [he]
      have Hks := toHid hks
      clear hM he hx hcs hks
      go_wp2_with (first
        | (refine wpList_load_mid rfl 119 _ rfl g (k * 19) rfl [.string s1, .string t1, .int .u64 q1, .int .u64 1, .int .i64 0, .bool false, .pointer none, .string ⟨#[]⟩, .int .i64 0, .string ⟨#[]⟩, .int .u64 0, .bool false, .bool false, .slice none 0 0, .pointer none, .bool false, .bool false, .int .u64 m1, .pointer none] _ hrange hu119 rfl hi119 ?_)
        | (refine wpList_store_mid rfl 119 _ _ rfl wr.heap.size 0 #[.string s1, .string t1, .int .u64 q1, .int .u64 1, .int .i64 0, .bool false, .pointer none, .string ⟨#[]⟩, .int .i64 0, .string ⟨#[]⟩, .int .u64 0, .bool false, .bool false, .slice none 0 0, .pointer none, .bool false, .bool false, .int .u64 m1, .pointer none] rfl rfl (there_new wr 119 #[.string ⟨#[]⟩, .string ⟨#[]⟩, .int .u64 0, .int .u64 0, .int .i64 0, .bool false, .pointer none, .string ⟨#[]⟩, .int .i64 0, .string ⟨#[]⟩, .int .u64 0, .bool false, .bool false, .slice none 0 0, .pointer none, .bool false, .bool false, .int .u64 0, .pointer none] 19 rfl) hi119 (by simp [Value.oneCell']) ?_; generalize hW1 : World.setCells _ _ _ _ = W1; rw [alloc_setCells_all wr 119 [.string s1, .string t1, .int .u64 q1, .int .u64 1, .int .i64 0, .bool false, .pointer none, .string ⟨#[]⟩, .int .i64 0, .string ⟨#[]⟩, .int .u64 0, .bool false, .bool false, .slice none 0 0, .pointer none, .bool false, .bool false, .int .u64 m1, .pointer none] [.string ⟨#[]⟩, .string ⟨#[]⟩, .int .u64 0, .int .u64 0, .int .i64 0, .bool false, .pointer none, .string ⟨#[]⟩, .int .i64 0, .string ⟨#[]⟩, .int .u64 0, .bool false, .bool false, .slice none 0 0, .pointer none, .bool false, .bool false, .int .u64 0, .pointer none] rfl] at hW1; have cbx : ∀ j, W1.cell? ⟨wr.heap.size, j, none⟩ = (#[Value.string s1, .string t1, .int .u64 q1, .int .u64 1, .int .i64 0, .bool false, .pointer none, .string ⟨#[]⟩, .int .i64 0, .string ⟨#[]⟩, .int .u64 0, .bool false, .bool false, .slice none 0 0, .pointer none, .bool false, .bool false, .int .u64 m1, .pointer none] : Array Value)[j]? := (fun j => by rw [← hW1]; exact cell_of_row _ wr.heap.size j _ 119 (0, 0) (heap_at rfl)); have hth : W1.there w.heap.size (k * 6) 6 := (by obtain ⟨xs, h1, _⟩ := HC.out.ex; rw [← hW1]; exact there6 (h1.alloc _) hlt); have HW1 := toHid hW1; clear hW1 hrange)
        | (refine wpList_store_mid rfl 35 _ _ rfl w.heap.size (k * 6) #[.string s1, .string t1, .int .u64 q1, .int .u64 1, .int .i64 0, .bool false] rfl rfl hth hi35 (by simp [Value.oneCell']) ?_; generalize hW2 : World.setCells _ _ _ _ = W2; have hC2 : Copying w W2 es.length (es.map (·.1)) (k + 1) := (by rw [← hW2]; exact copying_step HC.out Hks.out hlt HW1.out Hcs.out); have HC2 := toHid hC2; clear hW2 hC2 cbx hth))
      go_roundw
      case rel => exact ⟨k + 1, by omega, by go_num, HC2.out⟩
      case measure => simp [intOf]; omega
    · obtain rfl : k = es.length := by omega
      have hrow : wr.ownsRow w.heap.size 35 6 (.slice (some ⟨w.heap.size, 0, none⟩) (es.map (·.1)).length es.length) (es.map (·.1)).length ((es.map (·.1)).flatMap wcells) := by
        obtain ⟨xs, h1, h2⟩ := HC.out.ex
        rw [List.take_of_length_le (by rw [h1.1]; exact Nat.le_refl _), List.take_of_length_le (by simp)] at h2
        rw [h2] at h1
        simpa using h1
      have H73 := sort73 w.heap.size es.length (es.map (·.1)) wr hrow (by simp; omega)
      rw [List.length_map] at H73
      have HS := toHid H73
      clear hrow H73
      go_wp2_with (first | (go_at_call 73; refine HS.out.mono ?_; rintro e w2 ⟨rfl, hs2⟩))
      go_ret
      obtain ⟨ks', p1, p2, p3, p4⟩ := hs2
      have hsz := HC.out.below.size
      exact ⟨by simp, ks', p1, p2, by simpa using p3, HC.out.below.grown p4 hsz (fun j hj => by simp at hj; omega)⟩

set_option maxHeartbeats 1000000 in
set_option maxRecDepth 100000 in
theorem sorted45 {B : Nat} {w : World} {sb : Nat} {ev : Value} {ix : Option Nat} {es : List (Nat × Int)} (h : MSet B w sb ev ix es) :
    Calls Try.prog 45 #[.pointer (some ⟨sb, 0, none⟩)] w fun e w' => SortedPost w (es.map (·.1)) e w' := by
  have H61 := toHid (sorted61 h)
  clear h
  go_enter Try.func45, Try.ntmps45
  go_wp2_with (first | (go_at_call 61; refine H61.out.mono ?_; rintro e w1 ⟨rfl, hb1⟩))
  go_ret
  exact ⟨by simp, hb1⟩

end Go.Proofs.Qxb6003667a
