/-
  zzBytes (7), zzCloneU8 (8), zzCloneU64 (9), ZZNewMarkSet (10).
-/
import Derived.Test.Qxb6003667aMt5
namespace Go.Proofs.Qxb6003667a
open Go.RowKit Go.WideMaps Go.Maps
set_option linter.unusedSimpArgs false
set_option linter.unusedVariables false

/-- A slice of integers that can be read. -/
def RdRow (k : IntKind) (w : World) (a : Option Addr) (len : Nat) (zs : List Int) : Prop :=
  ∀ j, j < len → ∃ b off, a = some ⟨b, off, none⟩ ∧ b < w.heap.size ∧ w.cell? ⟨b, off + j, none⟩ = some (.int k (zs.getD j 0))

theorem RdRow.later {k : IntKind} {w w' : World} {a : Option Addr} {len : Nat} {zs : List Int} (h : RdRow k w a len zs) (hb : Below w.heap.size w w') : RdRow k w' a len zs := fun j hj => by
  obtain ⟨b, off, h1, h2, h3⟩ := h j hj
  exact ⟨b, off, h1, Nat.lt_of_lt_of_le h2 hb.size, (hb.cell (p := ⟨b, off + j, none⟩) h2).trans h3⟩

/-- A copy has been made. -/
def ClonePost (k : IntKind) (w : World) (len : Nat) (zs : List Int) (e : Ending) (w' : World) : Prop :=
  ∃ a' c', e = .returned (.slice a' len c') ∧ RdRow k w' a' len zs ∧ Below w.heap.size w w'

theorem Try.info5 : (Try.prog.info? 5).map (fun i => (i.zero, i.size, i.bytes)) = some (some (.int .u8 0), 1, 1) := by kernel_rfl
theorem Try.info28 : (Try.prog.info? 28).map (fun i => (i.zero, i.size, i.bytes)) = some (some (.int .u64 0), 1, 8) := by kernel_rfl

theorem own_rd {k : IntKind} {w' : World} {B g len e : Nat} {zs : List Int} (hz : zs.length = len) (h : w'.ownsRow B e 1 (.slice (some ⟨g, 0, none⟩) len len) len (zs.map (Value.int k))) : RdRow k w' (some ⟨g, 0, none⟩) len zs := fun j hj => by
  obtain ⟨cur, hc, _⟩ := row_block h (k := g) rfl
  refine ⟨g, 0, rfl, (Array.getElem?_eq_some_iff.1 hc).1, ?_⟩
  rw [Nat.zero_add, h.cellAt j (by omega)]
  simp [List.getElem?_map, List.getD, List.getElem?_eq_getElem (show j < zs.length by omega)]

set_option maxHeartbeats 800000 in
set_option maxRecDepth 100000 in
theorem clone8 (a : Option Addr) (len cap : Nat) (zs : List Int) (w : World) (hlen : len ≤ 1048576) (hz : zs.length = len) (hn : a = none → len = 0 ∧ cap = 0) (hc : RdRow .u8 w a len zs) :
    Calls Try.prog 8 #[.slice a len cap] w fun e w' => ClonePost .u8 w len zs e w' := by
  have q22 : ∀ (w : World) (a : Option Addr) (n c n' c' : Nat), (binOp .eql 22 (.slice a n c) (.slice none n' c')).run Try.prog w = .ok (.bool a.isNone) w := fun w a n c n' c' => Lib.run_eql_slice_nil w _ _ a n c n' c' Try.underlying22
  cases a with
  | none =>
    obtain ⟨h1, h2⟩ := hn rfl
    subst h1 h2
    clear hn hc
    go_enter Try.func8, Try.ntmps8
    go_wp2
    go_ret
    exact ⟨none, 0, rfl, fun j hj => by omega, Below.refl _ _⟩
  | some a =>
    clear hn
    obtain ⟨i0, hi, hz0, hz1, hz2⟩ := info_parts Try.info5
    have Hc := toHid hc
    clear hc
    go_enter Try.func8, Try.ntmps8
    go_wp2_with (first | (at_make; refine wpList_make_full _ rfl _ _ 22 rfl w.heap.size 5 i0 (.int .u8 0) 1 Try.underlying22 hi hz0 hz1 _ _ _ _ len rfl rfl rfl rfl ?b2 ?b3 ?b4 ?_) | go_in)
    case b2 => rw [hz2]; omega
    case b3 => unfold maxLen; omega
    case b4 => exact Nat.le_refl _
    intro w1 hown hgrow
    go_wp2
    go_loopw [4] (fun i wr => ∃ k : Nat, k ≤ len ∧ i = .int .i64 k ∧ Below w.heap.size w wr ∧
      wr.ownsRow w.heap.size 5 1 (.slice (some ⟨w.heap.size, 0, none⟩) len len) len (filled (zs.map (Value.int .u8)) (.int .u8 0) len k))
      (fun i _ => len - (intOf i).toNat)
    case atStart =>
      refine ⟨0, Nat.zero_le _, rfl, (Below.refl _ _).grown hgrow (Nat.le_refl _) (by simp), ?_⟩
      rw [filled_zero]
      simpa [Value.cells, toList_madeCells_one] using hown
    case round =>
      obtain ⟨k, hk, rfl, hnx, hown⟩ := hrel
      by_cases hlt : k < len
      · obtain ⟨b, off, hab, hb, hcell⟩ := Hc.out k hlt
        simp only [Option.some.injEq] at hab
        subst hab
        obtain ⟨s, hs⟩ : ∃ s, s = zs.getD k 0 := ⟨_, rfl⟩
        have hxs : (zs.map (Value.int .u8))[k]? = some (.int .u8 s) := by rw [hs]; simp [List.getElem?_eq_getElem (show k < zs.length by omega)]
        rw [← hs] at hcell
        have hcx : wr.cell? ⟨b, off + k, none⟩ = some (.int .u8 s) := (hnx.cell (by exact hb)).trans hcell
        obtain ⟨z, hz9⟩ : ∃ z, wr.cell? ⟨w.heap.size, k, none⟩ = some z := ⟨_, (hown.cellAt k (by omega)).trans (List.getElem?_eq_getElem (by rw [hown.1]; omega))⟩
        have hfz := hown.frozenAt k
        obtain ⟨R1, R2⟩ := hown.stored k (.int .u8 s)
        rw [filled_step _ _ _ _ _ hxs (by simpa using hz)] at R1
        have R3 := hnx.grown R2 hnx.size (fun j hj => by cases hj; exact Nat.le_refl _)
        clear hs Hc hown R2 hnx hcell hxs
        go_wp2
        go_roundw
        case rel => exact ⟨k + 1, by omega, by go_num, R3, R1⟩
        case measure => simp [intOf]; omega
      · go_wp2
        go_ret
        obtain rfl : k = len := by omega
        rw [filled_all _ _ _ (by simpa using hz)] at hown
        exact ⟨_, _, rfl, own_rd hz hown, hnx⟩

set_option maxHeartbeats 800000 in
set_option maxRecDepth 100000 in
theorem clone9 (a : Option Addr) (len cap : Nat) (zs : List Int) (w : World) (hlen : len ≤ 1048576) (hz : zs.length = len) (hn : a = none → len = 0 ∧ cap = 0) (hc : RdRow .u64 w a len zs) :
    Calls Try.prog 9 #[.slice a len cap] w fun e w' => ClonePost .u64 w len zs e w' := by
  have q23 : ∀ (w : World) (a : Option Addr) (n c n' c' : Nat), (binOp .eql 23 (.slice a n c) (.slice none n' c')).run Try.prog w = .ok (.bool a.isNone) w := fun w a n c n' c' => Lib.run_eql_slice_nil w _ _ a n c n' c' Try.underlying23
  cases a with
  | none =>
    obtain ⟨h1, h2⟩ := hn rfl
    subst h1 h2
    clear hn hc
    go_enter Try.func9, Try.ntmps9
    go_wp2
    go_ret
    exact ⟨none, 0, rfl, fun j hj => by omega, Below.refl _ _⟩
  | some a =>
    clear hn
    obtain ⟨i0, hi, hz0, hz1, hz2⟩ := info_parts Try.info28
    have Hc := toHid hc
    clear hc
    go_enter Try.func9, Try.ntmps9
    go_wp2_with (first | (at_make; refine wpList_make_full _ rfl _ _ 23 rfl w.heap.size 28 i0 (.int .u64 0) 1 Try.underlying23 hi hz0 hz1 _ _ _ _ len rfl rfl rfl rfl ?b2 ?b3 ?b4 ?_) | go_in)
    case b2 => rw [hz2]; omega
    case b3 => unfold maxLen; omega
    case b4 => exact Nat.le_refl _
    intro w1 hown hgrow
    go_wp2
    go_loopw [4] (fun i wr => ∃ k : Nat, k ≤ len ∧ i = .int .i64 k ∧ Below w.heap.size w wr ∧
      wr.ownsRow w.heap.size 28 1 (.slice (some ⟨w.heap.size, 0, none⟩) len len) len (filled (zs.map (Value.int .u64)) (.int .u64 0) len k))
      (fun i _ => len - (intOf i).toNat)
    case atStart =>
      refine ⟨0, Nat.zero_le _, rfl, (Below.refl _ _).grown hgrow (Nat.le_refl _) (by simp), ?_⟩
      rw [filled_zero]
      simpa [Value.cells, toList_madeCells_one] using hown
    case round =>
      obtain ⟨k, hk, rfl, hnx, hown⟩ := hrel
      by_cases hlt : k < len
      · obtain ⟨b, off, hab, hb, hcell⟩ := Hc.out k hlt
        simp only [Option.some.injEq] at hab
        subst hab
        obtain ⟨s, hs⟩ : ∃ s, s = zs.getD k 0 := ⟨_, rfl⟩
        have hxs : (zs.map (Value.int .u64))[k]? = some (.int .u64 s) := by rw [hs]; simp [List.getElem?_eq_getElem (show k < zs.length by omega)]
        rw [← hs] at hcell
        have hcx : wr.cell? ⟨b, off + k, none⟩ = some (.int .u64 s) := (hnx.cell (by exact hb)).trans hcell
        obtain ⟨z, hz9⟩ : ∃ z, wr.cell? ⟨w.heap.size, k, none⟩ = some z := ⟨_, (hown.cellAt k (by omega)).trans (List.getElem?_eq_getElem (by rw [hown.1]; omega))⟩
        have hfz := hown.frozenAt k
        obtain ⟨R1, R2⟩ := hown.stored k (.int .u64 s)
        rw [filled_step _ _ _ _ _ hxs (by simpa using hz)] at R1
        have R3 := hnx.grown R2 hnx.size (fun j hj => by cases hj; exact Nat.le_refl _)
        clear hs Hc hown R2 hnx hcell hxs
        go_wp2
        go_roundw
        case rel => exact ⟨k + 1, by omega, by go_num, R3, R1⟩
        case measure => simp [intOf]; omega
      · go_wp2
        go_ret
        obtain rfl : k = len := by omega
        rw [filled_all _ _ _ (by simpa using hz)] at hown
        exact ⟨_, _, rfl, own_rd hz hown, hnx⟩

set_option maxHeartbeats 800000 in
set_option maxRecDepth 100000 in
theorem new10 (w : World) : Calls Try.prog 10 #[] w fun e w' => e = .returned (.pointer (some ⟨w.heap.size, 0, none⟩)) ∧ w' = w.alloc (.cells #[.slice none 0 0, .map none] 78) := by
  go_enter Try.func10, Try.ntmps10
  go_wp2
  go_ret
  exact ⟨rfl, rfl⟩

theorem mset_new {B : Nat} {w : World} {b : Nat} (hb : w.heap[b]? = some (.cells #[.slice none 0 0, .map none] 78 (0, 0))) (hB : B ≤ b) : MSet B w b (.slice none 0 0) none [] :=
  ⟨hb, ⟨rfl, .inl ⟨rfl, rfl⟩⟩, List.nodup_nil, fun e he => absurd he (by simp), fun ib h => absurd h (by simp), hB⟩

set_option maxHeartbeats 1600000 in
set_option maxRecDepth 100000 in
theorem bytes7 (a0 a1 a2 : Option Addr) (len0 len1 len2 cap0 cap1 cap2 : Nat) (h0 : len0 ≤ maxLen) (h1 : len1 ≤ maxLen) (h2 : len2 ≤ maxLen) (w : World) :
    Calls Try.prog 7 #[.slice a0 len0 cap0, .slice a1 len1 cap1, .slice a2 len2 cap2] w fun e w' => e = .returned (.bool (decide (len0 + len1 + len2 ≤ 1048576))) ∧ w' = w := by
  have b0 : len0 ≤ 9223372036854775807 := h0
  have b1 : len1 ≤ 9223372036854775807 := h1
  have b2 : len2 ≤ 9223372036854775807 := h2
  clear h0 h1 h2
  by_cases hb : len0 + len1 + len2 ≤ 1048576
  · rw [decide_eq_true hb]
    go_enter Try.func7, Try.ntmps7
    go_wp2
    go_ret
    exact ⟨rfl, rfl⟩
  · rw [decide_eq_false hb]
    by_cases c0 : len0 ≤ 1048576
    · by_cases c1 : len1 ≤ 1048576
      · by_cases c01 : len0 + len1 ≤ 1048576
        · by_cases c2 : len2 ≤ 1048576
          · go_enter Try.func7, Try.ntmps7
            go_wp2
            go_ret
            exact ⟨rfl, rfl⟩
          · go_enter Try.func7, Try.ntmps7
            go_wp2
            go_ret
            exact ⟨rfl, rfl⟩
        · go_enter Try.func7, Try.ntmps7
          go_wp2
          go_ret
          exact ⟨rfl, rfl⟩
      · go_enter Try.func7, Try.ntmps7
        go_wp2
        go_ret
        exact ⟨rfl, rfl⟩
    · go_enter Try.func7, Try.ntmps7
      go_wp2
      go_ret
      exact ⟨rfl, rfl⟩

end Go.Proofs.Qxb6003667a
