/-
  zzBytes_FnNumberedIsFirstSeenOrder (16) and zzCloneStrings (17).
-/
import Derived.Test.Qxb6003667aRows
import Derived.WalkKit
import Derived.WalkSpells
import Derived.WalkLawsBesides
namespace Go.Proofs.Qxb6003667a
open Go.RowKit

/-- The call returned a bool, whichever. (A plain name: the walk's simp does not take it apart.) -/
def RetBool (e : Ending) : Prop := ∃ r : Bool, e = .returned (.bool r)
theorem RetBool.mk (r : Bool) : RetBool (.returned (.bool r)) := ⟨r, rfl⟩

set_option maxHeartbeats 400000 in
theorem bytes16_none (a : Option Addr) (cap : Nat) (w : World) :
    Calls Try.prog 16 #[.slice a 0 cap] w fun e w' => RetBool e ∧ w' = w := by
  go_enter Try.func16, Try.ntmps16
  go_wp2
  refine wp_loop_rounds 1 ?_
  rw [rounds_succ]
  go_wp2
  go_ret
  exact ⟨RetBool.mk _, rfl⟩

set_option maxHeartbeats 800000 in
set_option maxRecDepth 100000 in
theorem bytes16_any (b off len cap : Nat) (ss : List ByteArray) (w : World) (hreach : len * 16 ≤ 140737488351232) (hz : len ≤ ss.length)
    (hc : ∀ j, j < ss.length → w.cell? ⟨b, off + j, none⟩ = some (.string (ss.getD j ByteArray.empty))) :
    Calls Try.prog 16 #[.slice (some ⟨b, off, none⟩) len cap] w fun e w' => RetBool e ∧ w' = w := by
  by_cases hbig : 1048576 < (len : Int)
  · go_enter Try.func16, Try.ntmps16
    go_wp2
    go_ret
    exact ⟨RetBool.mk _, rfl⟩
  · go_enter Try.func16, Try.ntmps16
    go_wp2
    go_loop [3, 4] (fun n i => ∃ (k : Nat) (t : Int), k ≤ len ∧ i = .int .i64 k ∧ n = .int .i64 t) (fun _ i => len - (intOf i).toNat)
    case atStart => exact ⟨0, _, Nat.zero_le _, rfl, rfl⟩
    case round =>
      obtain ⟨k, t, hk, rfl, rfl⟩ := hrel
      by_cases hlt : k < len
      · obtain ⟨s, hs⟩ : ∃ s, s = ss.getD k ByteArray.empty := ⟨_, rfl⟩
        have hcx : w.cell? ⟨b, off + k, none⟩ = some (.string s) := by rw [hs]; exact hc k (by omega)
        clear hs hc
        go_wp2
        · go_ret
          exact ⟨RetBool.mk _, rfl⟩
        · go_ret
          exact ⟨RetBool.mk _, rfl⟩
        · go_round
          case rel => exact ⟨k + 1, _, by omega, by go_num, rfl⟩
          case measure => simp [intOf]; omega
      · go_wp2
        go_ret
        exact ⟨RetBool.mk _, rfl⟩

theorem Try.info9 : (Try.prog.info? 9).map (fun i => (i.zero, i.size, i.bytes)) = some (some (.string ByteArray.empty), 1, 16) := by kernel_rfl

/-- A slice value that can be read: nil, or n elements of one cell each. -/
def InRow (w : World) (v : Value) (n : Nat) (xs : List Value) : Prop :=
  xs.length = n ∧ ((v = .slice none 0 0 ∧ n = 0) ∨ ∃ a c, v = .slice (some a) n c ∧ ∀ j u, xs[j]? = some u → ∃ b off, a = ⟨b, off, none⟩ ∧ b < w.heap.size ∧ w.cell? ⟨b, off + j, none⟩ = some u)

/-- What a copying loop has made of a row of zeros behind k rounds. -/
def filled (xs : List Value) (z : Value) (n k : Nat) : List Value := xs.take k ++ List.replicate (n - k) z
theorem filled_zero (xs : List Value) (z : Value) (n : Nat) : filled xs z n 0 = List.replicate n z := by simp [filled]
theorem filled_all (xs : List Value) (z : Value) (n : Nat) (h : xs.length = n) : filled xs z n n = xs := by simp [filled, ← h]
theorem filled_step (xs : List Value) (z u : Value) (n k : Nat) (hu : xs[k]? = some u) (h : xs.length = n) : (filled xs z n k).set k u = filled xs z n (k + 1) := by
  have hk : k < xs.length := (List.getElem?_eq_some_iff.1 hu).1
  have e : n - k = (n - (k + 1)) + 1 := by omega
  unfold filled
  rw [e, List.replicate_succ, List.set_append_right _ _ (by simp; omega)]
  rw [List.take_add_one, hu]
  have : k - (List.take k xs).length = 0 := by simp; omega
  rw [this]
  simp
theorem oneCell_at {xs : List Value} (h1 : ∀ u ∈ xs, u.oneCell' = true) {k : Nat} {u : Value} (hu : xs[k]? = some u) : u.oneCell' = true := h1 u (List.mem_of_getElem? hu)

set_option maxHeartbeats 800000 in
set_option maxRecDepth 100000 in
theorem clone17_nil (w : World) : Calls Try.prog 17 #[.slice none 0 0] w fun e w' => e = .returned (.slice none 0 0) ∧ w' = w := by
  have q39 : ∀ (w : World) (a : Option Addr) (n c n' c' : Nat), (binOp .eql 39 (.slice a n c) (.slice none n' c')).run Try.prog w = .ok (.bool a.isNone) w := fun w a n c n' c' => Lib.run_eql_slice_nil w _ _ a n c n' c' Try.underlying39
  go_enter Try.func17, Try.ntmps17
  go_wp2
  go_ret
  exact ⟨rfl, rfl⟩

set_option maxHeartbeats 800000 in
set_option maxRecDepth 100000 in
theorem clone17_some (a : Addr) (len cap : Nat) (ss : List ByteArray) (w : World) (hreach : len * 16 ≤ 140737488351232) (hz : ss.length = len)
    (hc : ∀ j, j < len → ∃ b off, a = ⟨b, off, none⟩ ∧ b < w.heap.size ∧ w.cell? ⟨b, off + j, none⟩ = some (.string (ss.getD j ByteArray.empty))) :
    Calls Try.prog 17 #[.slice (some a) len cap] w fun e w' => e = .returned (.slice (some ⟨w.heap.size, 0, none⟩) len len) ∧
      w'.ownsRow w.heap.size 9 1 (.slice (some ⟨w.heap.size, 0, none⟩) len len) len (ss.map Value.string) ∧ Below w.heap.size w w' := by
  have q39 : ∀ (w : World) (a : Option Addr) (n c n' c' : Nat), (binOp .eql 39 (.slice a n c) (.slice none n' c')).run Try.prog w = .ok (.bool a.isNone) w := fun w a n c n' c' => Lib.run_eql_slice_nil w _ _ a n c n' c' Try.underlying39
  obtain ⟨i0, hi, hz0, hz1, hz2⟩ := info_parts Try.info9
  go_enter Try.func17, Try.ntmps17
  go_wp2_with (first | (at_make; refine wpList_make_full _ rfl _ _ 39 rfl w.heap.size 9 i0 (.string ByteArray.empty) 1 Try.underlying39 hi hz0 hz1 _ _ _ _ len rfl rfl rfl rfl ?b2 ?b3 ?b4 ?_) | go_in)
  case b2 => rw [hz2]; omega
  case b3 => unfold maxLen; omega
  case b4 => exact Nat.le_refl _
  intro w1 hown hgrow
  go_wp2
  go_loopw [4] (fun i wr => ∃ k : Nat, k ≤ len ∧ i = .int .i64 k ∧ Below w.heap.size w wr ∧
    wr.ownsRow w.heap.size 9 1 (.slice (some ⟨w.heap.size, 0, none⟩) len len) len (filled (ss.map Value.string) (.string ByteArray.empty) len k))
    (fun i _ => len - (intOf i).toNat)
  case atStart =>
    refine ⟨0, Nat.zero_le _, rfl, (Below.refl _ _).grown hgrow (Nat.le_refl _) (by simp), ?_⟩
    rw [filled_zero]
    simpa [Value.cells, toList_madeCells_one] using hown
  case round =>
    obtain ⟨k, hk, rfl, hnx, hown⟩ := hrel
    by_cases hlt : k < len
    · obtain ⟨b, off, rfl, hb, hcell⟩ := hc k hlt
      obtain ⟨s, hs⟩ : ∃ s, s = ss.getD k ByteArray.empty := ⟨_, rfl⟩
      have hxs : (ss.map Value.string)[k]? = some (.string s) := by rw [hs]; simp [List.getElem?_eq_getElem (show k < ss.length by omega)]
      rw [← hs] at hcell
      have hcx : wr.cell? ⟨b, off + k, none⟩ = some (.string s) := (hnx.cell (by exact hb)).trans hcell
      obtain ⟨z, hz9⟩ : ∃ z, wr.cell? ⟨w.heap.size, k, none⟩ = some z := ⟨_, (hown.cellAt k (by omega)).trans (List.getElem?_eq_getElem (by rw [hown.1]; omega))⟩
      have hfz := hown.frozenAt k
      obtain ⟨R1, R2⟩ := hown.stored k (.string s)
      rw [filled_step _ _ _ _ _ hxs (by simpa using hz)] at R1
      have R3 := hnx.grown R2 hnx.size (fun j hj => by cases hj; exact Nat.le_refl _)
      clear hs hc hown R2 hnx hcell hxs
      go_wp2
      go_roundw
      case rel => exact ⟨k + 1, by omega, by go_num, R3, R1⟩
      case measure => simp [intOf]; omega
    · go_wp2
      go_ret
      obtain rfl : k = len := by omega
      rw [filled_all _ _ _ (by simpa using hz)] at hown
      exact ⟨rfl, hown, hnx⟩

end Go.Proofs.Qxb6003667a
