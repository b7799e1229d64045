/-
  The waves of the law: zzName (48), zzWaveOf (13).
-/
import Derived.Test.Qxb6003667aNum3
namespace Go.Proofs.Qxb6003667a
open Go.RowKit
set_option linter.unusedSimpArgs false
set_option linter.unusedVariables false

/-- A two-byte name. -/
def nm (p : UInt8) (d : Nat) : ByteArray := ⟨#[p, UInt8.ofNat (48 + d)]⟩

theorem conv_nm (p : UInt8) (d : Nat) (hd : d ≤ 9) (w : World) :
    (convert 22 9 (.slice (some ⟨w.heap.size, 0, none⟩) 2 2)).run Try.prog (w.alloc (.cells #[.int .u8 (p.toNat : Int), .int .u8 (48 + (d : Int))] 5)) =
      .ok (.string (nm p d)) (w.alloc (.cells #[.int .u8 (p.toNat : Int), .int .u8 (48 + (d : Int))] 5)) := by
  have h := run_convert_bytes_back (P := Try.prog) (w.alloc (.cells #[.int .u8 (p.toNat : Int), .int .u8 (48 + (d : Int))] 5)) 22 9 5 ⟨w.heap.size, 0, none⟩ 2 [p, UInt8.ofNat (48 + d)] Try.underlying22 Try.underlying5 Try.underlying9 (by
    intro j hj
    refine news_at w [.int .u8 (p.toNat : Int), .int .u8 (48 + (d : Int))] 5 j _ ?_
    match j, hj with
    | 0, _ => rfl
    | 1, _ =>
      have e : (UInt8.ofNat (48 + d)).toNat = 48 + d := by rw [UInt8.toNat_ofNat']; omega
      simp only [List.getElem_cons_succ, List.getElem_cons_zero, e]
      rfl)
  exact h

set_option maxHeartbeats 800000 in
set_option maxRecDepth 100000 in
theorem name48 (p : UInt8) (d : Nat) (hd : d ≤ 9) (w : World) :
    Calls Try.prog 48 #[.int .u8 (p.toNat : Int), .int .i64 d] w fun e w' => e = .returned (.string (nm p d)) ∧ Below w.heap.size w w' := by
  have hcv := conv_nm p d hd w
  go_enter Try.func48, Try.ntmps48
  go_wp2
  go_ret
  exact ⟨rfl, (Below.refl _ _).alloc (Nat.le_refl _) _⟩

/-- s, t, q are the parts of the wave k. -/
def IsWave (k : Nat) (s t : ByteArray) (q : Int) : Prop := s = nm 115 (k % 4) ∧ t = nm 116 (k / 4 % 4) ∧ q = ((k / 16 : Nat) : Int)
/-- A wave's six cells. -/
def wcells (k : Nat) : List Value := [.string (nm 115 (k % 4)), .string (nm 116 (k / 4 % 4)), .int .u64 ((k / 16 : Nat) : Int), .int .u64 1, .int .i64 0, .bool false]
theorem isWave_mk (k : Nat) : IsWave k (nm 115 (k % 4)) (nm 116 (k / 4 % 4)) ((k / 16 : Nat) : Int) := ⟨rfl, rfl, rfl⟩
theorem IsWave.cells {k : Nat} {s t : ByteArray} {q : Int} (h : IsWave k s t q) : wcells k = [.string s, .string t, .int .u64 q, .int .u64 1, .int .i64 0, .bool false] := by
  obtain ⟨rfl, rfl, rfl⟩ := h; rfl

theorem k_and3 (k : Nat) (hk : k < 32) : bits .and .i64 (k : Int) 3 = ((k % 4 : Nat) : Int) := by
  have h : ∀ j : Fin 32, bits .and .i64 (j.val : Int) 3 = ((j.val % 4 : Nat) : Int) := by decide
  exact h ⟨k, hk⟩

theorem k_and3' (k : Nat) (hk : k < 32) : bits .and .i64 ((k : Int) / 4) 3 = (k : Int) / 4 % 4 := by
  have h : ∀ j : Fin 32, bits .and .i64 ((j.val : Int) / 4) 3 = (j.val : Int) / 4 % 4 := by decide
  exact h ⟨k, hk⟩

set_option maxHeartbeats 800000 in
set_option maxRecDepth 100000 in
theorem wave13 (k : Nat) (hk : k < 32) (w : World) :
    Calls Try.prog 13 #[.int .i64 k] w fun e w' => ∃ s t q, e = .returned (.agg #[.string s, .string t, .int .u64 q, .int .u64 1, .int .i64 0, .bool false]) ∧ IsWave k s t q ∧ Below w.heap.size w w' := by
  have h3 := k_and3 k hk
  have h4 := k_and3' k hk
  have h5 := fun w => name48 115 (k % 4) (by omega) w
  have h6 := fun w => name48 116 (k / 4 % 4) (by omega) w
  have H5 := toHid h5
  have H6 := toHid h6
  clear h5 h6
  go_enter Try.func13, Try.ntmps13
  go_wp2_with fail
  refine (H5.out _).mono ?_
  rintro e w1 ⟨rfl, hb1⟩
  go_wp2_with fail
  refine (H6.out _).mono ?_
  rintro e w2 ⟨rfl, hb2⟩
  have hb : Below (w.heap.size + 1) (w.alloc (.cells #[Value.string { data := #[] }, Value.string { data := #[] }, Value.int IntKind.u64 0, Value.int IntKind.u64 0, Value.int IntKind.i64 0, Value.bool false] 35)) w2 :=
    (hb1.mono (by simp)).trans (hb2.mono (by have := hb1.size; simpa using this))
  have hw := hb.block w.heap.size (by omega)
  rw [heap_at rfl] at hw
  have hs2 := hb.size
  have cc : ∀ j, w2.cell? ⟨w.heap.size, j, none⟩ = (#[Value.string { data := #[] }, Value.string { data := #[] }, Value.int IntKind.u64 0, Value.int IntKind.u64 0, Value.int IntKind.i64 0, Value.bool false] : Array Value)[j]? := fun j => cell_of_row w2 w.heap.size j _ 35 (0, 0) hw
  have ff : ∀ j, w2.frozen? ⟨w.heap.size, j, none⟩ = false := fun j => frozen_of_row w2 w.heap.size j _ 35 hw
  have Hb := toHid hb
  clear hb hw hb1 hb2 hs2
  go_wp2_with fail
  have hb2 : Below w.heap.size w w2 := ((Below.refl _ _).alloc (Nat.le_refl _) _).trans (Hb.out.mono (by omega))
  refine bodyPost_ret (v := .agg #[.string (nm 115 (k % 4)), .string (nm 116 (k / 4 % 4)), .int .u64 ((k / 16 : Nat) : Int), .int .u64 1, .int .i64 0, .bool false]) (by simp [results, Try.results13, go_sem, cc, ff]) rfl ⟨_, _, _, rfl, isWave_mk k, ?_⟩
  go_grown

theorem wave_inj {x y : Nat} (h1 : x % 4 = y % 4) (h2 : x / 4 % 4 = y / 4 % 4) (h3 : x / 16 = y / 16) : x = y := by omega
theorem nm_inj {p : UInt8} {a b : Nat} (ha : a < 4) (hb : b < 4) (h : nm p a = nm p b) : a = b := by
  have h' : ∀ a b : Fin 4, UInt8.ofNat (48 + a.val) = UInt8.ofNat (48 + b.val) → a = b := by decide
  have h1 : UInt8.ofNat (48 + a) = UInt8.ofNat (48 + b) := by simp only [nm, ByteArray.mk.injEq, Array.mk.injEq, List.cons.injEq, true_and, and_true] at h; exact h
  simpa using h' ⟨a, ha⟩ ⟨b, hb⟩ h1
theorem IsWave.eq_iff {x y : Nat} {s t s' t' : ByteArray} {q q' : Int} (hx : IsWave x s t q) (hy : IsWave y s' t' q') : (s = s' ∧ t = t' ∧ q = q') ↔ x = y := by
  obtain ⟨rfl, rfl, rfl⟩ := hx
  obtain ⟨rfl, rfl, rfl⟩ := hy
  constructor
  · rintro ⟨h1, h2, h3⟩
    exact wave_inj (nm_inj (by omega) (by omega) h1) (nm_inj (by omega) (by omega) h2) (by omega)
  · rintro rfl; exact ⟨rfl, rfl, rfl⟩

/-- Two waves are one just if their keys are. -/
theorem eq35 {x y : Nat} {s t s' t' : ByteArray} {q q' : Int} (hx : IsWave x s t q) (hy : IsWave y s' t' q') (w : World) :
    (Op.equalIn 10000 35 (.agg #[.string s, .string t, .int .u64 q, .int .u64 1, .int .i64 0, .bool false]) (.agg #[.string s', .string t', .int .u64 q', .int .u64 1, .int .i64 0, .bool false])).run Try.prog w = .ok (decide (x = y)) w := by
  have u9 := Try.underlying9
  have u28 := Try.underlying28
  have u2 := Try.underlying2
  have u4 := Try.underlying4
  have hS : Try.prog.underlying 35 = some (.struct (Try.prog.fieldsOf 35)) := by kernel_rfl
  have hp : Try.prog.stoodInHeld 35 = false := by kernel_rfl
  rw [show (10000 : Nat) = 9999 + 1 from rfl, run_equalIn_agg w 9999 35 _ _ hS hp]
  simp only [Program.fieldsOf, Try.underlying35]
  go_simp
  have e := hx.eq_iff hy
  by_cases h : x = y
  · obtain ⟨rfl, rfl, rfl⟩ := e.2 h
    simp [h]
  · have hn := fun hh => h (e.1 hh)
    by_cases h1 : s = s'
    · by_cases h2 : t = t'
      · have h3 : q ≠ q' := fun h3 => hn ⟨h1, h2, h3⟩
        subst h1 h2
        simp [h, h3]
      · have hne : ¬ t.toList = t'.toList := fun e => h2 (ba_ext (by rw [ByteArray.toList_eq, ByteArray.toList_eq] at e; exact e))
        subst h1
        simp [h, hne]
    · have hne : ¬ s.toList = s'.toList := fun e => h1 (ba_ext (by rw [ByteArray.toList_eq, ByteArray.toList_eq] at e; exact e))
      simp [h, hne]

end Go.Proofs.Qxb6003667a
