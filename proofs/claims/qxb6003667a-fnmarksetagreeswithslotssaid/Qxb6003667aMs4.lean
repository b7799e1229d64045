/-
  The waves as keys of a map; a mark set in memory.
-/
import Derived.Test.Qxb6003667aMs3
import Derived.Test.Qxb6003667aNum4
import Derived.Deep.MidRow
import Derived.DeepKeys4
namespace Go.Proofs.Qxb6003667a
open Go.RowKit Go.WideMaps Go.Maps
set_option linter.unusedSimpArgs false
set_option linter.unusedVariables false

/-- A wave as a key. -/
def wlit (k : Nat) : Lit := .string (keyBytes [.string (nm 115 (k % 4)).data.toList, .string (nm 116 (k / 4 % 4)).data.toList, .int .u64 ((k / 16 : Nat) : Int), .int .u64 1, .int .i64 0, .bool false])

theorem laidOutT : laidOutB Try.prog = true := by kernel_rfl
theorem row35 : 35 < Try.prog.types.size := of_decide_eq_true (by kernel_rfl)
theorem law35 : Keyed Try.prog 35 := Keyed.of_law (deep_law_laid laidOutT (m := 2) (by omega) row35 (by kernel_rfl) (by kernel_rfl))

theorem kw0 : keyOf Try.prog 35 (.agg (wcells 0).toArray) = some (wlit 0) := by kernel_rfl
theorem kw1 : keyOf Try.prog 35 (.agg (wcells 1).toArray) = some (wlit 1) := by kernel_rfl
theorem kw2 : keyOf Try.prog 35 (.agg (wcells 2).toArray) = some (wlit 2) := by kernel_rfl
theorem kw3 : keyOf Try.prog 35 (.agg (wcells 3).toArray) = some (wlit 3) := by kernel_rfl
theorem kw4 : keyOf Try.prog 35 (.agg (wcells 4).toArray) = some (wlit 4) := by kernel_rfl
theorem kw5 : keyOf Try.prog 35 (.agg (wcells 5).toArray) = some (wlit 5) := by kernel_rfl
theorem kw6 : keyOf Try.prog 35 (.agg (wcells 6).toArray) = some (wlit 6) := by kernel_rfl
theorem kw7 : keyOf Try.prog 35 (.agg (wcells 7).toArray) = some (wlit 7) := by kernel_rfl
theorem kw8 : keyOf Try.prog 35 (.agg (wcells 8).toArray) = some (wlit 8) := by kernel_rfl
theorem kw9 : keyOf Try.prog 35 (.agg (wcells 9).toArray) = some (wlit 9) := by kernel_rfl
theorem kw10 : keyOf Try.prog 35 (.agg (wcells 10).toArray) = some (wlit 10) := by kernel_rfl
theorem kw11 : keyOf Try.prog 35 (.agg (wcells 11).toArray) = some (wlit 11) := by kernel_rfl
theorem kw12 : keyOf Try.prog 35 (.agg (wcells 12).toArray) = some (wlit 12) := by kernel_rfl
theorem kw13 : keyOf Try.prog 35 (.agg (wcells 13).toArray) = some (wlit 13) := by kernel_rfl
theorem kw14 : keyOf Try.prog 35 (.agg (wcells 14).toArray) = some (wlit 14) := by kernel_rfl
theorem kw15 : keyOf Try.prog 35 (.agg (wcells 15).toArray) = some (wlit 15) := by kernel_rfl
theorem kw16 : keyOf Try.prog 35 (.agg (wcells 16).toArray) = some (wlit 16) := by kernel_rfl
theorem kw17 : keyOf Try.prog 35 (.agg (wcells 17).toArray) = some (wlit 17) := by kernel_rfl
theorem kw18 : keyOf Try.prog 35 (.agg (wcells 18).toArray) = some (wlit 18) := by kernel_rfl
theorem kw19 : keyOf Try.prog 35 (.agg (wcells 19).toArray) = some (wlit 19) := by kernel_rfl
theorem kw20 : keyOf Try.prog 35 (.agg (wcells 20).toArray) = some (wlit 20) := by kernel_rfl
theorem kw21 : keyOf Try.prog 35 (.agg (wcells 21).toArray) = some (wlit 21) := by kernel_rfl
theorem kw22 : keyOf Try.prog 35 (.agg (wcells 22).toArray) = some (wlit 22) := by kernel_rfl
theorem kw23 : keyOf Try.prog 35 (.agg (wcells 23).toArray) = some (wlit 23) := by kernel_rfl
theorem kw24 : keyOf Try.prog 35 (.agg (wcells 24).toArray) = some (wlit 24) := by kernel_rfl
theorem kw25 : keyOf Try.prog 35 (.agg (wcells 25).toArray) = some (wlit 25) := by kernel_rfl
theorem kw26 : keyOf Try.prog 35 (.agg (wcells 26).toArray) = some (wlit 26) := by kernel_rfl
theorem kw27 : keyOf Try.prog 35 (.agg (wcells 27).toArray) = some (wlit 27) := by kernel_rfl
theorem kw28 : keyOf Try.prog 35 (.agg (wcells 28).toArray) = some (wlit 28) := by kernel_rfl
theorem kw29 : keyOf Try.prog 35 (.agg (wcells 29).toArray) = some (wlit 29) := by kernel_rfl
theorem kw30 : keyOf Try.prog 35 (.agg (wcells 30).toArray) = some (wlit 30) := by kernel_rfl
theorem kw31 : keyOf Try.prog 35 (.agg (wcells 31).toArray) = some (wlit 31) := by kernel_rfl
theorem keyOf_wave (k : Nat) (hk : k < 32) : keyOf Try.prog 35 (.agg (wcells k).toArray) = some (wlit k) := by
  have h : k = 0 ∨ k = 1 ∨ k = 2 ∨ k = 3 ∨ k = 4 ∨ k = 5 ∨ k = 6 ∨ k = 7 ∨ k = 8 ∨ k = 9 ∨ k = 10 ∨ k = 11 ∨ k = 12 ∨ k = 13 ∨ k = 14 ∨ k = 15 ∨ k = 16 ∨ k = 17 ∨ k = 18 ∨ k = 19 ∨ k = 20 ∨ k = 21 ∨ k = 22 ∨ k = 23 ∨ k = 24 ∨ k = 25 ∨ k = 26 ∨ k = 27 ∨ k = 28 ∨ k = 29 ∨ k = 30 ∨ k = 31 := by omega
  rcases h with rfl | rfl | rfl | rfl | rfl | rfl | rfl | rfl | rfl | rfl | rfl | rfl | rfl | rfl | rfl | rfl | rfl | rfl | rfl | rfl | rfl | rfl | rfl | rfl | rfl | rfl | rfl | rfl | rfl | rfl | rfl | rfl
  · exact kw0
  · exact kw1
  · exact kw2
  · exact kw3
  · exact kw4
  · exact kw5
  · exact kw6
  · exact kw7
  · exact kw8
  · exact kw9
  · exact kw10
  · exact kw11
  · exact kw12
  · exact kw13
  · exact kw14
  · exact kw15
  · exact kw16
  · exact kw17
  · exact kw18
  · exact kw19
  · exact kw20
  · exact kw21
  · exact kw22
  · exact kw23
  · exact kw24
  · exact kw25
  · exact kw26
  · exact kw27
  · exact kw28
  · exact kw29
  · exact kw30
  · exact kw31

theorem wcells_inj {x y : Nat} (h : wcells x = wcells y) : x = y := by
  simp only [wcells, List.cons.injEq, Value.string.injEq, Value.int.injEq, true_and, and_true] at h
  exact wave_inj (nm_inj (by omega) (by omega) h.1) (nm_inj (by omega) (by omega) h.2.1) (by omega)

theorem wlit_inj {x y : Nat} (hx : x < 32) (hy : y < 32) (h : wlit x = wlit y) : x = y := by
  have h1 := keyOf_wave x hx
  have h2 := keyOf_wave y hy
  rw [← h] at h2
  have := law35.inj h1 h2
  simp only [Value.agg.injEq] at this
  exact wcells_inj (by simpa using this)

end Go.Proofs.Qxb6003667a
