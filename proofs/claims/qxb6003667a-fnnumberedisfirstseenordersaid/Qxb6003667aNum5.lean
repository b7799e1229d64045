/-
  FnNumberedIsFirstSeenOrder (4): the row.
-/
import Derived.Test.Qxb6003667aNum4
import Derived.ProofKit
import Derived.SizedLaws
namespace Go.Proofs.Qxb6003667a.Numbered
open Go.ChangeShapes Go.WideShapes Go.ChangeAt Go.RowKit
set_option linter.unusedSimpArgs false
set_option linter.unusedVariables false

set_option maxHeartbeats 2000000 in
set_option maxRecDepth 100000 in
theorem walk_nil (w : World) : Calls Try.prog 4 #[.slice none 0 0] w fun e w' => e = .returned (.bool true) ∧ Below w.heap.size w w' := by
  have H16 := toHid (bytes16_none none 0 w)
  go_enter Try.func4, Try.ntmps4
  go_wp2_with (first | (go_at_call 16; refine H16.out.mono ?_; rintro e w' ⟨⟨r, rfl⟩, hw⟩; obtain rfl := hw.symm; cases r))
  · go_ret
    exact ⟨rfl, Below.refl _ _⟩
  · refine wp_loop_rounds 1 ?_
    rw [rounds_succ]
    go_wp2_with (first | (go_at_call 17; refine (clone17_nil _).mono ?_; rintro e w' ⟨rfl, hw⟩; obtain rfl := hw.symm) | (go_at_call 18; refine (new18 _).mono ?_; rintro e w2 ⟨pb, rb, nb, rfl, hnp, hb2⟩))
    refine wp_loop_rounds 1 ?_
    rw [rounds_succ]
    have hp : PicN w.heap.size w2 pb rb nb (.slice none 0 0) [] := ⟨hnp.cells, NumMap.new hnp.nums, World.ownsRow_nil _ _ _ _, hnp.bp, hnp.bn⟩
    have H20 := toHid (txnCount20 hp (by simp))
    clear hp hnp
    go_wp2_with (first | (go_at_call 20; refine H20.out.mono ?_; rintro e w3 ⟨rfl, hw3⟩; obtain rfl := hw3.symm))
    refine wp_loop_rounds 1 ?_
    rw [rounds_succ]
    go_wp2
    go_ret
    exact ⟨rfl, hb2⟩

theorem own : ownKnob Try.prog.godebug = none := by kernel_rfl
theorem laidOut : laidOutB Try.prog = true := by kernel_rfl
theorem cells9 : Try.prog.cellsOf 9 = 1 := by kernel_rfl
theorem bytes9 : Try.prog.bytesOf 9 = 16 := by kernel_rfl

set_option maxRecDepth 100000 in
theorem lifted (os : Os) (started : os.Started) (H : Type) (enc : TypeId × Value → H) :
    ReturnsInHanded {} Try.checked os 4 .any (Rows.fnNumberedIsFirstSeenOrderSpec.pre6 enc Try.prog Try.f4 Rows.fnNumberedIsFirstSeenOrderRow.domain false) (Rows.fnNumberedIsFirstSeenOrderSpec.post enc Try.prog Try.f4 false true false false) := by
  refine returnsInHanded_of_change_sized (C := Try.checked) own started (by kernel_rfl) Try.func4
    (ChangeSpec.witness6 (enc := enc) (C := Try.checked) false ⟨#[], #[.slice none 0 0], []⟩ 8 (by kernel_rfl) (by kernel_rfl) (by kernel_rfl) (by kernel_rfl)) ?_
  intro W base args ds gs before hval0 hW _ hsz0 _
  have hsz : (DataW.weightsEach Try.prog (Try.f4.params.toList ++ Rows.fnNumberedIsFirstSeenOrderSpec.plain.varTypes Try.prog) (ds ++ gs)).all (· ≤ reachBytes) = true := hsz0
  clear hsz0
  have hval : ∀ (j : Nat) t v, Try.f4.params[j]? = some t → args[j]? = some v → Value.okWide Try.prog W .any base t v := hval0
  have hW' := hW
  obtain ⟨p, q, hA0, hV, rfl, _, _⟩ := hW
  have hA : DataW.TrodAll enc Try.prog W 0 (fun _ => true) true Try.f4.params.toList args.toList ds p := hA0
  rw [Try.params4] at hA hval hsz
  obtain ⟨v0, d0, rfl, rfl, h0⟩ := trodAll_one hA
  obtain ⟨rfl, rfl⟩ := trodVars_none hV
  obtain ⟨a0, len, cap, rfl⟩ := okWide_slice Try.underlying39 (hval 0 39 v0 rfl rfl)
  have h0k := h0
  obtain ⟨fuel, hf⟩ := h0
  clear hA0 hval0
  simp only [List.append_nil] at hW'
  have hlt : ∀ x ∈ p, x.block < W.heap.size := fun x hx => by simpa using hW'.lt x hx
  have hargs : ∀ (W' : World), Below W.heap.size W W' → DataW.Trod enc Try.prog W' 0 (fun b => decide (b < W.heap.size)) true 39 (.slice a0 len cap) d0 p :=
    fun W' hn => Below.trod laidOut (by kernel_rfl) (of_decide_eq_true (by kernel_rfl)) h0k hn hlt
  have fin : ∀ (e : Ending) (W' : World), (e = Ending.returned (.bool true) ∧ Below W.heap.size W W') →
      ∃ v, e = Ending.returned v ∧ Rows.fnNumberedIsFirstSeenOrderSpec.post enc Try.checked.prog Try.f4 false true false false W #[.slice a0 len cap] v W' := by
    intro e W' ⟨he, hnx⟩
    subst he
    refine ⟨_, rfl, _, _, _, [], p, [], hW', ?_, ?_, rfl, hnx.frame _, fun h => by cases h⟩
    · exact trodAll_mk1 (shut_bool Try.underlying4 _)
    · exact trodAll_mk1 (hargs _ hnx)
  rcases open_strings Try.underlying39 Try.underlying9 cells9 hf with ⟨hcs, hx⟩ | ⟨a, len', cap', ss, hcs, _, hl, hm, hz, hx, hcell, hws⟩
  · simp [Value.cells] at hcs
    obtain ⟨rfl, rfl, rfl⟩ := hcs
    exact (walk_nil W).mono fin
  · simp [Value.cells] at hcs
    obtain ⟨rfl, rfl, rfl⟩ := hcs
    simp only [Prod.mk.injEq] at hx
    obtain ⟨hd, hp⟩ := hx
    subst hd
    simp only [if_true] at hz
    have hreach : len * 16 ≤ 140737488351232 := by
      have := sized_slice hsz (j := 0) (t := 39) (e := 9) rfl rfl Try.underlying39
      rw [bytes9] at this
      simp only [strs, List.length_map, List.length_take, List.length_drop, reachBytes] at this
      omega
    have hcell' : ∀ j, j < len → ∃ b off, a = ⟨b, off, none⟩ ∧ b < W.heap.size ∧ W.cell? ⟨b, off + j, none⟩ = some (.string ((ss.take len).getD j ByteArray.empty)) := by
      intro j hj
      obtain ⟨b, off, spot⟩ := a
      have hspot : spot = none := by simpa [Addr.add] using World.cell?_spot (hcell 0 (by omega))
      subst hspot
      refine ⟨b, off, rfl, hlt (.cell b off) (by rw [hp]; exact MemPlace.mem_row.2 ⟨0, by omega, by simp⟩), ?_⟩
      have := hcell j (by omega)
      rw [add_plain] at this
      rw [this]
      simp [List.getD, List.getElem?_take, hj]
    refine (numbered4_some a len cap (ss.take len) W hreach (by simp; omega) (fun s hs => hws s (List.mem_of_mem_take hs)) ?_ hcell').mono fin
    by_cases hl0 : len = 0
    · subst hl0
      exact (bytes16_none (some a) cap W).mono fun e w' ⟨h1, h2⟩ => ⟨h1, h2.symm⟩
    · obtain ⟨b, off, rfl, _, _⟩ := hcell' 0 (by omega)
      exact (bytes16_any b off len cap ss W hreach (by omega) (fun j hj => by rw [← add_plain]; exact hcell j hj)).mono fun e w' ⟨h1, h2⟩ => ⟨h1, h2.symm⟩

theorem over : Rows.fnNumberedIsFirstSeenOrderRow.holds Try.pinned (OpenSpec.ofChange Rows.fnNumberedIsFirstSeenOrderSpec) :=
  OpenClaim.holds_of_wide 4 Try.f4 rfl rfl rfl rfl rfl rfl rfl ⟨rfl, rfl, rfl, rfl, rfl⟩ rfl rfl rfl rfl rfl (by kernel_rfl) Try.func4 (by kernel_rfl)
    (of_decide_eq_true (by kernel_rfl)) (by unfold Func.isWrapper; first | (rw [if_pos (by decide +kernel)]; kernel_rfl) | (rw [if_neg (by decide +kernel)]; exact ⟨rfl, rfl⟩))
    (fun os started H enc _ => lifted os started H enc)

/-- The statement. -/
theorem proved : Rows.FnNumberedIsFirstSeenOrderSaid := over
#print axioms proved
end Go.Proofs.Qxb6003667a.Numbered
