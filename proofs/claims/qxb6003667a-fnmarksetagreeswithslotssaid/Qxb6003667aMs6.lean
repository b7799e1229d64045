/-
  A mark set: what it is in memory; find (60), ZZMarkSetFind (42), ZZMarkSetLen (41), ZZMarkSetEntryWave (43), ZZMarkSetEntryMade (44).
-/
import Derived.Test.Qxb6003667aMs5
namespace Go.Proofs.Qxb6003667a
open Go.RowKit Go.WideMaps Go.Maps
set_option linter.unusedSimpArgs false
set_option linter.unusedVariables false
attribute [local go_sem ↓] Go.wp_at_zero Go.wp_at_succ

/-- The place of a key among the entries. -/
def plc (es : List (Nat × Int)) (k : Nat) : Option Nat := (es.map (·.1)).findIdx? (· == k)
theorem plc_eq (es : List (Nat × Int)) (k : Nat) : plc es k = es.findIdx? (fun e => e.1 == k) := by simp [plc, List.findIdx?_map, Function.comp_def]
theorem findKey_plc (es : List (Nat × Int)) (k : Nat) : findKey es k = match plc es k with | some i => (i : Int) | none => -1 := by rw [plc_eq]; rfl

/-- What a datum holds at a key: nothing, or a place. -/
def AtKey (D : DataW Unit) (k : Nat) : Option Nat → Prop
  | none => Maps.has D (wlit k) = false
  | some i => Maps.has D (wlit k) = true ∧ D.atKey (wlit k) (.lit (.int .i64 0)) = .lit (.int .i64 (i : Int))

/-- Block ib is a map of N entries that holds, at each wave, the place that f says. -/
def IdxFun (w : World) (ib N : Nat) (f : Nat → Option Nat) : Prop :=
  ∃ D : DataW Unit, w.ownsMap Try.prog 35 (plainElem Try.prog 3) ib N D ∧ Maps.size D = N ∧ ∀ k, k < 32 → AtKey D k (f k)

theorem ownsMap_tight {w : World} {b n : Nat} {D : DataW Unit} (h : w.ownsMap Try.prog 35 (plainElem Try.prog 3) b n D) : w.ownsMap Try.prog 35 (plainElem Try.prog 3) b (Maps.size D) D := by
  obtain ⟨es, clock, hb, F, hs, rfl⟩ := h
  exact ⟨es, clock, hb, F, by simp [Maps.size, length_sorted], rfl⟩

theorem IdxFun.congr {w : World} {ib N : Nat} {f f' : Nat → Option Nat} (h : IdxFun w ib N f) (hf : ∀ k, k < 32 → f k = f' k) : IdxFun w ib N f' := by
  obtain ⟨D, h1, h2, h3⟩ := h
  exact ⟨D, h1, h2, fun k hk => hf k hk ▸ h3 k hk⟩

/-- 'm[wave] = i'. -/
theorem IdxFun.put {w w' : World} {ib N n' : Nat} {f : Nat → Option Nat} {D : DataW Unit} (h1 : w.ownsMap Try.prog 35 (plainElem Try.prog 3) ib N D) (h2 : Maps.size D = N) (h3 : ∀ k, k < 32 → AtKey D k (f k)) {y i : Nat} (hy : y < 32)
    (hput : w'.ownsMap Try.prog 35 (plainElem Try.prog 3) ib n' (D.put (wlit y) (.lit (.int .i64 (i : Int))))) :
    IdxFun w' ib (if (f y).isSome then N else N + 1) (fun k => if k = y then some i else f k) := by
  have h4 := ownsMap_tight hput
  have hD : IsMap D := h1.isMap
  have hsz : Maps.size (D.put (wlit y) (.lit (.int .i64 (i : Int)))) = if (f y).isSome then N else N + 1 := by
    rw [size_put (h1.tidy law35), h2]
    have := h3 y hy
    cases hfy : f y with
    | none => rw [hfy] at this; have t : Maps.has D (wlit y) = false := this; rw [t]; rfl
    | some j => rw [hfy] at this; rw [this.1]; rfl
  refine ⟨_, hsz ▸ h4, hsz, fun k hk => ?_⟩
  by_cases hky : k = y
  · subst hky
    simp only [if_true]
    exact ⟨has_put_same hD (by simp [WideAt.IsKeyLit, wlit]) _, atKey_put_same hD (by simp [WideAt.IsKeyLit, wlit]) _ _⟩
  · have hne : wlit k ≠ wlit y := fun e => hky (wlit_inj hk hy e)
    simp only [if_neg hky]
    have := h3 k hk
    cases hfk : f k with
    | none => rw [hfk] at this; show Maps.has _ _ = false; rw [has_put_other hne]; exact this
    | some j => rw [hfk] at this; exact ⟨by rw [has_put_other hne]; exact this.1, by rw [atKey_put_other hne]; exact this.2⟩

/-- 'delete(m, wave)'. -/
theorem IdxFun.del {w w' : World} {ib N n' : Nat} {f : Nat → Option Nat} {D : DataW Unit} (h1 : w.ownsMap Try.prog 35 (plainElem Try.prog 3) ib N D) (h2 : Maps.size D = N) (h3 : ∀ k, k < 32 → AtKey D k (f k)) {y : Nat} (hy : y < 32) (hfy : (f y).isSome = true)
    (hdel : w'.ownsMap Try.prog 35 (plainElem Try.prog 3) ib n' (D.del (wlit y))) :
    IdxFun w' ib (N - 1) (fun k => if k = y then none else f k) := by
  have h4 := ownsMap_tight hdel
  have hhas : Maps.has D (wlit y) = true := by
    have := h3 y hy
    cases hf : f y with
    | none => rw [hf] at hfy; simp at hfy
    | some j => rw [hf] at this; exact this.1
  have hsz : Maps.size (D.del (wlit y)) = N - 1 := by
    have := size_del (k := wlit y) (h1.tidy law35)
    rw [hhas, h2] at this
    simp at this
    omega
  refine ⟨_, hsz ▸ h4, hsz, fun k hk => ?_⟩
  by_cases hky : k = y
  · subst hky
    simp only [if_true]
    exact has_del_same
  · have hne : wlit k ≠ wlit y := fun e => hky (wlit_inj hk hy e)
    simp only [if_neg hky]
    have := h3 k hk
    cases hfk : f k with
    | none => rw [hfk] at this; show Maps.has _ _ = false; rw [has_del_other hne]; exact this
    | some j => rw [hfk] at this; exact ⟨by rw [has_del_other hne]; exact this.1, by rw [atKey_del_other hne]; exact this.2⟩

/-- A mark set in block sb. -/
structure MSet (B : Nat) (w : World) (sb : Nat) (ev : Value) (ix : Option Nat) (es : List (Nat × Int)) : Prop where
  cells : w.heap[sb]? = some (.cells #[ev, .map ix] 78 (0, 0))
  row : w.ownsRow B 119 19 ev es.length (esCells es)
  nodup : (es.map (·.1)).Nodup
  lt : ∀ e ∈ es, e.1 < 32
  idx : ∀ ib, ix = some ib → IdxFun w ib es.length (plc es) ∧ B ≤ ib
  bs : B ≤ sb

theorem nodup_lt_len : ∀ (n : Nat) (l : List Nat), l.Nodup → (∀ x ∈ l, x < n) → l.length ≤ n
  | 0, l, _, h => by
    cases l with
    | nil => simp
    | cons a r => exact absurd (h a (by simp)) (by omega)
  | n + 1, l, hnd, h => by
    by_cases hn : n ∈ l
    · have ih := nodup_lt_len n (l.erase n) (hnd.erase n) (fun x hx => by
        have h1 := (List.Nodup.mem_erase_iff hnd).1 hx
        have h2 := h x h1.2
        omega)
      rw [List.length_erase_of_mem hn] at ih
      omega
    · have ih := nodup_lt_len n l hnd (fun x hx => by
        have h2 := h x hx
        have : x ≠ n := fun e => hn (e ▸ hx)
        omega)
      omega

theorem MSet.len {B : Nat} {w : World} {sb : Nat} {ev : Value} {ix : Option Nat} {es : List (Nat × Int)} (h : MSet B w sb ev ix es) : es.length ≤ 32 := by
  have h1 := nodup_lt_len 32 (es.map (·.1)) h.nodup (fun k hk => by
    obtain ⟨e, he, rfl⟩ := List.mem_map.1 hk
    exact h.lt e he)
  simpa using h1
theorem MSet.shape {B : Nat} {w : World} {sb : Nat} {ev : Value} {ix : Option Nat} {es : List (Nat × Int)} (h : MSet B w sb ev ix es) : ∃ ao cap, ev = .slice ao es.length cap := by
  rcases h.row.2 with ⟨rfl, hn⟩ | ⟨g, cap, cur, rfl, _⟩
  · exact ⟨none, 0, by rw [hn]⟩
  · exact ⟨_, _, rfl⟩

/-- The blocks that a mark set holds. -/
def msBlocks (sb : Nat) (ev : Value) (ix : Option Nat) (k : Nat) : Prop := k = sb ∨ ix = some k ∨ ev.ownBlock = some k

theorem IdxFun.kept {S : Nat → Prop} {w w' : World} {ib N : Nat} {f : Nat → Option Nat} (h : IdxFun w ib N f) (ht : Turned S w w') (hn : ¬ S ib) : IdxFun w' ib N f := by
  obtain ⟨D, ⟨es, clock, hb, r⟩, q⟩ := h
  exact ⟨D, ⟨es, clock, ht.heap hb hn, r⟩, q⟩
theorem MSet.kept {B : Nat} {S : Nat → Prop} {w w' : World} {sb : Nat} {ev : Value} {ix : Option Nat} {es : List (Nat × Int)} (h : MSet B w sb ev ix es) (ht : Turned S w w') (hn : ∀ k, msBlocks sb ev ix k → ¬ S k) : MSet B w' sb ev ix es :=
  ⟨ht.heap h.cells (hn _ (.inl rfl)), ht.ownsRow h.row (fun k hk => hn k (.inr (.inr hk))), h.nodup, h.lt, fun ib hib => ⟨(h.idx ib hib).1.kept ht (hn ib (.inr (.inl hib))), (h.idx ib hib).2⟩, h.bs⟩
theorem MSet.blk_lt {B : Nat} {w : World} {sb : Nat} {ev : Value} {ix : Option Nat} {es : List (Nat × Int)} (h : MSet B w sb ev ix es) : ∀ k, msBlocks sb ev ix k → B ≤ k ∧ k < w.heap.size := by
  rintro k (rfl | hk | hk)
  · exact ⟨h.bs, (Array.getElem?_eq_some_iff.1 h.cells).1⟩
  · obtain ⟨⟨D, ⟨es', clock, hb, _⟩, _⟩, h2⟩ := h.idx k hk
    exact ⟨h2, (Array.getElem?_eq_some_iff.1 hb).1⟩
  · obtain ⟨cur, hc, h2⟩ := row_block h.row hk
    exact ⟨h2, (Array.getElem?_eq_some_iff.1 hc).1⟩
theorem MSet.below {B : Nat} {w w' : World} {sb : Nat} {ev : Value} {ix : Option Nat} {es : List (Nat × Int)} (h : MSet B w sb ev ix es) {C : Nat} (hb : Below C w w') (hC : w.heap.size ≤ C) : MSet B w' sb ev ix es :=
  h.kept (Turned.of_below hb) (fun k hk hs => by have := (h.blk_lt k hk).2; omega)

theorem findKey_at {es : List (Nat × Int)} {y : Nat} (hnd : (es.map (·.1)).Nodup) {i : Nat} {e : Nat × Int} (he : es[i]? = some e) (hy : e.1 = y) : findKey es y = i := by
  refine findKey_hit he hy (fun j e' hj hje hy' => ?_)
  have h1 : (es.map (·.1))[i]? = some y := by simp [he, hy]
  have h2 : (es.map (·.1))[j]? = some y := by simp [hje, hy']
  have hi : i < (es.map (·.1)).length := (List.getElem?_eq_some_iff.1 h1).1
  have := (List.getElem?_inj hi hnd).1 (h1.trans h2.symm)
  omega
theorem findKey_not {es : List (Nat × Int)} {y : Nat} (h : y ∉ es.map (·.1)) : findKey es y = -1 :=
  findKey_none (fun j e _ hje hy => h (List.mem_map.2 ⟨e, List.mem_of_getElem? hje, hy⟩))

set_option maxHeartbeats 1000000 in
set_option maxRecDepth 100000 in
theorem find60_few {B : Nat} {w : World} {sb : Nat} {ev : Value} {es : List (Nat × Int)} (h : MSet B w sb ev none es) {y : Nat} {s' t' : ByteArray} {q' : Int} (hy : IsWave y s' t' q') :
    Calls Try.prog 60 #[.pointer (some ⟨sb, 0, none⟩), .agg #[.string s', .string t', .int .u64 q', .int .u64 1, .int .i64 0, .bool false]] w fun e w' => e = .returned (.int .i64 (findKey es y)) ∧ Below w.heap.size w w' := by
  have hl := h.len
  obtain ⟨ao, cap, rfl⟩ := h.shape
  have q76 : ∀ (w : World) (r : Option Nat), (binOp .neq 76 (.map r) (.map none)).run Try.prog w = .ok (.bool (!r.isNone)) w := fun w r => run_neq_map_nil w _ _ _ r Try.underlying76
  have c0 : w.cell? ⟨sb, 0, none⟩ = some (.slice ao es.length cap) := by rw [cell_of_row w sb 0 _ 78 (0, 0) h.cells]; rfl
  have c1 : w.cell? ⟨sb, 1, none⟩ = some (.map none) := by rw [cell_of_row w sb 1 _ 78 (0, 0) h.cells]; rfl
  have hsb : sb < w.heap.size := (h.blk_lt sb (.inl rfl)).2
  have hrow : (w.alloc (.cells #[.string s', .string t', .int .u64 q', .int .u64 1, .int .i64 0, .bool false] 35)).ownsRow B 119 19 (.slice ao es.length cap) es.length (esCells es) := h.row.alloc _
  have H71 := toHid (indexFunc71 hy ao cap w.heap.size es (w.alloc (.cells #[.string s', .string t', .int .u64 q', .int .u64 1, .int .i64 0, .bool false] 35)) (by omega) hrow (heap_at rfl))
  clear hrow h hy
  go_enter Try.func60, Try.ntmps60
  go_wp2_with (first | (go_at_call 71; refine H71.out.mono ?_; rintro e w1 ⟨rfl, hb1⟩))
  go_ret
  exact ⟨rfl, ((Below.refl _ _).alloc (Nat.le_refl _) _).trans (hb1.mono (by simp))⟩

theorem zero3' (w : World) : (zeroValue 3).run Try.prog w = .ok (.int .i64 0) w := by kernel_rfl

theorem IdxFun.hit {w : World} {ib N : Nat} {f : Nat → Option Nat} (h : IdxFun w ib N f) {y i : Nat} (hy32 : y < 32) (hi : f y = some i) {v : Value} (hkey : keyOf Try.prog 35 v = some (wlit y)) :
    (Instr.lookup 76 (.map (some ib)) v true).run Try.prog w = .ok (.tuple #[.int .i64 i, .bool true]) w := by
  obtain ⟨D, hown, _, hf⟩ := h
  have hy := hf y hy32
  rw [hi] at hy
  obtain ⟨h1, h2⟩ := hy
  obtain ⟨u, ps, hrun, hu⟩ := hown.look_ok law35 Try.underlying76 (zero3' w) (plainElem_int Try.underlying3 (by decide)) hkey
  obtain ⟨c, rfl, hc, _⟩ := plainElem_int_inv Try.underlying3 hu
  simp only [Prod.mk.injEq] at hc
  rw [h2] at hc
  simp at hc
  rw [hrun, h1, ← hc.1]
theorem IdxFun.miss {w : World} {ib N : Nat} {f : Nat → Option Nat} (h : IdxFun w ib N f) {y : Nat} (hy32 : y < 32) (hi : f y = none) {v : Value} (hkey : keyOf Try.prog 35 v = some (wlit y)) :
    (Instr.lookup 76 (.map (some ib)) v true).run Try.prog w = .ok (.tuple #[.int .i64 0, .bool false]) w := by
  obtain ⟨D, hown, _, hf⟩ := h
  have h1 := hf y hy32
  rw [hi] at h1
  have h1' : Maps.has D (wlit y) = false := h1
  obtain ⟨u, ps, hrun, hu⟩ := hown.look_ok law35 Try.underlying76 (zero3' w) (plainElem_int Try.underlying3 (by decide)) hkey
  obtain ⟨c, rfl, hc, _⟩ := plainElem_int_inv Try.underlying3 hu
  simp only [Prod.mk.injEq] at hc
  rw [atKey_of_not_has h1'] at hc
  simp at hc
  rw [hrun, h1', ← hc.1]
theorem key_of_isWave {y : Nat} (hy32 : y < 32) {s' t' : ByteArray} {q' : Int} (hy : IsWave y s' t' q') : keyOf Try.prog 35 (.agg #[.string s', .string t', .int .u64 q', .int .u64 1, .int .i64 0, .bool false]) = some (wlit y) := by
  have := keyOf_wave y hy32
  rw [hy.cells] at this
  exact this
theorem Turned.same {S : Nat → Prop} {w w' : World} (h : w'.heap = w.heap) (h1 : w'.os = w.os) (h2 : w'.tape = w.tape) (h3 : w'.output = w.output) : Turned S w w' := ⟨h1, h2, h3, by rw [h]; exact Nat.le_refl _, fun _ _ _ => by rw [h]⟩

set_option maxHeartbeats 1000000 in
set_option maxRecDepth 100000 in
theorem find60_many {B : Nat} {w : World} {sb ib : Nat} {ev : Value} {es : List (Nat × Int)} (h : MSet B w sb ev (some ib) es) {y : Nat} (hy32 : y < 32) {s' t' : ByteArray} {q' : Int} (hy : IsWave y s' t' q') :
    Calls Try.prog 60 #[.pointer (some ⟨sb, 0, none⟩), .agg #[.string s', .string t', .int .u64 q', .int .u64 1, .int .i64 0, .bool false]] w fun e w' => e = .returned (.int .i64 (findKey es y)) ∧ Below w.heap.size w w' := by
  have hl := h.len
  have q76 : ∀ (w : World) (r : Option Nat), (binOp .neq 76 (.map r) (.map none)).run Try.prog w = .ok (.bool (!r.isNone)) w := fun w r => run_neq_map_nil w _ _ _ r Try.underlying76
  have c1 : w.cell? ⟨sb, 1, none⟩ = some (.map (some ib)) := by rw [cell_of_row w sb 1 _ 78 (0, 0) h.cells]; rfl
  have hsb : sb < w.heap.size := (h.blk_lt sb (.inl rfl)).2
  have hib : ib < w.heap.size := (h.blk_lt ib (.inr (.inl rfl))).2
  have hkey := key_of_isWave hy32 hy
  have hidx : ∀ n, IdxFun ((w.alloc (.cells #[.string s', .string t', .int .u64 q', .int .u64 1, .int .i64 0, .bool false] 35)).drewN n) ib es.length (plc es) := fun n =>
    ((h.idx ib rfl).1.kept ((Turned.refl (fun _ => False) _).alloc _) id).kept (S := fun _ => False) (Turned.same rfl rfl rfl rfl) id
  rw [findKey_plc]
  cases hp : plc es y with
  | some i =>
    have hrun := fun n => (hidx n).hit hy32 hp hkey
    simp only []
    clear hidx hp hkey hy h
    go_enter Try.func60, Try.ntmps60
    go_wp2_with fail
    go_quiet (fail)
    go_wp2
    go_ret
    exact ⟨rfl, below_drewN ((Below.refl _ _).alloc (Nat.le_refl _) _) _⟩
  | none =>
    have hrun := fun n => (hidx n).miss hy32 hp hkey
    simp only []
    clear hidx hp hkey hy h
    go_enter Try.func60, Try.ntmps60
    go_wp2_with fail
    go_quiet (fail)
    go_wp2
    go_ret
    exact ⟨rfl, below_drewN ((Below.refl _ _).alloc (Nat.le_refl _) _) _⟩

theorem find60 {B : Nat} {w : World} {sb : Nat} {ev : Value} {ix : Option Nat} {es : List (Nat × Int)} (h : MSet B w sb ev ix es) {y : Nat} (hy32 : y < 32) {s' t' : ByteArray} {q' : Int} (hy : IsWave y s' t' q') :
    Calls Try.prog 60 #[.pointer (some ⟨sb, 0, none⟩), .agg #[.string s', .string t', .int .u64 q', .int .u64 1, .int .i64 0, .bool false]] w fun e w' => e = .returned (.int .i64 (findKey es y)) ∧ Below w.heap.size w w' := by
  cases ix with
  | none => exact find60_few h hy
  | some ib => exact find60_many h hy32 hy

theorem MSet.alloc {B : Nat} {w : World} {sb : Nat} {ev : Value} {ix : Option Nat} {es : List (Nat × Int)} (h : MSet B w sb ev ix es) (o : Obj) : MSet B (w.alloc o) sb ev ix es :=
  h.kept ((Turned.refl (fun _ => False) _).alloc _) (fun _ _ => id)

set_option maxHeartbeats 1000000 in
set_option maxRecDepth 100000 in
theorem find42 {B : Nat} {w : World} {sb : Nat} {ev : Value} {ix : Option Nat} {es : List (Nat × Int)} (h : MSet B w sb ev ix es) {y : Nat} (hy32 : y < 32) {s' t' : ByteArray} {q' : Int} (hy : IsWave y s' t' q') :
    Calls Try.prog 42 #[.pointer (some ⟨sb, 0, none⟩), .agg #[.string s', .string t', .int .u64 q', .int .u64 1, .int .i64 0, .bool false]] w fun e w' => e = .returned (.int .i64 (findKey es y)) ∧ Below w.heap.size w w' := by
  have H60 := toHid (find60 (h.alloc (.cells #[.string s', .string t', .int .u64 q', .int .u64 1, .int .i64 0, .bool false] 35)) hy32 hy)
  clear h hy
  go_enter Try.func42, Try.ntmps42
  go_wp2_with (first | (go_at_call 60; refine H60.out.mono ?_; rintro e w1 ⟨rfl, hb1⟩))
  go_ret
  exact ⟨rfl, ((Below.refl _ _).alloc (Nat.le_refl _) _).trans (hb1.mono (by simp))⟩

set_option maxHeartbeats 1000000 in
set_option maxRecDepth 100000 in
theorem len41 {B : Nat} {w : World} {sb : Nat} {ev : Value} {ix : Option Nat} {es : List (Nat × Int)} (h : MSet B w sb ev ix es) :
    Calls Try.prog 41 #[.pointer (some ⟨sb, 0, none⟩)] w fun e w' => e = .returned (.int .i64 es.length) ∧ w' = w := by
  have hl := h.len
  obtain ⟨ao, cap, rfl⟩ := h.shape
  have c0 : w.cell? ⟨sb, 0, none⟩ = some (.slice ao es.length cap) := by rw [cell_of_row w sb 0 _ 78 (0, 0) h.cells]; rfl
  clear h
  go_enter Try.func41, Try.ntmps41
  go_wp2
  go_ret
  exact ⟨rfl, rfl⟩

theorem MSet.shape_some {B : Nat} {w : World} {sb : Nat} {ev : Value} {ix : Option Nat} {es : List (Nat × Int)} (h : MSet B w sb ev ix es) (hn : 0 < es.length) : ∃ g cap, ev = .slice (some ⟨g, 0, none⟩) es.length cap ∧ es.length ≤ cap := by
  rcases h.row.2 with ⟨_, hn'⟩ | ⟨g, cap, cur, rfl, _, _, hc, _⟩
  · omega
  · exact ⟨_, _, rfl, hc⟩

set_option maxHeartbeats 1000000 in
set_option maxRecDepth 100000 in
theorem made44 {B : Nat} {w : World} {sb : Nat} {ev : Value} {ix : Option Nat} {es : List (Nat × Int)} (h : MSet B w sb ev ix es) {i : Nat} {x : Nat} {m : Int} (hi : es[i]? = some (x, m)) :
    Calls Try.prog 44 #[.pointer (some ⟨sb, 0, none⟩), .int .i64 i] w fun e w' => e = .returned (.int .u64 m) ∧ w' = w := by
  have hl := h.len
  have hil : i < es.length := (List.getElem?_eq_some_iff.1 hi).1
  obtain ⟨g, cap, rfl, hcap⟩ := h.shape_some (by omega)
  have c0 : w.cell? ⟨sb, 0, none⟩ = some (.slice (some ⟨g, 0, none⟩) es.length cap) := by rw [cell_of_row w sb 0 _ 78 (0, 0) h.cells]; rfl
  have hc17 : w.cell? ⟨g, i * 19 + 17, none⟩ = some (.int .u64 m) := entry_at h.row hi 17 _ rfl
  have hc17' : w.cell? ⟨g, i * 19 + 6 + 11, none⟩ = some (.int .u64 m) := hc17
  clear h hi
  go_enter Try.func44, Try.ntmps44
  go_wp2
  go_ret
  exact ⟨rfl, rfl⟩

set_option maxHeartbeats 1000000 in
set_option maxRecDepth 100000 in
theorem wave43 {B : Nat} {w : World} {sb : Nat} {ev : Value} {ix : Option Nat} {es : List (Nat × Int)} (h : MSet B w sb ev ix es) {i : Nat} {x : Nat} {m : Int} (hi : es[i]? = some (x, m)) :
    Calls Try.prog 43 #[.pointer (some ⟨sb, 0, none⟩), .int .i64 i] w fun e w' => ∃ s t q, e = .returned (.agg #[.string s, .string t, .int .u64 q, .int .u64 1, .int .i64 0, .bool false]) ∧ IsWave x s t q ∧ Below w.heap.size w w' := by
  have hl := h.len
  have hil : i < es.length := (List.getElem?_eq_some_iff.1 hi).1
  obtain ⟨g, cap, rfl, hcap⟩ := h.shape_some (by omega)
  have c0 : w.cell? ⟨sb, 0, none⟩ = some (.slice (some ⟨g, 0, none⟩) es.length cap) := by rw [cell_of_row w sb 0 _ 78 (0, 0) h.cells]; rfl
  have hsb : sb < w.heap.size := (h.blk_lt sb (.inl rfl)).2
  have hg : g < w.heap.size := (h.blk_lt g (.inr (.inr rfl))).2
  have e := entry_at h.row hi
  have hx := isWave_mk x
  have d0 : w.cell? ⟨g, i * 19, none⟩ = some (.string (nm 115 (x % 4))) := e 0 _ rfl
  have d1 : w.cell? ⟨g, i * 19 + 1, none⟩ = some (.string (nm 116 (x / 4 % 4))) := e 1 _ rfl
  have d2 : w.cell? ⟨g, i * 19 + 2, none⟩ = some (.int .u64 ((x / 16 : Nat) : Int)) := e 2 _ rfl
  have d3 : w.cell? ⟨g, i * 19 + 3, none⟩ = some (.int .u64 1) := e 3 _ rfl
  have d4 : w.cell? ⟨g, i * 19 + 4, none⟩ = some (.int .i64 0) := e 4 _ rfl
  have d5 : w.cell? ⟨g, i * 19 + 5, none⟩ = some (.bool false) := e 5 _ rfl
  generalize nm 115 (x % 4) = s at d0 hx
  generalize nm 116 (x / 4 % 4) = t at d1 hx
  generalize ((x / 16 : Nat) : Int) = q at d2 hx
  have Hx := toHid hx
  clear h hi e hx
  go_enter Try.func43, Try.ntmps43
  go_wp2
  refine bodyPost_ret (v := .agg #[.string s, .string t, .int .u64 q, .int .u64 1, .int .i64 0, .bool false]) (by simp [results, Try.results43, go_sem]) rfl ⟨_, _, _, rfl, Hx.out, ?_⟩
  go_grown

end Go.Proofs.Qxb6003667a
