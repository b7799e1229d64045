/-
  (*picture).numbered (52), ZZNumbered (19), ZZTxnCount (20), ZZTxnID (21): over a picture whose field 'txns' is whatever row of (id, requests) pairs.
-/
import Derived.Test.Qxb6003667aNum2
import Derived.Maps.OwnSet
import Derived.Maps.AppendAt
namespace Go.Proofs.Qxb6003667a
open Go.RowKit Go.WideMaps Go.Maps
set_option linter.unusedSimpArgs false
set_option linter.unusedVariables false

theorem toHid {p : Prop} (h : p) : Hid p := h

/-- w' is w but for the blocks of S and for new ones. -/
structure Turned (S : Nat → Prop) (w w' : World) : Prop where
  os : w'.os = w.os
  tape : w'.tape = w.tape
  output : w'.output = w.output
  size : w.heap.size ≤ w'.heap.size
  block : ∀ k, k < w.heap.size → ¬ S k → w'.heap[k]? = w.heap[k]?

theorem Turned.refl (S : Nat → Prop) (w : World) : Turned S w w := ⟨rfl, rfl, rfl, Nat.le_refl _, fun _ _ _ => rfl⟩
theorem Turned.trans {S : Nat → Prop} {a b c : World} (h : Turned S a b) (k : Turned S b c) : Turned S a c :=
  ⟨k.os.trans h.os, k.tape.trans h.tape, k.output.trans h.output, Nat.le_trans h.size k.size, fun i hi hn => (k.block i (Nat.lt_of_lt_of_le hi h.size) hn).trans (h.block i hi hn)⟩
theorem Turned.mono {S S' : Nat → Prop} {a b : World} (h : Turned S a b) (hs : ∀ k, k < a.heap.size → S k → S' k) : Turned S' a b :=
  ⟨h.os, h.tape, h.output, h.size, fun i hi hn => h.block i hi (fun hS => hn (hs i hi hS))⟩
theorem Turned.drew {S : Nat → Prop} {a b : World} (h : Turned S a b) : Turned S a b.drew := ⟨h.os, h.tape, h.output, h.size, h.block⟩
theorem Turned.alloc {S : Nat → Prop} {a b : World} (h : Turned S a b) (o : Obj) : Turned S a (b.alloc o) :=
  h.trans ⟨rfl, rfl, rfl, by simp, fun k hk _ => Below.heap_alloc _ _ _ hk⟩
theorem Turned.setCell {S : Nat → Prop} {a b : World} (h : Turned S a b) {p : Addr} (hp : S p.block) (u : Value) : Turned S a (b.setCell p u) :=
  h.trans ⟨rfl, rfl, rfl, by simp, fun k _ hk => Below.heap_setCell _ _ _ _ (fun e => hk (by rw [e]; exact hp))⟩
theorem Turned.of_grownBy {S : Nat → Prop} {a b : World} {row : Option Nat} (h : a.grownBy b row) (hr : ∀ k, row = some k → S k) : Turned S a b :=
  ⟨h.os, h.tape, h.output, h.size, fun k hk hn => h.block k hk (fun e => hn (hr k e.symm))⟩
theorem Turned.grown {S : Nat → Prop} {a b c : World} {row : Option Nat} (h : Turned S a b) (hg : b.grownBy c row) (hr : ∀ k, row = some k → S k) : Turned S a c := h.trans (Turned.of_grownBy hg hr)
theorem Turned.below {S : Nat → Prop} {a b : World} {B : Nat} (h : Turned S a b) (hB : B ≤ a.heap.size) (hs : ∀ k, k < B → ¬ S k) : Below B a b :=
  ⟨h.os, h.tape, h.output, h.size, fun k hk => h.block k (by omega) (hs k hk)⟩
theorem Turned.of_below {a b : World} {B : Nat} (h : Below B a b) : Turned (fun k => B ≤ k) a b := ⟨h.os, h.tape, h.output, h.size, fun k _ hn => h.block k (by omega)⟩
theorem Turned.heap {S : Nat → Prop} {w w' : World} (h : Turned S w w') {k : Nat} {r : Obj} (hk : w.heap[k]? = some r) (hn : ¬ S k) : w'.heap[k]? = some r := by
  rw [h.block k (Array.getElem?_eq_some_iff.1 hk).1 hn]; exact hk
theorem Turned.cell {S : Nat → Prop} {w w' : World} (h : Turned S w w') {p : Addr} (hk : p.block < w.heap.size) (hn : ¬ S p.block) : w'.cell? p = w.cell? p := World.cell?_of_block (h.block _ hk hn)
theorem Turned.ownsRow {S : Nat → Prop} {w w' : World} (h : Turned S w w') {base : Nat} {e : TypeId} {size : Nat} {v : Value} {n : Nat} {xs : List Value} (ho : w.ownsRow base e size v n xs) (hn : ∀ k, v.ownBlock = some k → ¬ S k) : w'.ownsRow base e size v n xs := by
  refine ⟨ho.1, ?_⟩
  rcases ho.2 with hnil | ⟨g, cap, cur, rfl, hb, hgg, rest⟩
  · exact .inl hnil
  · exact .inr ⟨g, cap, cur, rfl, hb, h.heap hgg (hn g rfl), rest⟩

theorem ba_ext {s t : ByteArray} (h : s.data.toList = t.data.toList) : s = t := by
  cases s; cases t; simp at h; simpa using h

theorem law9 : Keyed Try.prog 9 := string_keyed Try.underlying9
theorem zero3 (w : World) : (zeroValue 3).run Try.prog w = .ok (.int .i64 0) w := by kernel_rfl

/-- Block nb is a map that holds, at each of the names, its place among them. -/
def NumMap (w : World) (nb : Nat) (names : List ByteArray) : Prop :=
  ∃ D : DataW Unit, w.ownsMap Try.prog 9 (plainElem Try.prog 3) nb names.length D ∧ names.Nodup ∧ (∀ s : ByteArray, s ∉ names → Maps.has D (.string s.data.toList) = false) ∧
    ∀ (s : ByteArray) (i : Nat), names[i]? = some s → Maps.has D (.string s.data.toList) = true ∧ D.atKey (.string s.data.toList) (.lit (.int .i64 0)) = .lit (.int .i64 i)

theorem NumMap.kept {S : Nat → Prop} {w w' : World} {nb : Nat} {names : List ByteArray} (h : NumMap w nb names) (ht : Turned S w w') (hn : ¬ S nb) : NumMap w' nb names := by
  obtain ⟨D, ⟨es, clock, hb, r⟩, q⟩ := h
  exact ⟨D, ⟨es, clock, ht.heap hb hn, r⟩, q⟩

theorem NumMap.new {w : World} {nb : Nat} (h : w.heap[nb]? = some (.map #[] 0)) : NumMap w nb [] := by
  refine ⟨.map [], ⟨#[], 0, h, ⟨by simp, MapKept.stamped_empty 0, by simp⟩, Nat.le_refl _, rfl⟩, List.nodup_nil, fun _ _ => rfl, fun s i h => by simp at h⟩

/-- The store at a new name. -/
theorem num_step {w' : World} {nb : Nat} {names : List ByteArray} {D : DataW Unit} {s : ByteArray} (hs : s ∉ names) (hnd : names.Nodup) (hD : IsMap D)
    (h1 : ∀ s : ByteArray, s ∉ names → Maps.has D (.string s.data.toList) = false)
    (h2 : ∀ (s : ByteArray) (i : Nat), names[i]? = some s → Maps.has D (.string s.data.toList) = true ∧ D.atKey (.string s.data.toList) (.lit (.int .i64 0)) = .lit (.int .i64 i))
    (hown : w'.ownsMap Try.prog 9 (plainElem Try.prog 3) nb (names.length + 1) (D.put (.string s.data.toList) (.lit (.int .i64 names.length)))) : NumMap w' nb (names ++ [s]) := by
  have ne : ∀ t : ByteArray, t ≠ s → (Lit.string t.data.toList) ≠ Lit.string s.data.toList := fun t ht e => ht (ba_ext (by simpa using e))
  refine ⟨_, by simpa using hown, ?_, ?_, ?_⟩
  · rw [List.nodup_append]
    exact ⟨hnd, by simp, fun a ha b hb => by simp at hb; subst hb; exact fun e => hs (e ▸ ha)⟩
  · intro t ht
    simp at ht
    rw [has_put_other (ne t ht.2), h1 t ht.1]
  · intro t i ht
    by_cases hts : t = s
    · subst hts
      have hi : i = names.length := by
        rcases Nat.lt_trichotomy i names.length with hlt | heq | hgt
        · rw [List.getElem?_append_left hlt] at ht
          exact absurd (List.mem_of_getElem? ht) hs
        · exact heq
        · rw [List.getElem?_append_right (by omega)] at ht
          have : i - names.length ≠ 0 := by omega
          cases hq : i - names.length with
          | zero => omega
          | succ q => rw [hq] at ht; simp at ht
      subst hi
      exact ⟨has_put_same hD (by simp [WideAt.IsKeyLit]) _, atKey_put_same hD (by simp [WideAt.IsKeyLit]) _ _⟩
    · have hi : i < names.length := by
        by_cases hi : i < names.length
        · exact hi
        · rw [List.getElem?_append_right (by omega)] at ht
          cases hq : i - names.length with
          | zero => rw [hq] at ht; simp at ht; exact absurd ht.symm hts
          | succ q => rw [hq] at ht; simp at ht
      rw [List.getElem?_append_left hi] at ht
      rw [has_put_other (ne t hts), atKey_put_other (ne t hts)]
      exact h2 t i ht

/-- The row behind 'txns', cell by cell. -/
def txCells (txs : List (ByteArray × Value)) : List Value := txs.flatMap fun p => [.string p.1, p.2]

theorem Try.info107 : (Try.prog.info? 107).map (fun i => (i.zero, i.size, i.bytes)) = some (some (.agg #[.string ByteArray.empty, .slice none 0 0]), 2, 40) := by kernel_rfl

/-- A picture: its cells, its numbers, its row of transactions. -/
structure PicN (B : Nat) (w : World) (pb rb nb : Nat) (tx : Value) (txs : List (ByteArray × Value)) : Prop where
  cells : PicCells w pb rb nb tx
  nums : NumMap w nb (txs.map (·.1))
  row : w.ownsRow B 107 2 tx txs.length (txCells txs)
  bp : B ≤ pb
  bn : B ≤ nb

set_option maxHeartbeats 1000000 in
set_option maxRecDepth 100000 in
/-- A name that has a number. -/
theorem numbered_hit {B : Nat} {w : World} {pb rb nb : Nat} {tx : Value} {txs : List (ByteArray × Value)} (h : PicN B w pb rb nb tx txs) (s : ByteArray) (hs : s.size ≤ maxLen) (i : Nat) (hi : (txs.map (·.1))[i]? = some s) :
    Calls Try.prog 52 #[.pointer (some ⟨pb, 0, none⟩), .string s] w fun e w' => e = .returned (.int .i64 i) ∧ w' = w := by
  obtain ⟨⟨cs, hpb, hcs, h6, h7, h8⟩, ⟨D, hown, hnd, hno, hyes⟩, hrow, _, _⟩ := h
  obtain ⟨hhas, hat0⟩ := hyes s i hi
  have c7 : w.cell? ⟨pb, 7, none⟩ = some (.map (some nb)) := by rw [cell_of_row w pb 7 cs 104 (0, 0) hpb]; exact h7
  have hkey : keyOf Try.prog 9 (.string s) = some (.string s.data.toList) := keyOf_string_mk Try.underlying9 hs
  clear hyes hno hnd hrow h6 h7 h8
  go_enter Try.func52, Try.ntmps52
  go_wp2_with (first | (at_lookup; refine wpList_lookup_own_ok_int _ rfl _ _ 99 rfl 9 3 .i64 law9 Try.underlying99 Try.underlying3 (zero3 _) nb _ D rfl hown _ _ rfl hkey ?_; intro c hat hwc) | go_in)
  go_ret
  rw [hat0] at hat
  simp at hat
  subst hat
  exact ⟨rfl, rfl⟩

theorem PicCells.setTx {w : World} {pb rb nb : Nat} {tx : Value} (h : PicCells w pb rb nb tx) (v : Value) : PicCells (w.setCell ⟨pb, 8, none⟩ v) pb rb nb v := by
  obtain ⟨cs, hpb, hcs, h6, h7, h8⟩ := h
  refine ⟨cs.setIfInBounds 8 v, heap_setCell_same w pb 8 cs 104 v hpb, by simpa using hcs, ?_, ?_, ?_⟩
  · rw [Array.getElem?_setIfInBounds_ne (by omega)]; exact h6
  · rw [Array.getElem?_setIfInBounds_ne (by omega)]; exact h7
  · rw [Array.getElem?_setIfInBounds_self_of_lt (by omega)]

theorem PicCells.kept {S : Nat → Prop} {w w' : World} {pb rb nb : Nat} {tx : Value} (h : PicCells w pb rb nb tx) (ht : Turned S w w') (hn : ¬ S pb) : PicCells w' pb rb nb tx := by
  obtain ⟨cs, hpb, r⟩ := h
  exact ⟨cs, ht.heap hpb hn, r⟩

/-- The row of transactions does not lie in the picture's own block, nor in a map's. -/
theorem PicN.row_ne {B : Nat} {w : World} {pb rb nb : Nat} {tx : Value} {txs : List (ByteArray × Value)} (h : PicN B w pb rb nb tx txs) : ∀ k, tx.ownBlock = some k → k ≠ pb ∧ k ≠ nb := by
  intro k hk
  obtain ⟨cs, hpb, _⟩ := h.cells
  obtain ⟨D, ⟨es, clock, hnb, _⟩, _⟩ := h.nums
  rcases h.row.2 with ⟨rfl, _⟩ | ⟨g, cap, cur, rfl, _, hgg, _⟩
  · simp [Value.ownBlock] at hk
  · simp [Value.ownBlock] at hk
    subst hk
    exact ⟨fun e => by subst e; rw [hgg] at hpb; simp at hpb, fun e => by subst e; rw [hgg] at hnb; simp at hnb⟩
theorem PicN.pb_ne {B : Nat} {w : World} {pb rb nb : Nat} {tx : Value} {txs : List (ByteArray × Value)} (h : PicN B w pb rb nb tx txs) : pb ≠ nb := by
  obtain ⟨cs, hpb, _⟩ := h.cells
  obtain ⟨D, ⟨es, clock, hnb, _⟩, _⟩ := h.nums
  exact fun e => by subst e; rw [hpb] at hnb; simp at hnb

/-- The cells of a block that has just been laid. -/
theorem news_at (w : World) (l : List Value) (e : TypeId) : ∀ j u, l[j]? = some u → (w.alloc (.cells l.toArray e)).cell? ((⟨w.heap.size, 0, none⟩ : Addr).add j) = some u := by
  intro j u hu
  rw [Addr.add_lit, Nat.zero_add, cell_of_row _ w.heap.size j l.toArray e (0, 0) (heap_alloc_new w _)]
  simpa using hu

/-- The blocks that a picture's numbering may turn. -/
def picBlocks (pb nb : Nat) (tx : Value) (k : Nat) : Prop := k = pb ∨ k = nb ∨ tx.ownBlock = some k

set_option maxHeartbeats 1000000 in
set_option maxRecDepth 100000 in
/-- A name that has none: it gets the next. -/
theorem numbered_miss {B : Nat} {w : World} {pb rb nb : Nat} {tx : Value} {txs : List (ByteArray × Value)} (h : PicN B w pb rb nb tx txs) (s : ByteArray) (hs : s.size ≤ maxLen) (hi : s ∉ txs.map (·.1)) (hlen : txs.length ≤ 1000000) (hB : B ≤ w.heap.size) :
    Calls Try.prog 52 #[.pointer (some ⟨pb, 0, none⟩), .string s] w fun e w' => e = .returned (.int .i64 txs.length) ∧ ∃ tx', PicN B w' pb rb nb tx' (txs ++ [(s, .slice none 0 0)]) ∧ Turned (picBlocks pb nb tx) w w' := by
  have hne := h.row_ne
  have hpn := h.pb_ne
  have hH := h
  obtain ⟨⟨cs, hpb, hcs, h6, h7, h8⟩, ⟨D, hown, hnd, hno, hyes⟩, hrow, hbp, hbn⟩ := h
  have hhas := hno s hi
  have c7 : w.cell? ⟨pb, 7, none⟩ = some (.map (some nb)) := by rw [cell_of_row w pb 7 cs 104 (0, 0) hpb]; exact h7
  have c8 : w.cell? ⟨pb, 8, none⟩ = some tx := by rw [cell_of_row w pb 8 cs 104 (0, 0) hpb]; exact h8
  have hkey : keyOf Try.prog 9 (.string s) = some (.string s.data.toList) := keyOf_string_mk Try.underlying9 hs
  obtain ⟨i0, hi0, hz0, hz1, hz2⟩ := info_parts Try.info107
  obtain ⟨ao, cap, htx⟩ : ∃ ao cap, tx = .slice ao txs.length cap := by
    rcases hrow.2 with ⟨rfl, hn⟩ | ⟨g, cap, cur, rfl, _⟩
    · exact ⟨none, 0, by rw [hn]⟩
    · exact ⟨_, _, rfl⟩
  subst htx
  have hD : IsMap D := hown.isMap
  have hwf : (Lit.int .i64 (txs.length : Int)).wf = true := WalkArith.wf_i64 (by omega)
  have hnx : ∀ w1 : World, w.grownBy w1 (some nb) → w1.cell? ⟨pb, 8, none⟩ = some (.slice ao txs.length cap) ∧ w1.ownsRow B 107 2 (.slice ao txs.length cap) txs.length (txCells txs) := fun w1 hg =>
    ⟨hg.cell c8 (by simpa using hpn), hrow.kept hg (.inr (fun e => (hne nb e).2 rfl))⟩
  have Hno := toHid hno
  have Hyes := toHid hyes
  have Hne := toHid hne
  have H678 := toHid (And.intro h6 (And.intro h7 h8))
  have Hnd := toHid hnd
  clear hyes hno hnd h6 h7 h8 hne
  go_enter Try.func52, Try.ntmps52
  go_wp2_with (first
    | (at_lookup; refine wpList_lookup_own_ok_int _ rfl _ _ 99 rfl 9 3 .i64 law9 Try.underlying99 Try.underlying3 (zero3 _) nb _ D rfl hown _ _ rfl hkey ?_; intro c hat hwc)
    | (at_mapUpdate; refine wpList_mapUpdate_own _ rfl _ _ _ 99 rfl 9 3 law9 Try.underlying99 _ nb _ D rfl hown (by unfold maxLen; simp; omega) _ _ _ rfl rfl hkey _ [] (plainElem_int Try.underlying3 hwf) ?_; intro w1 hown1 hgrow1; obtain ⟨c81, hrow1⟩ := hnx w1 hgrow1; clear hnx)
    | (at_builtin; refine wpList_append_own_at _ rfl _ _ 100 rfl B 107 i0 (.agg #[.string ByteArray.empty, .slice none 0 0]) 2 40 Try.underlying100 hi0 hz0 hz1 hz2 rfl (by decide) _ _ _ rfl (hrow1.alloc _) ⟨w1.heap.size, 0, none⟩ 1 1 [.string s, .slice none 0 0] rfl rfl (news_at _ _ _) (by simp [Value.oneCell']) (by unfold maxLen; omega) (by omega) (by have := hgrow1.size; simp; omega) ?_))
  intro v' w2 hown2 hgrow2 _ hloc
  obtain ⟨g, cap', hv'⟩ : ∃ g cap', v' = .slice (some ⟨g, 0, none⟩) (txs.length + 1) cap' := by
    rcases hown2.2 with ⟨_, hn⟩ | ⟨g, cap', cur, h, _⟩
    · omega
    · exact ⟨_, _, h⟩
  subst hv'
  have hpb1 : w1.heap[pb]? = some (.cells cs 104 (0, 0)) := (hgrow1.block pb (Array.getElem?_eq_some_iff.1 hpb).1 (by simpa using hpn)).trans hpb
  have hpb2 : w2.heap[pb]? = some (.cells cs 104 (0, 0)) := (hgrow2.block pb (by have := (Array.getElem?_eq_some_iff.1 hpb1).1; simp; omega) (fun e => (Hne.out pb e.symm).1 rfl)).trans (heap_old hpb1)
  have c82 : w2.cell? ⟨pb, 8, none⟩ = some (.slice ao txs.length cap) := by rw [cell_of_row w2 pb 8 cs 104 (0, 0) hpb2, ← cell_of_row w pb 8 cs 104 (0, 0) hpb]; exact c8
  have f82 : w2.frozen? ⟨pb, 8, none⟩ = false := frozen_of_row w2 pb 8 cs 104 hpb2
  clear hown hhas hkey hrow c7 hat hwc c81 hrow1
  go_wp2
  go_ret
  have hgp : g ≠ pb := by
    rintro rfl
    rcases hown2.2 with ⟨h, _⟩ | ⟨g', cap2, cur, h, _, hg, _⟩
    · simp at h
    · simp at h
      obtain ⟨rfl, _⟩ := h
      rw [hg] at hpb2
      simp at hpb2
  have hT : Turned (picBlocks pb nb (.slice ao txs.length cap)) w w2 := ((Turned.of_grownBy hgrow1 (fun k hk => by simp at hk; exact .inr (.inl hk.symm))).alloc _).grown hgrow2 (fun k hk => .inr (.inr hk))
  have hT12 : Turned (fun k => Value.ownBlock (.slice ao txs.length cap) = some k) w1 w2 := ((Turned.refl _ _).alloc _).grown hgrow2 (fun k hk => hk)
  refine ⟨rfl, .slice (some ⟨g, 0, none⟩) (txs.length + 1) cap', ⟨?_, ?_, ?_, hbp, hbn⟩, ?_⟩
  · exact PicCells.setTx (tx := .slice ao txs.length cap) ⟨cs, hpb2, hcs, H678.out.1, H678.out.2.1, H678.out.2.2⟩ _
  · have hN1 := num_step (names := txs.map (·.1)) hi Hnd.out hD Hno.out Hyes.out (by simpa using hown1)
    have hN2 := hN1.kept hT12 (fun e => (Hne.out nb e).2 rfl)
    have hN3 := hN2.kept (Turned.setCell (S := fun k => k = pb) (Turned.refl _ _) (p := ⟨pb, 8, none⟩) rfl (.slice (some ⟨g, 0, none⟩) (txs.length + 1) cap')) (fun e => hpn e.symm)
    simpa using hN3
  · have hr := (Turned.setCell (S := fun k => k = pb) (Turned.refl _ _) (p := ⟨pb, 8, none⟩) rfl (.slice (some ⟨g, 0, none⟩) (txs.length + 1) cap')).ownsRow hown2 (fun k hk => by simp [Value.ownBlock] at hk; subst hk; exact hgp)
    simpa [txCells] using hr
  · exact hT.setCell (.inl rfl) _

set_option maxHeartbeats 1000000 in
set_option maxRecDepth 100000 in
theorem zznumbered_hit {B : Nat} {w : World} {pb rb nb : Nat} {tx : Value} {txs : List (ByteArray × Value)} (h : PicN B w pb rb nb tx txs) (s : ByteArray) (hs : s.size ≤ maxLen) (i : Nat) (hi : (txs.map (·.1))[i]? = some s) :
    Calls Try.prog 19 #[.pointer (some ⟨pb, 0, none⟩), .string s] w fun e w' => e = .returned (.int .i64 i) ∧ w' = w := by
  have H := toHid (numbered_hit h s hs i hi)
  clear h hi hs
  go_enter Try.func19, Try.ntmps19
  go_wp2_with (first | (go_at_call 52; refine H.out.mono ?_; rintro e w1 ⟨rfl, rfl⟩))
  go_ret
  exact ⟨rfl, rfl⟩

set_option maxHeartbeats 1000000 in
set_option maxRecDepth 100000 in
theorem zznumbered_miss {B : Nat} {w : World} {pb rb nb : Nat} {tx : Value} {txs : List (ByteArray × Value)} (h : PicN B w pb rb nb tx txs) (s : ByteArray) (hs : s.size ≤ maxLen) (hi : s ∉ txs.map (·.1)) (hlen : txs.length ≤ 1000000) (hB : B ≤ w.heap.size) :
    Calls Try.prog 19 #[.pointer (some ⟨pb, 0, none⟩), .string s] w fun e w' => e = .returned (.int .i64 txs.length) ∧ ∃ tx', PicN B w' pb rb nb tx' (txs ++ [(s, .slice none 0 0)]) ∧ Turned (picBlocks pb nb tx) w w' := by
  have H := toHid (numbered_miss h s hs hi hlen hB)
  clear h hi hs hlen hB
  go_enter Try.func19, Try.ntmps19
  go_wp2_with (first | (go_at_call 52; refine H.out.mono ?_; rintro e w1 ⟨rfl, hr⟩))
  go_ret
  exact ⟨rfl, hr⟩

theorem PicN.shape {B : Nat} {w : World} {pb rb nb : Nat} {tx : Value} {txs : List (ByteArray × Value)} (h : PicN B w pb rb nb tx txs) : ∃ ao cap, tx = .slice ao txs.length cap := by
  rcases h.row.2 with ⟨rfl, hn⟩ | ⟨g, cap, cur, rfl, _⟩
  · exact ⟨none, 0, by rw [hn]⟩
  · exact ⟨_, _, rfl⟩
theorem PicCells.cell {w : World} {pb rb nb : Nat} {tx : Value} (h : PicCells w pb rb nb tx) : w.cell? ⟨pb, 6, none⟩ = some (.map (some rb)) ∧ w.cell? ⟨pb, 7, none⟩ = some (.map (some nb)) ∧ w.cell? ⟨pb, 8, none⟩ = some tx := by
  obtain ⟨cs, hpb, hcs, h6, h7, h8⟩ := h
  refine ⟨?_, ?_, ?_⟩ <;> rw [cell_of_row w pb _ cs 104 (0, 0) hpb] <;> assumption

set_option maxHeartbeats 1000000 in
set_option maxRecDepth 100000 in
theorem txnCount20 {B : Nat} {w : World} {pb rb nb : Nat} {tx : Value} {txs : List (ByteArray × Value)} (h : PicN B w pb rb nb tx txs) (hlen : txs.length ≤ 1000000) :
    Calls Try.prog 20 #[.pointer (some ⟨pb, 0, none⟩)] w fun e w' => e = .returned (.int .i64 txs.length) ∧ w' = w := by
  obtain ⟨ao, cap, rfl⟩ := h.shape
  obtain ⟨_, _, c8⟩ := h.cells.cell
  clear h
  go_enter Try.func20, Try.ntmps20
  go_wp2
  go_ret
  exact ⟨rfl, rfl⟩

theorem txCells_at (txs : List (ByteArray × Value)) : ∀ (j : Nat) (p : ByteArray × Value), txs[j]? = some p → (txCells txs)[j * 2]? = some (.string p.1) ∧ (txCells txs)[j * 2 + 1]? = some p.2 := by
  induction txs with
  | nil => intro j p h; simp at h
  | cons q r ih =>
    intro j p h
    cases j with
    | zero => simp at h; subst h; simp [txCells]
    | succ j =>
      have := ih j p (by simpa using h)
      have e : (j + 1) * 2 = j * 2 + 2 := by omega
      rw [e]
      simpa [txCells] using this

set_option maxHeartbeats 1000000 in
set_option maxRecDepth 100000 in
theorem txnID21 {B : Nat} {w : World} {pb rb nb : Nat} {tx : Value} {txs : List (ByteArray × Value)} (h : PicN B w pb rb nb tx txs) (hlen : txs.length ≤ 1000000) (u : Nat) (p : ByteArray × Value) (hu : txs[u]? = some p) :
    Calls Try.prog 21 #[.pointer (some ⟨pb, 0, none⟩), .int .i64 u] w fun e w' => e = .returned (.string p.1) ∧ w' = w := by
  have hlt : u < txs.length := (List.getElem?_eq_some_iff.1 hu).1
  obtain ⟨g, cap, cur, rfl, _, hg, hnc, hcm, hsz, htk⟩ : ∃ g cap cur, tx = .slice (some ⟨g, 0, none⟩) txs.length cap ∧ B ≤ g ∧ w.heap[g]? = some (.cells cur 107 (0, 0)) ∧ txs.length ≤ cap ∧ cap ≤ maxLen ∧ cur.size = cap * 2 ∧ cur.toList.take (txs.length * 2) = txCells txs := by
    rcases h.row.2 with ⟨_, hn⟩ | hr
    · omega
    · exact hr
  obtain ⟨_, _, c8⟩ := h.cells.cell
  have cx : w.cell? ⟨g, u * 2, none⟩ = some (.string p.1) := by
    rw [h.row.cellAt (u * 2) (by omega)]
    exact (txCells_at txs u p hu).1
  clear h hu hg hsz htk
  go_enter Try.func21, Try.ntmps21
  go_wp2
  go_ret
  exact ⟨rfl, rfl⟩

end Go.Proofs.Qxb6003667a
