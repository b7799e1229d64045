/-
  FnNumberedIsFirstSeenOrder (4): the walk.
-/
import Derived.Test.Qxb6003667aNum3
import Derived.Deep.QuietTactic
import Derived.BigQuiet
namespace Go.Proofs.Qxb6003667a
open Go.RowKit Go.WideMaps Go.Maps
set_option linter.unusedSimpArgs false
set_option linter.unusedVariables false

/-- One name more: the names seen, each at its first place. -/
def hasName (acc : List ByteArray) (t : ByteArray) : Bool := acc.any fun x => x.data.toList == t.data.toList
theorem hasName_iff (acc : List ByteArray) (t : ByteArray) : hasName acc t = true ↔ t ∈ acc := by
  simp only [hasName, List.any_eq_true, beq_iff_eq]
  exact ⟨fun ⟨x, hx, e⟩ => ba_ext e ▸ hx, fun h => ⟨t, h, rfl⟩⟩
def addNew (acc : List ByteArray) (t : ByteArray) : List ByteArray := if hasName acc t then acc else acc ++ [t]
/-- The names seen among the first k. -/
def seenTo (ss : List ByteArray) (k : Nat) : List ByteArray := (ss.take k).foldl addNew []
theorem seenTo_zero (ss : List ByteArray) : seenTo ss 0 = [] := rfl
theorem seenTo_succ {ss : List ByteArray} {k : Nat} {t : ByteArray} (h : ss[k]? = some t) : seenTo ss (k + 1) = addNew (seenTo ss k) t := by
  unfold seenTo
  rw [List.take_add_one, h]
  simp
theorem addNew_length (acc : List ByteArray) (t : ByteArray) : (addNew acc t).length ≤ acc.length + 1 := by
  unfold addNew; split <;> simp
theorem seenTo_length (ss : List ByteArray) : ∀ k, (seenTo ss k).length ≤ k
  | 0 => by simp [seenTo]
  | k + 1 => by
    have ih := seenTo_length ss k
    cases h : ss[k]? with
    | some t => rw [seenTo_succ h]; have := addNew_length (seenTo ss k) t; omega
    | none =>
      have e : seenTo ss (k + 1) = seenTo ss k := by unfold seenTo; rw [List.take_add_one, h]; simp
      rw [e]; omega
theorem addNew_mem {acc : List ByteArray} {t : ByteArray} (h : t ∈ acc) : addNew acc t = acc := by simp [addNew, (hasName_iff acc t).2 h]
theorem addNew_not {acc : List ByteArray} {t : ByteArray} (h : t ∉ acc) : addNew acc t = acc ++ [t] := by
  have : hasName acc t = false := by cases hh : hasName acc t; rfl; exact absurd ((hasName_iff acc t).1 hh) h
  simp [addNew, this]

theorem first_at {l : List ByteArray} {t : ByteArray} (h : t ∈ l) : ∃ j : Nat, l[j]? = some t ∧ ∀ i : Nat, i < j → l[i]? ≠ some t := by
  induction l with
  | nil => cases h
  | cons a r ih =>
    by_cases ha : a = t
    · exact ⟨0, by simp [ha], fun i hi => by omega⟩
    · obtain ⟨j, h1, h2⟩ := ih ((List.mem_cons.1 h).resolve_left (fun e => ha e.symm))
      refine ⟨j + 1, by simpa using h1, fun i hi => ?_⟩
      cases i with
      | zero => simpa using ha
      | succ i => simpa using h2 i (by omega)

theorem str_ne {x t : ByteArray} (h : x ≠ t) : (x.toList == t.toList) = false := by
  rw [beq_eq_false_iff_ne, ByteArray.toList_eq, ByteArray.toList_eq]
  exact fun e => h (ba_ext e)
theorem str_eq (x : ByteArray) : (x.toList == x.toList) = true := by simp

theorem row_block {w : World} {B : Nat} {e : TypeId} {size : Nat} {v : Value} {n : Nat} {xs : List Value} (h : w.ownsRow B e size v n xs) {k : Nat} (hk : v.ownBlock = some k) : ∃ cur, w.heap[k]? = some (.cells cur e (0, 0)) ∧ B ≤ k := by
  rcases h.2 with ⟨rfl, _⟩ | ⟨g, cap, cur, rfl, hb, hg, _⟩
  · simp [Value.ownBlock] at hk
  · simp [Value.ownBlock] at hk
    subst hk
    exact ⟨cur, hg, hb⟩

theorem row_at {w : World} {B : Nat} {ao : Option Addr} {cap : Nat} {se : List ByteArray} (h : w.ownsRow B 9 1 (.slice ao se.length cap) se.length (se.map Value.string)) {j : Nat} (hj : j < se.length) :
    ∃ g x, ao = some ⟨g, 0, none⟩ ∧ se[j]? = some x ∧ w.cell? ⟨g, j, none⟩ = some (.string x) := by
  rcases h.2 with ⟨_, hn⟩ | ⟨g, cap', cur, h', _⟩
  · omega
  · simp at h'
    obtain ⟨rfl, rfl⟩ := h'
    refine ⟨g, se[j], rfl, List.getElem?_eq_getElem hj, ?_⟩
    rw [h.cellAt j (by omega)]
    simp [List.getElem?_eq_getElem hj]

theorem PicN.apart {B B' : Nat} {w : World} {pb rb nb : Nat} {tx : Value} {txs : List (ByteArray × Value)} (h : PicN B w pb rb nb tx txs) {e : TypeId} {size : Nat} {v : Value} {n : Nat} {xs : List Value} (hr : w.ownsRow B' e size v n xs) (he : e ≠ 104) (he' : e ≠ 107) :
    ∀ k, v.ownBlock = some k → ¬ picBlocks pb nb tx k := by
  intro k hk
  obtain ⟨cur, hc, _⟩ := row_block hr hk
  obtain ⟨cs, hpb, _⟩ := h.cells
  obtain ⟨D, ⟨es, clock, hnb, _⟩, _⟩ := h.nums
  rintro (rfl | rfl | ht)
  · rw [hc] at hpb; simp at hpb; exact he hpb.2
  · rw [hc] at hnb; simp at hnb
  · obtain ⟨cur', hc', _⟩ := row_block h.row ht
    rw [hc] at hc'; simp at hc'; exact he' hc'.2

theorem PicN.kept {B : Nat} {S : Nat → Prop} {w w' : World} {pb rb nb : Nat} {tx : Value} {txs : List (ByteArray × Value)} (h : PicN B w pb rb nb tx txs) (ht : Turned S w w') (hn : ∀ k, picBlocks pb nb tx k → ¬ S k) : PicN B w' pb rb nb tx txs :=
  ⟨h.cells.kept ht (hn _ (.inl rfl)), h.nums.kept ht (hn _ (.inr (.inl rfl))), ht.ownsRow h.row (fun k hk => hn k (.inr (.inr hk))), h.bp, h.bn⟩

theorem PicN.drewN {B : Nat} {w : World} {pb rb nb : Nat} {tx : Value} {txs : List (ByteArray × Value)} (h : PicN B w pb rb nb tx txs) (q : Nat) : PicN B (w.drewN q) pb rb nb tx txs :=
  h.kept (S := fun _ => False) ⟨rfl, rfl, rfl, Nat.le_refl _, fun _ _ _ => rfl⟩ (fun _ _ => id)

theorem PicN.lt {B : Nat} {w : World} {pb rb nb : Nat} {tx : Value} {txs : List (ByteArray × Value)} (h : PicN B w pb rb nb tx txs) : ∀ k, picBlocks pb nb tx k → ¬ (w.heap.size ≤ k) := by
  obtain ⟨cs, hpb, _⟩ := h.cells
  obtain ⟨D, ⟨es, clock, hnb, _⟩, _⟩ := h.nums
  rintro k (rfl | rfl | ht)
  · have := (Array.getElem?_eq_some_iff.1 hpb).1; omega
  · have := (Array.getElem?_eq_some_iff.1 hnb).1; omega
  · obtain ⟨cur', hc', _⟩ := row_block h.row ht
    have := (Array.getElem?_eq_some_iff.1 hc').1; omega

/-- What holds at the head of a round: the names' row, the seen names' row, the picture. -/
structure NumInv (w : World) (B1 : Nat) (ss : List ByteArray) (n : Nat) (pb rb nb : Nat) (wr : World) (k : Nat) (sv : Value) : Prop where
  names : wr.ownsRow w.heap.size 9 1 (.slice (some ⟨w.heap.size, 0, none⟩) n n) n (ss.map Value.string)
  seen : wr.ownsRow B1 9 1 sv (seenTo ss k).length ((seenTo ss k).map Value.string)
  pic : ∃ tx, PicN B1 wr pb rb nb tx ((seenTo ss k).map fun s => (s, .slice none 0 0))
  below : Below w.heap.size w wr
  lt : w.heap.size < B1
  sz : B1 ≤ wr.heap.size

theorem NumInv.same {w : World} {B1 : Nat} {ss : List ByteArray} {n pb rb nb : Nat} {wr : World} {k : Nat} {sv : Value} (h : NumInv w B1 ss n pb rb nb wr k sv) (e : seenTo ss (k + 1) = seenTo ss k) : NumInv w B1 ss n pb rb nb wr (k + 1) sv :=
  ⟨h.names, by rw [e]; exact h.seen, by rw [e]; exact h.pic, h.below, h.lt, h.sz⟩

/-- The picture behind the append to the seen names' row. -/
theorem NumInv.pic_next {w : World} {B1 : Nat} {ss : List ByteArray} {n pb rb nb : Nat} {wr w3 : World} {k : Nat} {sv : Value} {o : Obj} (h : NumInv w B1 ss n pb rb nb wr k sv) (hg : (wr.alloc o).grownBy w3 sv.ownBlock) :
    ∃ tx, PicN B1 w3 pb rb nb tx ((seenTo ss k).map fun s => (s, .slice none 0 0)) ∧ (∀ k, sv.ownBlock = some k → ¬ picBlocks pb nb tx k) := by
  obtain ⟨tx, hp⟩ := h.pic
  have ha := hp.apart h.seen (by decide) (by decide)
  exact ⟨tx, hp.kept (((Turned.refl _ _).alloc o).grown hg (S := fun k => sv.ownBlock = some k) (fun k hk => hk)) (fun k hk hs => ha k hs hk), ha⟩

/-- A new name: the invariant behind the append and the numbering. -/
theorem NumInv.next {w : World} {B1 : Nat} {ss : List ByteArray} {n pb rb nb : Nat} {wr w3 w4 : World} {k : Nat} {sv v' tx tx' : Value} {t : ByteArray} {o : Obj} (h : NumInv w B1 ss n pb rb nb wr k sv) (e : seenTo ss (k + 1) = seenTo ss k ++ [t])
    (hown : w3.ownsRow B1 9 1 v' ((seenTo ss k).length + 1) ((seenTo ss k).map Value.string ++ [.string t])) (hg : (wr.alloc o).grownBy w3 sv.ownBlock)
    (hp3 : PicN B1 w3 pb rb nb tx ((seenTo ss k).map fun s => (s, .slice none 0 0)))
    (hp : PicN B1 w4 pb rb nb tx' ((seenTo ss k).map (fun s => (s, .slice none 0 0)) ++ [(t, .slice none 0 0)])) (ht : Turned (picBlocks pb nb tx) w3 w4) : NumInv w B1 ss n pb rb nb w4 (k + 1) v' := by
  have ha := hp3.apart hown (by decide) (by decide)
  have hT : Turned (fun k => sv.ownBlock = some k) wr w3 := ((Turned.refl _ _).alloc o).grown hg (fun k hk => hk)
  have hsv : ∀ j, sv.ownBlock = some j → B1 ≤ j := fun j hj => (row_block h.seen hj).choose_spec.2
  have hpb : ∀ j, picBlocks pb nb tx j → B1 ≤ j := by
    rintro j (rfl | rfl | hj)
    · exact hp3.bp
    · exact hp3.bn
    · exact (row_block hp3.row hj).choose_spec.2
  have hn3 := hT.ownsRow h.names (fun j hj hs => by
    simp [Value.ownBlock] at hj
    have := hsv j hs
    have := h.lt
    omega)
  refine ⟨ht.ownsRow hn3 (fun j hj hs => ?_), ?_, ⟨tx', ?_⟩, ?_, h.lt, Nat.le_trans h.sz (Nat.le_trans hT.size ht.size)⟩
  · simp [Value.ownBlock] at hj
    have := hpb j hs
    have := h.lt
    omega
  · rw [e]
    simpa using ht.ownsRow hown ha
  · rw [e]
    simpa using hp
  · have b1 := hT.below (B := w.heap.size) (Nat.le_trans (Nat.le_of_lt h.lt) h.sz) (fun j hj hs => by have := hsv j hs; have := h.lt; omega)
    have b2 := ht.below (B := w.heap.size) (Nat.le_trans (Nat.le_trans (Nat.le_of_lt h.lt) h.sz) hT.size) (fun j hj hs => by have := hpb j hs; have := h.lt; omega)
    exact h.below.trans (b1.trans b2)

set_option maxHeartbeats 2000000 in
set_option maxRecDepth 100000 in
theorem numbered4_some (a : Addr) (len cap : Nat) (ss : List ByteArray) (w : World) (hreach : len * 16 ≤ 140737488351232) (hz : ss.length = len) (hsz : ∀ s ∈ ss, s.size ≤ maxLen)
    (h16 : Calls Try.prog 16 #[.slice (some a) len cap] w fun e w' => RetBool e ∧ w = w')
    (hc : ∀ j, j < len → ∃ b off, a = ⟨b, off, none⟩ ∧ b < w.heap.size ∧ w.cell? ⟨b, off + j, none⟩ = some (.string (ss.getD j ByteArray.empty))) :
    Calls Try.prog 4 #[.slice (some a) len cap] w fun e w' => e = .returned (.bool true) ∧ Below w.heap.size w w' := by
  have H16 := toHid h16
  have Hc := toHid hc
  clear h16 hc
  go_enter Try.func4, Try.ntmps4
  go_wp2_with (first | (go_at_call 16; refine H16.out.mono ?_; rintro e w' ⟨⟨r, rfl⟩, rfl⟩; cases r))
  · go_ret
    exact ⟨rfl, Below.refl _ _⟩
  · go_ret
    exact ⟨rfl, Below.refl _ _⟩
  · go_loop [3, 4] (fun n i => ∃ (k : Nat) (t : Int), k ≤ len ∧ i = .int .i64 k ∧ n = .int .i64 t) (fun _ i => len - (intOf i).toNat)
    case atStart => exact ⟨0, _, Nat.zero_le _, rfl, rfl⟩
    case round =>
      obtain ⟨k, t, hk, rfl, rfl⟩ := hrel
      by_cases hlt : k < len
      · obtain ⟨b, off, rfl, hb, hcx⟩ := Hc.out k hlt
        obtain ⟨s, hs⟩ : ∃ s, s = ss.getD k ByteArray.empty := ⟨_, rfl⟩
        rw [← hs] at hcx
        clear hs hsz
        go_wp2
        go_round
        case rel => exact ⟨k + 1, _, by omega, by go_num, rfl⟩
        case measure => simp [intOf]; omega
      · have hsm : (len : Int) ≤ 1024 := by omega
        go_wp2_with (first | (go_at_call 17; refine (clone17_some a len cap ss w hreach hz Hc.out).mono ?_; rintro e w1 ⟨rfl, hown1, hb1⟩) | (go_at_call 18; refine (new18 _).mono ?_; rintro e w2 ⟨pb, rb, nb, rfl, hnp, hb2⟩))
        · go_ret
          exact ⟨rfl, Below.refl _ _⟩
        · have hsz12 := hb1.size
          have hlt12 : w.heap.size < w1.heap.size := by
            rcases hown1.2 with ⟨h, _⟩ | ⟨g, c2, cur, h, _, hg, _⟩
            · simp at h
            · simp at h
              obtain ⟨rfl, _⟩ := h
              exact (Array.getElem?_eq_some_iff.1 hg).1
          have hstart : NumInv w w1.heap.size ss len pb rb nb w2 0 (.slice none 0 0) :=
            ⟨(Turned.of_below hb2).ownsRow hown1 (fun k hk => by simp [Value.ownBlock] at hk; omega), World.ownsRow_nil _ _ _ _,
              ⟨.slice none 0 0, ⟨hnp.cells, NumMap.new hnp.nums, World.ownsRow_nil _ _ _ _, hnp.bp, hnp.bn⟩⟩, hb1.trans (hb2.mono hsz12), hlt12, hb2.size⟩
          clear hown1 hb1 hnp hb2 hsz12 hlt12 hreach
          go_loopw [6, 7] (fun sv i wr => ∃ (k : Nat) (ao : Option Addr) (c : Nat), k ≤ len ∧ i = .int .i64 k ∧ sv = .slice ao (seenTo ss k).length c ∧ NumInv w w1.heap.size ss len pb rb nb wr k (.slice ao (seenTo ss k).length c)) (fun _ i _ => len - (intOf i).toNat)
          case atStart => exact ⟨0, none, 0, Nat.zero_le _, rfl, rfl, hstart⟩
          case round =>
            obtain ⟨k, ao, cap', hk, rfl, rfl, inv⟩ := hrel
            by_cases hlt : k < len
            · obtain ⟨t, ht⟩ : ∃ t, ss[k]? = some t := ⟨_, List.getElem?_eq_getElem (by omega)⟩
              have hct : wr.cell? ⟨w.heap.size, k, none⟩ = some (.string t) := by
                rw [inv.names.cellAt k (by omega)]
                simp [ht]
              have hts : t.size ≤ maxLen := hsz t (List.mem_of_getElem? ht)
              have hlen := seenTo_length ss k
              have Hsucc := toHid (seenTo_succ ht)
              by_cases hmem : t ∈ seenTo ss k
              · obtain ⟨j0, hj0, hjf⟩ := first_at hmem
                have hj0l : j0 < (seenTo ss k).length := (List.getElem?_eq_some_iff.1 hj0).1
                obtain ⟨g, rfl⟩ : ∃ g, ao = some ⟨g, 0, none⟩ := by
                  rcases inv.seen.2 with ⟨_, hn⟩ | ⟨g, cap', cur, h, _⟩
                  · omega
                  · simp at h; exact ⟨g, h.1⟩
                have Hcs := toHid (fun (j : Nat) (hj : j < (seenTo ss k).length) => (inv.seen.cellAt j (by omega)).trans (by simp : ((seenTo ss k).map Value.string)[j]? = ((seenTo ss k)[j]?).map Value.string))
                have Hinv := toHid inv
                have Ht := toHid ht
                have Hj0 := toHid hj0
                have Hjf := toHid hjf
                have Hmem := toHid hmem
                clear inv ht hj0 hjf hmem hsz hstart
                generalize hse : seenTo ss k = se at *
                have Hse := toHid hse
                clear hse
                go_wp2
                go_loop [9, 10] (fun want j => want = .int .i64 (-1) ∧ ∃ m : Nat, m ≤ j0 ∧ j = .int .i64 m) (fun _ j => j0 - (intOf j).toNat)
                case atStart => exact ⟨rfl, 0, Nat.zero_le _, rfl⟩
                case round =>
                  obtain ⟨rfl, m, hm, rfl⟩ := hrel
                  have hml : m < se.length := by omega
                  obtain ⟨x, hx⟩ : ∃ x, se[m]? = some x := ⟨_, List.getElem?_eq_getElem hml⟩
                  have hcx : wr.cell? ⟨g, m, none⟩ = some (.string x) := by rw [Hcs.out m hml, hx]; rfl
                  have Hx := toHid hx
                  clear hx
                  by_cases hmj : m = j0
                  · subst hmj
                    have hxt : x = t := by have := Hj0.out; rw [Hx.out] at this; simpa using this
                    subst hxt
                    obtain ⟨tx, hpic⟩ := Hinv.out.pic
                    rw [Hse.out] at hpic
                    have H19 := toHid (zznumbered_hit hpic x hts m (by simpa using Hj0.out))
                    clear hpic
                    go_wp2_with (first | (go_at_call 19; refine H19.out.mono ?_; rintro e w3 ⟨rfl, rfl⟩))
                    go_roundw
                    case rel => exact ⟨k + 1, some ⟨g, 0, none⟩, cap', by omega, by go_num, by rw [Hsucc.out, addNew_mem Hmem.out], by rw [Hsucc.out, addNew_mem Hmem.out, ← Hse.out]; exact NumInv.same (by rw [Hse.out]; exact Hinv.out) (by rw [Hse.out, Hsucc.out, addNew_mem Hmem.out])⟩
                    case measure => simp [intOf]; omega
                  · have hne : (x.toList == t.toList) = false := str_ne (fun e => Hjf.out m (by omega) (by rw [← e]; exact Hx.out))
                    go_wp2_with fail
                    go_round
                    case rel => exact ⟨rfl, m + 1, by omega, by go_num⟩
                    case measure => simp [intOf]; omega
              · have Hcs := toHid (fun (j : Nat) (hj : j < (seenTo ss k).length) => row_at inv.seen hj)
                have Hinv := toHid inv
                have Hsn := toHid inv.seen
                have hsz1 := inv.sz
                have Ht := toHid ht
                have Hmem := toHid hmem
                clear inv ht hmem hsz hstart
                generalize hse : seenTo ss k = se at *
                have Hse := toHid hse
                clear hse
                obtain ⟨i0, hi, hz0, hz1, hz2⟩ := info_parts Try.info9
                go_wp2
                go_loop [9, 10] (fun want j => want = .int .i64 (-1) ∧ ∃ m : Nat, m ≤ se.length ∧ j = .int .i64 m) (fun _ j => se.length - (intOf j).toNat)
                case atStart => exact ⟨rfl, 0, Nat.zero_le _, rfl⟩
                case round =>
                  obtain ⟨rfl, m, hm, rfl⟩ := hrel
                  by_cases hml : m < se.length
                  · obtain ⟨g, x, rfl, hx, hcx⟩ := Hcs.out m hml
                    have hne : (x.toList == t.toList) = false := str_ne (fun e => Hmem.out (by rw [← e]; exact List.mem_of_getElem? hx))
                    clear hx
                    go_wp2_with fail
                    go_round
                    case rel => exact ⟨rfl, m + 1, by omega, by go_num⟩
                    case measure => simp [intOf]; omega
                  · go_wp2_with (first
                      | (at_builtin; refine wpList_append_own_at _ rfl _ _ 39 rfl w1.heap.size 9 i0 (.string ByteArray.empty) 1 16 Try.underlying39 hi hz0 hz1 hz2 rfl (by decide) _ _ _ rfl (Hsn.out.alloc _) ⟨wr.heap.size, 0, none⟩ 1 1 [.string t] rfl rfl (news_at _ _ _) (by simp [Value.oneCell']) (by unfold maxLen; omega) (by omega) (by simp; omega) ?_))
                    intro v' w3 hown3 hgrow3 _ _
                    obtain ⟨g, cap2, hv'⟩ : ∃ g cap2, v' = .slice (some ⟨g, 0, none⟩) (se.length + 1) cap2 := by
                      rcases hown3.2 with ⟨_, hn⟩ | ⟨g, cap2, cur, h, _⟩
                      · omega
                      · exact ⟨_, _, h⟩
                    subst hv'
                    obtain ⟨tx, hp3, hap⟩ := Hinv.out.pic_next hgrow3
                    have hs3 := hgrow3.size
                    simp only [World.size_alloc] at hs3
                    rw [Hse.out] at hp3
                    have H19 := toHid (zznumbered_miss hp3 t hts (by simpa using Hmem.out) (by simp; omega) (by omega))
                    have Hp3 := toHid hp3
                    have Hown3 := toHid hown3
                    have Hg3 := toHid hgrow3
                    clear hp3 hap hown3 hgrow3
                    go_wp2_with (first | (go_at_call 19; refine H19.out.mono ?_; rintro e w4 ⟨rfl, tx', hp4, hT4⟩))
                    have hN : NumInv w w1.heap.size ss len pb rb nb w4 (k + 1) (.slice (some ⟨g, 0, none⟩) (se.length + 1) cap2) :=
                      NumInv.next (t := t) (tx := tx) (tx' := tx') Hinv.out (by rw [Hsucc.out, addNew_not Hmem.out, Hse.out]) (by rw [Hse.out]; exact Hown3.out) Hg3.out (by rw [Hse.out]; exact Hp3.out) (by rw [Hse.out]; exact hp4) hT4
                    clear hp4 hT4
                    go_roundw
                    case rel => exact ⟨k + 1, some ⟨g, 0, none⟩, cap2, by omega, by go_num, by rw [Hsucc.out, addNew_not Hmem.out]; simp, by rw [Hsucc.out, addNew_not Hmem.out]; simpa using hN⟩
                    case measure => simp [intOf]; omega
            · obtain rfl : k = len := by omega
              have hlen := seenTo_length ss k
              obtain ⟨tx, hp⟩ := inv.pic
              have Hcs := toHid (fun (j : Nat) (hj : j < (seenTo ss k).length) => row_at inv.seen hj)
              have hbe := toHid inv.below
              have H20 := toHid (txnCount20 hp (by simp; omega))
              have Hp := toHid hp
              clear inv hp hsz hstart
              generalize hse : seenTo ss k = se at *
              clear hse
              go_wp2_with (first | (go_at_call 20; refine H20.out.mono ?_; rintro e w3 ⟨rfl, hw3⟩; obtain rfl := hw3.symm))
              obtain ⟨wo, rfl⟩ : ∃ wo : World, wo = wr := ⟨_, rfl⟩
              go_loopw [11] (fun j wx => ∃ (m : Nat), m ≤ se.length ∧ j = .int .i64 m ∧ Below wo.heap.size wo wx) (fun j _ => se.length - (intOf j).toNat)
              case atStart => exact ⟨0, Nat.zero_le _, rfl, Below.refl _ _⟩
              case round =>
                obtain ⟨m, hm, rfl, hwx⟩ := hrel
                have hbw := hbe.out.trans (hwx.mono hbe.out.size)
                have Hwx := toHid hwx
                have hp1 := Hp.out.kept (Turned.of_below hwx) (Hp.out.lt)
                by_cases hml : m < se.length
                · obtain ⟨g, x, rfl, hx, hcx0⟩ := Hcs.out m hml
                  have hcx : wr.cell? ⟨g, m, none⟩ = some (.string x) := cell_later hwx hcx0
                  have H := toHid (fun n => txnID21 (hp1.drewN n) (by simp; omega) m (x, Value.slice none 0 0) (by simp [hx]))
                  have hxx := str_eq x
                  have e1 : (0 : Int) ≤ (m : Int) := by omega
                  have e2 : (m : Int) < (se.length : Int) := by omega
                  clear hx hcx0 hwx hbw hp1
                  go_wp2
                  go_quiet ((go_at_call 21; exact Calls.quiet_of_same (H.out _)))
                  go_wp2
                  go_roundw
                  case rel => exact ⟨m + 1, by omega, by go_num, below_drewN Hwx.out _⟩
                  case measure => simp [intOf]; omega
                · go_wp2
                  go_ret
                  exact ⟨rfl, hbw⟩

end Go.Proofs.Qxb6003667a
