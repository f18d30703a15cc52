import Derived.Test.Qxb6003791aNbSort
import Derived.Maps.OwnSet
import Derived.Maps.RangeWalk
import Derived.Sort.OwnSortedInts
import Derived.Test.Qxb6003791aNbShP
set_option linter.unusedVariables false
namespace Go.Proofs.Qxb6003791a.Nb
open Go.RowKit Go.Maps

theorem law3 : Keyed Try.prog 3 := int_keyed Try.underlying3
theorem zero3 (w : World) : (zeroValue 3).run Try.prog w = .ok (.int .i64 0) w := by kernel_rfl

/-- What the map holds at side t, as a number. -/
def pk (x s : Nat → Int) (self : Int) (m : Nat) (t : Int) : Int := match nb x s self t m with | some c => (c : Int) | none => 0

/-- newestBySide's answer, before it is sorted. -/
def bl (x s : Nat → Int) (self : Int) (m : Nat) : List Int := if ts x s self m = [] then [self] else (ts x s self m).map (pk x s self m)

theorem bl_nil {x s : Nat → Int} {self : Int} {m : Nat} (h : ts x s self m = []) : bl x s self m = [self] := by unfold bl; rw [if_pos h]
theorem bl_cons {x s : Nat → Int} {self : Int} {m : Nat} (h : ts x s self m ≠ []) : bl x s self m = (ts x s self m).map (pk x s self m) := by unfold bl; rw [if_neg h]

/-- newestBySide's answer. -/
def NbAns (x s : Nat → Int) (self : Int) (m : Nat) (L : List Int) : Prop := L = (bl x s self m).mergeSort leI

theorem nbAns_self {x s : Nat → Int} {self : Int} {m : Nat} (h : ts x s self m = []) : NbAns x s self m [self] := by
  unfold NbAns
  rw [bl_nil h]
  exact (mergeSort_perm_eq (List.Perm.refl _) (List.pairwise_singleton _ _)).symm

/-- Block g bears the list, from its first cell on. -/
def ListAt (w : World) (g : Nat) (L : List Int) : Prop := IntsAt w g L.length (fun i => L.getD i 0)

/-- The map's datum holds, side by side, what 'nb' says. -/
def MapIs (x s : Nat → Int) (self : Int) (D : DataW Unit) (k : Nat) : Prop :=
  (∀ t, Maps.has D (.int .i64 t) = (nb x s self t k).isSome ∧ ∀ c, nb x s self t k = some c → ∀ z, D.atKey (.int .i64 t) z = .lit (.int .i64 c)) ∧ Maps.size D = (ts x s self k).length

theorem mapIs_start (x s : Nat → Int) (self : Int) : MapIs x s self (.map []) 0 := ⟨fun t => ⟨rfl, fun c h => by simp [nb] at h⟩, rfl⟩

theorem ownsMap_drewN {H : Type} {P : Program} {k : TypeId} {R : Value → Option (DataW H × List MemPlace)} {w : World} {b n : Nat} {D : DataW H} (h : w.ownsMap P k R b n D) (q : Nat) : (w.drewN q).ownsMap P k R b n D := by
  induction q with
  | zero => exact h
  | succ q ih => exact ih.drew

theorem below_drewN {B : Nat} {w wr : World} (h : Below B w wr) (q : Nat) : Below B w (wr.drewN q) := by
  induction q with
  | zero => exact h
  | succ q ih => exact ih.drew

/-! ### 'nb' at one step -/
section
variable {x s : Nat → Int} {self : Int} {k : Nat}
theorem nb_zero (h : x k = 0) (t : Int) : nb x s self t (k + 1) = nb x s self t k := by simp only [nb]; rw [if_neg (fun e => e.1 h)]
theorem nb_other {t : Int} (h : t ≠ s k) : nb x s self t (k + 1) = nb x s self t k := by simp only [nb]; rw [if_neg (fun e => h e.2.symm)]
theorem nb_new (h : x k ≠ 0) (hn : nb x s self (s k) k = none) : nb x s self (s k) (k + 1) = some k := by simp only [nb]; rw [if_pos ⟨h, trivial⟩, hn]
theorem nb_turn {c : Nat} (h : x k ≠ 0) (hn : nb x s self (s k) k = some c) (hc : x c < x k ∨ (x k = x c ∧ (k : Int) = self)) : nb x s self (s k) (k + 1) = some k := by simp only [nb]; rw [if_pos ⟨h, trivial⟩, hn]; simp only; rw [if_pos hc]
theorem nb_stay {c : Nat} (h : x k ≠ 0) (hn : nb x s self (s k) k = some c) (hc : ¬ (x c < x k ∨ (x k = x c ∧ (k : Int) = self))) (t : Int) : nb x s self t (k + 1) = nb x s self t k := by
  by_cases e : t = s k
  · subst e; simp only [nb]; rw [if_pos ⟨h, trivial⟩, hn]; simp only; rw [if_neg hc]
  · exact nb_other e
end

theorem ts_stay {x s : Nat → Int} {self : Int} {k : Nat} (h : ¬ (x k ≠ 0 ∧ nb x s self (s k) k = none)) : ts x s self (k + 1) = ts x s self k := by simp only [ts]; rw [if_neg h]
theorem ts_new {x s : Nat → Int} {self : Int} {k : Nat} (h : x k ≠ 0) (hn : nb x s self (s k) k = none) : ts x s self (k + 1) = ts x s self k ++ [s k] := by simp only [ts]; rw [if_pos ⟨h, hn⟩]

theorem mapIs_zero {x s : Nat → Int} {self : Int} {D : DataW Unit} {k : Nat} (h : MapIs x s self D k) (hx : x k = 0) : MapIs x s self D (k + 1) :=
  ⟨fun t => by rw [nb_zero hx t]; exact h.1 t, by rw [ts_stay (fun e => e.1 hx)]; exact h.2⟩

theorem mapIs_stay {x s : Nat → Int} {self : Int} {D : DataW Unit} {k c : Nat} (h : MapIs x s self D k) (hx : x k ≠ 0) (hn : nb x s self (s k) k = some c) (hc : ¬ (x c < x k ∨ (x k = x c ∧ (k : Int) = self))) : MapIs x s self D (k + 1) :=
  ⟨fun t => by rw [nb_stay hx hn hc t]; exact h.1 t, by rw [ts_stay (fun e => by rw [hn] at e; cases e.2)]; exact h.2⟩

theorem mapIs_put {x s : Nat → Int} {self : Int} {D : DataW Unit} {k : Nat} (h : MapIs x s self D k) (hD : Tidy D) (hx : x k ≠ 0) (hk : nb x s self (s k) (k + 1) = some k) (ho : ∀ t, t ≠ s k → nb x s self t (k + 1) = nb x s self t k) :
    MapIs x s self (D.put (.int .i64 (s k)) (.lit (.int .i64 k))) (k + 1) := by
  refine ⟨fun t => ?_, ?_⟩
  · by_cases e : t = s k
    · subst e
      rw [hk]
      have hkl : WideAt.IsKeyLit (Lit.int .i64 (s k)) := trivial
      refine ⟨by rw [has_put_same hD.isMap hkl]; rfl, fun c hc z => ?_⟩
      cases hc
      rw [atKey_put_same hD.isMap hkl]
    · have hne : (Lit.int .i64 t) ≠ (Lit.int .i64 (s k)) := fun hh => e (by cases hh; rfl)
      rw [ho t e]
      refine ⟨by rw [has_put_other hne]; exact (h.1 t).1, fun c hc z => ?_⟩
      rw [atKey_put_other hne]
      exact (h.1 t).2 c hc z
  · rw [size_put hD, (h.1 (s k)).1, h.2]
    cases hn : nb x s self (s k) k with
    | none => rw [ts_new hx hn]; simp
    | some c => rw [ts_stay (fun e => by rw [hn] at e; cases e.2)]; simp

/-- Where the range stands: the keys gone by, and what is left. -/
def RgIs (D : DataW Unit) (ks : List Int) (left : Lit → Bool) : Prop := ks.Nodup ∧ (∀ t ∈ ks, Maps.has D (.int .i64 t) = true) ∧ ∀ t, left (.int .i64 t) = (Maps.has D (.int .i64 t) && !ks.contains t)

theorem rgIs_start (D : DataW Unit) : RgIs D [] (Maps.has D) := ⟨List.nodup_nil, fun t h => by simp at h, fun t => by simp⟩

theorem rgIs_step {D : DataW Unit} {ks : List Int} {left : Lit → Bool} (h : RgIs D ks left) {t : Int} (ht : left (.int .i64 t) = true) : RgIs D (ks ++ [t]) (fun z => left z && !z.sameKey (.int .i64 t)) := by
  have hh := h.2.2 t
  rw [ht] at hh
  have h1 : Maps.has D (.int .i64 t) = true := by revert hh; cases Maps.has D (.int .i64 t) <;> simp
  have h2 : t ∉ ks := by rw [h1] at hh; simpa using hh.symm
  refine ⟨List.nodup_append.2 ⟨h.1, by simp, fun a ha b hb hab => ?_⟩, fun a ha => ?_, fun a => ?_⟩
  · simp at hb; subst hb; subst hab; exact h2 ha
  · simp at ha
    rcases ha with ha | rfl
    · exact h.2.1 a ha
    · exact h1
  · show (left (.int .i64 a) && !(Lit.int .i64 a).sameKey (.int .i64 t)) = _
    rw [h.2.2 a]
    by_cases e : a = t
    · subst e; simp [Lit.sameKey]
    · simp [Lit.sameKey, e]

/-- The range is through: what was collected, sorted, is the sides' own list, sorted. -/
theorem rgIs_end {x s : Nat → Int} {self : Int} {m : Nat} {D : DataW Unit} {ks : List Int} {left : Lit → Bool} (h : RgIs D ks left) (hl : ∀ kl, left kl = false) (hM : MapIs x s self D m) :
    ks.Perm (ts x s self m) := by
  refine perm_of_nodup h.1 (ts_nodup m) fun t => ?_
  rw [ts_mem, ← (hM.1 t).1]
  refine ⟨fun hh => h.2.1 t hh, fun hh => ?_⟩
  have := h.2.2 t
  rw [hl, hh] at this
  simpa using this.symm

theorem sorted_end {ks l : List Int} (h : ks.Perm l) (f : Int → Int) : (ks.map f).mergeSort leI = (l.map f).mergeSort leI := by
  refine mergeSort_perm_eq ((h.map f).trans (List.mergeSort_perm _ leI).symm) ?_
  have s1 : ((l.map f).mergeSort leI).Pairwise (fun a b => leI a b = true) := List.pairwise_mergeSort (fun a b c => by simp [leI]; omega) (fun a b => by simp [leI]; omega) _
  exact pw_le s1

theorem pk_of {x s : Nat → Int} {self : Int} {m : Nat} {D : DataW Unit} (hM : MapIs x s self D m) {ks : List Int} {left : Lit → Bool} (hI : RgIs D ks left) {t c : Int} (hl : left (.int .i64 t) = true) (hat : ∀ zd, D.atKey (.int .i64 t) zd = .lit (.int .i64 c)) : c = pk x s self m t := by
  have h1 := hI.2.2 t
  rw [hl, (hM.1 t).1] at h1
  cases hn : nb x s self t m with
  | none => rw [hn] at h1; simp at h1
  | some c' =>
    have := (hM.1 t).2 c' hn (.lit (.int .i64 0))
    rw [hat] at this
    cases this
    simp [pk, hn]

theorem listAt_of_holds {w : World} {g : Nat} {L : List Int} (h : Sort.Holds (Value.int .i64) w g 0 L.toArray) : ListAt w g L := fun i hi => by
  have := h i (by simpa using hi)
  rw [Nat.zero_add] at this
  refine ⟨?_, this.2⟩
  rw [this.1]
  simp [List.getD, getElem!_pos, hi]

theorem own_ne {w : World} {base : Nat} {e : TypeId} {size n r : Nat} {v : Value} {xs : List Value} (h : w.ownsRow base e size v n xs) (hr : r < base) : v.ownBlock = none ∨ v.ownBlock ≠ some r := .inr (fun e => by have := (h.lt r e).1; omega)
theorem own_ne' {w : World} {base : Nat} {e : TypeId} {size n r : Nat} {v : Value} {xs : List Value} (h : w.ownsRow base e size v n xs) (hr : r < base) : some r ≠ v.ownBlock := fun e => by have := (h.lt r e.symm).1; omega

/-- Behind the sort. -/
theorem listAt_sorted {w w' : World} {g n : Nat} {os : Array Obj} {cur : Array Value} {e : TypeId} {L : List Int} (hw : w' = Sort.grow (Sort.putRow (Value.int .i64) (Sort.ahead w n) g 0 L.toArray) os) (hb : w.heap[g]? = some (.cells cur e (0, 0))) (hl : L.length ≤ cur.size) :
    ListAt w' g L := by
  subst hw
  exact listAt_of_holds (holds_of_blockI (heap_sortedI _ hb) (take_putCellsI cur L hl))

set_option maxRecDepth 100000 in
set_option maxHeartbeats 8000000 in
theorem newest_any (T SB sl m kk : Nat) (sq q : Option Addr) (self : Int) (x s : Nat → Int) (w : World) (hm : m ≤ 1024) (hml : m ≤ sl) (hsl : sl ≤ 1048576) (hkk : kk ≤ 65536) (hself : (Lit.int .i64 self).wf = true)
    (h3 : w.cell? ⟨T, 3, none⟩ = some (.int .i64 self)) (h7 : w.cell? ⟨T, 7, none⟩ = some (.slice sq sl sl)) (hsq : 0 < m → sq = some ⟨SB, 0, none⟩)
    (hs : ∀ i, i < m → w.cell? ⟨SB, i, none⟩ = some (.int .i64 (s i))) (hsw : ∀ i, i < m → (Lit.int .i64 (s i)).wf = true) (hR : Rows w q m kk x) :
    Calls Try.prog 39 #[.pointer (some ⟨T, 0, none⟩), .slice q m m, .int .i64 kk] w fun e w' => ∃ g cap L, e = .returned (.slice (some ⟨g, 0, none⟩) L.length cap) ∧ NbAns x s self m L ∧ w.heap.size ≤ g ∧ ListAt w' g L ∧ Below w.heap.size w w' := by
  have hmm := @run_makeMap Try.prog
  have hT : T < w.heap.size := World.block_lt_of_cell? _ _ h3
  have HSQ := hide hsq
  have HS := hide hs
  have HSW := hide hsw
  have HR := hide hR
  clear hsq hs hsw hR
  go_enter Try.func39, Try.ntmps39
  go_wp2_with fail
  clear hmm
  go_loopg [19] m (fun g i wr => ∃ k : Nat, k ≤ m ∧ g = m - k ∧ i = .int .i64 k ∧ ∃ D : DataW Unit, wr.ownsMap Try.prog 3 (plainElem Try.prog 3) w.heap.size k D ∧ MapIs x s self D k ∧ Below w.heap.size w wr)
  case atStart => exact ⟨0, Nat.zero_le _, rfl, rfl, .map [], World.ownsMap_made _ _ _ _, mapIs_start x s self, (Below.refl _ _).alloc (Nat.le_refl _) _⟩
  case round =>
    obtain ⟨k, hk, rfl, rfl, D, hown, hMp, hB⟩ := hrel
    by_cases hlt : k < m
    · obtain rfl := unhide HSQ (by omega)
      obtain ⟨QB, rfl, hQl, hrows⟩ := unhide HR (by omega)
      obtain ⟨R, n, hRl, hkn, r0, r1⟩ := hrows k hlt
      have hkz : (k : Int) < (m : Int) := by omega
      have hkz2 : (k : Int) < (sl : Int) := by omega
      have hknz : (kk : Int) < (n : Int) := by omega
      have hSl : SB < w.heap.size := World.block_lt_of_cell? _ _ (unhide HS k hlt)
      have g0 : wr.cell? ⟨QB, k, none⟩ = some (.slice (some ⟨R, 0, none⟩) n n) := by rw [hB.cell (p := ⟨QB, k, none⟩) hQl]; exact r0
      have g1 : wr.cell? ⟨R, kk, none⟩ = some (.int .u64 (x k)) := by rw [hB.cell (p := ⟨R, kk, none⟩) hRl]; exact r1
      have g2 : wr.cell? ⟨T, 7, none⟩ = some (.slice (some ⟨SB, 0, none⟩) sl sl) := by rw [hB.cell (p := ⟨T, 7, none⟩) hT]; exact h7
      have g3 : wr.cell? ⟨SB, k, none⟩ = some (.int .i64 (s k)) := by rw [hB.cell (p := ⟨SB, k, none⟩) hSl]; exact unhide HS k hlt
      have g4 : wr.cell? ⟨T, 3, none⟩ = some (.int .i64 self) := by rw [hB.cell (p := ⟨T, 3, none⟩) hT]; exact h3
      have hwk := unhide HSW k hlt
      by_cases hx : x k = 0
      · have hxb : (x k == 0) = true := by simp [hx]
        have HM := hide (mapIs_zero hMp hx)
        have HO := hide (hown.mono (Nat.le_succ _))
        have HB := hide hB
        clear hx hMp hown hB r0 r1
        go_wp2_with fail
        go_roundg (m - (k + 1))
        case measure => omega
        case rel => exact ⟨k + 1, by omega, rfl, by go_num, D, unhide HO, unhide HM, unhide HB⟩
      · have hxb : (x k == 0) = false := by simp [hx]
        have hhas := (hMp.1 (s k)).1
        have HX := hide hx
        cases hnb : nb x s self (s k) k with
        | none =>
          rw [hnb] at hhas
          simp only [Option.isSome_none] at hhas
          have HM := hide (mapIs_put hMp (hown.tidy law3) hx (nb_new hx hnb) (fun t ht => nb_other ht))
          have HB := hide hB
          clear hx hMp hB r0 r1 hnb
          go_wp2_with (first | (at_lookup; refine wpList_lookup_own_ok_int _ rfl _ _ 84 rfl 3 3 .i64 law3 Try.underlying84 Try.underlying3 (zero3 _) w.heap.size k _ rfl hown _ _ rfl (keyOf_int_mk Try.underlying3 hwk) ?_; intro c hat hwc; clear hat hwc))
          go_wp2_with fail
          go_quiet (fail)
          have hown2 := ownsMap_drewN hown nq
          clear hown
          go_wp2_with (first | (at_mapUpdate; refine wpList_mapUpdate_own _ rfl _ _ _ 84 rfl 3 3 law3 Try.underlying84 _ w.heap.size k _ rfl hown2 (by unfold maxLen; omega) _ _ _ rfl rfl (keyOf_int_mk Try.underlying3 hwk) _ [] (plainElem_int Try.underlying3 (WalkArith.wf_i64 (by omega))) ?_; intro w1 hown1 hgrow1))
          have HB1 := hide ((below_drewN (unhide HB) nq).grown hgrow1 (by have := (unhide HB).size; simpa using this) (fun j hj => by cases hj; exact Nat.le_refl _))
          have HO1 := hide hown1
          clear hown1 hgrow1 hown2
          go_wp2_with fail
          go_roundg (m - (k + 1))
          case measure => omega
          case rel => exact ⟨k + 1, by omega, rfl, by go_num, _, unhide HO1, unhide HM, unhide HB1⟩
        | some c =>
          rw [hnb] at hhas
          simp only [Option.isSome_some] at hhas
          obtain ⟨hck, -, -⟩ := nb_some hnb
          have HAT := hide ((hMp.1 (s k)).2 c hnb (.lit (.int .i64 0)))
          obtain ⟨R2, n2, hRl2, hkn2, r02, r12⟩ := hrows c (by omega)
          have hcz : (c : Int) < (m : Int) := by omega
          have hcz2 : (kk : Int) < (n2 : Int) := by omega
          have g5 : wr.cell? ⟨QB, c, none⟩ = some (.slice (some ⟨R2, 0, none⟩) n2 n2) := by rw [hB.cell (p := ⟨QB, c, none⟩) hQl]; exact r02
          have g6 : wr.cell? ⟨R2, kk, none⟩ = some (.int .u64 (x c)) := by rw [hB.cell (p := ⟨R2, kk, none⟩) hRl2]; exact r12
          have HB := hide hB
          by_cases hgt : x c < x k
          · have HM := hide (mapIs_put hMp (hown.tidy law3) hx (nb_turn hx hnb (.inl hgt)) (fun t ht => nb_other ht))
            clear hx hMp hB r0 r1 r02 r12 hnb hrows
            go_wp2_with (first | (at_lookup; refine wpList_lookup_own_ok_int _ rfl _ _ 84 rfl 3 3 .i64 law3 Try.underlying84 Try.underlying3 (zero3 _) w.heap.size k _ rfl hown _ _ rfl (keyOf_int_mk Try.underlying3 hwk) ?_; intro c1 hat hwc))
            obtain rfl : c1 = (c : Int) := by rw [unhide HAT] at hat; cases hat; rfl
            clear hat hwc
            go_wp2_with fail
            go_quiet (fail)
            have hown2 := ownsMap_drewN hown nq
            clear hown
            go_wp2_with (first | (at_mapUpdate; refine wpList_mapUpdate_own _ rfl _ _ _ 84 rfl 3 3 law3 Try.underlying84 _ w.heap.size k _ rfl hown2 (by unfold maxLen; omega) _ _ _ rfl rfl (keyOf_int_mk Try.underlying3 hwk) _ [] (plainElem_int Try.underlying3 (WalkArith.wf_i64 (by omega))) ?_; intro w1 hown1 hgrow1))
            have HB1 := hide ((below_drewN (unhide HB) nq).grown hgrow1 (by have := (unhide HB).size; simpa using this) (fun j hj => by cases hj; exact Nat.le_refl _))
            have HO1 := hide hown1
            clear hown1 hgrow1 hown2
            go_wp2_with fail
            go_roundg (m - (k + 1))
            case measure => omega
            case rel => exact ⟨k + 1, by omega, rfl, by go_num, _, unhide HO1, unhide HM, unhide HB1⟩
          · by_cases heq : x k = x c
            · have heqb : (x k == x c) = true := by simp [heq]
              by_cases hks : (k : Int) = self
              · have hksb : ((k : Int) == self) = true := by simp [hks]
                have HM := hide (mapIs_put hMp (hown.tidy law3) hx (nb_turn hx hnb (.inr ⟨heq, hks⟩)) (fun t ht => nb_other ht))
                clear hx hMp hB r0 r1 r02 r12 hnb hrows heq hks
                go_wp2_with (first | (at_lookup; refine wpList_lookup_own_ok_int _ rfl _ _ 84 rfl 3 3 .i64 law3 Try.underlying84 Try.underlying3 (zero3 _) w.heap.size k _ rfl hown _ _ rfl (keyOf_int_mk Try.underlying3 hwk) ?_; intro c1 hat hwc))
                obtain rfl : c1 = (c : Int) := by rw [unhide HAT] at hat; cases hat; rfl
                clear hat hwc
                go_wp2_with fail
                go_quiet (fail)
                have hown2 := ownsMap_drewN hown nq
                clear hown
                go_wp2_with (first | (at_mapUpdate; refine wpList_mapUpdate_own _ rfl _ _ _ 84 rfl 3 3 law3 Try.underlying84 _ w.heap.size k _ rfl hown2 (by unfold maxLen; omega) _ _ _ rfl rfl (keyOf_int_mk Try.underlying3 hwk) _ [] (plainElem_int Try.underlying3 (WalkArith.wf_i64 (by omega))) ?_; intro w1 hown1 hgrow1))
                have HB1 := hide ((below_drewN (unhide HB) nq).grown hgrow1 (by have := (unhide HB).size; simpa using this) (fun j hj => by cases hj; exact Nat.le_refl _))
                have HO1 := hide hown1
                clear hown1 hgrow1 hown2
                go_wp2_with fail
                go_roundg (m - (k + 1))
                case measure => omega
                case rel => exact ⟨k + 1, by omega, rfl, by go_num, _, unhide HO1, unhide HM, unhide HB1⟩
              · have hksb : ((k : Int) == self) = false := by simp [hks]
                have HM := hide (mapIs_stay hMp hx hnb (by omega))
                clear hx hMp hB r0 r1 r02 r12 hnb hrows heq hks
                go_wp2_with (first | (at_lookup; refine wpList_lookup_own_ok_int _ rfl _ _ 84 rfl 3 3 .i64 law3 Try.underlying84 Try.underlying3 (zero3 _) w.heap.size k _ rfl hown _ _ rfl (keyOf_int_mk Try.underlying3 hwk) ?_; intro c1 hat hwc))
                obtain rfl : c1 = (c : Int) := by rw [unhide HAT] at hat; cases hat; rfl
                clear hat hwc
                go_wp2_with fail
                go_quiet (fail)
                have HO1 := hide (ownsMap_drewN (hown.mono (Nat.le_succ _)) nq)
                clear hown
                go_wp2_with fail
                go_roundg (m - (k + 1))
                case measure => omega
                case rel => exact ⟨k + 1, by omega, rfl, by go_num, D, unhide HO1, unhide HM, below_drewN (unhide HB) nq⟩
            · have heqb : (x k == x c) = false := by simp [heq]
              have HM := hide (mapIs_stay hMp hx hnb (by omega))
              clear hx hMp hB r0 r1 r02 r12 hnb hrows heq
              go_wp2_with (first | (at_lookup; refine wpList_lookup_own_ok_int _ rfl _ _ 84 rfl 3 3 .i64 law3 Try.underlying84 Try.underlying3 (zero3 _) w.heap.size k _ rfl hown _ _ rfl (keyOf_int_mk Try.underlying3 hwk) ?_; intro c1 hat hwc))
              obtain rfl : c1 = (c : Int) := by rw [unhide HAT] at hat; cases hat; rfl
              clear hat hwc
              go_wp2_with fail
              go_quiet (fail)
              have HO1 := hide (ownsMap_drewN (hown.mono (Nat.le_succ _)) nq)
              clear hown
              go_wp2_with fail
              go_roundg (m - (k + 1))
              case measure => omega
              case rel => exact ⟨k + 1, by omega, rfl, by go_num, D, unhide HO1, unhide HM, below_drewN (unhide HB) nq⟩
    · obtain rfl : m = k := by omega
      have hkz : ¬ (m : Int) < (m : Int) := by omega
      have hsize := hMp.2
      by_cases ht : ts x s self m = []
      · have hsz0 : (((Maps.size D : Nat) : Int) == 0) = true := by rw [hsize, ht]; rfl
        have g4 : wr.cell? ⟨T, 3, none⟩ = some (.int .i64 self) := by rw [hB.cell (p := ⟨T, 3, none⟩) hT]; exact h3
        have HB := hide hB
        have HT := hide ht
        clear hMp hB ht hsize
        go_wp2_with (first | (at_len; refine wpList_len_own _ rfl _ 84 rfl 3 3 Try.underlying84 _ w.heap.size m D rfl hown ?_) | go_in)
        go_ret
        refine ⟨wr.heap.size, 1, [self], rfl, nbAns_self (unhide HT), (unhide HB).size, ?_, (unhide HB).alloc (unhide HB).size _⟩
        intro i hi
        obtain rfl : i = 0 := by simp at hi; exact hi
        exact ⟨by simp, free_of_one ((MapKept.heap_alloc wr _).1)⟩
      · have hsz0 : (((Maps.size D : Nat) : Int) == 0) = false := by
          rw [hsize]
          have : (ts x s self m).length ≠ 0 := fun e => ht (List.length_eq_zero_iff.1 e)
          simp; omega
        have HB := hide hB
        have HT := hide ht
        have HM := hide hMp
        clear hMp hB ht hsize
        go_wp2_with (first | (at_len; refine wpList_len_own _ rfl _ 84 rfl 3 3 Try.underlying84 _ w.heap.size m D rfl hown ?_) | (at_range; refine wpList_range_own _ rfl _ 84 rfl 3 3 law3 Try.underlying84 _ w.heap.size m D rfl hown ?_; intro w0 hrg0 hg0 hs0) | go_in)
        try go_frame
        obtain ⟨i0, hi, hz0, hz1, hz2⟩ := info_parts info3
        have HB0 := hide ((unhide HB).grown hg0 (unhide HB).size (fun j hj => by cases hj))
        have HRG := hide hrg0
        have hwr : w.heap.size < wr.heap.size := hown.lt
        clear hown hg0 HR HS HSW HSQ hsz0
        clear hrg0
        generalize hr : wr.heap.size = r at HRG hs0 hwr
        clear hr HB
        clear wr
        go_loopg [13] (Maps.size D) (fun g v wr => ∃ (ks : List Int) (left : Lit → Bool), ks.length + g ≤ m ∧ wr.ranges Try.prog 3 (plainElem Try.prog 3) w.heap.size r m D left g ∧ RgIs D ks left ∧ wr.ownsRow (r + 1) 3 1 v ks.length ((ks.map (pk x s self m)).map (Value.int .i64)) ∧ Below w.heap.size w wr)
        case atStart =>
          have hrg := unhide HRG
          exact ⟨[], _, by have := hrg.owns.size_le; simp; exact this, hrg, rgIs_start D, World.ownsRow_nil _ _ _ _, unhide HB0⟩
        case round =>
          clear HRG HB0 hs0 w0
          obtain ⟨ks, left, hle, hrg, hI, hrow, hB⟩ := hrel
          go_wp2_with (first | (at_next; refine wpList_next_ranges_ii _ rfl _ rfl 3 3 .i64 .i64 law3 Try.underlying3 Try.underlying3 w.heap.size r m _ _ _ rfl hrg ?_ ?_) | go_in)
          · intro hc0 hl0
            have hperm := rgIs_end hI hl0 (unhide HM)
            have hlen := hperm.length_eq
            have hne : ks.length ≠ 0 := fun e => (unhide HT) (List.length_eq_zero_iff.1 (by omega))
            obtain ⟨gb, cap, cur, rfl, hbase, hblk, hc1, hc2, hc3, hc4⟩ : ∃ g cap cur, _ := by
              rcases hrow.2 with ⟨_, h0⟩ | h
              · exact absurd h0 hne
              · exact h
            have hl1 : ((ks.map (pk x s self m)).mergeSort leI).length = ks.length := by rw [List.length_mergeSort, List.length_map]
            have HC : Hid (Calls Try.prog 46 #[.slice (some ⟨gb, 0, none⟩) ks.length cap] wr fun e w' => e = .returned (.tuple #[]) ∧ ListAt w' gb ((ks.map (pk x s self m)).mergeSort leI) ∧ Below w.heap.size w w') := by
              have h0 := Try.sort_Ints gb 0 cap (ks.map (pk x s self m)) wr (holds_of_blockI hblk (by rw [List.length_map, ← hc4, Nat.mul_one])) (lt_of_block hblk) (by rw [List.length_map]; omega)
              rw [List.length_map] at h0
              refine h0.mono ?_
              rintro e w' ⟨rfl, n, os, hw⟩
              refine ⟨rfl, listAt_sorted hw hblk (by rw [hl1]; omega), ?_⟩
              subst hw
              exact hB.grown (grownBy_sortedI _) hB.size (fun j hj => by cases hj; omega)
            have HG := hide (show w.heap.size ≤ gb by omega)
            have HL := hide hl1
            have HP := hide hperm
            clear hperm hlen hne hbase hblk hc1 hc2 hc3 hc4 hl1 hrow hB hI hrg hl0 hi hz0 hz1 hz2
            go_wp2_with fail
            refine (unhide HC).mono ?_
            rintro e w' ⟨rfl, hA, hB'⟩
            have HA := hide hA
            have HB' := hide hB'
            clear hA hB' HC
            go_wp2
            go_ret
            refine ⟨gb, cap, (ks.map (pk x s self m)).mergeSort leI, by rw [unhide HL]; rfl, by unfold NbAns; rw [bl_cons (unhide HT)]; exact sorted_end (unhide HP) _, unhide HG, unhide HA, unhide HB'⟩
          · intro t c w1 cnt1 hwx hwc hlx hat hrg1 hlt1 hg1 hs1 hen
            obtain rfl := pk_of (unhide HM) hI hlx hat
            have hown1 := hrow.kept hg1 (own_ne hrow (Nat.lt_succ_self r))
            have HI1 := hide (rgIs_step hI hlx)
            have HRG := hide hrg1
            have HBw := hide (hB.grown hg1 hB.size (fun j hj => by cases hj; omega))
            clear hrow hI hlx hat hrg1 hg1 hB hrg hs1
            go_wp2_with (first | (at_builtin; go_loud (refine wpList_append_own _ rfl _ _ 54 rfl (r + 1) 3 i0 (.int .i64 0) 1 8 Try.underlying54 hi hz0 hz1 hz2 rfl (by decide) _ _ _ rfl (hown1.alloc _) ⟨w1.heap.size, 0, none⟩ 1 1 [.int .i64 (pk x s self m t)] rfl rfl ?c1 ?c2 ?c3 ?c4 ?c5 ?_)) | go_in)
            case c1 =>
              intro j u hj
              match j, hj with
              | 0, hj => simp at hj; subst hj; simp [Addr.add]
            case c2 => intro u hu; simp at hu; subst hu; rfl
            case c3 => unfold maxLen; omega
            case c4 => omega
            case c5 => have := (unhide HRG).lt; simp; omega
            · intro v' w2 hown' hgrow _
              have HB2 : Hid (Below w.heap.size w w2) := ((unhide HBw).alloc (unhide HBw).size _).grown hgrow (by have := (unhide HBw).size; simp; omega) (fun q hq => by have := (hown1.lt q hq).1; omega)
              have HRG2 := hide (((unhide HRG).alloc _).kept hgrow (own_ne' hown1 (by omega)) (own_ne' hown1 (Nat.lt_succ_self r)))
              have HW := hide hown'
              clear hown' hgrow hown1
              go_wp2
              go_roundg cnt1
              case measure => omega
              case rel => exact ⟨ks ++ [t], _, by simp; omega, unhide HRG2, unhide HI1, by simpa using unhide HW, unhide HB2⟩
end Go.Proofs.Qxb6003791a.Nb
