import Derived.Test.Qxb6003791aNbWrap
import Derived.Deep.CutRange
set_option linter.unusedVariables false
namespace Go.Proofs.Qxb6003791a.Nb
open Go.RowKit Go.Maps

section
variable {x s : Nat → Int} {self : Int}
theorem nb_is {t : Int} {m o : Nat} (ho : o < m) (hF : F x s t o) : ∃ c, nb x s self t m = some c := by
  cases h : nb x s self t m with
  | none => exact absurd hF (nb_none.1 h o ho)
  | some c => exact ⟨c, rfl⟩

theorem fm_at {o m : Nat} (ho : o < m) (hx : x o ≠ 0) (hno : ∀ i, i < o → ¬ F x s (s o) i) : FM x s (s o) m (fmJ x s (s o) o (m - (o + 1))) := by
  have := fmJ_inv (j := m - (o + 1)) hno ⟨hx, rfl⟩
  rwa [show o + 1 + (m - (o + 1)) = m by omega] at this

theorem pk_tie {o m : Nat} (ho : o < m) (hx : x o ≠ 0) (hno : ∀ i, i < o → ¬ F x s (s o) i) (ht : Tie x s self m (s o) (fmJ x s (s o) o (m - (o + 1)))) : pk x s self m (s o) = self := by
  obtain ⟨c, hc⟩ := nb_is (x := x) (s := s) (self := self) (t := s o) ho ⟨hx, rfl⟩
  have e : pk x s self m (s o) = (c : Int) := by simp [pk, hc]
  rw [e]
  exact pick_tie hc (fm_at ho hx hno) ht

theorem pk_not {o m : Nat} (ho : o < m) (hx : x o ≠ 0) (hno : ∀ i, i < o → ¬ F x s (s o) i) (ht : ¬ Tie x s self m (s o) (fmJ x s (s o) o (m - (o + 1)))) : pk x s self m (s o) = (fmJ x s (s o) o (m - (o + 1)) : Nat) := by
  obtain ⟨c, hc⟩ := nb_is (x := x) (s := s) (self := self) (t := s o) ho ⟨hx, rfl⟩
  have e : pk x s self m (s o) = (c : Int) := by simp [pk, hc]
  rw [e, pick_not hc (fm_at ho hx hno) ht]

theorem bl_ne (m : Nat) : (bl x s self m).length ≠ 0 := by
  by_cases h : ts x s self m = []
  · rw [bl_nil h]; simp
  · rw [bl_cons h]; simp; exact h

theorem bl_le (m : Nat) : (bl x s self m).length ≤ m + 1 := by
  by_cases h : ts x s self m = []
  · rw [bl_nil h]; simp
  · rw [bl_cons h, List.length_map]; have := ts_le (x := x) (s := s) (self := self) m; omega
end

theorem same_ints {L : List Int} {G' : Nat → Int} (hs : Srt G' L.length) (hp : ((List.range L.length).map G').Perm ((List.range L.length).map (fun i => L.getD i 0))) (i : Nat) (hi : i < L.length) : (L.mergeSort leI).getD i 0 = G' i := by
  have e1 : (List.range L.length).map (fun i => L.getD i 0) = L := by
    apply List.ext_getElem (by simp)
    intro j h1 h2
    simp [List.getD, h2]
  rw [e1] at hp
  have e2 : L.mergeSort leI = (List.range L.length).map G' := mergeSort_perm_eq hp.symm (by
    rw [List.pairwise_iff_getElem]
    intro a b ha hb hab
    simp at ha hb
    simp
    exact hs a b hab hb)
  rw [e2]
  simp [List.getD, hi]

theorem ownsRow_drewN {w : World} {base : Nat} {e : TypeId} {size : Nat} {v : Value} {n : Nat} {xs : List Value} (h : w.ownsRow base e size v n xs) (q : Nat) : (w.drewN q).ownsRow base e size v n xs := by
  induction q with
  | zero => exact h
  | succ q ih => exact ih.drew

theorem drewN_drewN (w : World) (y n : Nat) : (w.drewN y).drewN n = w.drewN (y + n) := by
  induction n with
  | zero => rfl
  | succ n ih => rw [Nat.add_succ]; show ((w.drewN y).drewN n).drew = (w.drewN (y + n)).drew; rw [ih]

theorem cell_drewN (w : World) (q : Nat) (p : Addr) : (w.drewN q).cell? p = w.cell? p := by
  induction q with
  | zero => rfl
  | succ q ih => exact ih

theorem listAt_own {w : World} {base g cap : Nat} {L : List Int} (h : w.ownsRow base 3 1 (.slice (some ⟨g, 0, none⟩) L.length cap) L.length (L.map (Value.int .i64))) (hL : L.length ≠ 0) : ListAt w g L ∧ base ≤ g := by
  rcases h.2 with ⟨h0, _⟩ | ⟨g', cap', cur, hv, hg, hb, hn, hcap, hcs, ht⟩
  · cases h0
  cases hv
  exact ⟨listAt_of_holds (holds_of_blockI hb (by rw [Nat.mul_one] at ht; exact ht)), hg⟩

/-- What the law walks over, behind the copies: the rows of the copy and the sides. -/
structure Got (w3 : World) (QB SB m kk : Nat) (x s : Nat → Int) : Prop where
  row : ∀ r, r < m → ∃ (R n : Nat), R < w3.heap.size ∧ kk < n ∧ w3.cell? ⟨QB, r, none⟩ = some (.slice (some ⟨R, 0, none⟩) n n) ∧ w3.cell? ⟨R, kk, none⟩ = some (.int .u64 (x r))
  side : ∀ r, r < m → w3.cell? ⟨SB, r, none⟩ = some (.int .i64 (s r))
  ql : QB < w3.heap.size
  sl : SB < w3.heap.size

theorem Got.at {w3 wr : World} {QB SB m kk : Nat} {x s : Nat → Int} (h : Got w3 QB SB m kk x s) (hB : Below w3.heap.size w3 wr) {r : Nat} (hr : r < m) :
    ∃ (R n : Nat), kk < n ∧ wr.cell? ⟨QB, r, none⟩ = some (.slice (some ⟨R, 0, none⟩) n n) ∧ wr.cell? ⟨R, kk, none⟩ = some (.int .u64 (x r)) ∧ wr.cell? ⟨SB, r, none⟩ = some (.int .i64 (s r)) := by
  obtain ⟨R, n, h1, h2, h3, h4⟩ := h.row r hr
  exact ⟨R, n, h2, by rw [hB.cell (p := ⟨QB, r, none⟩) h.ql]; exact h3, by rw [hB.cell (p := ⟨R, kk, none⟩) h1]; exact h4, by rw [hB.cell (p := ⟨SB, r, none⟩) h.sl]; exact h.side r hr⟩

set_option maxRecDepth 100000 in
set_option maxHeartbeats 4000000 in
theorem law_in (a0 : Option Addr) (b0 off0 l c0 : Nat) (s : Nat → Int) (self kk : Int) (a : Option Addr) (b off m cap : Nat) (A : Nat → Option Addr) (L C RB RO : Nat → Nat) (Z : Nat → Nat → Int) (w : World) (hl : l ≤ 9223372036854775807) (hm : m ≤ 9223372036854775807)
    (hself : (Lit.int .i64 self).wf = true) (hn0 : a0 = none → l = 0 ∧ c0 = 0) (ha0 : 0 < l → a0 = some ⟨b0, off0, none⟩) (hS : ∀ i, i < l → w.cell? ⟨b0, off0 + i, none⟩ = some (.int .i64 (s i))) (hSw : ∀ i, i < l → (Lit.int .i64 (s i)).wf = true)
    (hn : a = none → m = 0 ∧ cap = 0) (ha : 0 < m → a = some ⟨b, off, none⟩) (hV : ∀ i, i < m → w.cell? ⟨b, off + i, none⟩ = some (.slice (A i) (L i) (C i))) (hL : ∀ i, i < m → L i ≤ 9223372036854775807)
    (hA : ∀ i, i < m → 0 < L i → A i = some ⟨RB i, RO i, none⟩) (hZ : ∀ r, r < m → ∀ c, c < L r → w.cell? ⟨RB r, RO r + c, none⟩ = some (.int .u64 (Z r c))) :
    Calls Try.prog 5 #[.slice a0 l c0, .int .i64 self, .slice a m cap, .int .i64 kk] w fun e w' => e = .returned (.bool true) ∧ Below w.heap.size w w' := by
  have K20 := hide (bytes_any a0 l c0 self kk a b off m cap A L C w hl hm ha hV hL)
  have HN0 := hide hn0
  have HA0 := hide ha0
  have HS := hide hS
  have HSW := hide hSw
  have HN := hide hn
  have HA := hide ha
  have HV := hide hV
  have HAA := hide hA
  have HZ := hide hZ
  clear hn0 ha0 hS hSw hn ha hV hL hA hZ
  obtain ⟨i0, hi, hz0, hz1, hz2⟩ := info_parts info3
  go_enter Try.func5, Try.ntmps5
  go_wp2_with fail
  refine (unhide K20).mono ?_
  rintro e w' ⟨rfl, bv, rfl, hok⟩
  clear K20
  cases bv with
  | false =>
    clear hok
    go_wp2_with fail
    go_ret
    exact ⟨rfl, Below.refl _ _⟩
  | true =>
  obtain ⟨hl20, hm20, hL20⟩ := hok rfl
  clear hok
  have K21 := hide (mbytes_any a b off m cap A L C w hm20 (unhide HA) (unhide HV) hL20)
  have HL20 := hide hL20
  clear hL20
  go_wp2_with fail
  refine (unhide K21).mono ?_
  rintro e w' ⟨t, rfl, rfl, ht0, ht1⟩
  clear K21
  by_cases hsum : 8 * (l : Int) + t ≤ 1048576
  case neg =>
    go_wp2_with fail
    go_ret
    exact ⟨rfl, Below.refl _ _⟩
  by_cases hk0 : kk < 0
  · have d1 : decide (kk < 0) = true := by simp; omega
    go_wp2_with fail
    go_ret
    exact ⟨rfl, Below.refl _ _⟩
  have d1 : decide (kk < 0) = false := by simp; omega
  by_cases hk1 : 65536 < kk
  · have d2 : decide (65536 < kk) = true := by simp; omega
    go_wp2_with fail
    go_ret
    exact ⟨rfl, Below.refl _ _⟩
  have d2 : decide (65536 < kk) = false := by simp; omega
  by_cases hmk : 1024 < m
  · have d3 : decide ((1024 : Int) < (m : Int)) = true := by simp; omega
    go_wp2_with fail
    go_ret
    exact ⟨rfl, Below.refl _ _⟩
  have d3 : decide ((1024 : Int) < (m : Int)) = false := by simp; omega
  by_cases hlm : l < m
  · have d4 : decide ((l : Int) < (m : Int)) = true := by simp; omega
    go_wp2_with fail
    go_ret
    exact ⟨rfl, Below.refl _ _⟩
  have d4 : decide ((l : Int) < (m : Int)) = false := by simp; omega
  obtain ⟨k0, rfl⟩ := Int.eq_ofNat_of_zero_le (show 0 ≤ kk by omega)
  have hk64 : k0 ≤ 65536 := by omega
  have hm1024 : m ≤ 1024 := by omega
  have hml : m ≤ l := by omega
  go_wp2_with fail
  clear d1 d2 d3 d4 hk0 hk1 hmk hlm hsum ht0 ht1
  go_loopg [9] m (fun g i wx => w = wx ∧ ∃ k : Nat, k ≤ m ∧ g = m - k ∧ i = .int .i64 k ∧ ∀ j, j < k → k0 < L j)
  case atStart => exact ⟨rfl, 0, Nat.zero_le _, rfl, rfl, fun j hj => absurd hj (by omega)⟩
  case round =>
  obtain ⟨rfl, k, hk, rfl, rfl, hall⟩ := hrel
  by_cases hlt : k < m
  · obtain rfl := unhide HA (by omega)
    have hkz : (k : Int) < (m : Int) := by omega
    have g0 := unhide HV k hlt
    have hLk := unhide HL20 k hlt
    by_cases hle : k0 < L k
    · have d1 : ¬ (L k : Int) ≤ (k0 : Int) := by omega
      have HALL : Hid (∀ j, j < k + 1 → k0 < L j) := fun j hj => by
        by_cases e : j = k
        · subst e; exact hle
        · exact hall j (by omega)
      clear hall
      go_wp2_with fail
      go_roundg (m - (k + 1))
      case measure => omega
      case rel => exact ⟨rfl, k + 1, by omega, rfl, by go_num, unhide HALL⟩
    · have d1 : (L k : Int) ≤ (k0 : Int) := by omega
      clear hall
      go_wp2_with fail
      go_ret
      exact ⟨rfl, Below.refl _ _⟩
  obtain rfl : m = k := by omega
  have hkz : ¬ (m : Int) < (m : Int) := by omega
  have K22 := hide (clone22_any a0 b0 off0 l c0 s w hl20 (unhide HN0) (unhide HA0) (unhide HS))
  have hV' : ∀ r, r < m → w.cell? ⟨b, off + r, none⟩ = some (.slice (some ⟨RB r, RO r, none⟩) (L r) (C r)) := fun r hr => by
    rw [← unhide HAA r hr (by have := hall r hr; omega)]; exact unhide HV r hr
  have HALL : Hid (∀ r, r < m → L r ≤ 1048576 ∧ k0 < L r) := fun r hr => ⟨unhide HL20 r hr, hall r hr⟩
  have HV' := hide hV'
  clear hV' hall HN0 HA0 HAA HL20 HV
  go_wp2_with fail
  refine (unhide K22).mono ?_
  rintro e w1 ⟨a1, rfl, hb1, hr1⟩
  have hVl : ∀ r, r < m → (⟨b, off + r, none⟩ : Addr).block < w.heap.size := fun r hr => World.block_lt_of_cell? _ _ (unhide HV' r hr)
  have hZl : ∀ r, r < m → ∀ c, c < L r → (⟨RB r, RO r + c, none⟩ : Addr).block < w.heap.size := fun r hr c hc => World.block_lt_of_cell? _ _ (unhide HZ r hr c hc)
  have K23 := hide (mat_any a b off m cap k0 RB RO L C Z w1 hm1024 (unhide HALL) (unhide HN) (unhide HA)
    (fun r hr => by rw [hb1.cell (hVl r hr)]; exact unhide HV' r hr) (fun r hr c hc => by rw [hb1.cell (hZl r hr c hc)]; exact unhide HZ r hr c hc))
  have HB1 := hide hb1
  have HR1 := hide hr1
  clear hb1 hr1 hVl hZl HZ HV' HALL HN HA K22 HS
  go_wp2_with fail
  refine (unhide K23).mono ?_
  rintro e w2 ⟨q, rfl, hb2, hR2⟩
  clear K23
  obtain ⟨x, hx⟩ : ∃ x : Nat → Int, (fun r => Z r k0) = x := ⟨_, rfl⟩
  rw [hx] at hR2
  clear hx
  have hs2 : ∀ i, i < m → w2.cell? ⟨w.heap.size, i, none⟩ = some (.int .i64 (s i)) := fun i hi => by
    have := (unhide HR1 (by omega)).2
    rw [hb2.cell (p := ⟨w.heap.size, i, none⟩) this.lt]; exact this.cell (by omega)
  have HSQ : Hid (0 < m → a1 = some ⟨w.heap.size, 0, none⟩) := fun h => (unhide HR1 (by omega)).1
  have K24 := hide (wrap_any w.heap.size l m k0 a1 q self x s w2 hm1024 hml hl20 hk64 hself (unhide HSQ) hs2 (fun i hi => unhide HSW i (by omega)) hR2)
  have HB2 : Hid (Below w.heap.size w w2) := (unhide HB1).trans (hb2.mono (unhide HB1).size)
  have HR2 := hide hR2
  have HS2 := hide hs2
  clear hb2 hR2 hs2 HB1 HR1 HSW
  go_wp2_with fail
  refine (unhide K24).mono ?_
  rintro e w3 ⟨g1, cg, rfl, hg1, hL1, hb3⟩
  clear K24
  have HB3 : Hid (Below w.heap.size w w3) := (unhide HB2).trans (hb3.mono (unhide HB2).size)
  have HGOT : Hid (0 < m → ∃ QB, q = some ⟨QB, 0, none⟩ ∧ Got w3 QB w.heap.size m k0 x s) := fun h => by
    obtain ⟨QB, hq, hql, hrows⟩ := (unhide HR2).below hb3 h
    have hl2 : w.heap.size < w2.heap.size := World.block_lt_of_cell? _ _ (unhide HS2 0 h)
    exact ⟨QB, hq, hrows, fun r hr => by rw [hb3.cell (p := ⟨w.heap.size, r, none⟩) hl2]; exact unhide HS2 r hr, hql, by have := hb3.size; omega⟩
  have HL1 := hide hL1
  clear hg1 hL1 hb3 HB2 HR2 HS2
  go_wp2_with fail
  go_loopg [12, 13] m (fun g v i wr => ∃ k : Nat, k ≤ m ∧ g = m - k ∧ i = .int .i64 k ∧ wr.ownsRow w3.heap.size 3 1 v (ts x s self k).length (((ts x s self k).map (pk x s self m)).map (Value.int .i64)) ∧ Below w3.heap.size w3 wr)
  case atStart => exact ⟨0, Nat.zero_le _, rfl, rfl, World.ownsRow_nil _ _ _ _, Below.refl _ _⟩
  case round =>
  obtain ⟨k, hk, rfl, rfl, hrow, hB⟩ := hrel
  have htl := ts_le (x := x) (s := s) (self := self) k
  by_cases hlt : k < m
  · obtain rfl := unhide HSQ (by omega)
    obtain ⟨QB, rfl, hG⟩ := unhide HGOT (by omega)
    obtain ⟨R, n, hkn, g0, g1', g2⟩ := hG.at hB hlt
    have hkz : (k : Int) < (m : Int) := by omega
    have hkz2 : (k : Int) < (l : Int) := by omega
    have hknz : (k0 : Int) < (n : Int) := by omega
    by_cases hx : x k = 0
    · have hxb : (x k == 0) = true := by simp [hx]
      have HR := hide hrow
      have HB := hide hB
      have HT := hide (ts_stay (self := self) (fun e => e.1 hx) : ts x s self (k + 1) = ts x s self k)
      clear hx hrow hB hG
      go_wp2_with fail
      go_roundg (m - (k + 1))
      case measure => omega
      case rel => exact ⟨k + 1, by omega, rfl, by go_num, by rw [unhide HT]; exact unhide HR, unhide HB⟩
    · have hxb : (x k == 0) = false := by simp [hx]
      have HX := hide hx
      have HG := hide hG
      have HR := hide hrow
      have HB := hide hB
      clear hx hrow hB hG
      obtain ⟨wo, hwo⟩ : ∃ wo, wo = wr := ⟨_, rfl⟩
      subst hwo
      go_wp2_with fail
      go_loopg [15, 16] k (fun g f i wx => wo = wx ∧ ∃ j : Nat, j ≤ k ∧ g = k - j ∧ i = .int .i64 j ∧ f = .bool true ∧ ∀ y, y < j → ¬ F x s (s k) y)
      case atStart => exact ⟨rfl, 0, Nat.zero_le _, rfl, rfl, rfl, fun y hy => absurd hy (by omega)⟩
      case round =>
      obtain ⟨rfl, j, hj, rfl, rfl, rfl, hno⟩ := hrel
      by_cases hjk : j < k
      · obtain ⟨R3, n3, hkn3, g03, g13, g23⟩ := (unhide HG).at (unhide HB) (show j < m by omega)
        have hjz : (j : Int) < (k : Int) := by omega
        have hjz1 : (j : Int) < (m : Int) := by omega
        have hjz2 : (j : Int) < (l : Int) := by omega
        have hknz3 : (k0 : Int) < (n3 : Int) := by omega
        by_cases hF : F x s (s k) j
        · have f1 : (x j != 0) = true := by simp [hF.1]
          have f2 : (s j == s k) = true := by simp [hF.2]
          have HT : Hid (ts x s self (k + 1) = ts x s self k) := ts_stay (fun e => nb_none.1 e.2 j hjk hF)
          clear hF hno
          go_wp2_with fail
          go_roundg (m - (k + 1))
          case measure => omega
          case rel => exact ⟨k + 1, by omega, rfl, by go_num, by rw [unhide HT]; exact unhide HR, unhide HB⟩
        · have HNO : Hid (∀ y, y < j + 1 → ¬ F x s (s k) y) := fun y hy => by
            by_cases e : y = j
            · subst e; exact hF
            · exact hno y (by omega)
          clear hno
          by_cases hxj : x j = 0
          · have f1 : (x j != 0) = false := by simp [hxj]
            clear hF hxj
            go_wp2_with fail
            go_roundg (k - (j + 1))
            case measure => omega
            case rel => exact ⟨rfl, j + 1, by omega, rfl, by go_num, rfl, unhide HNO⟩
          · have f1 : (x j != 0) = true := by simp [hxj]
            have f2 : (s j == s k) = false := by simpa using (fun e => hF ⟨hxj, e⟩)
            clear hF hxj
            go_wp2_with fail
            go_roundg (k - (j + 1))
            case measure => omega
            case rel => exact ⟨rfl, j + 1, by omega, rfl, by go_num, rfl, unhide HNO⟩
      obtain rfl : k = j := by omega
      have hjz : ¬ (k : Int) < (k : Int) := by omega
      have HNO := hide hno
      clear hno hjk
      go_wp2_with fail
      go_loopg [17, 18] (m - (k + 1)) (fun g bq j wx => wx.ownsRow w3.heap.size 3 1 u12 (ts x s self k).length (((ts x s self k).map (pk x s self m)).map (Value.int .i64)) ∧ Below w3.heap.size w3 wx ∧ ∃ j4 : Nat, k + 1 + j4 ≤ m ∧ g = m - (k + 1 + j4) ∧ j = .int .i64 ((k + 1 + j4 : Nat) : Int) ∧ bq = .int .i64 (fmJ x s (s k) k j4 : Nat))
      case atStart => exact ⟨unhide HR, unhide HB, 0, by omega, rfl, by go_num, rfl⟩
      case round =>
      clear HR HB g0 g1' g2
      obtain ⟨hrow, hBx, j4, hj4, rfl, rfl, rfl⟩ := hrel
      have hfm := fmJ_inv (j := j4) (unhide HNO) ⟨unhide HX, rfl⟩
      obtain ⟨bb, hbb⟩ : ∃ bb, fmJ x s (s k) k j4 = bb := ⟨_, rfl⟩
      have hbl : bb < k + 1 + j4 := by rw [← hbb]; exact hfm.lt
      obtain ⟨jj, hjj⟩ : ∃ jj, k + 1 + j4 = jj := ⟨_, rfl⟩
      rw [hbb, hjj]
      rw [hjj] at hbl hj4
      clear hfm
      by_cases hjm : jj < m
      · obtain ⟨R4, n4, hkn4, p0, p1, p2⟩ := (unhide HG).at hBx hjm
        obtain ⟨R5, n5, hkn5, q0, q1, q2⟩ := (unhide HG).at hBx (show bb < m by omega)
        have z1 : (jj : Int) < (m : Int) := by omega
        have z2 : (jj : Int) < (l : Int) := by omega
        have z3 : (k0 : Int) < (n4 : Int) := by omega
        have z4 : (k0 : Int) < (n5 : Int) := by omega
        have z5 : (bb : Int) < (m : Int) := by omega
        clear hkz hkz2 hknz q2
        have hstep : fmJ x s (s k) k (j4 + 1) = if x jj ≠ 0 ∧ s jj = s k ∧ x bb < x jj then jj else bb := by
          show (if x (k + 1 + j4) ≠ 0 ∧ s (k + 1 + j4) = s k ∧ x (fmJ x s (s k) k j4) < x (k + 1 + j4) then k + 1 + j4 else fmJ x s (s k) k j4) = _
          rw [hbb, hjj]
        have HJ := hide hjj
        have HROW := hide hrow
        have HBX := hide hBx
        clear hjj hbb hrow hBx
        by_cases c1 : x jj = 0
        · have f1 : (x jj != 0) = false := by simp [c1]
          rw [if_neg (fun e => e.1 c1)] at hstep
          have HST := hide hstep
          clear hstep c1
          go_wp2_with fail
          go_quiet (fail)
          have HROW2 := hide (ownsRow_drewN (unhide HROW) nq)
          have HBX2 := hide (below_drewN (unhide HBX) nq)
          clear HROW HBX
          go_wp2_with fail
          go_roundg (m - (k + 1 + (j4 + 1)))
          case measure => have := unhide HJ; omega
          case rel => exact ⟨unhide HROW2, unhide HBX2, j4 + 1, by have := unhide HJ; omega, rfl, by have := unhide HJ; go_num, by rw [unhide HST]⟩
        · have f1 : (x jj != 0) = true := by simp [c1]
          by_cases c2 : s jj = s k
          · have f2 : (s jj == s k) = true := by simp [c2]
            by_cases c3 : x bb < x jj
            · rw [if_pos ⟨c1, c2, c3⟩] at hstep
              have HST := hide hstep
              clear hstep c1 c2
              go_wp2_with fail
              go_quiet (fail)
              have HROW2 := hide (ownsRow_drewN (unhide HROW) nq)
              have HBX2 := hide (below_drewN (unhide HBX) nq)
              clear HROW HBX
              go_wp2_with fail
              go_roundg (m - (k + 1 + (j4 + 1)))
              case measure => have := unhide HJ; omega
              case rel => exact ⟨unhide HROW2, unhide HBX2, j4 + 1, by have := unhide HJ; omega, rfl, by have := unhide HJ; go_num, by rw [unhide HST]⟩
            · rw [if_neg (fun e => c3 e.2.2)] at hstep
              have HST := hide hstep
              clear hstep c1 c2
              go_wp2_with fail
              go_quiet (fail)
              have HROW2 := hide (ownsRow_drewN (unhide HROW) nq)
              have HBX2 := hide (below_drewN (unhide HBX) nq)
              clear HROW HBX
              go_wp2_with fail
              go_roundg (m - (k + 1 + (j4 + 1)))
              case measure => have := unhide HJ; omega
              case rel => exact ⟨unhide HROW2, unhide HBX2, j4 + 1, by have := unhide HJ; omega, rfl, by have := unhide HJ; go_num, by rw [unhide HST]⟩
          · have f2 : (s jj == s k) = false := by simp [c2]
            rw [if_neg (fun e => c2 e.2.1)] at hstep
            have HST := hide hstep
            clear hstep c1 c2
            go_wp2_with fail
            go_quiet (fail)
            have HROW2 := hide (ownsRow_drewN (unhide HROW) nq)
            have HBX2 := hide (below_drewN (unhide HBX) nq)
            clear HROW HBX
            go_wp2_with fail
            go_roundg (m - (k + 1 + (j4 + 1)))
            case measure => have := unhide HJ; omega
            case rel => exact ⟨unhide HROW2, unhide HBX2, j4 + 1, by have := unhide HJ; omega, rfl, by have := unhide HJ; go_num, by rw [unhide HST]⟩
      · obtain rfl : m = jj := by omega
        have hj4e : j4 = m - (k + 1) := by omega
        rw [hj4e] at hbb
        clear hjj hj4 hj4e hjm
        have hjz4 : ¬ (m : Int) < (m : Int) := by omega
        obtain ⟨R5, n5, hkn5, q0, q1, q2⟩ := (unhide HG).at hBx hbl
        have z4 : (k0 : Int) < (n5 : Int) := by omega
        have z5 : (bb : Int) < (m : Int) := by omega
        have HROW := hide hrow
        have HBX := hide hBx
        clear hrow hBx q2
        have HT := hide (ts_new (unhide HX) (nb_none.2 (unhide HNO)) : ts x s self (k + 1) = ts x s self k ++ [s k])
        go_upto_region 35 with fail
        go_cut [188] from 157 to 188 (fun v wx => wx.ownsRow w3.heap.size 3 1 u12 (ts x s self k).length (((ts x s self k).map (pk x s self m)).map (Value.int .i64)) ∧ Below w3.heap.size w3 wx ∧ ((v = .bool true ∧ Hid (pk x s self m (s k) = self)) ∨ (v = .bool false ∧ Hid (pk x s self m (s k) = (bb : Int)))))
        case first =>
          clear hkz hkz2 hknz
          by_cases y1 : self < 0
          · have f1 : decide (0 ≤ self) = false := by simp; omega
            have HPK : Hid (pk x s self m (s k) = (bb : Int)) := by have := pk_not (self := self) hlt (unhide HX) (unhide HNO) (fun t => absurd t.1 (by omega)); rw [hbb] at this; exact this
            clear hbb
            go_wp2_with fail
            go_quiet (fail)
            have HROW2 := hide (ownsRow_drewN (unhide HROW) nq)
            have HBX2 := hide (below_drewN (unhide HBX) nq)
            clear HROW HBX
            go_wp2_with fail
            go_meet
            exact ⟨unhide HROW2, unhide HBX2, .inr ⟨rfl, unhide (hide HPK)⟩⟩
          have f1 : decide (0 ≤ self) = true := by simp; omega
          by_cases y2 : self < m
          case neg =>
            have f2 : decide (self < (m : Int)) = false := by simp; omega
            have HPK : Hid (pk x s self m (s k) = (bb : Int)) := by have := pk_not (self := self) hlt (unhide HX) (unhide HNO) (fun t => absurd t.2.1 y2); rw [hbb] at this; exact this
            clear hbb
            go_wp2_with fail
            go_quiet (fail)
            have HROW2 := hide (ownsRow_drewN (unhide HROW) nq)
            have HBX2 := hide (below_drewN (unhide HBX) nq)
            clear HROW HBX
            go_wp2_with fail
            go_meet
            exact ⟨unhide HROW2, unhide HBX2, .inr ⟨rfl, unhide (hide HPK)⟩⟩
          have f2 : decide (self < (m : Int)) = true := by simp; omega
          obtain ⟨sn, rfl⟩ := Int.eq_ofNat_of_zero_le (show 0 ≤ self by omega)
          have y3 : sn < m := by omega
          obtain ⟨R6, n6, hkn6, r0, r1, r2⟩ := (unhide HG).at (unhide HBX) y3
          have z6 : (k0 : Int) < (n6 : Int) := by omega
          have z7 : (sn : Int) < (m : Int) := by omega
          have z8 : (sn : Int) < (l : Int) := by omega
          by_cases y4 : s sn = s k
          case neg =>
            have f3 : (s sn == s k) = false := by simp [y4]
            have HPK : Hid (pk x s (sn : Int) m (s k) = (bb : Int)) := by have := pk_not (self := (sn : Int)) hlt (unhide HX) (unhide HNO) (fun t => absurd t.2.2.1 y4); rw [hbb] at this; exact this
            clear hbb y4 f1 f2
            go_wp2_with fail
            go_quiet (fail)
            have HROW2 := hide (ownsRow_drewN (unhide HROW) nq)
            have HBX2 := hide (below_drewN (unhide HBX) nq)
            clear HROW HBX
            go_wp2_with fail
            go_meet
            exact ⟨unhide HROW2, unhide HBX2, .inr ⟨rfl, unhide (hide HPK)⟩⟩
          have f3 : (s sn == s k) = true := by simp [y4]
          by_cases y5 : x sn = x bb
          case neg =>
            have f4 : (x sn == x bb) = false := by simp [y5]
            have HPK : Hid (pk x s (sn : Int) m (s k) = (bb : Int)) := by have := pk_not (self := (sn : Int)) hlt (unhide HX) (unhide HNO) (fun t => absurd t.2.2.2 (by rw [hbb]; exact y5)); rw [hbb] at this; exact this
            clear hbb y4 y5 f1 f2
            go_wp2_with fail
            go_quiet (fail)
            have HROW2 := hide (ownsRow_drewN (unhide HROW) nq)
            have HBX2 := hide (below_drewN (unhide HBX) nq)
            clear HROW HBX
            go_wp2_with fail
            go_meet
            exact ⟨unhide HROW2, unhide HBX2, .inr ⟨rfl, unhide (hide HPK)⟩⟩
          have f4 : (x sn == x bb) = true := by simp [y5]
          have HPK : Hid (pk x s (sn : Int) m (s k) = (sn : Int)) := pk_tie hlt (unhide HX) (unhide HNO) ⟨by omega, by omega, y4, by rw [hbb]; exact y5⟩
          clear hbb y4 y5 f1 f2
          go_wp2_with fail
          go_quiet (fail)
          have HROW2 := hide (ownsRow_drewN (unhide HROW) nq)
          have HBX2 := hide (below_drewN (unhide HBX) nq)
          clear HROW HBX
          go_wp2_with fail
          go_meet
          exact ⟨unhide HROW2, unhide HBX2, .inl ⟨rfl, unhide (hide HPK)⟩⟩
        case rest =>
        obtain ⟨hrow, hBx, hor⟩ := hcut
        have hszx := hBx.size
        have HBX := hide hBx
        clear hBx HROW q0 q1 z4 z5 hjz4 hbb
        rcases hor with ⟨rfl, HPK⟩ | ⟨rfl, HPK⟩
        · have HPK := HPK
          go_wp2_with (first | (at_builtin; refine wpList_append_own _ rfl _ _ 54 rfl w3.heap.size 3 i0 (.int .i64 0) 1 8 Try.underlying54 hi hz0 hz1 hz2 rfl (by decide) _ _ _ rfl (hrow.alloc _) ⟨wc.heap.size, 0, none⟩ 1 1 [.int .i64 self] rfl rfl ?c1 ?c2 ?c3 ?c4 ?c5 ?_) | go_in)
          case c1 =>
            intro j u hj
            match j, hj with
            | 0, hj => simp at hj; subst hj; simp [Addr.add]
          case c2 => intro u hu; simp at hu; subst hu; rfl
          case c3 => unfold maxLen; omega
          case c4 => omega
          case c5 => simp; omega
          · intro v' wn hown' hgrow _
            have HBN : Hid (Below w3.heap.size w3 wn) := ((unhide HBX).alloc hszx _).grown hgrow (by simp; omega) (fun q hq => (hrow.lt q hq).1)
            have HW := hide hown'
            clear hown' hgrow hrow
            go_wp2_with fail
            go_roundg (m - (k + 1))
            case measure => omega
            case rel => exact ⟨k + 1, by omega, rfl, by go_num, by rw [unhide HT]; simpa [unhide HPK] using unhide HW, unhide HBN⟩
        · have HPK := HPK
          go_wp2_with (first | (at_builtin; refine wpList_append_own _ rfl _ _ 54 rfl w3.heap.size 3 i0 (.int .i64 0) 1 8 Try.underlying54 hi hz0 hz1 hz2 rfl (by decide) _ _ _ rfl (hrow.alloc _) ⟨wc.heap.size, 0, none⟩ 1 1 [.int .i64 bb] rfl rfl ?c1 ?c2 ?c3 ?c4 ?c5 ?_) | go_in)
          case c1 =>
            intro j u hj
            match j, hj with
            | 0, hj => simp at hj; subst hj; simp [Addr.add]
          case c2 => intro u hu; simp at hu; subst hu; rfl
          case c3 => unfold maxLen; omega
          case c4 => omega
          case c5 => simp; omega
          · intro v' wn hown' hgrow _
            have HBN : Hid (Below w3.heap.size w3 wn) := ((unhide HBX).alloc hszx _).grown hgrow (by simp; omega) (fun q hq => (hrow.lt q hq).1)
            have HW := hide hown'
            clear hown' hgrow hrow
            go_wp2_with fail
            go_roundg (m - (k + 1))
            case measure => omega
            case rel => exact ⟨k + 1, by omega, rfl, by go_num, by rw [unhide HT]; simpa [unhide HPK] using unhide HW, unhide HBN⟩
  obtain rfl : m = k := by omega
  have hkz : ¬ (m : Int) < (m : Int) := by omega
  obtain ⟨p, cp, rfl⟩ : ∃ p cp, u12 = .slice p (ts x s self m).length cp := by
    rcases hrow.2 with ⟨h1, h2⟩ | ⟨g, cap, cur, h1, _⟩
    · exact ⟨none, 0, by rw [h1, h2]⟩
    · exact ⟨_, _, h1⟩
  have hszx := hB.size
  have HBX := hide hB
  clear hB HGOT
  obtain ⟨nt, hnt⟩ : ∃ nt, (ts x s self m).length = nt := ⟨_, rfl⟩
  rw [hnt] at hrow htl ⊢
  go_upto_if 196 with fail
  go_cut [12] from 196 to 200 (fun v wx => wx.ownsRow w3.heap.size 3 1 v (bl x s self m).length ((bl x s self m).map (Value.int .i64)) ∧ Below w3.heap.size w3 wx)
  case first =>
    by_cases h0 : ts x s self m = []
    · have hn1 : nt = 0 := by rw [← hnt, h0]; rfl
      have hn0 : ((nt : Int) == 0) = true := by simp [hn1]
      have H0 := hide h0
      have HN := hide hn1
      rw [h0] at hrow
      clear h0 hnt hn1
      go_wp2_with (first | (at_builtin; refine wpList_append_own _ rfl _ _ 54 rfl w3.heap.size 3 i0 (.int .i64 0) 1 8 Try.underlying54 hi hz0 hz1 hz2 rfl (by decide) _ _ _ rfl (hrow.alloc _) ⟨wr.heap.size, 0, none⟩ 1 1 [.int .i64 self] rfl rfl ?c1 ?c2 ?c3 ?c4 ?c5 ?_) | go_in)
      case c2 => rfl
      case c3 => unfold maxLen; omega
      case c4 => omega
      case c5 => omega
      · intro v' wn hown' hgrow _
        have HBN : Hid (Below w3.heap.size w3 wn) := ((unhide HBX).alloc hszx _).grown hgrow (by simp; omega) (fun q hq => (hrow.lt q hq).1)
        have HW := hide hown'
        clear hown' hgrow hrow
        go_wp2_with fail
        go_meet
        exact ⟨by rw [bl_nil (unhide H0)]; have hw := unhide HW; rw [unhide HN] at hw; simpa using hw, unhide HBN⟩
    · have hn0 : ((nt : Int) == 0) = false := by
        have : (ts x s self m).length ≠ 0 := fun e => h0 (List.length_eq_zero_iff.1 e)
        rw [hnt] at this
        simp; omega
      have HR : Hid (wr.ownsRow w3.heap.size 3 1 (.slice p nt cp) (bl x s self m).length ((bl x s self m).map (Value.int .i64))) := by
        show wr.ownsRow _ _ _ _ _ _
        rw [bl_cons h0, List.length_map, hnt]; exact hrow
      clear hrow h0 hnt
      go_wp2_with fail
      go_meet
      exact ⟨unhide HR, unhide HBX⟩
  case rest =>
  obtain ⟨hrow2, hBx⟩ := hcut
  clear hrow HBX hnt hszx htl
  have hne := bl_ne (x := x) (s := s) (self := self) m
  have hle := bl_le (x := x) (s := s) (self := self) m
  obtain ⟨BL, hBL⟩ : ∃ BL, bl x s self m = BL := ⟨_, rfl⟩
  rw [hBL] at hrow2 hne hle ⊢
  have HL1' : Hid (ListAt w3 g1 (BL.mergeSort leI)) := by
    show ListAt w3 g1 (BL.mergeSort leI)
    rw [← hBL]; exact unhide HL1
  clear HL1 hBL
  obtain ⟨gb, cb, rfl⟩ : ∃ gb cb, u12 = Value.slice (some ⟨gb, 0, none⟩) BL.length cb := by
    rcases hrow2.2 with ⟨_, h2⟩ | ⟨g, cap, cur, h1, _⟩
    · exact absurd h2 hne
    · exact ⟨g, cap, h1⟩
  obtain ⟨hLb, hgb⟩ := listAt_own hrow2 hne
  have K25 := hide (sort_any gb BL.length cb (fun i => BL.getD i 0) wc (by omega) hLb)
  have hg1l : g1 < w3.heap.size := World.block_lt_of_cell? _ _ (unhide HL1' 0 (by rw [List.length_mergeSort]; omega)).1
  have HBX := hide hBx
  clear hBx hrow2 hLb
  go_wp2_with fail
  refine (unhide K25).mono ?_
  rintro e w' ⟨rfl, G', hI, hSr, hPm, hBg⟩
  clear K25
  have HW : Hid (∀ i, i < BL.length → w'.cell? ⟨gb, i, none⟩ = some (.int .i64 (G' i)) ∧ w'.cell? ⟨g1, i, none⟩ = some (.int .i64 (G' i))) := fun i hi => by
    refine ⟨(hI i hi).1, ?_⟩
    rw [hBg.cell (p := ⟨g1, i, none⟩) (by show g1 < gb; omega), (unhide HBX).cell (p := ⟨g1, i, none⟩) hg1l, (unhide HL1' i (by rw [List.length_mergeSort]; exact hi)).1]
    show some (Value.int .i64 ((BL.mergeSort leI).getD i 0)) = _
    rw [same_ints hSr hPm i hi]
  have HBW : Hid (Below w.heap.size w w') := (unhide HB3).trans (((unhide HBX).trans (hBg.mono hgb)).mono (unhide HB3).size)
  clear hI hSr hPm hBg HBX HL1' HB3 hgb hg1l
  have hq0 : ((BL.length : Int) != (BL.length : Int)) = false := by simp
  go_wp2_with fail
  clear hq0
  go_loopg [19] BL.length (fun g i wx => (∃ y, wx = w'.drewN y) ∧ ∃ k : Nat, k ≤ BL.length ∧ g = BL.length - k ∧ i = .int .i64 k)
  case atStart => exact ⟨⟨0, rfl⟩, 0, Nat.zero_le _, rfl, rfl⟩
  case round =>
  obtain ⟨⟨y, rfl⟩, k, hk, rfl, rfl⟩ := hrel
  by_cases hlt : k < BL.length
  · have hkz1 : (k : Int) < (BL.length : Int) := by omega
    obtain ⟨e1, e2⟩ := unhide HW k hlt
    rw [← cell_drewN w' y] at e1 e2
    obtain ⟨wy, hwy⟩ : ∃ wy, w'.drewN y = wy := ⟨_, rfl⟩
    rw [hwy] at e1 e2 ⊢
    have HY := hide hwy
    clear hwy
    obtain ⟨v, hv⟩ : ∃ v, G' k = v := ⟨_, rfl⟩
    rw [hv] at e1 e2
    have hvv : (v != v) = false := by simp
    clear hv
    go_wp2_with fail
    go_quiet (fail)
    go_wp2_with fail
    go_roundg (BL.length - (k + 1))
    case measure => omega
    case rel => exact ⟨⟨y + nq, by rw [← unhide HY]; exact drewN_drewN w' y nq⟩, k + 1, by omega, rfl, by go_num⟩
  · obtain rfl : k = BL.length := by omega
    have hkz1 : ¬ (BL.length : Int) < (BL.length : Int) := by omega
    go_wp2_with fail
    go_ret
    exact ⟨rfl, below_drewN (unhide HBW) y⟩
end Go.Proofs.Qxb6003791a.Nb
