import Derived.Test.Qxb6003791aBvMem
import Derived.Deep.DeepCutAuto
import Derived.Deep.CutRange
import Derived.Deep.RegionWith
import Derived.LaidEqlPtr
set_option linter.unusedVariables false
namespace Go.Proofs.Qxb6003791a.Bv
open Go.RowKit

set_option maxRecDepth 1000000 in
set_option maxHeartbeats 2000000 in
theorem law_main (a0 a1 a2 a3 : Option Addr) (b0 o0 l0 c0 b1 o1 l1 c1 b2 o2 l2 c2 b3 o3 l3 c3 : Nat) (Z0 : Nat → Int) (Z1 : Nat → Bool) (Z2 Z3 : Nat → Int) (w : World)
    (hl0 : l0 ≤ 1024) (hl1 : l1 ≤ 1024) (hl2 : l2 ≤ 1024) (hl3 : l3 ≤ 1024)
    (n0 : a0 = none → l0 = 0 ∧ c0 = 0) (n1 : a1 = none → l1 = 0 ∧ c1 = 0) (n2 : a2 = none → l2 = 0 ∧ c2 = 0) (n3 : a3 = none → l3 = 0 ∧ c3 = 0)
    (p0 : 0 < l0 → a0 = some ⟨b0, o0, none⟩) (p1 : 0 < l1 → a1 = some ⟨b1, o1, none⟩) (p2 : 0 < l2 → a2 = some ⟨b2, o2, none⟩) (p3 : 0 < l3 → a3 = some ⟨b3, o3, none⟩)
    (v0 : ∀ i, i < l0 → w.cell? ⟨b0, o0 + i, none⟩ = some (.int .u8 (Z0 i))) (v1 : ∀ i, i < l1 → w.cell? ⟨b1, o1 + i, none⟩ = some (.bool (Z1 i)))
    (v2 : ∀ i, i < l2 → w.cell? ⟨b2, o2 + i, none⟩ = some (.int .u8 (Z2 i))) (v3 : ∀ i, i < l3 → w.cell? ⟨b3, o3 + i, none⟩ = some (.int .u64 (Z3 i)))
    (r0 : ∀ i, i < l0 → 0 ≤ Z0 i ∧ Z0 i ≤ 255) (r2 : ∀ i, i < l2 → 0 ≤ Z2 i ∧ Z2 i ≤ 255) (r3 : ∀ i, i < l3 → 0 ≤ Z3 i) :
    Calls Try.prog 3 #[.slice a0 l0 c0, .slice a1 l1 c1, .slice a2 l2 c2, .slice a3 l3 c3] w fun e w' => e = .returned (.bool true) ∧ Below w.heap.size w w' := by
  have k7 := bytes_any a0 a1 a2 a3 l0 l1 l2 l3 c0 c1 c2 c3 w (by omega) (by omega) (by omega) (by omega)
  rw [decide_eq_true (by omega)] at k7
  have K7 := hide k7
  have K10 := hide (clone10_any a0 b0 o0 l0 c0 Z0 w (by omega) n0 p0 v0)
  have N1 := hide n1
  have N2 := hide n2
  have N3 := hide n3
  have P1 := hide p1
  have P2 := hide p2
  have P3 := hide p3
  have V1 := hide v1
  have V2 := hide v2
  have V3 := hide v3
  have R0 := hide r0
  have R2 := hide r2
  have R3 := hide r3
  clear k7 n0 n1 n2 n3 p0 p1 p2 p3 v0 v1 v2 v3 r0 r2 r3
  have d0 : decide ((1024 : Int) < (l0 : Int)) = false := by simp; omega
  have d1 : decide ((1024 : Int) < (l1 : Int)) = false := by simp; omega
  have d2 : decide ((1024 : Int) < (l2 : Int)) = false := by simp; omega
  have d3 : decide ((1024 : Int) < (l3 : Int)) = false := by simp; omega
  go_enter Try.func3, Try.ntmps3
  go_wp2_with fail
  refine (unhide K7).mono ?_
  rintro e w' ⟨rfl, rfl⟩
  clear K7
  go_wp2_with (first | (go_at_call 8; refine (add_any _ _ _ (by omega) (by omega) (by omega) (by omega)).mono ?_; rintro e w' ⟨rfl, rfl⟩) | (go_at_call 9; refine (words_any _ _ _ (by omega) (by omega) (by omega) (by omega)).mono ?_; rintro e w' ⟨rfl, rfl⟩))
  refine (unhide K10).mono ?_
  rintro e wa ⟨q0, rfl, hba, hra⟩
  have K11 := hide (clone11_any a1 b1 o1 l1 c1 Z1 wa (by omega) (unhide N1) (unhide P1) (fun i hi => by
    rw [hba.cell (p := ⟨b1, o1 + i, none⟩) (World.block_lt_of_cell? _ _ (unhide V1 i hi))]; exact unhide V1 i hi))
  have HBA := hide hba
  have HRA := hide hra
  clear K10 N1 P1 V1 hba hra
  go_wp2_with fail
  refine (unhide K11).mono ?_
  rintro e wb ⟨q1, rfl, hbb, hrb⟩
  have hab : Below w.heap.size w wb := (unhide HBA).trans (hbb.mono (unhide HBA).size)
  have K12 := hide (clone10_any a2 b2 o2 l2 c2 Z2 wb (by omega) (unhide N2) (unhide P2) (fun i hi => by
    rw [hab.cell (p := ⟨b2, o2 + i, none⟩) (World.block_lt_of_cell? _ _ (unhide V2 i hi))]; exact unhide V2 i hi))
  have HAB := hide hab
  have HBB := hide hbb
  have HRB := hide hrb
  clear K11 N2 P2 V2 hab hbb hrb
  go_wp2_with fail
  refine (unhide K12).mono ?_
  rintro e wc ⟨q2, rfl, hbc, hrc⟩
  have hac : Below w.heap.size w wc := (unhide HAB).trans (hbc.mono (unhide HAB).size)
  have K13 := hide (clone12_any a3 b3 o3 l3 c3 Z3 wc (by omega) (unhide N3) (unhide P3) (fun i hi => by
    rw [hac.cell (p := ⟨b3, o3 + i, none⟩) (World.block_lt_of_cell? _ _ (unhide V3 i hi))]; exact unhide V3 i hi))
  have HAC := hide hac
  have HBC := hide hbc
  have HRC := hide hrc
  clear K12 N3 P3 V3 hac hbc hrc
  go_wp2_with fail
  refine (unhide K13).mono ?_
  rintro e wd ⟨q3, rfl, hbd, hrd⟩
  have had : Below w.heap.size w wd := (unhide HAC).trans (hbd.mono (unhide HAC).size)
  have HAD := hide had
  have HBD := hide hbd
  have HRD := hide hrd
  clear K13 had hbd hrd
  clear d0 d1 d2 d3
  go_upto_if 84 with fail
  go_cut [10] from 84 to 86 (fun s wx => wd = wx ∧ ∃ m : Nat, s = .int .i64 m ∧ m ≤ l0 ∧ m ≤ l1 ∧ (m = l0 ∨ m = l1))
  case first =>
    by_cases hc : l1 < l0
    · go_wp2_with fail
      go_meet
      exact ⟨rfl, l1, rfl, by omega, by omega, by omega⟩
    · go_wp2_with fail
      go_meet
      exact ⟨rfl, l0, rfl, by omega, by omega, by omega⟩
  case rest =>
  obtain ⟨rfl, m1, rfl, m10, m11, hm1⟩ := hcut
  have HM1 := hide hm1
  clear hm1
  go_upto_if 90 with fail
  go_cut [10] from 90 to 92 (fun s wx => wd = wx ∧ ∃ m : Nat, s = .int .i64 m ∧ m ≤ m1 ∧ m ≤ l2 ∧ (m = m1 ∨ m = l2))
  case first =>
    by_cases hc : l2 < m1
    · go_wp2_with fail
      go_meet
      exact ⟨rfl, l2, rfl, by omega, by omega, by omega⟩
    · go_wp2_with fail
      go_meet
      exact ⟨rfl, m1, rfl, by omega, by omega, by omega⟩
  case rest =>
  obtain ⟨rfl, m2, rfl, m20, m21, hm2⟩ := hcut
  have HM2 := hide hm2
  clear hm2
  go_upto_if 96 with fail
  go_cut [10] from 96 to 98 (fun s wx => wd = wx ∧ ∃ m : Nat, s = .int .i64 m ∧ m ≤ m2 ∧ m ≤ l3 ∧ (m = m2 ∨ m = l3))
  case first =>
    by_cases hc : l3 < m2
    · go_wp2_with fail
      go_meet
      exact ⟨rfl, l3, rfl, by omega, by omega, by omega⟩
    · go_wp2_with fail
      go_meet
      exact ⟨rfl, m2, rfl, by omega, by omega, by omega⟩
  case rest =>
  obtain ⟨rfl, n, rfl, n20, n21, hn2⟩ := hcut
  have HN2 := hide hn2
  clear hn2
  have hn : n ≤ 1024 := by omega
  have t0 : n ≤ l0 := by omega
  have t1 : n ≤ l1 := by omega
  have t2 : n ≤ l2 := by omega
  have t3 : n ≤ l3 := by omega
  clear HM1 HM2 HN2 m10 m11 m20 m21 n20 n21
  have ibd := unhide HBD
  have icd := (unhide HBC).trans (ibd.mono (unhide HBC).size)
  have iad := (unhide HBB).trans (icd.mono (unhide HBB).size)
  obtain ⟨B0, hq0, hB0, f0⟩ : ∃ B, (0 < n → q0 = some ⟨B, 0, none⟩) ∧ (0 < n → B < wd.heap.size) ∧ ∀ i, i < n → wd.cell? ⟨B, i, none⟩ = some (.int .u8 (Z0 i)) := ⟨_, row_at (unhide HRA) iad t0⟩
  obtain ⟨B1, hq1, hB1, f1⟩ : ∃ B, (0 < n → q1 = some ⟨B, 0, none⟩) ∧ (0 < n → B < wd.heap.size) ∧ ∀ i, i < n → wd.cell? ⟨B, i, none⟩ = some (.bool (Z1 i)) := ⟨_, row_at (unhide HRB) icd t1⟩
  obtain ⟨B2, hq2, hB2, f2⟩ : ∃ B, (0 < n → q2 = some ⟨B, 0, none⟩) ∧ (0 < n → B < wd.heap.size) ∧ ∀ i, i < n → wd.cell? ⟨B, i, none⟩ = some (.int .u8 (Z2 i)) := ⟨_, row_at (unhide HRC) ibd t2⟩
  obtain ⟨B3, hq3, hB3, f3⟩ : ∃ B, (0 < n → q3 = some ⟨B, 0, none⟩) ∧ (0 < n → B < wd.heap.size) ∧ ∀ i, i < n → wd.cell? ⟨B, i, none⟩ = some (.int .u64 (Z3 i)) := ⟨_, row_at (unhide HRD) (Below.refl _ _) t3⟩
  clear ibd icd iad HBB HBC HBD HRA HRB HRC HRD HBA HAB HAC
  have g31 := make31 n hn
  have g32 := make32 n hn
  have HF0 := hide f0
  have HF1 := hide f1
  have HF2 := hide f2
  have HF3 := hide f3
  have HQ0 := hide hq0
  have HQ1 := hide hq1
  have HQ2 := hide hq2
  have HQ3 := hide hq3
  clear f0 f1 f2 f3 hq0 hq1 hq2 hq3
  go_wp2_with (go_at_call 13; refine (member_any _).mono ?_; rintro e w' ⟨rfl, rfl⟩)
  clear g31 g32
  -- LOOP 1: the views
  go_loopg [14] n (fun g i wr => ∃ k : Nat, k ≤ n ∧ g = n - k ∧ i = .int .i64 k ∧ VI wd wr n k Z3 (fun i => (Z2 i % 8).toNat))
  case atStart => exact ⟨0, Nat.zero_le _, rfl, rfl, vi_start wd n _ _⟩
  case round =>
    obtain ⟨k, hk, rfl, rfl, hI⟩ := hrel
    by_cases hlt : k < n
    · obtain rfl := unhide HQ2 (by omega)
      obtain rfl := unhide HQ3 (by omega)
      have hkz : (k : Int) < (n : Int) := by omega
      have hkz2 : (k : Int) < (l2 : Int) := by omega
      have hkz3 : (k : Int) < (l3 : Int) := by omega
      have g2 : wr.cell? ⟨B2, k, none⟩ = some (.int .u8 (Z2 k)) := by rw [hI.below.cell (p := ⟨B2, k, none⟩) (hB2 (by omega))]; exact unhide HF2 k hlt
      obtain ⟨z0, z1⟩ := unhide R2 k (by omega)
      obtain ⟨c, hc⟩ : ∃ c : Nat, Z2 k % 8 = (c : Int) := ⟨(Z2 k % 8).toNat, by omega⟩
      have hc8 : c < 8 := by omega
      have g33 := make33 c (by omega)
      go_wp2_with fail
      have HC := hide hc
      have HI := hide hI
      clear g33 hc hI g2
      obtain ⟨wo, rfl⟩ : ∃ wo : World, wo = wr := ⟨_, rfl⟩
      go_loopg [17] c (fun g i wi => ∃ j : Nat, j ≤ c ∧ g = c - j ∧ i = .int .i64 j ∧ Below wo.heap.size wo wi ∧ wi.heap.size = wo.heap.size + 1 ∧ isRow wi wo.heap.size 36 (c * 3))
      case atStart => exact ⟨0, Nat.zero_le _, rfl, rfl, (Below.refl _ _).alloc (Nat.le_refl _) _, by simp, row36 wo c⟩
      case round =>
        obtain ⟨j, hj, rfl, rfl, hbi, hsi, hri⟩ := hrel
        by_cases hjl : j < c
        · have hjz : (j : Int) < (c : Int) := by omega
          obtain ⟨x0, e0⟩ := hri.cell (j := j * 3) (by omega)
          obtain ⟨x1, e1⟩ := hri.cell (j := j * 3 + 1) (by omega)
          obtain ⟨x2, e2⟩ := hri.cell (j := j * 3 + 2) (by omega)
          have fz := hri.frozen
          have HB := hide hbi
          have HS := hide hsi
          have HR := hide hri
          clear hbi hsi hri
          go_wp2
          go_roundg (c - (j + 1))
          case measure => omega
          case rel => exact ⟨j + 1, by omega, rfl, by go_num, (((unhide HB).setCell (Nat.le_refl _) _).setCell (Nat.le_refl _) _).setCell (Nat.le_refl _) _, by simp [World.setCell]; exact unhide HS, (((unhide HR).setCell _ _ _).setCell _ _ _).setCell _ _ _⟩
        · have hjz : ¬ (j : Int) < (c : Int) := by omega
          have hI := unhide HI
          have hVr := hI.vrow.below hbi (by have := hI.size; omega)
          have g3 : wr.cell? ⟨B3, k, none⟩ = some (.int .u64 (Z3 k)) := by
            have hb3 := hB3 (by omega)
            rw [hbi.cell (p := ⟨B3, k, none⟩) (by show B3 < _; have := hI.size; omega), hI.below.cell (p := ⟨B3, k, none⟩) hb3]; exact unhide HF3 k hlt
          obtain ⟨x0, e0⟩ := hVr.cell (j := k * 5) (by omega)
          obtain ⟨x1, e1⟩ := hVr.cell (j := k * 5 + 1) (by omega)
          obtain ⟨x2, e2⟩ := hVr.cell (j := k * 5 + 2) (by omega)
          obtain ⟨x3, e3⟩ := hVr.cell (j := k * 5 + 3) (by omega)
          obtain ⟨x4, e4⟩ := hVr.cell (j := k * 5 + 4) (by omega)
          have fz := hVr.frozen
          have HB := hide hbi
          have HS := hide hsi
          clear hbi hsi hri hI hVr
          go_wp2
          go_roundg (n - (k + 1))
          case measure => omega
          case rel => exact ⟨k + 1, by omega, rfl, by go_num, vi_step' (unhide HI) hlt (unhide HB) (unhide HS) (by have := unhide HC; omega)⟩
    · obtain rfl : k = n := by omega
      have hkz : ¬ (k : Int) < (k : Int) := by omega
      have HI := hide hI
      clear hI
      obtain ⟨w2, rfl⟩ : ∃ w2 : World, w2 = wr := ⟨_, rfl⟩
      go_wp2_with fail
      -- LOOP 2: the answers
      go_loopg [18] k (fun g i wr => ∃ j : Nat, j ≤ k ∧ g = k - j ∧ i = .int .i64 j ∧ AI w2 wr wd.heap.size k j (fun i => stName (Z0 i)) (fun i => if Z1 i = true then some ⟨wd.heap.size, i * 5, none⟩ else none))
      case atStart => exact ⟨0, Nat.zero_le _, rfl, rfl, ai_start (unhide HI).arow _ _⟩
      case round =>
        obtain ⟨j, hj, rfl, rfl, hA⟩ := hrel
        by_cases hlt2 : j < k
        · obtain rfl := unhide HQ0 (by omega)
          obtain rfl := unhide HQ1 (by omega)
          have hjz : (j : Int) < (k : Int) := by omega
          have hjz0 : (j : Int) < (l0 : Int) := by omega
          have hjz1 : (j : Int) < (l1 : Int) := by omega
          have hI := unhide HI
          have hsz := hI.size
          have hb0 := hB0 (by omega)
          have hb1 := hB1 (by omega)
          have g0 : wr.cell? ⟨B0, j, none⟩ = some (.int .u8 (Z0 j)) := by
            rw [hA.below.cell (p := ⟨B0, j, none⟩) (by show B0 < _; omega), hI.below.cell (p := ⟨B0, j, none⟩) hb0]; exact unhide HF0 j hlt2
          have g1 : wr.cell? ⟨B1, j, none⟩ = some (.bool (Z1 j)) := by
            rw [hA.below.cell (p := ⟨B1, j, none⟩) (by show B1 < _; omega), hI.below.cell (p := ⟨B1, j, none⟩) hb1]; exact unhide HF1 j hlt2
          obtain ⟨y0, y1⟩ := unhide R0 j (by omega)
          have hVr := hA.arow
          obtain ⟨x0, e0⟩ := hVr.cell (j := j * 8) (by omega)
          obtain ⟨x1, e1⟩ := hVr.cell (j := j * 8 + 1) (by omega)
          obtain ⟨x2, e2⟩ := hVr.cell (j := j * 8 + 2) (by omega)
          obtain ⟨x3, e3⟩ := hVr.cell (j := j * 8 + 3) (by omega)
          obtain ⟨x4, e4⟩ := hVr.cell (j := j * 8 + 4) (by omega)
          obtain ⟨x5, e5⟩ := hVr.cell (j := j * 8 + 5) (by omega)
          obtain ⟨x6, e6⟩ := hVr.cell (j := j * 8 + 6) (by omega)
          obtain ⟨x7, e7⟩ := hVr.cell (j := j * 8 + 7) (by omega)
          have fz := hVr.frozen
          have hlr := hVr.lt
          have HA := hide hA
          have HSZ := hide hsz
          clear hVr hA hI hsz
          cases hz1 : Z1 j with
          | true =>
            rw [hz1] at g1
            have HZ1 := hide hz1
            clear hz1
            go_wp2_with (first | (go_at_call 15; refine (name_any _ _ (by omega) (by omega)).mono ?_; rintro e w' ⟨rfl, rfl⟩) | (go_at_call 14; refine (make_any _ _ _ _).mono ?_; rintro e w' ⟨rfl, rfl⟩; rw [ansArr]))
            go_roundg (k - (j + 1))
            case measure => omega
            case rel => exact ⟨j + 1, by omega, rfl, by go_num, ai_step' (unhide HA) hlt2 _ rfl (by rw [unhide HZ1]; rfl)⟩
          | false =>
            rw [hz1] at g1
            have HZ1 := hide hz1
            clear hz1
            go_wp2_with (first | (go_at_call 15; refine (name_any _ _ (by omega) (by omega)).mono ?_; rintro e w' ⟨rfl, rfl⟩) | (go_at_call 14; refine (make_any _ _ _ _).mono ?_; rintro e w' ⟨rfl, rfl⟩; rw [ansArr]))
            go_roundg (k - (j + 1))
            case measure => omega
            case rel => exact ⟨j + 1, by omega, rfl, by go_num, ai_step' (unhide HA) hlt2 _ rfl (by rw [unhide HZ1]; rfl)⟩
        · obtain rfl : j = k := by omega
          have hjz : ¬ (j : Int) < (j : Int) := by omega
          have hI := unhide HI
          have hV : ∀ i, i < j → wr.cell? ⟨wd.heap.size, i * 5 + 1, none⟩ = some (.int .u64 (Z3 i)) ∧ wr.cell? ⟨wd.heap.size, i * 5 + 2, none⟩ = some (.slice (some ⟨wd.heap.size + 2 + i, 0, none⟩) (Z2 i % 8).toNat (Z2 i % 8).toNat) := fun i hi =>
            ⟨by rw [hA.below.cell (p := ⟨wd.heap.size, i * 5 + 1, none⟩) (by show wd.heap.size < _; omega)]; exact hI.done i hi 1 _ rfl,
             by rw [hA.below.cell (p := ⟨wd.heap.size, i * 5 + 2, none⟩) (by show wd.heap.size < _; omega)]; exact hI.done i hi 2 _ rfl⟩
          have hcl := zbest_any (wd.heap.size + 1) wd.heap.size j (fun i => stName (Z0 i)) (fun i => if Z1 i = true then some ⟨wd.heap.size, i * 5, none⟩ else none) (fun i => some ⟨wd.heap.size + 2 + i, 0, none⟩)
            (fun i => Z0 i % 4 == 0 && Z1 i) (fun i => (Z2 i % 8).toNat) Z3 wr hn hA.done
            (fun i hi he => by
              simp only [Bool.and_eq_true, beq_iff_eq] at he
              exact ⟨by simp [stName, he.1], by simp [he.2]⟩)
            (fun i hi he => by
              simp only [Bool.and_eq_false_iff, beq_eq_false_iff_ne] at he
              rcases he with he | he
              · left; exact stName_ne he
              · right; simp [he]) hV
          have hA5 : ∀ i, i < j → wr.cell? ⟨B0, i, none⟩ = some (.int .u8 (Z0 i)) ∧ wr.cell? ⟨B1, i, none⟩ = some (.bool (Z1 i)) := fun i hi => by
            have hb0 := hB0 (by omega)
            have hb1 := hB1 (by omega)
            exact ⟨by rw [hA.below.cell (p := ⟨B0, i, none⟩) (by show B0 < _; omega), hI.below.cell (p := ⟨B0, i, none⟩) hb0]; exact unhide HF0 i hi,
              by rw [hA.below.cell (p := ⟨B1, i, none⟩) (by show B1 < _; omega), hI.below.cell (p := ⟨B1, i, none⟩) hb1]; exact unhide HF1 i hi⟩
          have hbel : Below w.heap.size w wr := (unhide HAD).trans ((hI.below.trans (hA.below.mono (by omega))).mono (unhide HAD).size)
          have HCL := hide hcl
          have HA5 := hide hA5
          have HBL := hide hbel
          have HV := hide hV
          have hlr := hA.arow.lt
          clear hcl hA5 hbel hV hA hI HI HAD HF0 HF1 HF2 HF3
          go_wp2_with fail
          refine (unhide HCL).mono ?_
          rintro e w3 ⟨rfl, hb3⟩
          obtain ⟨E, hE⟩ : ∃ E : Nat → Bool, E = (fun i => Z0 i % 4 == 0 && Z1 i) := ⟨_, rfl⟩
          obtain ⟨C, hC⟩ : ∃ C : Nat → Nat, C = (fun i => (Z2 i % 8).toNat) := ⟨_, rfl⟩
          rw [← hE, ← hC]
          have hEv : ∀ i, E i = (Z0 i % 4 == 0 && Z1 i) := fun i => by rw [hE]
          obtain ⟨p, hp0, hp1, ad, st, har⟩ := got_of_best (C := C) (I := Z3) (n := j) (V := wd.heap.size) hEv
          rw [har, ansArr]
          obtain ⟨fb, hfb⟩ : ∃ fb, fb = (bestTo E C Z3 j).isSome := ⟨_, rfl⟩
          rw [← hfb]
          have HFB := hide hfb
          have HP0 := hide hp0
          have HP1 := hide hp1
          have HEV := hide hEv
          have hV5 : ∀ i, i < j → wr.cell? ⟨wd.heap.size, i * 5 + 1, none⟩ = some (.int .u64 (Z3 i)) ∧ wr.cell? ⟨wd.heap.size, i * 5 + 2, none⟩ = some (.slice (some ⟨wd.heap.size + 2 + i, 0, none⟩) (C i) (C i)) := by rw [hC]; exact unhide HV
          have HV5 := hide hV5
          have HB3 := hide hb3
          clear hfb hp0 hp1 hEv hb3 hE hC har HCL HV hV5
          go_wp2_with fail
          -- THE REST ONLY READS: what it reads, in the world as it stands here
          have hb3 := unhide HB3
          have hW0 : ∀ (o : Obj) (b x : Nat), b < wr.heap.size → (w3.alloc o).cell? ⟨b, x, none⟩ = wr.cell? ⟨b, x, none⟩ := fun o b x h => by
            rw [World.cell?_alloc_past _ _ _ (Nat.lt_of_lt_of_le h hb3.size), hb3.cell (p := ⟨b, x, none⟩) h]
          have hW1 : ∀ (o : Obj), Below w.heap.size w (w3.alloc o) := fun o =>
            ((unhide HBL).trans (hb3.mono (unhide HBL).size)).alloc (Nat.le_trans (unhide HBL).size hb3.size) o
          have hG := fun o (b x : Nat) => hW0 o b x
          obtain ⟨W, hW⟩ : ∃ W, w3.alloc (Obj.cells #[.string ad, .string ⟨#[]⟩, .string ⟨#[]⟩, .string ⟨#[]⟩, .int .u64 0, .string st, .pointer p, .string ⟨#[]⟩] 46) = W := ⟨_, rfl⟩
          have hW6 : ∀ x, W.cell? ⟨w3.heap.size, x, none⟩ = (ansArr ad st p)[x]? := fun x => by rw [← hW]; exact World.cell?_alloc_at _ _ _ _ rfl
          have hW7 : Below w.heap.size w W := hW ▸ hW1 _
          have hW8 : ∀ i, i < j → W.cell? ⟨B0, i, none⟩ = some (.int .u8 (Z0 i)) ∧ W.cell? ⟨B1, i, none⟩ = some (.bool (Z1 i)) ∧ W.cell? ⟨wd.heap.size, i * 5 + 1, none⟩ = some (.int .u64 (Z3 i)) ∧ W.cell? ⟨wd.heap.size, i * 5 + 2, none⟩ = some (.slice (some ⟨wd.heap.size + 2 + i, 0, none⟩) (C i) (C i)) := fun i hi => by
            have hb0 := hB0 (by omega)
            have hb1 := hB1 (by omega)
            rw [← hW, hW0 _ _ _ (by omega), hW0 _ _ _ (by omega), hW0 _ _ _ (by omega), hW0 _ _ _ (by omega)]
            exact ⟨(unhide HA5 i hi).1, (unhide HA5 i hi).2, (unhide HV5 i hi).1, (unhide HV5 i hi).2⟩
          have hW9 : w3.heap.size < W.heap.size := by rw [← hW]; simp
          rw [hW]
          have HW6 := hide hW6
          have HW7 := hide hW7
          have HW8 := hide hW8
          clear hb3 hW0 hW1 hG hW hW6 hW7 hW8 HB3 HA5 HV5 HBL
          -- LOOP 4: the greatest size
          go_loopg [22, 23, 24] j (fun g s m i wx => W = wx ∧ ∃ k : Nat, k ≤ j ∧ g = j - k ∧ i = .int .i64 k ∧ s = .bool (seenTo E k) ∧ m = .int .i64 (mxTo E C k))
          case atStart => exact ⟨rfl, 0, Nat.zero_le _, rfl, rfl, rfl, rfl⟩
          case round =>
            obtain ⟨rfl, k, hk, rfl, rfl, rfl, rfl⟩ := hrel
            by_cases hlt3 : k < j
            · obtain rfl := unhide HQ0 (by omega)
              obtain rfl := unhide HQ1 (by omega)
              have hkz : (k : Int) < (j : Int) := by omega
              have hkz0 : (k : Int) < (l0 : Int) := by omega
              have hkz1 : (k : Int) < (l1 : Int) := by omega
              obtain ⟨g0, g1, g2, g3⟩ := unhide HW8 k hlt3
              obtain ⟨y0, y1⟩ := unhide R0 k (by omega)
              have hEk := unhide HEV k
              have hS : seenTo E (k + 1) = if E k = true then true else seenTo E k := rfl
              have hM : mxTo E C (k + 1) = if E k = true then (if seenTo E k = false ∨ mxTo E C k < C k then C k else mxTo E C k) else mxTo E C k := rfl
              cases hz4 : (Z0 k % 4 == 0) with
              | false =>
                rw [hz4, Bool.false_and] at hEk
                rw [hEk, if_neg (by simp)] at hS hM
                have HS := hide hS
                have HM := hide hM
                clear hS hM hEk g2 g3
                go_wp2_with fail
                go_roundg (j - (k + 1))
                case measure => omega
                case rel => exact ⟨rfl, k + 1, by omega, rfl, by go_num, by rw [unhide HS], by rw [unhide HM]⟩
              | true =>
                cases hz1 : Z1 k with
                | false =>
                  rw [hz1] at g1
                  rw [hz4, hz1, Bool.and_false] at hEk
                  rw [hEk, if_neg (by simp)] at hS hM
                  have HS := hide hS
                  have HM := hide hM
                  clear hS hM hEk g2 g3 hz1
                  go_wp2_with fail
                  go_roundg (j - (k + 1))
                  case measure => omega
                  case rel => exact ⟨rfl, k + 1, by omega, rfl, by go_num, by rw [unhide HS], by rw [unhide HM]⟩
                | true =>
                  rw [hz1] at g1
                  rw [hz4, hz1, Bool.and_true] at hEk
                  rw [hEk, if_pos rfl] at hS hM
                  cases hs : seenTo E k with
                  | false =>
                    rw [hs, if_pos (Or.inl rfl)] at hM
                    have HS := hide hS
                    have HM := hide hM
                    clear hS hM hEk g2 hz1 hs
                    go_wp2_with fail
                    go_roundg (j - (k + 1))
                    case measure => omega
                    case rel => exact ⟨rfl, k + 1, by omega, rfl, by go_num, by rw [unhide HS], by rw [unhide HM]⟩
                  | true =>
                    by_cases hlc : mxTo E C k < C k
                    · rw [if_pos (Or.inr hlc)] at hM
                      have hlz : (mxTo E C k : Int) < (C k : Int) := by omega
                      have HS := hide hS
                      have HM := hide hM
                      clear hS hM hEk g2 hz1 hs
                      go_wp2_with fail
                      go_roundg (j - (k + 1))
                      case measure => omega
                      case rel => exact ⟨rfl, k + 1, by omega, rfl, by go_num, by rw [unhide HS], by rw [unhide HM]⟩
                    · rw [hs, if_neg (by simp; omega)] at hM
                      have hlz : ¬ (mxTo E C k : Int) < (C k : Int) := by omega
                      have HS := hide hS
                      have HM := hide hM
                      clear hS hM hEk g2 hz1 hs
                      go_wp2_with fail
                      go_roundg (j - (k + 1))
                      case measure => omega
                      case rel => exact ⟨rfl, k + 1, by omega, rfl, by go_num, by rw [unhide HS], by rw [unhide HM]⟩
            · obtain rfl : k = j := by omega
              have hkz : ¬ (k : Int) < (k : Int) := by omega
              have hseen := seen_iff_best (E := E) (C := C) (I := Z3) (n := k)
              cases hfb : fb with
              | false =>
                have hfe := unhide HFB
                rw [hfb] at hfe
                rw [← hfe] at hseen
                rw [hseen]
                have hno : bestTo E C Z3 k = none := by cases h : bestTo E C Z3 k with | none => rfl | some b => rw [h] at hfe; cases hfe
                obtain rfl := unhide HP0 hno
                have hw6 := unhide HW6
                have q0 := hw6 0
                have q1 := hw6 1
                have q2 := hw6 2
                have q3 := hw6 3
                have q4 := hw6 4
                have q5 := hw6 5
                have q6 := hw6 6
                have q7 := hw6 7
                simp [ansArr] at q0 q1 q2 q3 q4 q5 q6 q7
                clear hw6 hno hseen hfb hfe HW6 HW8 HP0 HP1 HFB
                have hv := view_any ad st none
                unfold ansArr at hv
                have HVW := hide hv
                clear hv
                go_wp2_with (go_at_call 17; refine (unhide HVW _).mono ?_; rintro e w' ⟨rfl, rfl⟩)
                go_ret
                exact ⟨rfl, (unhide HW7).alloc (unhide HW7).size _⟩
              | true =>
                have hfe := unhide HFB
                rw [hfb] at hfe
                rw [← hfe] at hseen
                rw [hseen]
                obtain ⟨b, hb⟩ : ∃ b, bestTo E C Z3 k = some b := Option.isSome_iff_exists.1 hfe.symm
                obtain rfl := unhide HP1 b hb
                have hpl := plain (fun i hi => unhide R3 i (by omega)) hb
                obtain ⟨M, hMe⟩ : ∃ M, mxTo E C k = M := ⟨_, rfl⟩
                rw [hMe] at hpl
                rw [hMe]
                have HPL := hide hpl
                clear hfb hfe hseen hb hpl hMe HP0 HP1 HFB
                go_wp2_with fail
                -- LOOP 5: the greatest id
                go_loopg [26, 27] k (fun g m i wx => W = wx ∧ ∃ q : Nat, q ≤ k ∧ g = k - q ∧ i = .int .i64 q ∧ m = .int .u64 (midTo E C Z3 M q))
                case atStart => exact ⟨rfl, 0, Nat.zero_le _, rfl, rfl, rfl⟩
                case round =>
                  obtain ⟨rfl, q, hq, rfl, rfl, rfl⟩ := hrel
                  by_cases hlt5 : q < k
                  · obtain rfl := unhide HQ0 (by omega)
                    obtain rfl := unhide HQ1 (by omega)
                    have hqz : (q : Int) < (k : Int) := by omega
                    have hqz0 : (q : Int) < (l0 : Int) := by omega
                    have hqz1 : (q : Int) < (l1 : Int) := by omega
                    obtain ⟨g0, g1, g2, g3⟩ := unhide HW8 q hlt5
                    obtain ⟨y0, y1⟩ := unhide R0 q (by omega)
                    have hEk := unhide HEV q
                    have hM : midTo E C Z3 M (q + 1) = if E q = true ∧ C q = M ∧ midTo E C Z3 M q < Z3 q then Z3 q else midTo E C Z3 M q := rfl
                    cases hz4 : (Z0 q % 4 == 0) with
                    | false =>
                      rw [hz4, Bool.false_and] at hEk
                      rw [hEk, if_neg (by simp)] at hM
                      have HM := hide hM
                      clear hM hEk g2 g3
                      go_wp2_with fail
                      go_roundg (k - (q + 1))
                      case measure => omega
                      case rel => exact ⟨rfl, q + 1, by omega, rfl, by go_num, by rw [unhide HM]⟩
                    | true =>
                      cases hz1 : Z1 q with
                      | false =>
                        rw [hz1] at g1
                        rw [hz4, hz1, Bool.and_false] at hEk
                        rw [hEk, if_neg (by simp)] at hM
                        have HM := hide hM
                        clear hM hEk g2 g3 hz1
                        go_wp2_with fail
                        go_roundg (k - (q + 1))
                        case measure => omega
                        case rel => exact ⟨rfl, q + 1, by omega, rfl, by go_num, by rw [unhide HM]⟩
                      | true =>
                        rw [hz1] at g1
                        rw [hz4, hz1, Bool.and_true] at hEk
                        by_cases hcm : C q = M
                        · have hcb : ((C q : Int) == (M : Int)) = true := by simp; omega
                          by_cases hid : midTo E C Z3 M q < Z3 q
                          · rw [if_pos ⟨hEk, hcm, hid⟩] at hM
                            have HM := hide hM
                            clear hM hEk hz1 hcm
                            go_wp2_with fail
                            go_roundg (k - (q + 1))
                            case measure => omega
                            case rel => exact ⟨rfl, q + 1, by omega, rfl, by go_num, by rw [unhide HM]⟩
                          · rw [if_neg (fun h => hid h.2.2)] at hM
                            have HM := hide hM
                            clear hM hEk hz1 hcm
                            go_wp2_with fail
                            go_roundg (k - (q + 1))
                            case measure => omega
                            case rel => exact ⟨rfl, q + 1, by omega, rfl, by go_num, by rw [unhide HM]⟩
                        · have hcb : ((C q : Int) == (M : Int)) = false := by simp; omega
                          rw [if_neg (fun h => hcm h.2.1)] at hM
                          have HM := hide hM
                          clear hM hEk hz1 hcm
                          go_wp2_with fail
                          go_roundg (k - (q + 1))
                          case measure => omega
                          case rel => exact ⟨rfl, q + 1, by omega, rfl, by go_num, by rw [unhide HM]⟩
                  · obtain rfl : q = k := by omega
                    have hqz : ¬ (q : Int) < (q : Int) := by omega
                    obtain ⟨mid, hmid⟩ : ∃ mid, midTo E C Z3 M q = mid := ⟨_, rfl⟩
                    have hpl := unhide HPL
                    rw [hmid] at hpl
                    rw [hmid]
                    have HPL2 := hide hpl
                    clear hpl hmid HPL
                    go_wp2_with fail
                    -- LOOP 6: the first
                    go_loopg [28, 29] q (fun g f i wx => W = wx ∧ ∃ r : Nat, r ≤ q ∧ g = q - r ∧ i = .int .i64 r ∧ f = .int .i64 (-1) ∧ ∀ i, i < r → ¬ (E i = true ∧ C i = M ∧ Z3 i = mid))
                    case atStart => exact ⟨rfl, 0, Nat.zero_le _, rfl, rfl, rfl, fun i hi => absurd hi (Nat.not_lt_zero _)⟩
                    case round =>
                      obtain ⟨rfl, r, hr, rfl, rfl, rfl, hno⟩ := hrel
                      by_cases hlt6 : r < q
                      · obtain rfl := unhide HQ0 (by omega)
                        obtain rfl := unhide HQ1 (by omega)
                        have hrz : (r : Int) < (q : Int) := by omega
                        have hrz0 : (r : Int) < (l0 : Int) := by omega
                        have hrz1 : (r : Int) < (l1 : Int) := by omega
                        obtain ⟨g0, g1, g2, g3⟩ := unhide HW8 r hlt6
                        obtain ⟨y0, y1⟩ := unhide R0 r (by omega)
                        have hEk := unhide HEV r
                        have hnext : ¬ (E r = true ∧ C r = M ∧ Z3 r = mid) → ∀ i, i < r + 1 → ¬ (E i = true ∧ C i = M ∧ Z3 i = mid) := fun h i hi => by
                          by_cases e : i = r
                          · subst e; exact h
                          · exact hno i (by omega)
                        have HNX := hide hnext
                        have HNO := hide hno
                        clear hnext hno
                        cases hz4 : (Z0 r % 4 == 0) with
                        | false =>
                          rw [hz4, Bool.false_and] at hEk
                          have HN := hide (unhide HNX (fun h => by rw [hEk] at h; cases h.1))
                          clear hEk g2 g3
                          go_wp2_with fail
                          go_roundg (q - (r + 1))
                          case measure => omega
                          case rel => exact ⟨rfl, r + 1, by omega, rfl, by go_num, rfl, unhide HN⟩
                        | true =>
                          cases hz1 : Z1 r with
                          | false =>
                            rw [hz1] at g1
                            rw [hz4, hz1, Bool.and_false] at hEk
                            have HN := hide (unhide HNX (fun h => by rw [hEk] at h; cases h.1))
                            clear hEk g2 g3 hz1
                            go_wp2_with fail
                            go_roundg (q - (r + 1))
                            case measure => omega
                            case rel => exact ⟨rfl, r + 1, by omega, rfl, by go_num, rfl, unhide HN⟩
                          | true =>
                            rw [hz1] at g1
                            rw [hz4, hz1, Bool.and_true] at hEk
                            by_cases hcm : C r = M
                            · have hcb : ((C r : Int) == (M : Int)) = true := by simp; omega
                              by_cases hid : Z3 r = mid
                              · have hib : (Z3 r == mid) = true := by simp [hid]
                                obtain ⟨-, -, -, -, hfirst⟩ := unhide HPL2
                                obtain rfl := hfirst r hlt6 hEk hcm hid (unhide HNO)
                                have hw6 := unhide HW6
                                have q0 := hw6 0
                                have q1 := hw6 1
                                have q2 := hw6 2
                                have q3 := hw6 3
                                have q4 := hw6 4
                                have q5 := hw6 5
                                have q6 := hw6 6
                                have q7 := hw6 7
                                simp [ansArr] at q0 q1 q2 q3 q4 q5 q6 q7
                                have hv := view_any ad st (some ⟨wd.heap.size, r * 5, none⟩)
                                unfold ansArr at hv
                                have HVW := hide hv
                                clear hv hw6 HW6 HW8 hEk hcm hid hfirst hz1 HNX HNO HPL2
                                obtain ⟨i39, hi39, -, -, -⟩ := info_parts info39
                                have heq := fun (wx : World) => run_eql_ptr_same (P := Try.prog) wx ⟨wd.heap.size, r * 5, none⟩ Try.underlying40 hi39
                                go_wp2_with fail
                                go_region_with (go_at_call 17; refine (unhide HVW _).mono ?_; rintro e w' ⟨rfl, rfl⟩)
                                all_goals (go_wp2_with fail; go_ret; exact ⟨rfl, by repeat (first | exact unhide HW7 | refine Below.drew ?_ | refine Below.alloc ?_ (unhide HW7).size _)⟩)
                              · have hib : (Z3 r == mid) = false := by simp [hid]
                                have HN := hide (unhide HNX (fun h => hid h.2.2))
                                clear hEk hz1 hcm hid
                                go_wp2_with fail
                                go_roundg (q - (r + 1))
                                case measure => omega
                                case rel => exact ⟨rfl, r + 1, by omega, rfl, by go_num, rfl, unhide HN⟩
                            · have hcb : ((C r : Int) == (M : Int)) = false := by simp; omega
                              have HN := hide (unhide HNX (fun h => hcm h.2.1))
                              clear hEk hz1 hcm
                              go_wp2_with fail
                              go_roundg (q - (r + 1))
                              case measure => omega
                              case rel => exact ⟨rfl, r + 1, by omega, rfl, by go_num, rfl, unhide HN⟩
                      · obtain rfl : r = q := by omega
                        obtain ⟨h1, h2, h3, h4, -⟩ := unhide HPL2
                        exact absurd ⟨h2, h3, h4⟩ (hno b h1)
end Go.Proofs.Qxb6003791a.Bv
