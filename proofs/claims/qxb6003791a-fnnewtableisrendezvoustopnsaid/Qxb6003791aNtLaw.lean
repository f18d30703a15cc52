import Derived.Test.Qxb6003791aNtMem
set_option linter.unusedVariables false
namespace Go.Proofs.Qxb6003791a.Nt
open Go.RowKit

set_option maxRecDepth 1000000 in
set_option maxHeartbeats 2000000 in
theorem law (a : Option Addr) (b off m cap : Nat) (Ss : Nat → ByteArray) (me : ByteArray) (ow : Int) (w : World) (hm : m ≤ 9223372036854775807) (hme : me.size ≤ 9223372036854775807)
    (how : -9223372036854775808 ≤ ow ∧ ow ≤ 9223372036854775807)
    (hn : a = none → m = 0 ∧ cap = 0) (ha : 0 < m → a = some ⟨b, off, none⟩) (hV : ∀ i, i < m → w.cell? ⟨b, off + i, none⟩ = some (.string (Ss i))) (hS : ∀ i, i < m → (Ss i).size ≤ 9223372036854775807) :
    Calls Try.prog 6 #[.slice a m cap, .string me, .int .i64 ow] w fun e w' => e = .returned (.bool true) ∧ Below w.heap.size w w' := by
  have K26 := hide (bytes_any a b off m cap Ss me ow w hm hme ha hV hS)
  have HN := hide hn
  have HA := hide ha
  have HV := hide hV
  clear hn ha hV hS
  go_enter Try.func6, Try.ntmps6
  go_wp2_with fail
  refine (unhide K26).mono ?_
  rintro e w' ⟨rfl, bv, rfl, hok⟩
  clear K26
  cases bv with
  | false =>
    clear hok
    go_wp2_with fail
    go_ret
    exact ⟨rfl, Below.refl _ _⟩
  | true =>
  obtain ⟨hm20, hme20, hS20⟩ := hok rfl
  clear hok
  have K27 := hide (sbytes_any a b off m cap Ss w hm20 (unhide HA) (unhide HV) hS20)
  have HS20 := hide hS20
  clear hS20
  go_wp2_with fail
  refine (unhide K27).mono ?_
  rintro e w' ⟨t, rfl, rfl, ht0, ht1⟩
  clear K27
  by_cases hsum : t + me.size ≤ 1048576
  case neg =>
    go_wp2_with fail
    go_ret
    exact ⟨rfl, Below.refl _ _⟩
  by_cases hm8 : m ≤ 8
  case neg =>
    go_wp2_with fail
    go_ret
    exact ⟨rfl, Below.refl _ _⟩
  by_cases ho1 : 1 ≤ ow
  case neg =>
    go_wp2_with fail
    go_ret
    exact ⟨rfl, Below.refl _ _⟩
  have dm : decide ((8 : Int) < (m : Int)) = false := by simp; omega
  have d1 : decide (ow < 1) = false := by simp; omega
  go_upto_if 46 with fail
  go_cut [2] from 45 to 46 (fun s wx => w = wx ∧ ∃ o : Nat, s = .int .i64 o ∧ 1 ≤ o ∧ o ≤ 8)
  case first =>
    by_cases h8 : ow ≤ 8
    · obtain ⟨o, rfl⟩ := Int.eq_ofNat_of_zero_le (show 0 ≤ ow by omega)
      go_wp2_with fail
      go_meet
      exact ⟨rfl, o, rfl, by omega, by omega⟩
    · go_wp2_with fail
      go_meet
      exact ⟨rfl, 8, rfl, by omega, by omega⟩
  case rest =>
  obtain ⟨rfl, o, rfl, hoo1, hoo8⟩ := hcut
  clear dm d1
  have K28 := hide (clone28_any a b off m cap Ss w hm20 (unhide HN) (unhide HA) (unhide HV))
  clear HN HA HV
  go_wp2_with fail
  refine (unhide K28).mono ?_
  rintro e wa ⟨a', rfl, hba, hra⟩
  clear K28
  obtain ⟨n, hn1, hn2, hn3⟩ : ∃ n, n ≤ o ∧ n ≤ m ∧ (n = o ∨ n = m) := by
    by_cases h : o ≤ m
    · exact ⟨o, by omega, by omega, .inl rfl⟩
    · exact ⟨m, by omega, by omega, .inr rfl⟩
  have hVa : ∀ i, i < m → wa.cell? ⟨w.heap.size, i, none⟩ = some (.string (Ss i)) := fun i hi => (hra (by omega)).2.cell hi
  have K29 := hide (newtab_any a' w.heap.size m o n Ss me wa hm8 hoo1 hoo8 hn1 hn2 hn3 (fun h => (hra h).1) hVa (unhide HS20))
  have HBA := hide hba
  have HRA := hide hra
  have HN3 := hide hn3
  have HVA := hide hVa
  clear hba hra hn3 hVa
  go_wp2_with fail
  refine (unhide K29).mono ?_
  rintro e wb ⟨rfl, Ow, Sx, hP, hR⟩
  clear K29
  go_upto_if 58 with fail
  go_cut [9] from 58 to 59 (fun s wx => wb = wx ∧ s = .int .i64 n)
  case first =>
    by_cases h : o ≤ m
    · obtain rfl : n = o := by have := unhide HN3; omega
      go_wp2_with fail
      go_meet
      exact ⟨rfl, rfl⟩
    · obtain rfl : n = m := by have := unhide HN3; omega
      go_wp2_with fail
      go_meet
      exact ⟨rfl, rfl⟩
  case rest =>
  obtain ⟨rfl, rfl⟩ := hcut
  obtain ⟨T, hT⟩ : ∃ T, wa.heap.size + 1 = T := ⟨_, rfl⟩
  have t1 : wb.cell? ⟨wa.heap.size + 1, 1, none⟩ = some (.slice a' m m) := by rw [cell_of_row wb _ 1 _ _ _ hP.tab]; rfl
  have t3 : wb.cell? ⟨wa.heap.size + 1, 3, none⟩ = some (.int .i64 (lastTo (isSelf Ss me) m)) := by rw [cell_of_row wb _ 3 _ _ _ hP.tab]; rfl
  have t4 : wb.cell? ⟨wa.heap.size + 1, 4, none⟩ = some (.int .i64 n) := by rw [cell_of_row wb _ 4 _ _ _ hP.tab]; rfl
  have t5 : wb.cell? ⟨wa.heap.size + 1, 5, none⟩ = some (.slice (some ⟨wa.heap.size + 3, 0, none⟩) (4096 * n) (4096 * n)) := by rw [cell_of_row wb _ 5 _ _ _ hP.tab]; rfl
  obtain ⟨OB, hOB⟩ : ∃ OB, wa.heap.size + 3 = OB := ⟨_, rfl⟩
  have hOBl : wa.heap.size + 3 < wb.heap.size := by have := hP.size; omega
  have hOw : ∀ y, y < 4096 * n → wb.cell? ⟨wa.heap.size + 3, y, none⟩ = some (.int .i32 (Ow y)) := fun y hy => hP.owners.cell hy
  have hTl : wa.heap.size + 1 < wb.heap.size := by have := hP.size; omega
  have hbb : Below w.heap.size w wb := (unhide HBA).trans (hP.below.mono (unhide HBA).size)
  have hVb : ∀ i, i < m → wb.cell? ⟨w.heap.size, i, none⟩ = some (.string (Ss i)) := fun i hi => by
    rw [hP.below.cell (p := ⟨w.heap.size, i, none⟩) ((unhide HRA (by omega)).2.lt)]; exact unhide HVA i hi
  have hBl : 0 < m → w.heap.size < wb.heap.size := fun h => by have := (unhide HRA h).2.lt; have := hP.below.size; omega
  rw [hOB] at t5 hOBl hOw
  rw [hT] at t1 t3 t4 t5 hTl
  have HA' : Hid (0 < m → a' = some ⟨w.heap.size, 0, none⟩) := fun h => (unhide HRA h).1
  have HR := hide hR
  have HOW := hide hOw
  have HVB := hide hVb
  have HBB := hide hbb
  have HBL := hide hBl
  clear hP hR hOw hVb hbb hBl HBA HRA HVA HN3 hOB
  rw [hT]
  clear hT
  have hq63 : ((n : Int) != (n : Int)) = false := by simp
  go_wp2_with (go_at_call 30; refine (n_any T n wb t4).mono ?_; rintro e w' ⟨rfl, rfl⟩)
  clear hq63
  -- LOOP 1: where self stands
  go_loopg [10, 11, 12] m (fun g f l i wx => wb = wx ∧ ∃ k : Nat, k ≤ m ∧ g = m - k ∧ i = .int .i64 k ∧ f = .int .i64 (firstTo (isSelf Ss me) k) ∧ l = .int .i64 (lastTo (isSelf Ss me) k))
  case atStart => exact ⟨rfl, 0, Nat.zero_le _, rfl, rfl, rfl, rfl⟩
  case round =>
    obtain ⟨rfl, k, hk, rfl, rfl, rfl, rfl⟩ := hrel
    have hfb := firstTo_bd (isSelf Ss me) k
    by_cases hlt : k < m
    · obtain rfl := unhide HA' (by omega)
      have hkz : (k : Int) < (m : Int) := by omega
      have g0 := unhide HVB k hlt
      have hF : firstTo (isSelf Ss me) (k + 1) = if firstTo (isSelf Ss me) k < 0 ∧ isSelf Ss me k = true then (k : Int) else firstTo (isSelf Ss me) k := rfl
      have hL : lastTo (isSelf Ss me) (k + 1) = if isSelf Ss me k = true then (k : Int) else lastTo (isSelf Ss me) k := rfl
      cases hq : ((Ss k).toList == me.toList) with
      | false =>
        have hq' : isSelf Ss me k = false := hq
        rw [hq', if_neg (by simp)] at hF
        rw [hq', if_neg (by simp)] at hL
        have HF := hide hF
        have HL := hide hL
        clear hF hL hq'
        go_wp2_with fail
        go_roundg (m - (k + 1))
        case measure => omega
        case rel => exact ⟨rfl, k + 1, by omega, rfl, by go_num, by rw [unhide HF], by rw [unhide HL]⟩
      | true =>
        have hq' : isSelf Ss me k = true := hq
        rw [hq', if_pos rfl] at hL
        by_cases hf0 : firstTo (isSelf Ss me) k < 0
        · rw [hq', if_pos ⟨hf0, rfl⟩] at hF
          have HF := hide hF
          have HL := hide hL
          clear hF hL hq'
          go_wp2_with fail
          go_roundg (m - (k + 1))
          case measure => omega
          case rel => exact ⟨rfl, k + 1, by omega, rfl, by go_num, by rw [unhide HF], by rw [unhide HL]⟩
        · rw [if_neg (fun h => hf0 h.1)] at hF
          have HF := hide hF
          have HL := hide hL
          clear hF hL hq'
          go_wp2_with fail
          go_roundg (m - (k + 1))
          case measure => omega
          case rel => exact ⟨rfl, k + 1, by omega, rfl, by go_num, by rw [unhide HF], by rw [unhide HL]⟩
    · obtain rfl : m = k := by omega
      have hkz : ¬ (m : Int) < (m : Int) := by omega
      obtain ⟨sl, hsl⟩ : ∃ sl, lastTo (isSelf Ss me) m = sl := ⟨_, rfl⟩
      obtain ⟨sf, hsf⟩ : ∃ sf, firstTo (isSelf Ss me) m = sf := ⟨_, rfl⟩
      have K32 := hide (zidx_any T w.heap.size m a' Ss me wb hm8 t1 (unhide HA') (unhide HVB))
      rw [hsl] at t3
      rw [hsf] at K32
      rw [hsl, hsf]
      clear hsl hsf hfb
      have e1 : (sl != sl) = false := by simp
      have e2 : (sf != sf) = false := by simp
      go_wp2_with (first | (go_at_call 31; refine (self_any T sl wb t3).mono ?_; rintro e w' ⟨rfl, rfl⟩) | (go_at_call 32; refine (unhide K32).mono ?_; rintro e w' ⟨rfl, rfl⟩))
      clear e1 e2 K32
      have K33 := hide (zothers_any T m a' sl wb hm8 t1 t3)
      refine (unhide K33).mono ?_
      rintro e wc ⟨v, rfl, hown, hbc⟩
      clear K33
      obtain ⟨A, C, g, rfl, hA, hcell⟩ := owns_form hown
      obtain ⟨L, hL⟩ : ∃ L, (oth sl m).length = L := ⟨_, rfl⟩
      have hLm : L ≤ m := by rw [← hL]; exact oth_le _ _
      rw [hL] at hA
      rw [hL]
      have HLL := hide hL
      have HAA := hide hA
      have HCL := hide hcell
      have HBC := hide hbc
      clear hL hA hcell hown hbc
      go_wp2_with fail
      -- LOOP 2: the others
      go_loopg [14, 15] m (fun g p i wx => wc = wx ∧ ∃ k : Nat, k ≤ m ∧ g = m - k ∧ i = .int .i64 k ∧ p = .int .i64 (oth sl k).length)
      case atStart => exact ⟨rfl, 0, Nat.zero_le _, rfl, rfl, rfl⟩
      case round =>
        obtain ⟨rfl, k, hk, rfl, rfl, rfl⟩ := hrel
        obtain ⟨pk, hpk⟩ : ∃ pk, (oth sl k).length = pk := ⟨_, rfl⟩
        have hpkm : pk ≤ k := by rw [← hpk]; exact oth_le _ _
        by_cases hlt : k < m
        · have hkz : (k : Int) < (m : Int) := by omega
          by_cases hks : (k : Int) = sl
          · have hkb : ((k : Int) == sl) = true := by simp [hks]
            have HO : Hid (oth sl (k + 1) = oth sl k) := by show oth sl (k + 1) = oth sl k; simp [oth, hks]
            rw [hpk]
            have HPK := hide hpk
            clear hpk hks
            go_wp2_with fail
            go_roundg (m - (k + 1))
            case measure => omega
            case rel => exact ⟨rfl, k + 1, by omega, rfl, by go_num, by rw [unhide HO, unhide HPK]⟩
          · have hkb : ((k : Int) == sl) = false := by simp [hks]
            have HO : Hid (oth sl (k + 1) = oth sl k ++ [(k : Int)]) := by show oth sl (k + 1) = oth sl k ++ [(k : Int)]; simp [oth, hks]
            obtain ⟨hat, hll⟩ := oth_at sl hlt hks
            rw [hpk] at hat hll
            rw [unhide HLL] at hll
            have hpz : (pk : Int) < (L : Int) := by omega
            obtain ⟨rfl, hgl⟩ := unhide HAA (by omega)
            have g0 := unhide HCL pk k hat
            have hkk : ((k : Int) != (k : Int)) = false := by simp
            rw [hpk]
            have HPK := hide hpk
            clear hpk hks hat hll
            go_wp2_with fail
            go_roundg (m - (k + 1))
            case measure => omega
            case rel => exact ⟨rfl, k + 1, by omega, rfl, by go_num, by rw [unhide HO, List.length_append, unhide HPK]; go_num⟩
        · obtain rfl : m = k := by omega
          have hkz : ¬ (m : Int) < (m : Int) := by omega
          have hpL : pk = L := by rw [← hpk, unhide HLL]
          rw [hpk, hpL]
          clear hpk hpL hpkm HCL HAA HLL
          have hLL : ((L : Int) != (L : Int)) = false := by simp
          have hmk := run_make_row' (P := Try.prog) 24 34 (.int .u64 0) 8 Try.underlying24 info34 rfl .i64 .i64 m (by omega) (by omega)
          go_wp2_with fail
          clear hmk hLL
          -- LOOP 3: the seeds
          go_loopg [17] m (fun g i wr => ∃ k : Nat, k ≤ m ∧ g = m - k ∧ i = .int .i64 k ∧ DI wc wr m k Ss)
          case atStart => exact ⟨0, Nat.zero_le _, rfl, rfl, di_start wc m Ss⟩
          case round =>
            obtain ⟨k, hk, rfl, rfl, hD⟩ := hrel
            by_cases hlt3 : k < m
            · obtain rfl := unhide HA' (by omega)
              have hkz : (k : Int) < (m : Int) := by omega
              have g0 : wr.cell? ⟨w.heap.size, k, none⟩ = some (.string (Ss k)) := by
                have h1 := unhide HBL (by omega)
                rw [hD.below.cell (p := ⟨w.heap.size, k, none⟩) (Nat.lt_of_lt_of_le h1 (unhide HBC).size), (unhide HBC).cell (p := ⟨w.heap.size, k, none⟩) h1]; exact unhide HVB k hlt3
              have g1 : wr.cell? ⟨wc.heap.size, k, none⟩ = some (.int .u64 0) := by simpa using hD.row.cell hlt3
              have g2 : wr.frozen? ⟨wc.heap.size, k, none⟩ = false := hD.row.frozen k
              have hsk := unhide HS20 k hlt3
              have HD := hide (di_step hD)
              clear hD
              go_wp2_with (go_at_call 34; refine (zhash_any _ _ hsk).mono ?_; rintro e w' ⟨rfl, rfl⟩)
              go_roundg (m - (k + 1))
              case measure => omega
              case rel => exact ⟨k + 1, by omega, rfl, by go_num, unhide HD⟩
            · obtain rfl : m = k := by omega
              have hkz3 : ¬ (m : Int) < (m : Int) := by omega
              have hmk := run_make_row' (P := Try.prog) 24 34 (.int .u64 0) 8 Try.underlying24 info34 rfl .i64 .i64 m (by omega) (by omega)
              have hmkb := run_make_row' (P := Try.prog) 23 4 (.bool false) 1 Try.underlying23 info4 rfl .i64 .i64 m (by omega) (by omega)
              have hsz := hD.size
              have HSI := hide (si_start hD.below hD.size (hD.row.congr (g := fun i => .int .u64 (hashV (Ss i))) (fun i hi => by rw [if_pos hi])))
              clear hD
              go_wp2_with fail
              clear hmk hmkb hsz
              -- LOOP 4: the parts
              have hTc : T < wc.heap.size := Nat.lt_of_lt_of_le hTl (unhide HBC).size
              have hOBc : OB < wc.heap.size := Nat.lt_of_lt_of_le hOBl (unhide HBC).size
              have c4 : wc.cell? ⟨T, 4, none⟩ = some (.int .i64 n) := by rw [(unhide HBC).cell (p := ⟨T, 4, none⟩) hTl]; exact t4
              have c5 : wc.cell? ⟨T, 5, none⟩ = some (.slice (some ⟨OB, 0, none⟩) (4096 * n) (4096 * n)) := by rw [(unhide HBC).cell (p := ⟨T, 5, none⟩) hTl]; exact t5
              have HC4 := hide c4
              have HC5 := hide c5
              clear t1 t3 t4 t5 c4 c5
              go_loopg [20] 4096 (fun g i wr => ∃ p : Nat, p ≤ 4096 ∧ g = 4096 - p ∧ i = .int .i64 p ∧ ∃ U S, SI wc wr m Ss U S)
              case atStart => exact ⟨0, Nat.zero_le _, rfl, rfl, _, _, unhide HSI⟩
              case round =>
                obtain ⟨p, hp, rfl, rfl, U, S, hI⟩ := hrel
                by_cases hlp : p < 4096
                · have hpz : (p : Int) < 4096 := by omega
                  have K35 := hide (zown_any T OB n p wr (by omega) hlp (by rw [hI.cell hTc]; exact unhide HC4) (by rw [hI.cell hTc]; exact unhide HC5))
                  have HI := hide hI
                  clear hI HSI
                  go_wp2_with fail
                  refine (unhide K35).mono ?_
                  rintro e w' ⟨v, rfl, ⟨A2, C2, rfl, hA2⟩, q, rfl⟩
                  have HI2 := hide (si_drewN (unhide HI) q)
                  have HA2 := hide hA2
                  clear K35 HI hA2
                  have hnn : ((n : Int) != (n : Int)) = false := by simp
                  go_wp2_with (go_at_call 36; refine (zmix_any _ _).mono ?_; rintro e w' ⟨rfl, rfl⟩)
                  clear hnn
                  -- LOOP 5: the scores
                  go_loopg [23] m (fun g i wr => ∃ k : Nat, k ≤ m ∧ g = m - k ∧ i = .int .i64 k ∧ ∃ U S, SI wc wr m Ss U S ∧ ∀ i, i < k → S i = scf Ss p i ∧ U i = false)
                  case atStart => exact ⟨0, Nat.zero_le _, rfl, rfl, _, _, unhide HI2, fun i hi => absurd hi (by omega)⟩
                  case round =>
                    obtain ⟨k, hk, rfl, rfl, U5, S5, hI5, hag⟩ := hrel
                    clear HI2
                    by_cases hlt5 : k < m
                    · have hkz5 : (k : Int) < (m : Int) := by omega
                      have g0 : wr.cell? ⟨wc.heap.size, k, none⟩ = some (.int .u64 (hashV (Ss k))) := hI5.seeds.cell hlt5
                      have g1 : wr.cell? ⟨wc.heap.size + 1, k, none⟩ = some (.int .u64 (S5 k)) := hI5.scores.cell hlt5
                      have g2 : wr.cell? ⟨wc.heap.size + 1 + 1, k, none⟩ = some (.bool (U5 k)) := hI5.used.cell hlt5
                      have g3 : wr.frozen? ⟨wc.heap.size + 1, k, none⟩ = false := hI5.scores.frozen k
                      have g4 : wr.frozen? ⟨wc.heap.size + 1 + 1, k, none⟩ = false := hI5.used.frozen k
                      have HS := hide (si_both hI5 k (scf Ss p k) false)
                      have HAG := hide hag
                      clear hI5 hag
                      go_wp2_with (go_at_call 36; refine (zmix_any _ _).mono ?_; rintro e w' ⟨rfl, rfl⟩)
                      go_roundg (m - (k + 1))
                      case measure => omega
                      case rel => exact ⟨k + 1, by omega, rfl, by go_num, _, _, unhide HS, fun i hi => by
                        by_cases e : i = k
                        · subst e; simp
                        · have := unhide HAG i (by omega)
                          simp [e, this]⟩
                    · obtain rfl : m = k := by omega
                      have hkz5 : ¬ (m : Int) < (m : Int) := by omega
                      obtain ⟨O, hTop, hOw⟩ := unhide HR p hlp
                      have HI5 := hide hI5
                      have HAG := hide hag
                      have HTop := hide hTop
                      have HOw := hide hOw
                      clear hI5 hag hTop hOw
                      go_wp2_with fail
                      -- LOOP 6: the ranks
                      go_loopg [24] n (fun g i wr => ∃ r : Nat, r ≤ n ∧ g = n - r ∧ i = .int .i64 r ∧ ∃ U S, SI wc wr m Ss U S ∧ (∀ i, i < m → S i = scf Ss p i) ∧ ∀ i, i < m → (U i = true ↔ ∃ x, x < r ∧ O x = i))
                      case atStart => exact ⟨0, Nat.zero_le _, rfl, rfl, _, _, unhide HI5, fun i hi => (unhide HAG i hi).1, fun i hi => ⟨fun h => (by rw [(unhide HAG i hi).2] at h; cases h), fun ⟨x, hx, _⟩ => absurd hx (by omega)⟩⟩
                      case round =>
                        obtain ⟨r, hr, rfl, rfl, U6, S6, hI6, hS6, hU6⟩ := hrel
                        clear HI5 HAG
                        by_cases hlr : r < n
                        · have hrz : (r : Int) < (n : Int) := by omega
                          have HI6 := hide hI6
                          have HS6 := hide hS6
                          have HU6 := hide hU6
                          clear hI6 hS6 hU6
                          go_wp2_with fail
                          -- LOOP 7: the best of those not used
                          go_loopg [25, 26] m (fun g b i wx => SI wc wx m Ss U6 S6 ∧ ∃ (k : Nat) (o : Option Nat), k ≤ m ∧ g = m - k ∧ i = .int .i64 k ∧ b = .int .i64 (bestI o) ∧ Least (scf Ss p) U6 k o)
                          case atStart => exact ⟨unhide HI6, 0, none, Nat.zero_le _, rfl, rfl, rfl, fun i hi => absurd hi (by omega)⟩
                          case round =>
                            obtain ⟨hI7, k, ob, hk, rfl, rfl, rfl, hle⟩ := hrel
                            clear HI6
                            by_cases hlt7 : k < m
                            · have hkz7 : (k : Int) < (m : Int) := by omega
                              have g2 : wr.cell? ⟨wc.heap.size + 1 + 1, k, none⟩ = some (.bool (U6 k)) := hI7.used.cell hlt7
                              have g1 : wr.cell? ⟨wc.heap.size + 1, k, none⟩ = some (.int .u64 (scf Ss p k)) := by rw [← unhide HS6 k hlt7]; exact hI7.scores.cell hlt7
                              cases hu : U6 k with
                              | true =>
                                rw [hu] at g2
                                have HL := hide (least_used hle hu)
                                have HI7 := hide hI7
                                clear hle hI7 hu
                                go_wp2_with fail
                                go_roundg (m - (k + 1))
                                case measure => omega
                                case rel => exact ⟨unhide HI7, k + 1, ob, by omega, rfl, by go_num, rfl, unhide HL⟩
                              | false =>
                                rw [hu] at g2
                                cases ob with
                                | none =>
                                  rw [show bestI none = -1 from rfl]
                                  have HL := hide (least_first hle hu)
                                  have HI7 := hide hI7
                                  clear hle hI7 hu
                                  go_wp2_with fail
                                  go_quiet (fail)
                                  go_wp2_with fail
                                  go_roundg (m - (k + 1))
                                  case measure => omega
                                  case rel => exact ⟨si_drewN (unhide HI7) _, k + 1, some k, by omega, rfl, by go_num, rfl, unhide HL⟩
                                | some b7 =>
                                  rw [show bestI (some b7) = (b7 : Int) from rfl]
                                  have hbk := hle.1
                                  have hbz : (b7 : Int) < (m : Int) := by omega
                                  have hb0 : decide ((b7 : Int) < 0) = false := by simp
                                  have g3 : wr.cell? ⟨wc.heap.size + 1, b7, none⟩ = some (.int .u64 (scf Ss p b7)) := by rw [← unhide HS6 b7 (by omega)]; exact hI7.scores.cell (by omega)
                                  by_cases hgt : scf Ss p b7 < scf Ss p k
                                  · have HL := hide (least_more hle hu hgt)
                                    have HI7 := hide hI7
                                    clear hle hI7 hu
                                    go_wp2_with fail
                                    go_quiet (fail)
                                    go_wp2_with fail
                                    go_roundg (m - (k + 1))
                                    case measure => omega
                                    case rel => exact ⟨si_drewN (unhide HI7) _, k + 1, some k, by omega, rfl, by go_num, rfl, unhide HL⟩
                                  · have HL := hide (least_not hle hu hgt)
                                    have HI7 := hide hI7
                                    clear hle hI7 hu
                                    go_wp2_with fail
                                    go_quiet (fail)
                                    go_wp2_with fail
                                    go_roundg (m - (k + 1))
                                    case measure => omega
                                    case rel => exact ⟨si_drewN (unhide HI7) _, k + 1, some b7, by omega, rfl, by go_num, rfl, unhide HL⟩
                            · obtain rfl : m = k := by omega
                              have hkz7 : ¬ (m : Int) < (m : Int) := by omega
                              obtain rfl := least_is (unhide HTop) hlr (unhide HU6) hle
                              obtain rfl := unhide HA2 (by omega)
                              have hOm := (unhide HTop).lt r hlr
                              obtain ⟨br, hbr⟩ : ∃ br, O r = br := ⟨_, rfl⟩
                              rw [show bestI (some (O r)) = ((O r : Nat) : Int) from rfl, hbr]
                              rw [hbr] at hOm
                              have hbz : (br : Int) < (m : Int) := by omega
                              have g2 : wr.cell? ⟨wc.heap.size + 1 + 1, br, none⟩ = some (.bool (U6 br)) := hI7.used.cell hOm
                              have g3 : wr.frozen? ⟨wc.heap.size + 1 + 1, br, none⟩ = false := hI7.used.frozen br
                              have g4 : wr.cell? ⟨OB, p * n + r, none⟩ = some (.int .i32 br) := by
                                have b1 : p * n + n ≤ 4096 * n := by have := Nat.mul_le_mul_right n (show p + 1 ≤ 4096 from hlp); rw [Nat.succ_mul] at this; exact this
                                rw [hI7.cell hOBc, (unhide HBC).cell (p := ⟨OB, p * n + r, none⟩) hOBl, unhide HOW _ (by omega), unhide HOw r hlr, hbr]
                              have hOBr : OB ≠ wc.heap.size + 1 + 1 := by omega
                              have hbb : ((br : Int) != (br : Int)) = false := by simp
                              have HSU := hide (si_used hI7 br true)
                              have HBR := hide hbr
                              clear hle hI7 hbr
                              go_wp2_with fail
                              go_roundg (n - (r + 1))
                              case measure => omega
                              case rel => exact ⟨r + 1, by omega, rfl, by go_num, _, _, unhide HSU, unhide HS6, fun i hi => by
                                by_cases e : i = br
                                · subst e
                                  simp only [if_true, true_iff]
                                  exact ⟨r, by omega, unhide HBR⟩
                                · simp only [e, if_false]
                                  rw [unhide HU6 i hi]
                                  constructor
                                  · rintro ⟨x, hx, hxe⟩; exact ⟨x, by omega, hxe⟩
                                  · rintro ⟨x, hx, hxe⟩
                                    by_cases ex : x = r
                                    · subst ex; rw [unhide HBR] at hxe; exact absurd hxe.symm e
                                    · exact ⟨x, by omega, hxe⟩⟩
                        · obtain rfl : n = r := by omega
                          have hrz : ¬ (n : Int) < (n : Int) := by omega
                          have HI6 := hide hI6
                          clear hI6 hS6 hU6
                          go_wp2_with fail
                          go_roundg (4096 - (p + 1))
                          case measure => omega
                          case rel => exact ⟨p + 1, by omega, rfl, by go_num, _, _, unhide HI6⟩
                · obtain rfl : p = 4096 := by omega
                  have HF : Hid (Below w.heap.size w wr) := (unhide HBB).trans (((unhide HBC).trans (hI.below.mono (unhide HBC).size)).mono (unhide HBB).size)
                  clear hI
                  go_wp2_with fail
                  go_ret
                  exact ⟨rfl, unhide HF⟩
end Go.Proofs.Qxb6003791a.Nt
