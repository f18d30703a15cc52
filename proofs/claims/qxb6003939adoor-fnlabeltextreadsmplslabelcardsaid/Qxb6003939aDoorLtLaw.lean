import Derived.Test.Qxb6003939aDoorLtParse
import Derived.Laws.BitsAllLaws
set_option linter.unusedVariables false
namespace Go.Proofs.Qxb6003939aDoor.Lt
open Go.RowKit Go.Sort Go.Lib

theorem mpls10 (l : Nat) (hl : l < 4294967296) (w : World) : Calls Tryd.prog 10 #[.int .u32 l] w fun e w' => e = .returned (.int .u32 (l / 16 : Nat)) ∧ w = w' := by
  go_enter Tryd.func10, Tryd.ntmps10
  go_wp2
  go_ret
  exact ⟨rfl, rfl⟩

theorem or_one (m : Nat) (hm : m < 268435456) : bits BinOp.or IntKind.u32 ((m : Int) * 16) 1 = ((16 * m + 1 : Nat) : Int) := by
  have e : (m : Int) * 16 = ((m * 16 : Nat) : Int) := by simp
  rw [e, show (1 : Int) = ((1 : Nat) : Int) from rfl, u32_or_nat _ _ (by omega) (by omega)]
  have h := Nat.shiftLeft_add_eq_or_of_lt (i := 4) (b := 1) (by omega) m
  rw [Nat.shiftLeft_eq] at h
  have e2 : m * 2 ^ 4 = m * 16 := by omega
  rw [e2] at h
  rw [← h]
  congr 1
  omega

theorem mplsLabel7 (m : Nat) (hm : m < 268435456) (w : World) : Calls Tryd.prog 7 #[.int .u32 m] w fun e w' => e = .returned (.int .u32 (16 * m + 1 : Nat)) ∧ w = w' := by
  have HO := hide (or_one m hm)
  go_enter Tryd.func7, Tryd.ntmps7
  go_wp2
  go_ret
  exact ⟨by rw [← unhide HO]; rfl, rfl⟩

/-- The two results of labelText. -/
def Two (a b : ByteArray) (e : Ending) : Prop := e = .returned (.tuple #[.string a, .string b])

theorem text8_vni (l : Nat) (hl : l < 4294967296) (w : World) (htab : PowTab w) :
    Calls Tryd.prog 8 #[.int .u32 l, .bool true] w fun e w' => Two ⟨#[118, 110, 105]⟩ ⟨(Lib.decDigits l).toArray⟩ e ∧ Below w.heap.size w w' := by
  have K := hide (fmt9 l (by omega) w htab)
  clear htab
  go_enter Tryd.func8, Tryd.ntmps8
  go_wp2_with fail
  refine (unhide K).mono ?_
  rintro e w' ⟨rfl, hB⟩
  have HB := hide hB
  clear hB K
  go_wp2_with fail
  exact bodyPost_ret (v := .tuple #[.string ⟨#[118, 110, 105]⟩, .string ⟨(Lib.decDigits l).toArray⟩]) (by simp [results, Tryd.results8, go_sem]) rfl ⟨rfl, unhide HB⟩

theorem text8_label (l : Nat) (hl : l < 4294967296) (w : World) (htab : PowTab w) :
    Calls Tryd.prog 8 #[.int .u32 l, .bool false] w fun e w' => Two ⟨#[108, 97, 98, 101, 108]⟩ ⟨(Lib.decDigits (l / 16)).toArray⟩ e ∧ Below w.heap.size w w' := by
  have K10 := hide (mpls10 l hl w)
  have K := hide (fmt9 (l / 16) (by omega) w htab)
  have hd : l / 16 < 4294967296 := by omega
  clear htab
  obtain ⟨d, hdd⟩ : ∃ d, l / 16 = d := ⟨_, rfl⟩
  rw [hdd] at K10 K hd ⊢
  clear hdd
  go_enter Tryd.func8, Tryd.ntmps8
  go_wp2_with fail
  refine (unhide K10).mono ?_
  rintro e w' ⟨rfl, rfl⟩
  go_wp2_with fail
  refine (unhide K).mono ?_
  rintro e w' ⟨rfl, hB⟩
  have HB := hide hB
  clear hB K K10
  go_wp2_with fail
  exact bodyPost_ret (v := .tuple #[.string ⟨#[108, 97, 98, 101, 108]⟩, .string ⟨(Lib.decDigits d).toArray⟩]) (by simp [results, Tryd.results8, go_sem]) rfl ⟨rfl, unhide HB⟩

theorem zz5 (l : Nat) (b : Bool) (A B : ByteArray) (w : World) (h : Calls Tryd.prog 8 #[.int .u32 l, .bool b] w fun e w' => Two A B e ∧ Below w.heap.size w w') :
    Calls Tryd.prog 5 #[.int .u32 l, .bool b] w fun e w' => e = .returned (.tuple #[.string A, .string B]) ∧ Below w.heap.size w w' := by
  have K := hide h
  clear h
  go_enter Tryd.func5, Tryd.ntmps5
  go_wp2_with fail
  refine (unhide K).mono ?_
  rintro e w' ⟨he, hB⟩
  unfold Two at he
  subst he
  have HB := hide hB
  clear hB K
  go_wp2_with fail
  exact bodyPost_ret (v := .tuple #[.string A, .string B]) (by simp [results, Tryd.results5, go_sem]) rfl ⟨rfl, unhide HB⟩

theorem tab_below {w w' : World} (h : PowTab w) (hB : Below w.heap.size w w') : PowTab w' := by
  unfold PowTab Lib.TabIs World.var? at *
  cases hg : Tryd.prog.globalNamed powName with
  | none => simp [hg] at h
  | some g =>
    simp only [hg, Option.bind_some] at h ⊢
    have hlt : g < w.heap.size := by
      rcases Nat.lt_or_ge g w.heap.size with h' | h'
      · exact h'
      · rw [Array.getElem?_eq_none h'] at h; simp at h
    rw [hB.block g hlt]
    exact h

set_option maxHeartbeats 1000000 in
/-- The first law. -/
theorem law3 (l : Nat) (hl : l < 4294967296) (w : World) (htab : PowTab w) :
    Calls Tryd.prog 3 #[.int .u32 l] w fun e w' => e = .returned (.bool true) ∧ Below w.heap.size w w' := by
  have K1 := hide (zz5 l true _ _ w (text8_vni l hl w htab))
  have HT := hide htab
  clear htab
  obtain ⟨s1, hs1⟩ : ∃ s : ByteArray, s = ⟨(Lib.decDigits l).toArray⟩ := ⟨_, rfl⟩
  have N1 : Hid (Num l s1) := by rw [hs1]; exact num_of l
  rw [← hs1] at K1
  clear hs1
  go_enter Tryd.func3, Tryd.ntmps3
  go_wp2_with fail
  refine (unhide K1).mono ?_
  rintro e w1 ⟨rfl, hB1⟩
  have K2 := hide (zz5 l false _ _ w1 (text8_label l hl w1 (tab_below (unhide HT) hB1)))
  obtain ⟨d, hd⟩ : ∃ d, l / 16 = d := ⟨_, rfl⟩
  rw [hd] at K2
  obtain ⟨s2, hs2⟩ : ∃ s : ByteArray, s = ⟨(Lib.decDigits d).toArray⟩ := ⟨_, rfl⟩
  have N2 : Hid (Num d s2) := by rw [hs2]; exact num_of d
  rw [← hs2] at K2
  have HB1 := hide hB1
  clear hs2 hB1 K1 HT
  go_wp2_with fail
  refine (unhide K2).mono ?_
  rintro e w2 ⟨rfl, hB2⟩
  have K3 := hide (parse_num l s1 (unhide N1) hl w2)
  have HB2 : Hid (Below w.heap.size w w2) := (unhide HB1).trans (hB2.mono (unhide HB1).size)
  clear hB2 K2 HB1
  go_wp2_with fail
  refine (unhide K3).mono ?_
  rintro e w' ⟨rfl, rfl⟩
  have K4 := hide (parse_num d s2 (unhide N2) (by omega) w2)
  have hne : ((l : Int) != (l : Int)) = false := by simp
  have hd1 : d * 16 ≤ l := by omega
  have hd2 : l < d * 16 + 16 := by omega
  clear K3 hd
  go_wp2_with fail
  refine (unhide K4).mono ?_
  rintro e w' ⟨rfl, rfl⟩
  clear K4
  have f1 : decide ((d : Int) * 16 ≤ (l : Int)) = true := by simp; omega
  have f2 : decide ((l : Int) < (d : Int) * 16 + 16) = true := by simp; omega
  go_wp2_with fail
  go_ret
  exact ⟨rfl, unhide HB2⟩

set_option maxRecDepth 100000 in
set_option maxHeartbeats 1000000 in
/-- The second law. -/
theorem law4 (m : Nat) (hm : m < 4294967296) (w : World) (htab : PowTab w) :
    Calls Tryd.prog 4 #[.int .u32 m] w fun e w' => e = .returned (.bool true) ∧ Below w.heap.size w w' := by
  by_cases h28 : m < 268435456
  case neg =>
    have g1 : decide ((268435456 : Int) ≤ (m : Int)) = true := decide_eq_true (by omega)
    clear htab h28
    go_enter Tryd.func4, Tryd.ntmps4
    go_wp2_with fail
    go_ret
    exact ⟨rfl, Below.refl _ _⟩
  have g1 : decide ((268435456 : Int) ≤ (m : Int)) = false := decide_eq_false (by omega)
  have K7 := hide (mplsLabel7 m h28 w)
  have HT := hide htab
  clear htab
  obtain ⟨f, hf⟩ : ∃ f, 16 * m + 1 = f := ⟨_, rfl⟩
  rw [hf] at K7
  have hfl : f < 4294967296 := by omega
  have K1 := zz5 f false _ _ w (text8_label f hfl w (unhide HT))
  rw [show f / 16 = m by omega] at K1
  have K1 := hide K1
  obtain ⟨s1, hs1⟩ : ∃ s : ByteArray, s = ⟨(Lib.decDigits m).toArray⟩ := ⟨_, rfl⟩
  have N1 : Hid (Num m s1) := by rw [hs1]; exact num_of m
  rw [← hs1] at K1
  clear hs1
  have HF := hide hf
  clear hf
  go_enter Tryd.func4, Tryd.ntmps4
  go_wp2_with fail
  refine (unhide K7).mono ?_
  rintro e w' ⟨rfl, rfl⟩
  clear K7
  go_wp2_with fail
  refine (unhide K1).mono ?_
  rintro e w1 ⟨rfl, hB1⟩
  have K3 := hide (parse_num m s1 (unhide N1) hm w1)
  have K2 := hide (zz5 f true _ _ w1 (text8_vni f hfl w1 (tab_below (unhide HT) hB1)))
  obtain ⟨s2, hs2⟩ : ∃ s : ByteArray, s = ⟨(Lib.decDigits f).toArray⟩ := ⟨_, rfl⟩
  have N2 : Hid (Num f s2) := by rw [hs2]; exact num_of f
  rw [← hs2] at K2
  have HB1 := hide hB1
  clear hs2 hB1 K1 HT
  go_wp2_with fail
  refine (unhide K3).mono ?_
  rintro e w' ⟨rfl, rfl⟩
  clear K3
  have hne : ((m : Int) != (m : Int)) = false := by simp
  go_wp2_with fail
  refine (unhide K2).mono ?_
  rintro e w2 ⟨rfl, hB2⟩
  have K4 := hide (parse_num f s2 (unhide N2) hfl w2)
  have HB2 : Hid (Below w.heap.size w w2) := (unhide HB1).trans (hB2.mono (unhide HB1).size)
  clear hB2 K2 HB1
  go_wp2_with fail
  refine (unhide K4).mono ?_
  rintro e w' ⟨rfl, rfl⟩
  clear K4
  have f1 : ((f : Int) == (m : Int) * 16 + 1) = true := by have := unhide HF; simp; omega
  go_wp2_with fail
  go_ret
  exact ⟨rfl, unhide HB2⟩
end Go.Proofs.Qxb6003939aDoor.Lt
