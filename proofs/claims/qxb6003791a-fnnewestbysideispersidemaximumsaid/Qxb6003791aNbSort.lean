import Derived.Test.Qxb6003791aNbMat
set_option linter.unusedVariables false
namespace Go.Proofs.Qxb6003791a.Nb
open Go.RowKit

/-- The places behind j (up to c) hold what stood one place ahead. -/
def shf (G : Nat → Int) (j c y : Nat) : Int := if j < y ∧ y < c then G (y - 1) else G y

theorem shf_start (G : Nat → Int) (i y : Nat) : G y = shf G i (i + 1) y := by unfold shf; rw [if_neg (by omega)]

/-- G with place i taken out and laid in at place j ≤ i. -/
def ins (G : Nat → Int) (j i y : Nat) : Int := if y = j then G i else shf G j (i + 1) y

/-- Where the cell y of 'ins' came from. -/
def src (j i y : Nat) : Nat := if y = j then i else if j < y ∧ y < i + 1 then y - 1 else y

theorem ins_src (G : Nat → Int) {j i : Nat} (y : Nat) : ins G j i y = G (src j i y) := by
  unfold ins src shf
  by_cases e : y = j
  · rw [if_pos e, if_pos e]
  · rw [if_neg e, if_neg e]
    split <;> rfl

theorem src_perm {j i n : Nat} (hj : j ≤ i) (hi : i < n) : ((List.range n).map (src j i)).Perm (List.range n) := by
  refine (List.perm_ext_iff_of_nodup ?_ List.nodup_range).2 fun a => ?_
  · refine List.pairwise_map.2 (List.nodup_range.imp_of_mem fun {p q} hp hq hne e => hne ?_)
    unfold src at e
    split at e <;> split at e <;> (try split at e) <;> (try split at e) <;> omega
  · simp only [List.mem_map, List.mem_range]
    constructor
    · rintro ⟨y, hy, rfl⟩
      unfold src
      split
      · omega
      · split <;> omega
    · intro ha
      by_cases e1 : a = i
      · exact ⟨j, by omega, by unfold src; rw [if_pos rfl, e1]⟩
      · by_cases e2 : j ≤ a ∧ a < i
        · exact ⟨a + 1, by omega, by unfold src; rw [if_neg (by omega), if_pos (by omega)]; omega⟩
        · exact ⟨a, ha, by unfold src; rw [if_neg (by omega), if_neg (by omega)]⟩

theorem ins_perm (G : Nat → Int) {j i n : Nat} (hj : j ≤ i) (hi : i < n) : ((List.range n).map (ins G j i)).Perm ((List.range n).map G) := by
  have h := (src_perm hj hi).map G
  rw [List.map_map] at h
  have e : (List.range n).map (ins G j i) = (List.range n).map (G ∘ src j i) := List.map_congr_left fun y _ => ins_src G y
  rw [e]; exact h

def Srt (G : Nat → Int) (n : Nat) : Prop := ∀ a b, a < b → b < n → G a ≤ G b

theorem ins_srt {G : Nat → Int} {j i : Nat} (h : Srt G i) (hj : j ≤ i) (hlo : j = 0 ∨ G (j - 1) ≤ G i) (hhi : ∀ y, j ≤ y → y < i → G i < G y) : Srt (ins G j i) (i + 1) := by
  have hle : ∀ a, a < j → G a ≤ G i := fun a ha => by
    rcases hlo with e | e
    · omega
    · by_cases ea : a = j - 1
      · subst ea; exact e
      · have := h a (j - 1) (by omega) (by omega); omega
  intro a b hab hb
  rw [ins_src, ins_src]
  unfold src
  by_cases ea : a = j
  · rw [if_pos ea]
    rw [if_neg (by omega), if_pos (by omega)]
    have := hhi (b - 1) (by omega) (by omega); omega
  · rw [if_neg ea]
    by_cases ea2 : j < a ∧ a < i + 1
    · rw [if_pos ea2, if_neg (by omega), if_pos (by omega)]
      exact h (a - 1) (b - 1) (by omega) (by omega)
    · rw [if_neg ea2]
      by_cases eb : b = j
      · rw [if_pos eb]; exact hle a (by omega)
      · rw [if_neg eb]
        by_cases eb2 : j < b ∧ b < i + 1
        · rw [if_pos eb2]
          by_cases e3 : a = b - 1
          · omega
          · exact h a (b - 1) (by omega) (by omega)
        · rw [if_neg eb2]
          exact h a b hab (by omega)

theorem shf_step {G G2 : Nat → Int} {j c n : Nat} (h : ∀ y, y < n → G2 y = shf G (j + 1) c y) (hj : j + 1 < c) (hcn : c ≤ n) : ∀ y, y < n → (if y = j + 1 then G2 j else G2 y) = shf G j c y := by
  intro y hy
  by_cases e : y = j + 1
  · subst e
    rw [if_pos rfl, h j (by omega)]
    unfold shf
    rw [if_neg (by omega), if_pos (by omega)]
    rfl
  · rw [if_neg e, h y hy]
    unfold shf
    by_cases e2 : j + 1 < y ∧ y < c
    · rw [if_pos e2, if_pos (by omega)]
    · rw [if_neg e2, if_neg (by omega)]

/-- Block g holds n numbers from its head on, none frozen. -/
def IntsAt (w : World) (g n : Nat) (G : Nat → Int) : Prop := ∀ i, i < n → w.cell? ⟨g, i, none⟩ = some (.int .i64 (G i)) ∧ w.frozen? ⟨g, i, none⟩ = false

theorem IntsAt.set {w : World} {g n : Nat} {G : Nat → Int} (h : IntsAt w g n G) {j : Nat} (hj : j < n) (v : Int) : IntsAt (w.setCell ⟨g, j, none⟩ (.int .i64 v)) g n (fun y => if y = j then v else G y) := fun i hi => by
  refine ⟨?_, by rw [World.frozen?_setCell]; exact (h i hi).2⟩
  by_cases e : i = j
  · subst e
    rw [World.cell?_setCell_same _ _ _ (h i hi).1]; simp
  · rw [World.cell?_setCell_other _ _ _ _ (fun e' => e (by have := congrArg Addr.off e'; simpa using this.symm)), (h i hi).1]
    simp [e]

theorem IntsAt.congr {w : World} {g n : Nat} {G G' : Nat → Int} (h : IntsAt w g n G) (e : ∀ i, i < n → G i = G' i) : IntsAt w g n G' := fun i hi => by rw [← e i hi]; exact h i hi

/-- One more is laid in at its place. -/
theorem sort_end {w wr : World} {g n k j : Nat} {G G1 G2 : Nat → Int} {v : Int} (hv : G1 k = v) (hI2 : IntsAt wr g n G2) (hS2 : ∀ y, y < n → G2 y = shf G1 j (k + 1) y) (hS : Srt G1 k) (hPm : ((List.range n).map G1).Perm ((List.range n).map G))
    (hB : Below g w wr) (hj : j ≤ k) (hk : k < n) (hlo : j = 0 ∨ G1 (j - 1) ≤ v) (hhi : ∀ y, j ≤ y → y < k → v < G1 y) :
    IntsAt (wr.setCell ⟨g, j, none⟩ (.int .i64 v)) g n (ins G1 j k) ∧ Srt (ins G1 j k) (k + 1) ∧ ((List.range n).map (ins G1 j k)).Perm ((List.range n).map G) ∧ Below g w (wr.setCell ⟨g, j, none⟩ (.int .i64 v)) := by
  subst hv
  refine ⟨(hI2.set (by omega) (G1 k)).congr (fun i hi => ?_), ins_srt hS hj hlo hhi, (ins_perm G1 hj hk).trans hPm, hB.setCell (Nat.le_refl _) _⟩
  unfold ins
  by_cases e : i = j
  · rw [if_pos e, if_pos e]
  · rw [if_neg e, if_neg e, hS2 i hi]

set_option maxHeartbeats 1000000 in
theorem sort_any (g n cap : Nat) (G : Nat → Int) (w : World) (hn : n ≤ 1048576) (h : IntsAt w g n G) :
    Calls Try.prog 25 #[.slice (some ⟨g, 0, none⟩) n cap] w fun e w' => e = .returned (.tuple #[]) ∧ ∃ G', IntsAt w' g n G' ∧ Srt G' n ∧ ((List.range n).map G').Perm ((List.range n).map G) ∧ Below g w w' := by
  have HG := hide h
  clear h
  go_enter Try.func25, Try.ntmps25
  go_wp2
  go_loopg [2] (n - 1) (fun gh i wr => ∃ k : Nat, 1 ≤ k ∧ (k ≤ n ∨ k = 1) ∧ gh = n - k ∧ i = .int .i64 k ∧ ∃ G', IntsAt wr g n G' ∧ Srt G' k ∧ ((List.range n).map G').Perm ((List.range n).map G) ∧ Below g w wr)
  case atStart => exact ⟨1, by omega, .inr rfl, rfl, rfl, G, unhide HG, fun a b hab hb => by omega, List.Perm.refl _, Below.refl _ _⟩
  case round =>
    obtain ⟨k, hk1, hk, rfl, rfl, G1, hI, hS, hPm, hB⟩ := hrel
    clear HG
    by_cases hlt : k < n
    · have hkz : (k : Int) < (n : Int) := by omega
      have g0 := (hI k hlt).1
      obtain ⟨v, hv⟩ : ∃ v, G1 k = v := ⟨_, rfl⟩
      rw [hv] at g0
      have HV := hide hv
      have HI := hide hI
      have HS := hide hS
      have HPm := hide hPm
      have HB := hide hB
      clear hv hI hS hPm hB
      go_wp2_with fail
      go_loopg [4] k (fun gh i wr => ∃ j : Nat, j ≤ k ∧ j = gh ∧ i = .int .i64 j ∧ ∃ G2, IntsAt wr g n G2 ∧ (∀ y, y < n → G2 y = shf G1 j (k + 1) y) ∧ (∀ y, j ≤ y → y < k → v < G1 y) ∧ Below g w wr)
      case atStart => exact ⟨k, Nat.le_refl _, rfl, rfl, G1, unhide HI, fun y _ => shf_start G1 k y, fun y h1 h2 => absurd h2 (by omega), unhide HB⟩
      case round =>
        obtain ⟨j, hj, rfl, rfl, G2, hI2, hS2, hhi, hB2⟩ := hrel
        clear HI HB g0
        cases j with
        | zero =>
          have g0 := (hI2 0 (by omega)).1
          have f0 := (hI2 0 (by omega)).2
          have HE := hide (sort_end (j := 0) (unhide HV) hI2 hS2 (unhide HS) (unhide HPm) hB2 (by omega) hlt (.inl rfl) hhi)
          clear hI2 hS2 hhi hB2
          go_wp2
          go_roundg (n - (k + 1))
          case measure => omega
          case rel =>
            obtain ⟨e1, e2, e3, e4⟩ := unhide HE
            exact ⟨k + 1, by omega, .inl (by omega), rfl, by go_num, _, e1, e2, e3, e4⟩
        | succ j =>
          have g0 := (hI2 j (by omega)).1
          have f0 := (hI2 j (by omega)).2
          have g1 := (hI2 (j + 1) (by omega)).1
          have f1 := (hI2 (j + 1) (by omega)).2
          have hsj : G2 j = G1 j := by rw [hS2 j (by omega)]; unfold shf; rw [if_neg (by omega)]
          by_cases hgt : v < G2 j
          · have H2 := hide (hI2.set (j := j + 1) (by omega) (G2 j))
            have H3 := hide (shf_step hS2 (by omega) (by omega))
            have HHI : Hid (∀ y, j ≤ y → y < k → v < G1 y) := fun y h1 h2 => by
              by_cases e : y = j
              · subst e; rw [← hsj]; exact hgt
              · exact hhi y (by omega) h2
            have HB3 := hide (hB2.setCell (p := ⟨g, j + 1, none⟩) (Nat.le_refl _) (.int .i64 (G2 j)))
            clear hI2 hS2 hhi hB2 hsj
            go_wp2
            go_roundg j
            case measure => omega
            case rel => exact ⟨j, by omega, rfl, by first | rfl | go_num, _, unhide H2, unhide H3, unhide HHI, unhide HB3⟩
          · have HE := hide (sort_end (j := j + 1) (unhide HV) hI2 hS2 (unhide HS) (unhide HPm) hB2 (by omega) hlt (.inr (by rw [Nat.add_sub_cancel, ← hsj]; omega)) hhi)
            clear hI2 hS2 hhi hB2 hsj
            go_wp2
            go_roundg (n - (k + 1))
            case measure => omega
            case rel =>
              obtain ⟨e1, e2, e3, e4⟩ := unhide HE
              exact ⟨k + 1, by omega, .inl (by omega), rfl, by go_num, _, e1, e2, e3, e4⟩
    · have hkz : ¬ (k : Int) < (n : Int) := by omega
      have HE : Hid (∃ G', IntsAt wr g n G' ∧ Srt G' n ∧ ((List.range n).map G').Perm ((List.range n).map G) ∧ Below g w wr) := ⟨G1, hI, fun a b hab hb => hS a b hab (by omega), hPm, hB⟩
      clear hI hS hPm hB
      go_wp2
      go_end0
      exact ⟨rfl, unhide HE⟩
end Go.Proofs.Qxb6003791a.Nb
