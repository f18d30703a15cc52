import Derived.Test.Qxb6003791aNtTab
set_option linter.unusedVariables false
namespace Go.Proofs.Qxb6003791a.Nt
open Go.RowKit

theorem pi_zero (w : World) (a : Option Addr) (Ss : Nat → ByteArray) (me : ByteArray) (o1 : Obj) :
    PI w (((((w.alloc o1).alloc (.cells #[.int .u64 0, .slice a 0 0, .slice none 0 0, .int .i64 (-1), .int .i64 0, .slice (some ⟨w.heap.size + 1 + 1 + 1, 0, none⟩) 0 0, .int .u64 0, .slice none 0 0] 77)).alloc (.cells (madeCells #[.int .u64 0] 0) 34)).alloc (.cells (madeCells #[.int .i32 0] 0) 21)).alloc (.cells (madeCells #[.int .u64 0] 0) 34)) a 0 0 Ss me (fun _ => 0) (fun _ => 0) := by
  have s1 : (w.alloc o1).heap.size = w.heap.size + 1 := by simp
  generalize hA : w.alloc o1 = A at *
  generalize hB : A.alloc (.cells #[.int .u64 0, .slice a 0 0, .slice none 0 0, .int .i64 (-1), .int .i64 0, .slice (some ⟨w.heap.size + 1 + 1 + 1, 0, none⟩) 0 0, .int .u64 0, .slice none 0 0] 77) = B at *
  have s2 : B.heap.size = w.heap.size + 2 := by rw [← hB]; simp [s1]
  have rC := World.rowIs_made B (.int .u64 0) 0 34
  generalize hC : B.alloc (.cells (madeCells #[.int .u64 0] 0) 34) = C at *
  have s3 : C.heap.size = w.heap.size + 3 := by rw [← hC]; simp [s2]
  have rD := World.rowIs_made C (.int .i32 0) 0 21
  generalize hD : C.alloc (.cells (madeCells #[.int .i32 0] 0) 21) = D at *
  have s4 : D.heap.size = w.heap.size + 4 := by rw [← hD]; simp [s3]
  have rE := World.rowIs_made D (.int .u64 0) 0 34
  rw [s2] at rC
  rw [s3] at rD
  rw [s4] at rE
  have bB : Below w.heap.size w D := by
    rw [← hD, ← hC, ← hB, ← hA]
    exact ((((Below.refl _ _).alloc (Nat.le_refl _) _).alloc (by simp) _).alloc (by simp; omega) _).alloc (by simp; omega) _
  refine ⟨bB.alloc (by omega) _, by simp [s4], ?_, ?_, ?_, ?_⟩
  · rw [Below.heap_alloc _ _ _ (by omega), ← hD, Below.heap_alloc _ _ _ (by omega), ← hC, Below.heap_alloc _ _ _ (by omega), ← hB]
    have := heap_alloc_new A (.cells #[.int .u64 0, .slice a 0 0, .slice none 0 0, .int .i64 (-1), .int .i64 0, .slice (some ⟨w.heap.size + 1 + 1 + 1, 0, none⟩) 0 0, .int .u64 0, .slice none 0 0] 77)
    rw [s1] at this
    rw [this]
    rfl
  · have := (rC.of_block (w' := D) (by rw [← hD, Below.heap_alloc _ _ _ (by omega)])).alloc (.cells (madeCells #[.int .u64 0] 0) 34)
    exact this.congr (fun i hi => absurd hi (by omega))
  · exact (rD.alloc _).congr (fun i hi => absurd hi (by omega))
  · exact rE.congr (fun i hi => absurd hi (by omega))

theorem ranked_zero (Ss : Nat → ByteArray) (p : Nat) (Ow : Nat → Int) : Ranked Ss 0 0 p Ow := fun q _ => ⟨fun _ => 0, top_start _ _ _, fun x hx => absurd hx (by omega)⟩

set_option maxRecDepth 100000 in
set_option maxHeartbeats 1000000 in
theorem table_zero (a : Option Addr) (o : Nat) (Ss : Nat → ByteArray) (me : ByteArray) (w : World) (ho1 : 1 ≤ o) (ho8 : o ≤ 8) :
    Calls Try.prog 40 #[.agg (viewArr a 0), .string me, .int .i64 o] w fun e w' => e = .returned (.pointer (some ⟨w.heap.size + 1, 0, none⟩)) ∧ TabOk w w' a 0 0 Ss me := by
  have hmk := fun w => run_make_row' (P := Try.prog) 24 34 (.int .u64 0) 8 Try.underlying24 info34 rfl .i64 .i64 0 (by omega) (by omega) w
  have hmk1 := fun w => run_make_row' (P := Try.prog) 72 21 (.int .i32 0) 4 Try.underlying72 info21 rfl .i64 .i64 0 (by omega) (by omega) w
  have HP0 := hide (pi_zero w a Ss me)
  simp only [Int.natCast_zero] at hmk hmk1
  unfold viewArr
  go_enter Try.func40, Try.ntmps40
  go_wp2
  refine wp_loop_rounds 1 ?_
  rw [rounds_succ]
  go_wp2
  clear hmk hmk1
  go_loopg [76] 4096 (fun g i wr => ∃ p : Nat, p ≤ 4096 ∧ g = 4096 - p ∧ i = .int .i64 p ∧ PI w wr a 0 0 Ss me (fun _ => 0) (fun _ => 0))
  case atStart => exact ⟨0, Nat.zero_le _, rfl, rfl, unhide HP0 _⟩
  case round =>
    obtain ⟨p, hp, rfl, rfl, hP⟩ := hrel
    by_cases hlp : p < 4096
    · have hpz : (p : Int) < 4096 := by omega
      have t4 : wr.cell? ⟨w.heap.size + 1, 4, none⟩ = some (.int .i64 0) := by rw [cell_of_row wr _ 4 _ _ _ hP.tab]; rfl
      have t5 : wr.cell? ⟨w.heap.size + 1, 5, none⟩ = some (.slice (some ⟨w.heap.size + 3, 0, none⟩) 0 0) := by rw [cell_of_row wr _ 5 _ _ _ hP.tab]; rfl
      have HP := hide hP
      clear hP
      go_wp2_with fail
      go_quiet (fail)
      go_wp2_with (go_at_call 45; refine (mix_any _ _).mono ?_; rintro e w' ⟨rfl, rfl⟩)
      refine wp_loop_rounds 1 ?_
      rw [rounds_succ]
      go_wp2
      go_roundg (4096 - (p + 1))
      case measure => omega
      case rel => exact ⟨p + 1, by omega, rfl, by go_num, pi_drewN (unhide HP) _⟩
    · obtain rfl : p = 4096 := by omega
      have HF : Hid (TabOk w wr a 0 0 Ss me) := ⟨_, _, hP, ranked_zero _ _ _⟩
      clear hP
      go_wp2
      go_ret
      exact ⟨rfl, unhide HF⟩
end Go.Proofs.Qxb6003791a.Nt
