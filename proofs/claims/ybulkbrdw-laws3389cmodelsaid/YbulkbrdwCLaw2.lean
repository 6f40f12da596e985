/-
  b3389a: LawS3389CModel at no operator, and at too many.
-/
import Derived.Test.YbulkbrdwCL0
namespace Go.Proofs.Ybulkbrdw
open Go.RowKit
set_option linter.unusedVariables false
set_option linter.unusedSimpArgs false

set_option maxHeartbeats 2000000 in
set_option maxRecDepth 100000 in
theorem claw_big (a : Option Addr) (n cap : Nat) (w : World) (h : 300 < n) : Calls Yba.prog 5 #[.slice a n cap] w fun e w' => e = .returned (.bool true) ∧ Below w.heap.size w w' := by
  go_enter Yba.func5, Yba.ntmps5
  have hgt : (300 : Int) < (n : Int) := by omega
  go_wp2
  go_ret
  exact ⟨rfl, Below.refl _ _⟩
set_option maxHeartbeats 2000000 in
set_option maxRecDepth 100000 in
theorem claw_zero (a : Option Addr) (cap : Nat) (w : World) : Calls Yba.prog 5 #[.slice a 0 cap] w fun e w' => e = .returned (.bool true) ∧ Below w.heap.size w w' := by
  have hmk : ∀ w, (Instr.makeSlice 40 (.int .i64 0) (.int .i64 0)).run Yba.prog w = .ok (.slice (some ⟨w.heap.size, 0, none⟩) 0 0) (w.alloc (.cells ((List.range 0).flatMap fun _ => zop).toArray 47)) := make40 0 (by omega)
  have HF : Hid (∀ o1 o2, Fr (fun _ => False) w ((w.alloc o1).alloc o2)) := fun o1 o2 => ((Fr.refl _ w).alloc o1).alloc o2
  go_enter Yba.func5, Yba.ntmps5
  go_wp2_with fail
  refine wp_loop_rounds 1 ?_
  rw [rounds_succ]
  go_wp2_with fail
  refine wp_loop_rounds 1 ?_
  rw [rounds_succ]
  go_wp2_with fail
  go_ret
  exact ⟨rfl, (HF.out _ _).below (Nat.le_refl _) (fun _ h => h.elim)⟩
end Go.Proofs.Ybulkbrdw
