/-
  b3389a: (*mean).add, (*mean).value, (*input).mean.
-/
import Derived.Test.YbulkbrdwRows
import Derived.Test.YbulkbrdwBase
import Derived.Test.YbulkbrdwFloat
import Derived.Handy
import Derived.BigQuiet
import Derived.Deep.QuietTactic
import Derived.Deep.RegionHeld3
import Derived.Deep.OwnRows
import Derived.Lib.SliceRun
namespace Go.Proofs.Ybulkbrdw
open Go.RowKit
set_option linter.unusedVariables false
set_option linter.unusedSimpArgs false

theorem run_store_float (P : Program) (w : World) (a : Addr) (m : Mode) (k : FloatKind) (b : Nat) : (store a (.float k b) m).run P w = stored P w a (.float k b) m := run_store P w a _ m rfl
attribute [local go_sem] run_store_float

set_option maxHeartbeats 400000 in
theorem add_any (B a b p wt ws pl wt' ws' pl' n : Nat) (w : World) (hB : Blk w B 65 [.float .f64 wt, .float .f64 ws, .float .f64 pl, .int .i64 n]) (hn : n ≤ 100000)
    (h1 : floatBits .mul .f64 a b = some p) (h2 : floatBits .add .f64 wt p = some wt') (h3 : floatBits .add .f64 ws b = some ws') (h4 : floatBits .add .f64 pl a = some pl') :
    Calls Yba.prog 9 #[.pointer (some ⟨B, 0, none⟩), .float .f64 a, .float .f64 b] w fun e w' => e = .returned (.tuple #[]) ∧ Blk w' B 65 [.float .f64 wt', .float .f64 ws', .float .f64 pl', .int .i64 (n + 1 : Nat)] ∧ Fr (· = B) w w' := by
  have r1 : ∀ w, (binOp .mul 27 (.float .f64 a) (.float .f64 b)).run Yba.prog w = .ok (.float .f64 p) w := fun w => run_float_arith w .mul 27 .f64 a b p h1
  have r2 : ∀ w, (binOp .add 27 (.float .f64 wt) (.float .f64 p)).run Yba.prog w = .ok (.float .f64 wt') w := fun w => run_float_arith w .add 27 .f64 _ _ _ h2
  have r3 : ∀ w, (binOp .add 27 (.float .f64 ws) (.float .f64 b)).run Yba.prog w = .ok (.float .f64 ws') w := fun w => run_float_arith w .add 27 .f64 _ _ _ h3
  have r4 : ∀ w, (binOp .add 27 (.float .f64 pl) (.float .f64 a)).run Yba.prog w = .ok (.float .f64 pl') w := fun w => run_float_arith w .add 27 .f64 _ _ _ h4
  have c0 : w.cell? ⟨B, 0, none⟩ = some (.float .f64 wt) := by rw [hB.cell]; rfl
  have c1 : w.cell? ⟨B, 1, none⟩ = some (.float .f64 ws) := by rw [hB.cell]; rfl
  have c2 : w.cell? ⟨B, 2, none⟩ = some (.float .f64 pl) := by rw [hB.cell]; rfl
  have c3 : w.cell? ⟨B, 3, none⟩ = some (.int .i64 n) := by rw [hB.cell]; rfl
  have f0 : ∀ j, w.frozen? ⟨B, j, none⟩ = false := fun j => hB.frozen j
  have HB := hide hB
  clear hB h1 h2 h3 h4
  go_enter Yba.func9, Yba.ntmps9
  go_wp2
  go_returns
  have hB := unhide HB
  refine ⟨rfl, ?_, ?_⟩
  · have h := ((((hB.setCell 0 (.float .f64 wt')).setCell 1 (.float .f64 ws')).setCell 2 (.float .f64 pl')).setCell 3 (.int .i64 (n + 1 : Nat)))
    simpa using h
  · exact Fr.setCell (S := (· = B)) (Fr.setCell (S := (· = B)) (Fr.setCell (S := (· = B)) (Fr.setCell (S := (· = B)) (Fr.refl (· = B) w) (p := ⟨B, 0, none⟩) (.inl rfl) _) (p := ⟨B, 1, none⟩) (.inl rfl) _) (p := ⟨B, 2, none⟩) (.inl rfl) _) (p := ⟨B, 3, none⟩) (.inl rfl) _

/-- the bits of the NaN the model draws -/
def nanOf (w : World) (x y : Nat) : Nat := (Question.nanBits .f64 x y).cut (w.tape w.drawn (Question.nanBits .f64 x y))
theorem nan_order (w : World) (x y : Nat) : Ieee.double.order (nanOf w x y) (nanOf w x y) = none := by
  have key : ∀ t : Nat, (Ieee.double.read ((t % 2) * 2 ^ 63 + 0x7ff0000000000000 + 1 + (t / 2) % (2 ^ 52 - 1))).isNaN = true := by
    intro t
    have h1 : t % 2 < 2 := Nat.mod_lt _ (by decide)
    have h2 : (t / 2) % (2 ^ 52 - 1) < 2 ^ 52 - 1 := Nat.mod_lt _ (by decide)
    generalize t % 2 = s at *
    generalize (t / 2) % (2 ^ 52 - 1) = u at *
    unfold Ieee.Format.read
    rw [double_bin, double_lp, double_inf, double_sw]
    have hm : (s * 2 ^ 63 + 9218868437227405312 + 1 + u) % 2 ^ 63 = 9218868437227405312 + 1 + u := by omega
    simp only [hm]
    rw [if_neg (by omega), if_neg (by omega), if_neg (by omega)]
    rfl
  have h := key (w.tape w.drawn (Question.nanBits .f64 x y))
  have e : nanOf w x y = ((w.tape w.drawn (Question.nanBits .f64 x y)) % 2) * 2 ^ 63 + 0x7ff0000000000000 + 1 + ((w.tape w.drawn (Question.nanBits .f64 x y)) / 2) % (2 ^ 52 - 1) := rfl
  rw [← e] at h
  unfold Ieee.Format.order
  cases hd : Ieee.double.read (nanOf w x y) <;> rw [hd] at h <;> first | rfl | cases h
theorem run_nan (P : Program) (w : World) (t : TypeId) (x y : Nat) (h : floatBits .quo .f64 x y = none) : (binOp .quo t (.float .f64 x) (.float .f64 y)).run P w = .ok (.float .f64 (nanOf w x y)) w.drew := by
  have h' : FloatKind.f64.format.div x y = none := h
  simp [binOp, Op.floatArith, h', nanOf, Question.forced]

set_option maxHeartbeats 400000 in
theorem value_w (B wt ws pl n r : Nat) (w : World) (hB : Blk w B 65 [.float .f64 wt, .float .f64 ws, .float .f64 pl, .int .i64 n])
    (h1 : (FloatKind.f64.format.order ws 0 == some .gt) = true) (h2 : floatBits .quo .f64 wt ws = some r) :
    Calls Yba.prog 10 #[.pointer (some ⟨B, 0, none⟩)] w fun e w' => e = .returned (.float .f64 r) ∧ Fr (fun _ => False) w w' := by
  have r1 : ∀ w, (binOp .quo 27 (.float .f64 wt) (.float .f64 ws)).run Yba.prog w = .ok (.float .f64 r) w := fun w => run_float_arith w .quo 27 .f64 _ _ _ h2
  have c0 : w.cell? ⟨B, 0, none⟩ = some (.float .f64 wt) := by rw [hB.cell]; rfl
  have c1 : w.cell? ⟨B, 1, none⟩ = some (.float .f64 ws) := by rw [hB.cell]; rfl
  clear hB h2
  go_enter Yba.func10, Yba.ntmps10
  go_wp2_with (go_quiet (fail))
  go_ret
  exact ⟨rfl, (Fr.refl _ w).drewN _⟩
set_option maxHeartbeats 400000 in
theorem value_p (B wt ws pl n r : Nat) (w : World) (hB : Blk w B 65 [.float .f64 wt, .float .f64 ws, .float .f64 pl, .int .i64 n])
    (h1 : (FloatKind.f64.format.order ws 0 == some .gt) = false) (h2 : floatBits .quo .f64 pl (fi n) = some r) :
    Calls Yba.prog 10 #[.pointer (some ⟨B, 0, none⟩)] w fun e w' => e = .returned (.float .f64 r) ∧ Fr (fun _ => False) w w' := by
  have r1 : ∀ w, (binOp .quo 27 (.float .f64 pl) (.float .f64 (floatOfInt .f64 (n : Int)))).run Yba.prog w = .ok (.float .f64 r) w := fun w => run_float_arith w .quo 27 .f64 _ _ _ h2
  have c1 : w.cell? ⟨B, 1, none⟩ = some (.float .f64 ws) := by rw [hB.cell]; rfl
  have c2 : w.cell? ⟨B, 2, none⟩ = some (.float .f64 pl) := by rw [hB.cell]; rfl
  have c3 : w.cell? ⟨B, 3, none⟩ = some (.int .i64 n) := by rw [hB.cell]; rfl
  clear hB h2
  go_enter Yba.func10, Yba.ntmps10
  go_wp2_with (go_quiet (fail))
  go_ret
  exact ⟨rfl, (Fr.refl _ w).drewN _⟩
set_option maxHeartbeats 400000 in
theorem value_n (B wt ws pl n : Nat) (w : World) (hB : Blk w B 65 [.float .f64 wt, .float .f64 ws, .float .f64 pl, .int .i64 n])
    (h1 : (FloatKind.f64.format.order ws 0 == some .gt) = false) (h2 : floatBits .quo .f64 pl (fi n) = none) :
    Calls Yba.prog 10 #[.pointer (some ⟨B, 0, none⟩)] w fun e w' => ∃ r, e = .returned (.float .f64 r) ∧ Ieee.double.order r r = none ∧ Fr (fun _ => False) w w' := by
  have r1 : ∀ w, (binOp .quo 27 (.float .f64 pl) (.float .f64 (floatOfInt .f64 (n : Int)))).run Yba.prog w = .ok (.float .f64 (nanOf w pl (fi n))) w.drew := fun w => run_nan _ w 27 _ _ h2
  have c1 : w.cell? ⟨B, 1, none⟩ = some (.float .f64 ws) := by rw [hB.cell]; rfl
  have c2 : w.cell? ⟨B, 2, none⟩ = some (.float .f64 pl) := by rw [hB.cell]; rfl
  have c3 : w.cell? ⟨B, 3, none⟩ = some (.int .i64 n) := by rw [hB.cell]; rfl
  clear hB h2
  go_enter Yba.func10, Yba.ntmps10
  go_wp2_with fail
  go_region
  go_wp2_with fail
  go_ret
  exact ⟨_, rfl, nan_order _ _ _, (Fr.refl _ w).drew.drew⟩
end Go.Proofs.Ybulkbrdw
