import Derived.Test.YbulkbrdiRows
import Derived.WalkKit
import Derived.Handy
import Derived.Laws.Cover1
import Derived.Deep.RegionWith
import Derived.Deep.RegionHeld3
import Derived.Deep.QuietTactic
import Derived.BigQuiet
namespace Go.Proofs.Ybulkbrdi
open Go.RowKit
set_option linter.unusedVariables false
set_option linter.unusedSimpArgs false

theorem isNaN64_any (a : Int) (w : World) : Calls Yba.prog 31 #[.int .u64 a] w fun e w' => e = .returned (.bool false) ∧ w' = w := by
  go_enter Yba.func31, Yba.ntmps31
  go_wp2
  go_ret
  exact ⟨rfl, rfl⟩
theorem isNaNs_any (s : ByteArray) (w : World) : Calls Yba.prog 32 #[.string s] w fun e w' => e = .returned (.bool false) ∧ w' = w := by
  go_enter Yba.func32, Yba.ntmps32
  go_wp2
  go_ret
  exact ⟨rfl, rfl⟩

/-- cmp.Compare on numbers. -/
def cmp3 (a b : Int) : Int := if a < b then -1 else if b < a then 1 else 0

theorem cmp64_any (a b : Int) (w : World) : Calls Yba.prog 27 #[.int .u64 a, .int .u64 b] w fun e w' => e = .returned (.int .i64 (cmp3 a b)) ∧ w' = w := by
  have h1 : a < b → cmp3 a b = -1 := fun h => by unfold cmp3; rw [if_pos h]
  have h2 : b < a → cmp3 a b = 1 := fun h => by unfold cmp3; rw [if_neg (by omega), if_pos h]
  have h3 : a = b → cmp3 a b = 0 := fun h => by unfold cmp3; rw [if_neg (by omega), if_neg (by omega)]
  generalize cmp3 a b = c at *
  have H1 : Hid (a < b → c = -1) := h1
  have H2 : Hid (b < a → c = 1) := h2
  have H3 : Hid (a = b → c = 0) := h3
  clear h1 h2 h3
  go_enter Yba.func27, Yba.ntmps27
  go_wp2_with (go_at_call 31; refine (isNaN64_any _ _).mono ?_; rintro e w' ⟨rfl, rfl⟩)
  all_goals
    go_ret
    first
    | (have := H1.out (by assumption); subst this; exact ⟨rfl, rfl⟩)
    | (have := H2.out (by assumption); subst this; exact ⟨rfl, rfl⟩)
    | (have := H3.out (by omega); subst this; exact ⟨rfl, rfl⟩)

theorem cmpEmpty_any (w : World) : Calls Yba.prog 28 #[.string ⟨#[]⟩, .string ⟨#[]⟩] w fun e w' => e = .returned (.int .i64 0) ∧ w' = w := by
  go_enter Yba.func28, Yba.ntmps28
  go_wp2_with (go_at_call 32; refine (isNaNs_any _ _).mono ?_; rintro e w' ⟨rfl, rfl⟩)
  go_ret
  exact ⟨rfl, rfl⟩

theorem or_any (b : Nat) (c : Int) (w : World) (h0 : w.cell? ⟨b, 0, none⟩ = some (.int .i64 c)) (h1 : w.cell? ⟨b, 1, none⟩ = some (.int .i64 0)) :
    Calls Yba.prog 26 #[.slice (some ⟨b, 0, none⟩) 2 2] w fun e w' => e = .returned (.int .i64 c) ∧ w' = w := by
  by_cases hc : c = 0
  · subst hc
    go_enter Yba.func26, Yba.ntmps26
    go_wp2
    go_rounds 3
    go_ret
    exact ⟨rfl, rfl⟩
  · have hb : (c != 0) = true := by simpa using hc
    go_enter Yba.func26, Yba.ntmps26
    go_wp2
    go_rounds 1
    go_ret
    exact ⟨rfl, rfl⟩


set_option maxHeartbeats 1000000 in
theorem compare_any (a b : Nat) (x y : Int) (w : World)
   (ha0 : w.cell? ⟨a, 0, none⟩ = some (.string ⟨#[]⟩)) (ha4 : w.cell? ⟨a, 4, none⟩ = some (.int .u64 x))
   (hb0 : w.cell? ⟨b, 0, none⟩ = some (.string ⟨#[]⟩)) (hb4 : w.cell? ⟨b, 4, none⟩ = some (.int .u64 y)) :
    Calls Yba.prog 20 #[.pointer (some ⟨a, 0, none⟩), .pointer (some ⟨b, 0, none⟩)] w fun e w' => e = .returned (.int .i64 (cmp3 x y)) ∧ Below w.heap.size w w' := by
  go_enter Yba.func20, Yba.ntmps20
  go_wp2
  go_region_held3 (fun w' => w'.cell? ⟨a, 0, none⟩ = some (.string ⟨#[]⟩) ∧ w'.cell? ⟨a, 4, none⟩ = some (.int .u64 x) ∧ w'.cell? ⟨b, 0, none⟩ = some (.string ⟨#[]⟩) ∧ w'.cell? ⟨b, 4, none⟩ = some (.int .u64 y)) (go_keep)
   (first
    | (go_at_call 27; refine (cmp64_any _ _ _).mono ?_; rintro e w' ⟨rfl, rfl⟩)
    | (go_at_call 28; refine (cmpEmpty_any _).mono ?_; rintro e w' ⟨rfl, rfl⟩)
    | (go_at_call 26; refine (or_any _ (cmp3 x y) _ (by simp [World.cell?_drew, World.cell?_alloc_at]) (by simp [World.cell?_drew, World.cell?_alloc_at])).mono ?_; rintro e w' ⟨rfl, rfl⟩))
  go_wp2
  go_ret
  exact ⟨rfl, (((Below.refl _ _).alloc (Nat.le_refl _) _)).drew⟩
end Go.Proofs.Ybulkbrdi
