/-
  b3388aF: a row of uint32 as an array of numbers; cmp.Less.
-/
import Derived.Test.YbulkbrdiFmtRows
import Derived.Test.YbulkbrdiFmtBase
import Derived.Sort.Defs
import Derived.Handy
import Derived.BigQuiet
import Derived.Deep.QuietTactic
import Derived.Deep.DeepCutAuto
namespace Go.Proofs.YbulkbrdiFmt
open Go.RowKit
set_option linter.unusedVariables false
set_option linter.unusedSimpArgs false

/-- 'less' at the numbers -/
def ltN (x y : Nat) : Bool := decide (x < y)
/-- a row's cells -/
def rowV (d : Array Nat) : List Value := d.toList.map fun (z : Nat) => .int .u32 (z : Int)
theorem rowV_length (d : Array Nat) : (rowV d).length = d.size := by unfold rowV; simp
theorem rowV_get (d : Array Nat) {i : Nat} (hi : i < d.size) : (rowV d)[i]? = some (.int .u32 ((d[i]! : Nat) : Int)) := by
  unfold rowV
  rw [List.getElem?_map, Array.getElem?_toList, Array.getElem?_eq_getElem hi, getElem!_pos d i hi]; rfl
theorem rowV_set (d : Array Nat) (i x : Nat) : (rowV d).set i (.int .u32 (x : Int)) = rowV (d.setIfInBounds i x) := by
  unfold rowV
  rw [Array.toList_setIfInBounds, List.map_set]
theorem rowV_swp (d : Array Nat) (i j : Nat) : ((rowV d).set i (.int .u32 ((d[j]! : Nat) : Int))).set j (.int .u32 ((d[i]! : Nat) : Int)) = rowV (Sort.swp d i j) := by
  rw [rowV_set, rowV_set]; rfl
theorem swp_size (d : Array Nat) (i j : Nat) : (Sort.swp d i j).size = d.size := by unfold Sort.swp; simp
theorem swp_comm (d : Array Nat) (i j : Nat) : Sort.swp d i j = Sort.swp d j i := by
  unfold Sort.swp
  by_cases h : i = j
  · subst h; rfl
  · exact Array.setIfInBounds_comm _ _ h
section
variable {w : World} {g : Nat} {d : Array Nat}
theorem Blk.get (h : Blk w g 53 (rowV d)) {i : Nat} (hi : i < d.size) : w.cell? ⟨g, i, none⟩ = some (.int .u32 ((d[i]! : Nat) : Int)) := by
  rw [h.cell, rowV_get d hi]
theorem Blk.swp (h : Blk w g 53 (rowV d)) (i j : Nat) : Blk ((w.setCell ⟨g, i, none⟩ (.int .u32 ((d[j]! : Nat) : Int))).setCell ⟨g, j, none⟩ (.int .u32 ((d[i]! : Nat) : Int))) g 53 (rowV (Sort.swp d i j)) := by
  have := (h.setCell i (.int .u32 ((d[j]! : Nat) : Int))).setCell j (.int .u32 ((d[i]! : Nat) : Int))
  rw [rowV_swp] at this; exact this
end

/-- cmp.isNaN -/
theorem nan_any (x : Int) (w : World) : Calls Ybaf.prog 45 #[.int .u32 x] w fun e w' => e = .returned (.bool false) ∧ w' = w := by
  go_enter Ybaf.func45, Ybaf.ntmps45
  go_wp2
  go_ret
  exact ⟨rfl, rfl⟩
/-- cmp.Less -/
theorem less_any (x y : Nat) (w : World) : Calls Ybaf.prog 27 #[.int .u32 (x : Int), .int .u32 (y : Int)] w fun e w' => e = .returned (.bool (ltN x y)) ∧ w' = w := by
  go_enter Ybaf.func27, Ybaf.ntmps27
  go_wp2_with fail
  refine (nan_any _ _).mono ?_
  rintro e w2 ⟨rfl, rfl⟩
  go_wp2_with fail
  go_ret
  refine ⟨?_, rfl⟩
  unfold ltN; simp
end Go.Proofs.YbulkbrdiFmt
