/-
  b3389a: slices.Max over whole numbers as float64.
-/
import Derived.Test.YbulkbrdwMean2
namespace Go.Proofs.Ybulkbrdw
open Go.RowKit
set_option linter.unusedVariables false
set_option linter.unusedSimpArgs false
attribute [local go_sem] run_store_float

open Ieee in
/-- two whole numbers compared -/
theorem order_int {x y : Int} (hx : x.natAbs < 2 ^ 53) (hy : y.natAbs < 2 ^ 53) : double.order (fi x) (fi y) = some (compare x y) := by
  obtain ⟨s, k, e1, h1⟩ := fi_is hx
  obtain ⟨t, l, e2, h2⟩ := fi_is hy
  unfold Format.order
  rw [e1, e2]
  simp only [Datum.order]
  obtain ⟨K, hK⟩ : ∃ K, K = max k l := ⟨_, rfl⟩
  have hbase : min (-(k : Int)) (-(l : Int)) = -(K : Int) := by omega
  rw [hbase, signed_eq (K := K) h1 (by omega), signed_eq (K := K) h2 (by omega)]
  have hp : (0 : Int) < ((2 ^ K : Nat) : Int) := by have := Nat.two_pow_pos K; omega
  congr 1
  rcases Int.lt_trichotomy x y with h | h | h
  · rw [Int.compare_eq_lt.2 h, Int.compare_eq_lt.2 (Int.mul_lt_mul_of_pos_right h hp)]
  · subst h; rw [Int.compare_eq_eq.2 rfl, Int.compare_eq_eq.2 rfl]
  · rw [Int.compare_eq_gt.2 h, Int.compare_eq_gt.2 (Int.mul_lt_mul_of_pos_right h hp)]
theorem run_max_fi (P : Program) (w : World) (ts : Array TypeId) (t : TypeId) {x y : Nat} (hx : x ≤ 65535) (hy : y ≤ 65535) : (Builtin.max_ ts t #[.float .f64 (fi x), .float .f64 (fi y)]).run P w = .ok (.float .f64 (fi (max x y : Nat))) w := by
  have ho : FloatKind.f64.format.order (fi x) (fi y) = some (compare (x : Int) (y : Int)) := order_int (x := (x : Int)) (y := (y : Int)) (by omega) (by omega)
  rcases Nat.lt_trichotomy x y with h | h | h
  · rw [Int.compare_eq_lt.2 (by omega)] at ho
    simp [Builtin.max_, Builtin.max2, ho, Nat.max_eq_right (Nat.le_of_lt h)]
  · subst h
    rw [Int.compare_eq_eq.2 rfl] at ho
    simp [Builtin.max_, Builtin.max2, ho]
  · rw [Int.compare_eq_gt.2 (by omega)] at ho
    simp [Builtin.max_, Builtin.max2, ho, Nat.max_eq_left (Nat.le_of_lt h)]

/-- the greatest of f 0 .. f k -/
def maxTo (f : Nat → Nat) : Nat → Nat
  | 0 => f 0
  | k + 1 => max (maxTo f k) (f (k + 1))

theorem maxTo_le {f : Nat → Nat} (hf : ∀ i, f i ≤ 65535) : ∀ k, maxTo f k ≤ 65535
  | 0 => hf 0
  | k + 1 => Nat.max_le.2 ⟨maxTo_le hf k, hf _⟩

set_option maxHeartbeats 400000 in
theorem max_any (g n c : Nat) (f : Nat → Nat) (w : World) (hn : n + 1 ≤ 100000) (hc : n + 1 ≤ c) (tl : List Value) (hB : Blk w g 27 ((List.range (n + 1)).map (fun i => .float .f64 (fi (f i))) ++ tl)) (hf : ∀ i, f i ≤ 65535) :
    Calls Yba.prog 17 #[.slice (some ⟨g, 0, none⟩) (n + 1) c] w fun e w' => e = .returned (.float .f64 (fi (maxTo f n))) ∧ w = w' := by
  have hcell : ∀ i, i ≤ n → w.cell? ⟨g, i, none⟩ = some (.float .f64 (fi (f i))) := fun i hi => by
    rw [hB.cell, List.getElem?_append_left (by simp; omega), List.getElem?_map, List.getElem?_range (by omega)]; rfl
  have c0 := hcell 0 (by omega)
  have HC := hide hcell
  have d0 : decide ((n : Int) + 1 < 1) = false := by simp; omega
  clear hB hcell
  go_enter Yba.func17, Yba.ntmps17
  go_wp2
  go_loopw [4, 3] (fun s4 s3 wr => ∃ k : Nat, s4 = .int .i64 ((k : Int) + 1) ∧ s3 = .float .f64 (fi (maxTo f k)) ∧ k ≤ n ∧ Hid (w = wr)) (fun s4 _ _ => n + 1 - (intOf s4).toNat)
  case atStart => exact ⟨0, rfl, rfl, by omega, rfl⟩
  case round =>
    obtain ⟨k, rfl, rfl, hk, hw⟩ := hrel
    obtain rfl := unhide hw
    by_cases hkn : k < n
    · have c1 : w.cell? ⟨g, k + 1, none⟩ = some (.float .f64 (fi (f (k + 1)))) := unhide HC (k + 1) (by omega)
      have hmx : ∀ (w : World) ts t, (Builtin.max_ ts t #[.float .f64 (fi (maxTo f k)), .float .f64 (fi (f (k + 1)))]).run Yba.prog w = .ok (.float .f64 (fi (maxTo f (k + 1)))) w := fun w ts t => run_max_fi _ w ts t (maxTo_le hf k) (hf _)
      have z : ((n : Int) + 1 < 1) = False := by simp; omega
      go_wp2
      go_roundw
      case rel => exact ⟨k + 1, by go_num, rfl, by omega, hide trivial⟩
      case measure => simp [intOf]; omega
    · obtain rfl : n = k := by omega
      go_wp2
      go_ret
      exact ⟨rfl, rfl⟩
end Go.Proofs.Ybulkbrdw
