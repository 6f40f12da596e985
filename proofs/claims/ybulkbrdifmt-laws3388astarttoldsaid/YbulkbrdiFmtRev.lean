/-
  b3388aF: slices.reverseRangeOrdered, breakPatternsOrdered at uint32.
-/
import Derived.Test.YbulkbrdiFmtHeap
import Derived.Sort.AssemblyPlain
namespace Go.Proofs.YbulkbrdiFmt
open Go.RowKit
set_option linter.unusedVariables false
set_option linter.unusedSimpArgs false

theorem Rw.beside {w wr w3 : World} {g n R : Nat} {d : Array Nat} (h : Rw w g n d wr) (hf : Fr (· = R) wr w3) (hR : w.heap.size ≤ R) (hg : g ≠ R) : Rw w g n d w3 :=
  ⟨h.row.kept hf hg, h.size, ⟨hf.os.trans h.fr.os, hf.tape.trans h.fr.tape, hf.output.trans h.fr.output, Nat.le_trans h.fr.size hf.size, fun k hk hn => (hf.block k (Nat.lt_of_lt_of_le hk h.fr.size) (by omega)).trans (h.fr.block k hk hn)⟩⟩
/-- a row behind a permutation of [a, b) -/
structure Pm (w : World) (g n a b : Nat) (d dc : Array Nat) (wr : World) : Prop where
  rw : Rw w g n dc wr
  perm : Sort.PermIn a b d dc
theorem Pm.swp {w wr : World} {g n a b i j x y : Nat} {d dc : Array Nat} (h : Pm w g n a b d dc wr) (hi : a ≤ i ∧ i < b) (hj : a ≤ j ∧ j < b) (hb : b ≤ n) (hx : x = dc[i]!) (hy : y = dc[j]!) : Pm w g n a b d (Sort.swp dc i j) ((wr.setCell ⟨g, i, none⟩ (.int .u32 (y : Int))).setCell ⟨g, j, none⟩ (.int .u32 (x : Int))) :=
  ⟨h.rw.swp hx hy, Sort.permIn_trans _ _ _ _ _ h.perm (Sort.swp_permIn _ _ _ _ _ hi.1 hi.2 hj.1 hj.2 (by rw [h.rw.size]; exact hb))⟩
theorem Pm.swp' {w wr : World} {g n a b i j x y : Nat} {d dc : Array Nat} (h : Pm w g n a b d dc wr) (hi : a ≤ i ∧ i < b) (hj : a ≤ j ∧ j < b) (hb : b ≤ n) (hx : x = dc[i]!) (hy : y = dc[j]!) : Pm w g n a b d (Sort.swp dc i j) ((wr.setCell ⟨g, j, none⟩ (.int .u32 (x : Int))).setCell ⟨g, i, none⟩ (.int .u32 (y : Int))) := by
  rw [swp_comm]; exact h.swp hj hi hb hy hx
theorem Pm.drew {w wr : World} {g n a b : Nat} {d dc : Array Nat} (h : Pm w g n a b d dc wr) : Pm w g n a b d dc wr.drew := ⟨h.rw.drew, h.perm⟩
theorem Pm.drewN {w wr : World} {g n a b : Nat} {d dc : Array Nat} (h : Pm w g n a b d dc wr) (q : Nat) : Pm w g n a b d dc (wr.drewN q) := ⟨h.rw.drewN q, h.perm⟩

set_option maxHeartbeats 1000000 in
set_option maxRecDepth 100000 in
theorem rev_any (g n a b : Nat) (d : Array Nat) (w : World) (h : Blk w g 53 (rowV d)) (hd : d.size = n) (hn : n ≤ 1024) (hab : a < b) (hb : b ≤ n) :
    Calls Ybaf.prog 25 #[.slice (some ⟨g, 0, none⟩) n n, .int .i64 a, .int .i64 b] w fun e w' => e = .returned (.tuple #[]) ∧ ∃ d', Pm w g n a b d d' w' := by
  have H := hide (Pm.mk (Rw.start h hd) (Sort.permIn_refl d a b))
  clear h hd
  go_enter Ybaf.func25, Ybaf.ntmps25
  go_wp2
  go_loopw [6, 7] (fun s6 s7 wr => ∃ (i j : Nat) (dc : Array Nat), s6 = .int .i64 i ∧ s7 = .int .i64 j ∧ a ≤ i ∧ j < b ∧ i ≤ b ∧ Hid (Pm w g n a b d dc wr)) (fun s6 _ _ => b - (intOf s6).toNat)
  case atStart => exact ⟨a, b - 1, d, rfl, by go_num, by omega, by omega, by omega, H⟩
  case round =>
    obtain ⟨i, j, dc, rfl, rfl, hai, hjb, hib, hst⟩ := hrel
    by_cases hij : i < j
    · have z1 : (i : Int) < (j : Int) := by omega
      have h2 := (unhide hst).rw
      obtain ⟨x, hx⟩ : ∃ x, x = dc[i]! := ⟨_, rfl⟩
      obtain ⟨y, hy⟩ : ∃ y, y = dc[j]! := ⟨_, rfl⟩
      have c0 : wr.cell? ⟨g, i, none⟩ = some (.int .u32 (x : Int)) := by rw [hx]; exact h2.get (by omega)
      have c1 : wr.cell? ⟨g, j, none⟩ = some (.int .u32 (y : Int)) := by rw [hy]; exact h2.get (by omega)
      have f0 : wr.frozen? ⟨g, i, none⟩ = false := h2.frozen _
      have f1 : wr.frozen? ⟨g, j, none⟩ = false := h2.frozen _
      have z2 : (j : Int) < (n : Int) := by omega
      have z3 : (i : Int) < (n : Int) := by omega
      have hne : i ≠ j := by omega
      have HX := hide hx
      have HY := hide hy
      clear hx hy h2
      go_wp2_with fail
      go_region
      all_goals
        go_wp2_with fail
        go_roundw
        case rel => exact ⟨i + 1, j - 1, Sort.swp dc i j, by go_num, by go_num, by omega, by omega, by omega, by first | exact ((unhide hst).swp ⟨hai, by omega⟩ ⟨by omega, hjb⟩ hb (unhide HX) (unhide HY)).drew | exact ((unhide hst).swp' ⟨hai, by omega⟩ ⟨by omega, hjb⟩ hb (unhide HX) (unhide HY)).drew⟩
        case measure => (try simp [intOf]) <;> (try omega)
    · have z1 : decide ((i : Int) < (j : Int)) = false := by simp; omega
      go_wp2_with fail
      go_returns
      exact ⟨rfl, dc, unhide hst⟩
end Go.Proofs.YbulkbrdiFmt
