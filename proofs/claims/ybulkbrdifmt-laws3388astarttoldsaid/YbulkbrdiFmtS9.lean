/-
  b3388aF: the stand-in core's small methods; (*space).about.
-/
import Derived.Test.YbulkbrdiFmtS8
namespace Go.Proofs.YbulkbrdiFmt
open Go.RowKit
set_option linter.unusedVariables false
set_option linter.unusedSimpArgs false
set_option maxRecDepth 100000
set_option maxHeartbeats 2000000

/-- the name of process d -/
def nm (d : Nat) : ByteArray := ⟨#[UInt8.ofNat (97 + d)]⟩
theorem name_any (d : Nat) (hd : d < 8) (w : World) : Calls Ybaf.prog 7 #[.int .i64 (d : Int)] w fun e w' => e = .returned (.string (nm d)) ∧ w' = w := by
  have h8 : d = 0 ∨ d = 1 ∨ d = 2 ∨ d = 3 ∨ d = 4 ∨ d = 5 ∨ d = 6 ∨ d = 7 := by omega
  have hcv : ∀ (d : Nat), d < 8 → ∀ w : World, (convert 21 9 (.int .i32 ((97 + d : Nat) : Int))).run Ybaf.prog w = .ok (.string (nm d)) w := fun d hd w => by
    have h8 : d = 0 ∨ d = 1 ∨ d = 2 ∨ d = 3 ∨ d = 4 ∨ d = 5 ∨ d = 6 ∨ d = 7 := by omega
    rcases h8 with rfl | rfl | rfl | rfl | rfl | rfl | rfl | rfl <;> (show _ = _; kernel_rfl)
  have hc2 := hcv d hd
  obtain ⟨x, hx⟩ : ∃ x, x = 97 + d := ⟨_, rfl⟩
  have e1 : (97 : Int) + (d : Int) = (x : Int) := by omega
  have e2 : IntKind.i32.wrap (x : Int) = (x : Int) := by rw [IntKind.wrap_i32] <;> omega
  rw [← hx] at hc2
  clear hcv h8 hx
  go_enter Ybaf.func7, Ybaf.ntmps7
  go_wp2_with fail
  go_ret
  exact ⟨rfl, rfl⟩
theorem settled_any (s : ByteArray) (w : World) : Calls Ybaf.prog 94 #[.agg #[], .string s] w fun e w' => e = .returned (.bool false) ∧ Fr (fun _ => False) w w' := by
  have HF := hide ((Fr.refl (fun _ => False) w).alloc (.cells #[] 82))
  go_enter Ybaf.func94, Ybaf.ntmps94
  go_wp2_with fail
  go_ret
  exact ⟨rfl, HF.out⟩
theorem copy_any (w : World) : Calls Ybaf.prog 96 #[.agg #[]] w fun e w' => e = .returned (.iface 82 (.agg #[])) ∧ Fr (fun _ => False) w w' := by
  have HF := hide ((Fr.refl (fun _ => False) w).alloc (.cells #[] 82))
  go_enter Ybaf.func96, Ybaf.ntmps96
  go_wp2_with fail
  go_ret
  exact ⟨rfl, HF.out⟩

theorem lt_of_cell {w : World} {g j : Nat} {v : Value} (hc : w.cell? ⟨g, j, none⟩ = some v) : g < w.heap.size := by
  rcases Nat.lt_or_ge g w.heap.size with h | h
  · exact h
  · simp [World.cell?, Array.getElem?_eq_none h] at hc
theorem about_any (SP ib ni ic x mb mn mc j td i : Nat) (s1 s2 s : ByteArray) (w : World)
    (h8 : w.cell? ⟨SP, 8, none⟩ = some (.slice (some ⟨ib, 0, none⟩) ni ic)) (hx : x < ni) (hni : ni ≤ 1000000)
    (i0 : w.cell? ⟨ib, x * 9, none⟩ = some (.int .i64 (td : Int))) (i1 : w.cell? ⟨ib, x * 9 + 1, none⟩ = some (.int .i64 (j : Int))) (i2 : w.cell? ⟨ib, x * 9 + 2, none⟩ = some (.string s1)) (i3 : w.cell? ⟨ib, x * 9 + 3, none⟩ = some (.string s2))
    (i4 : w.cell? ⟨ib, x * 9 + 4, none⟩ = some (.int .u64 0)) (i5 : w.cell? ⟨ib, x * 9 + 5, none⟩ = some (.bool false)) (i6 : w.cell? ⟨ib, x * 9 + 6, none⟩ = some (.bool false)) (i7 : w.cell? ⟨ib, x * 9 + 7, none⟩ = some (.int .u64 0)) (i8 : w.cell? ⟨ib, x * 9 + 8, none⟩ = some (.pointer none))
    (h4 : w.cell? ⟨SP, 4, none⟩ = some (.slice (some ⟨mb, 0, none⟩) mn mc)) (hj : j < mn) (hmn : mn ≤ 8) (hm : w.cell? ⟨mb, j * 4, none⟩ = some (.string s)) :
    Calls Ybaf.prog 48 #[.pointer (some ⟨SP, 0, none⟩), .agg #[.int .i64 (i : Int), .iface 82 (.agg #[]), .slice none 0 0, .slice none 0 0], .int .u32 ((x + 1 : Nat) : Int)] w fun e w' => e = .returned (.string s) ∧ Fr (fun _ => False) w w' := by
  have l1 : SP < w.heap.size := (lt_of_cell h8)
  have l2 : ib < w.heap.size := (lt_of_cell i0)
  have l3 : mb < w.heap.size := (lt_of_cell hm)
  obtain ⟨ev, hev⟩ : ∃ ev, ev = x + 1 := ⟨_, rfl⟩
  have d1 : ((ev : Int) == 0) = false := by simp; omega
  have e1 : (ev : Int) - 1 = (x : Int) := by omega
  have e2 : IntKind.u32.wrap (x : Int) = (x : Int) := by rw [IntKind.wrap_u32]; omega
  have d2 : decide ((0 : Int) ≤ (j : Int)) = true := by simp
  have z1 : (x : Int) < (ni : Int) := by omega
  have z2 : (j : Int) < (mn : Int) := by omega
  have HF := hide (((Fr.refl (fun _ => False) w).alloc (.cells #[.int .i64 (i : Int), .iface 82 (.agg #[]), .slice none 0 0, .slice none 0 0] 62)).alloc (.cells #[.int .i64 (td : Int), .int .i64 (j : Int), .string s1, .string s2, .int .u64 0, .bool false, .bool false, .int .u64 0, .pointer none] 48))
  rw [← hev]
  clear hev
  go_enter Ybaf.func48, Ybaf.ntmps48
  go_wp2_with fail
  go_quiet (fail)
  go_wp2_with fail
  go_ret
  exact ⟨rfl, (unhide HF).drewN _⟩
end Go.Proofs.YbulkbrdiFmt
