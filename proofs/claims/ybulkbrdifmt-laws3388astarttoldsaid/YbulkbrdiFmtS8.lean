/-
  b3388aF: slices.BinarySearch at []uint32; Clone of nil.
-/
import Derived.Test.YbulkbrdiFmtS7
namespace Go.Proofs.YbulkbrdiFmt
open Go.RowKit
set_option linter.unusedVariables false
set_option linter.unusedSimpArgs false
set_option maxRecDepth 100000
set_option maxHeartbeats 2000000

theorem clone33_nil (w : World) : Calls Ybaf.prog 33 #[.slice none 0 0] w fun e w' => e = .returned (.slice none 0 0) ∧ w' = w := by
  have hq : ∀ (W : World), (binOp .eql 51 (.slice none 0 0) (.slice none 0 0)).run Ybaf.prog W = .ok (.bool true) W := fun W => by kernel_rfl
  go_enter Ybaf.func33, Ybaf.ntmps33
  go_wp2_with fail
  go_ret
  exact ⟨rfl, rfl⟩
theorem clone46_nil (w : World) : Calls Ybaf.prog 46 #[.slice none 0 0] w fun e w' => e = .returned (.slice none 0 0) ∧ w' = w := by
  have hq : ∀ (W : World), (binOp .eql 52 (.slice none 0 0) (.slice none 0 0)).run Ybaf.prog W = .ok (.bool true) W := fun W => by kernel_rfl
  go_enter Ybaf.func46, Ybaf.ntmps46
  go_wp2_with fail
  go_ret
  exact ⟨rfl, rfl⟩
theorem clone47_nil (w : World) : Calls Ybaf.prog 47 #[.slice none 0 0] w fun e w' => e = .returned (.slice none 0 0) ∧ w' = w := by
  have hq : ∀ (W : World), (binOp .eql 23 (.slice none 0 0) (.slice none 0 0)).run Ybaf.prog W = .ok (.bool true) W := fun W => by kernel_rfl
  go_enter Ybaf.func47, Ybaf.ntmps47
  go_wp2_with fail
  go_ret
  exact ⟨rfl, rfl⟩
/-- slices.BinarySearch of what is there -/
theorem bs_any (g n c x q0 : Nat) (d : Array Nat) (w : World) (hc : ∀ q, q < n → w.cell? ⟨g, q, none⟩ = some (.int .u32 ((d[q]! : Nat) : Int))) (hs : Sort.SortedIn ltN 0 n d) (hn : n ≤ 12) (hnc : n ≤ c) (hq : q0 < n) (hx : d[q0]! = x) :
    Calls Ybaf.prog 34 #[.slice (some ⟨g, 0, none⟩) n c, .int .u32 (x : Int)] w fun e w' => ∃ i : Nat, e = .returned (.tuple #[.int .i64 (i : Int), .bool true]) ∧ i < n ∧ d[i]! = x ∧ Fr (fun _ => False) w w' := by
  have HC := hide hc
  have HS := hide hs
  have HX := hide hx
  clear hc hs hx
  go_enter Ybaf.func34, Ybaf.ntmps34
  go_wp2_with fail
  go_loopw [7, 8] (fun s7 s8 wr => ∃ i j : Nat, s7 = .int .i64 i ∧ s8 = .int .i64 j ∧ i ≤ j ∧ j ≤ n ∧ Hid ((∀ q, q < i → d[q]! < x) ∧ (∀ q, j ≤ q → q < n → ¬ d[q]! < x) ∧ Fr (fun _ => False) w wr)) (fun s7 s8 _ => (intOf s8).toNat - (intOf s7).toNat)
  case atStart => exact ⟨0, n, rfl, rfl, by omega, by omega, fun q hq => by omega, fun q h1 h2 => by omega, Fr.refl _ _⟩
  case round =>
    obtain ⟨i, j, rfl, rfl, hij, hjn, hst⟩ := hrel
    by_cases hlt : i < j
    · obtain ⟨s, hsum⟩ : ∃ s, s = i + j := ⟨_, rfl⟩
      obtain ⟨m, hm⟩ : ∃ m, m = s / 2 := ⟨_, rfl⟩
      have e1 : (i : Int) + (j : Int) = (s : Int) := by omega
      have e2 : (s : Int) / 2 = (m : Int) := by omega
      have e3 : IntKind.u64.wrap (s : Int) = (s : Int) := by rw [IntKind.wrap_u64]; omega
      have hmi : i ≤ m := by omega
      have hmj : m < j := by omega
      have z1 : (i : Int) < (j : Int) := by omega
      have z2 : (m : Int) < (n : Int) := by omega
      obtain ⟨y, hy⟩ : ∃ y, y = d[m]! := ⟨_, rfl⟩
      have c0 : wr.cell? ⟨g, m, none⟩ = some (.int .u32 (y : Int)) := by rw [hy]; exact cell_keptA (unhide hst).2.2 (unhide HC m (by omega))
      have HY := hide hy
      clear hsum hm hy
      by_cases hl : y < x
      · have HN : Hid ((∀ q, q < m + 1 → d[q]! < x) ∧ (∀ q, j ≤ q → q < n → ¬ d[q]! < x)) := ⟨fun q hq => by
          by_cases e : q = m
          · rw [e, ← unhide HY]; exact hl
          · have := unhide HS q m (by omega) (by omega) (by omega)
            unfold ltN at this
            have hy := unhide HY
            simp only [decide_eq_false_iff_not] at this
            omega, (unhide hst).2.1⟩
        have HF := hide (unhide hst).2.2
        have hl2 : ltN y x = true := by unfold ltN; simp; omega
        clear hst
        go_wp2_with fail
        refine (less_any _ _ _).mono ?_
        rintro e w2 ⟨rfl, rfl⟩
        rw [hl2]
        go_wp2_with fail
        go_roundw
        case rel => exact ⟨m + 1, j, by go_num, rfl, by omega, by omega, (unhide HN).1, (unhide HN).2, HF.out⟩
        case measure => (try simp [intOf]) <;> (try omega)
      · have HN : Hid ((∀ q, q < i → d[q]! < x) ∧ (∀ q, m ≤ q → q < n → ¬ d[q]! < x)) := ⟨(unhide hst).1, fun q h1 h2 => by
          by_cases e : q = m
          · rw [e, ← unhide HY]; exact hl
          · have := unhide HS m q (by omega) (by omega) (by omega)
            unfold ltN at this
            have hy := unhide HY
            simp only [decide_eq_false_iff_not] at this
            omega⟩
        have HF := hide (unhide hst).2.2
        have hl2 : ltN y x = false := by unfold ltN; simp; omega
        clear hst
        go_wp2_with fail
        refine (less_any _ _ _).mono ?_
        rintro e w2 ⟨rfl, rfl⟩
        rw [hl2]
        go_wp2_with fail
        go_roundw
        case rel => exact ⟨i, m, rfl, by go_num, by omega, by omega, (unhide HN).1, (unhide HN).2, HF.out⟩
        case measure => (try simp [intOf]) <;> (try omega)
    · obtain rfl : i = j := by omega
      have z1 : decide ((i : Int) < (i : Int)) = false := by simp
      obtain ⟨h1, h2, h3⟩ := unhide hst
      have hiq : i ≤ q0 := by
        rcases Nat.lt_or_ge q0 i with h | h
        · have := h1 q0 h; have := unhide HX; omega
        · exact h
      have hin : i < n := by omega
      have hdi : d[i]! = x := by
        have h4 := h2 i (Nat.le_refl _) hin
        have hX := unhide HX
        by_cases e : i = q0
        · rw [e]; exact hX
        · have := unhide HS i q0 (by omega) (by omega) hq
          unfold ltN at this
          simp only [decide_eq_false_iff_not] at this
          omega
      have c0 : wr.cell? ⟨g, i, none⟩ = some (.int .u32 (x : Int)) := by rw [← hdi]; exact cell_keptA h3 (unhide HC i hin)
      have z3 : decide ((i : Int) < (n : Int)) = true := by simp; omega
      have HF := hide h3
      have HD := hide hdi
      clear h1 h2 h3 hst hdi
      go_wp2_with fail
      go_returns
      exact ⟨i, rfl, hin, HD.out, HF.out⟩
end Go.Proofs.YbulkbrdiFmt
