/-
  b3389aF: LawS3389BGrid walked.
-/
import Derived.Test.YbulkbrdwFmtDraft
namespace Go.Proofs.YbulkbrdwFmt
open Go.RowKit
set_option linter.unusedVariables false
set_option linter.unusedSimpArgs false

set_option maxHeartbeats 2000000 in
theorem grid_any (s p q : Nat) (b : Int) (w : World) (hs : s ≤ 255) (hp : p ≤ 255) (hq : q ≤ 255) (hb0 : -128 ≤ b) (hb1 : b ≤ 127) :
    Calls Ybaf.prog 4 #[.int .u8 s, .int .u8 p, .int .u8 q, .int .i8 b] w fun e w' => e = .returned (.bool true) ∧ Below w.heap.size w w' := by
  obtain ⟨m, hm⟩ : ∃ m, m = p % 21 := ⟨_, rfl⟩
  obtain ⟨k, hk⟩ : ∃ k, k = q % (m + 2) := ⟨_, rfl⟩
  obtain ⟨full, hfull⟩ : ∃ full, full = decide (s % 3 = 1) := ⟨_, rfl⟩
  have hm1 : m ≤ 20 := by omega
  have hk1 : k < m + 2 := by rw [hk]; exact Nat.mod_lt _ (by omega)
  have e1 : (p : Int) % 21 = (m : Int) := by omega
  have e2 : (q : Int) % ((m : Int) + 2) = (k : Int) := by rw [hk]; rfl
  have e3 : ((s : Int) % 3 == 1) = full := by rw [hfull, Bool.eq_iff_iff]; simp; omega
  have HD := hide (draft_any s m hs hm1)
  rw [← hfull] at HD
  clear hm hk hfull
  have arms : ∃ f : FuncId, ∃ all : Bool, (∀ (D : Nat) (w : World), DraftOk w D m full → Calls Ybaf.prog 6 #[.pointer (some ⟨D, 0, none⟩), .int .i64 ((k : Int) - 1)] w fun e w' => e = .returned (.func (.func f) #[] #[]) ∧ w = w') ∧
      (∀ (n1 n2 : Int) (w : World), Calls Ybaf.prog f #[.int .i64 n1, .int .i64 n2] w fun e w' => e = .returned (.string (modelR all n1 n2)) ∧ Below w.heap.size w w') ∧
      ((full = true ∧ ((k : Int) - 1 == (k : Int) - 1) = true ∧ f = 8 ∧ all = true) ∨ (full = false ∧ ((k : Int) - 1 == (m : Int) - 1) = true ∧ f = 8 ∧ all = true) ∨ (full = false ∧ ((k : Int) - 1 == (m : Int) - 1) = false ∧ f = 9 ∧ all = false)) := by
    have h8 : ∀ (n1 n2 : Int) (w : World), Calls Ybaf.prog 8 #[.int .i64 n1, .int .i64 n2] w fun e w' => e = .returned (.string (modelR true n1 n2)) ∧ Below w.heap.size w w' := fun n1 n2 w =>
      (edge1_any n1 n2 w).mono (by rintro e w' ⟨rfl, rfl⟩; exact ⟨rfl, Below.refl _ _⟩)
    cases full with
    | true => exact ⟨8, true, fun D w h => edge_full D m _ true w hm1 h rfl, h8, .inl ⟨rfl, by simp, rfl, rfl⟩⟩
    | false =>
      cases hkk : ((k : Int) - 1 == (m : Int) - 1) with
      | true => exact ⟨8, true, fun D w h => edge_full D m _ false w hm1 h (by rw [hkk]; rfl), h8, .inr (.inl ⟨rfl, rfl, rfl, rfl⟩)⟩
      | false => exact ⟨9, false, fun D w h => edge_rule D m _ false w hm1 h (by rw [hkk]; rfl), fun n1 n2 w => edge2_any n1 n2 w, .inr (.inr ⟨rfl, rfl, rfl, rfl⟩)⟩
  obtain ⟨f, all, hE, hRule, hC⟩ := arms
  have HE := hide hE
  have HR := hide hRule
  clear hE hRule
  rcases hC with ⟨rfl, hkk, rfl, rfl⟩ | ⟨rfl, hkk, rfl, rfl⟩ | ⟨rfl, hkk, rfl, rfl⟩
  all_goals
    go_enter Ybaf.func4, Ybaf.ntmps4
    go_wp2_with fail
    refine (unhide HD _).mono ?_
    rintro e w1 ⟨D, rfl, hD, hbel⟩
    have HE1 := hide (unhide HE D w1 hD)
    have Hb1 := hide hbel
    clear hD hbel HD HE
    go_wp2_with fail
    refine (unhide HE1).mono ?_
    rintro e w2 ⟨rfl, rfl⟩
    clear HE1
    go_wp2_with fail
    clear e1 e2 e3 hkk
    go_loopw [15] (fun s15 wr => ∃ i : Nat, s15 = .int .i64 i ∧ i ≤ 12 ∧ Hid (Below w.heap.size w wr)) (fun s15 _ => 12 - (intOf s15).toNat)
    case atStart => exact ⟨0, rfl, by omega, Hb1⟩
    case round =>
      obtain ⟨i, rfl, hi, hb⟩ := hrel
      by_cases hi12 : i < 12
      · have zi : decide ((i : Int) < 12) = true := by simp; omega
        go_wp2_with fail
        go_loopw [16] (fun s16 wr => ∃ j : Nat, s16 = .int .i64 j ∧ j ≤ 12 ∧ Hid (Below w.heap.size w wr)) (fun s16 _ => 12 - (intOf s16).toNat)
        case atStart => exact ⟨0, rfl, by omega, hb⟩
        case round =>
          obtain ⟨j, rfl, hj, hb2⟩ := hrel
          by_cases hj12 : j < 12
          · go_wp2_with fail
            refine (unhide HR (b + (i : Int)) (b + (j : Int)) _).mono ?_
            rintro e w3 ⟨rfl, hb3⟩
            have Hb3 := hide ((unhide hb2).trans (hb3.mono (unhide hb2).size))
            clear hb3
            go_wp2_with fail
            refine (model_any _ (b + (i : Int)) (b + (j : Int)) _).mono ?_
            rintro e w4 ⟨rfl, rfl⟩
            go_wp2_with fail
            go_roundw
            case rel => exact ⟨j + 1, by go_num, by omega, Hb3⟩
            case measure => simp [intOf]; omega
          · obtain rfl : j = 12 := by omega
            go_wp2_with fail
            go_roundw
            case rel => exact ⟨i + 1, by go_num, by omega, hb2⟩
            case measure => simp [intOf]; omega
      · obtain rfl : i = 12 := by omega
        go_wp2_with fail
        go_ret
        exact ⟨rfl, unhide hb⟩
end Go.Proofs.YbulkbrdwFmt
