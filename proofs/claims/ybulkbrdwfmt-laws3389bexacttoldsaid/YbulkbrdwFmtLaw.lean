/-
  b3389aF: LawS3389BExact, LawS3389BGrid walked.
-/
import Derived.Test.YbulkbrdwFmtDraft
namespace Go.Proofs.YbulkbrdwFmt
open Go.RowKit
set_option linter.unusedVariables false
set_option linter.unusedSimpArgs false

set_option maxHeartbeats 1000000 in
theorem exact_any (s p q : Nat) (n1 n2 : Int) (w : World) (hs : s ≤ 255) (hp : p ≤ 255) (hq : q ≤ 255) :
    Calls Ybaf.prog 3 #[.int .u8 s, .int .u8 p, .int .u8 q, .int .i64 n1, .int .i64 n2] w fun e w' => e = .returned (.bool true) ∧ Below w.heap.size w w' := by
  obtain ⟨m, hm⟩ : ∃ m, m = p % 21 := ⟨_, rfl⟩
  obtain ⟨k, hk⟩ : ∃ k, k = q % (m + 2) := ⟨_, rfl⟩
  obtain ⟨full, hfull⟩ : ∃ full, full = decide (s % 3 = 1) := ⟨_, rfl⟩
  have hm1 : m ≤ 20 := by omega
  have hk1 : k < m + 2 := by rw [hk]; exact Nat.mod_lt _ (by omega)
  have e1 : (p : Int) % 21 = (m : Int) := by omega
  have e2 : (q : Int) % ((m : Int) + 2) = (k : Int) := by rw [hk]; rfl
  have e3 : ((s : Int) % 3 == 1) = full := by rw [hfull, Bool.eq_iff_iff]; simp; omega
  have HD := hide (draft_any s m hs hm1)
  rw [← hfull] at HD
  clear hm hk hfull
  go_enter Ybaf.func3, Ybaf.ntmps3
  go_wp2_with fail
  refine (unhide HD _).mono ?_
  rintro e w1 ⟨D, rfl, hD, hb1⟩
  have HD1 := hide hD
  have Hb1 := hide hb1
  clear hD hb1 HD
  obtain ⟨all, hall⟩ : ∃ all, (full || (k : Int) - 1 == (m : Int) - 1) = all := ⟨_, rfl⟩
  cases all with
  | true =>
    have HE := hide (edge_full D m ((k : Int) - 1) full w1 hm1 (unhide HD1) hall)
    have HA := hide hall
    clear hall
    go_wp2_with fail
    refine (unhide HE).mono ?_
    rintro e w2 ⟨rfl, rfl⟩
    go_wp2_with fail
    refine (edge1_any n1 n2 _).mono ?_
    rintro e w3 ⟨rfl, rfl⟩
    clear HE
    obtain ⟨G, o, r, str, b1, b2, c0, c1, c2, c3, hf⟩ := unhide HD1
    have HM := hide (model_any true n1 n2 w1)
    obtain ⟨R, hR⟩ : ∃ R, modelR true n1 n2 = R := ⟨_, rfl⟩
    rw [hR] at HM
    rw [hR]
    clear hR hf c0 c3
    cases full with
    | true =>
      go_wp2_with fail
      refine (unhide HM).mono ?_
      rintro e w2 ⟨rfl, rfl⟩
      go_wp2_with fail
      go_ret
      exact ⟨rfl, unhide Hb1⟩
    | false =>
      have hkk : ((k : Int) - 1 == (m : Int) - 1) = true := by have := unhide HA; simpa using this
      go_wp2_with fail
      refine (unhide HM).mono ?_
      rintro e w2 ⟨rfl, rfl⟩
      go_wp2_with fail
      go_ret
      exact ⟨rfl, unhide Hb1⟩
  | false =>
    have HE := hide (edge_rule D m ((k : Int) - 1) full w1 hm1 (unhide HD1) hall)
    rw [Bool.or_eq_false_iff] at hall
    obtain ⟨rfl, hkk⟩ := hall
    go_wp2_with fail
    refine (unhide HE).mono ?_
    rintro e w2 ⟨rfl, rfl⟩
    go_wp2_with fail
    refine (edge2_any n1 n2 _).mono ?_
    rintro e w3 ⟨rfl, hb3⟩
    have Hb3 := hide ((unhide Hb1).trans (hb3.mono (unhide Hb1).size))
    obtain ⟨G, o, r, str, b1, b2, c0, c1, c2, c3, hf⟩ := (unhide HD1).below hb3
    have HM := hide (model_any false n1 n2 w3)
    obtain ⟨R, hR⟩ : ∃ R, modelR false n1 n2 = R := ⟨_, rfl⟩
    rw [hR] at HM
    rw [hR]
    clear hR hf c0 c3 hb3 HE
    go_wp2_with fail
    refine (unhide HM).mono ?_
    rintro e w2 ⟨rfl, rfl⟩
    go_wp2_with fail
    go_ret
    exact ⟨rfl, unhide Hb3⟩
end Go.Proofs.YbulkbrdwFmt
