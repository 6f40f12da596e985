/-
  b3388a: zzs3388bbuild: the walk.
-/
import Derived.Test.YbulkbrdiBuild
namespace Go.Proofs.Ybulkbrdi
open Go.RowKit
set_option linter.unusedVariables false
set_option linter.unusedSimpArgs false

theorem frq_bel {w wr w' : World} {Q : Nat} (h : Below w.heap.size w wr) (hf : FrQ Q wr w') (hQ : w.heap.size ≤ Q) (hs : Q ≤ wr.heap.size) : Below w.heap.size w w' :=
  h.trans ((hf.below hs).mono hQ)

set_option maxHeartbeats 2000000 in
set_option maxRecDepth 100000 in
theorem build_any (count : Nat) (rev : Bool) (w : World) (hc : count ≤ 1200) :
    Calls Yba.prog 5 #[.int .i64 count, .bool rev] w fun e w' =>
      e = .returned (.tuple #[.pointer (some ⟨w.heap.size + 1 + count, 0, none⟩), .slice (some ⟨w.heap.size, 0, none⟩) count count]) ∧ QOk w' (w.heap.size + 1 + count) w.heap.size count (fun _ => true) ∧ Below w.heap.size w w' ∧ w.heap.size + 1 + count < w'.heap.size := by
  have hmk := fun w => run_make_row' (P := Yba.prog) 25 30 (.pointer none) 8 Yba.underlying25 Yba.info30 rfl .i64 .i64 count (by omega) (by omega) w
  rw [made_one] at hmk
  go_enter Yba.func5, Yba.ntmps5
  go_wp2
  go_loopw [7] (fun s7 wr => ∃ k : Nat, s7 = .int .i64 k ∧ k ≤ count ∧ Hid (BuildA w count k wr)) (fun s7 _ => count - (intOf s7).toNat)
  case atStart => exact ⟨0, rfl, by omega, buildA_start w count⟩
  case round =>
    obtain ⟨k, rfl, hk, hA⟩ := hrel
    by_cases hkc : k < count
    · have hcell : wr.cell? ⟨w.heap.size, k, none⟩ = some (.pointer none) := by
        rw [(unhide hA).row.cell, List.getElem?_append_right (by simp), List.length_map, List.length_range, Nat.sub_self, List.getElem?_replicate, if_pos (by omega)]
      have hfz : wr.frozen? ⟨w.heap.size, k, none⟩ = false := (unhide hA).row.frozen _
      have hlt : w.heap.size < wr.heap.size := (unhide hA).row.lt
      have hst := hide (buildA_step (unhide hA) hkc (2 * (k : Int)) (by omega))
      go_wp2
      go_roundw
      case rel => exact ⟨k + 1, by go_num, by omega, hst⟩
      case measure => simp [intOf]; omega
    · obtain rfl : k = count := by omega
      obtain ⟨Qn, hQn⟩ : ∃ Qn, wr.heap.size = Qn := ⟨_, rfl⟩
      have hQe : Qn = w.heap.size + 1 + k := by rw [← hQn]; exact (unhide hA).size
      have hq : QOk (wr.alloc (.cells #[.slice none 0 0] 44)) Qn w.heap.size k (fun _ => false) := by rw [hQe]; exact qok_new (unhide hA)
      have Hq := hide hq
      obtain ⟨W1, hW1⟩ : ∃ W1, W1 = wr.alloc (.cells #[.slice none 0 0] 44) := ⟨_, rfl⟩
      have hb1 : Below w.heap.size w W1 := by rw [hW1]; exact (unhide hA).bel.alloc (unhide hA).bel.size _
      have hs1 : Qn < W1.heap.size := by rw [hW1, World.size_alloc, hQn]; omega
      have HW1 := hide hW1
      have Hb1 := hide hb1
      have Hs1 := hide hs1
      have HQe := hide hQe
      clear hkc hq hW1 hb1 hs1 hQe
      go_wp2
      go_loopw [9] (fun s9 wr2 => ∃ j : Nat, s9 = .int .i64 j ∧ j ≤ k ∧ Hid (QOk wr2 Qn w.heap.size k (bP rev k j) ∧ FrQ Qn W1 wr2)) (fun s9 _ => k - (intOf s9).toNat)
      case atStart =>
        refine ⟨0, rfl, by omega, (unhide Hq).congr (fun i hi => ?_), by rw [unhide HW1]; exact FrQ.refl _ _⟩
        unfold bP; cases rev <;> simp; omega
      case round =>
        clear hA hmk Hq
        obtain ⟨j, rfl, hj, hst⟩ := hrel
        by_cases hjk : j < k
        · cases rev with
          | false =>
            have hcell := (unhide hst).1.cell hjk
            have hadd := hide ((unhide hst).1.add (by omega) hjk (by simp [bP]))
            go_wp2_with fail
            refine (unhide hadd).mono ?_
            rintro e w' ⟨rfl, hQ', hF'⟩
            have hn : Hid (QOk w' Qn w.heap.size k (bP false k (j + 1)) ∧ FrQ Qn W1 w') := by
              refine ⟨hQ'.congr (fun i hi => ?_), (unhide hst).2.trans hF'⟩
              unfold addP bP; simp; rw [Bool.eq_iff_iff]; simp; omega
            clear hQ' hF' hadd hcell
            go_wp2
            go_roundw
            case rel => exact ⟨j + 1, by go_num, by omega, hn⟩
            case measure => simp [intOf]; omega
          | true =>
            have hcell := (unhide hst).1.cell (k := k - 1 - j) (by omega)
            have hadd := hide ((unhide hst).1.add (by omega) (k := k - 1 - j) (by omega) (by simp [bP]; omega))
            go_wp2_with fail
            refine (unhide hadd).mono ?_
            rintro e w' ⟨rfl, hQ', hF'⟩
            have hn : Hid (QOk w' Qn w.heap.size k (bP true k (j + 1)) ∧ FrQ Qn W1 w') := by
              refine ⟨hQ'.congr (fun i hi => ?_), (unhide hst).2.trans hF'⟩
              unfold addP bP; simp; rw [Bool.eq_iff_iff]; simp; omega
            clear hQ' hF' hadd hcell
            go_wp2
            go_roundw
            case rel => exact ⟨j + 1, by go_num, by omega, hn⟩
            case measure => simp [intOf]; omega
        · obtain rfl : j = k := by omega
          clear hjk
          go_wp2
          go_ret2
          obtain ⟨h1, h2⟩ := unhide hst
          have e := unhide HQe
          subst e
          refine ⟨rfl, h1.congr (fun i hi => ?_), frq_bel (unhide Hb1) h2 (by omega) (Nat.le_of_lt (unhide Hs1)), Nat.lt_of_lt_of_le (unhide Hs1) h2.size⟩
          unfold bP; cases rev <;> simp; omega
end Go.Proofs.Ybulkbrdi
