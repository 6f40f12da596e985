/-
  b3388a: LawS3388BModel: the walk.
-/
import Derived.Test.YbulkbrdiSync
namespace Go.Proofs.Ybulkbrdi
open Go.RowKit
set_option linter.unusedVariables false
set_option linter.unusedSimpArgs false

theorem Yba.info4 : (Yba.prog.info? 4).map (fun i => (i.zero, i.size, i.bytes)) = some (some (.bool false), 1, 1) := by kernel_rfl

set_option maxHeartbeats 4000000 in
set_option maxRecDepth 100000 in
theorem model_walk (n st : Nat) (rev : Bool) (a3 : Option Addr) (len3 cap3 : Nat) (w : World) (hn : n ≤ 65535) (hst : st ≤ 255) (hl3 : len3 ≤ 1024)
    (h3 : len3 = 0 ∨ ∃ b off, a3 = some ⟨b, off, none⟩ ∧ b < w.heap.size ∧ ∀ i, i < len3 → ∃ r : Nat, r ≤ 65535 ∧ w.cell? ⟨b, off + i, none⟩ = some (.int .u16 r)) :
    Calls Yba.prog 3 #[.int .u16 n, .int .u8 st, .bool rev, .slice a3 len3 cap3] w fun e w' => e = .returned (.bool true) ∧ Below w.heap.size w w' := by
  obtain ⟨count, hcnt⟩ : ∃ count : Nat, (n : Int) % 1201 = (count : Int) := ⟨n % 1201, by omega⟩
  have hc : count ≤ 1200 := by omega
  have hmk := fun w => run_make_row' (P := Yba.prog) 28 4 (.bool false) 1 Yba.underlying28 Yba.info4 rfl .i64 .i64 count (by omega) (by omega) w
  rw [made_one] at hmk
  have HB := hide (build_any count rev w hc)
  have H3 := hide h3
  clear h3
  go_enter Yba.func3, Yba.ntmps3
  go_wp2_with fail
  refine (unhide HB).mono ?_
  rintro e w1 ⟨rfl, hQ1, hb1, hs1⟩
  have HF := hide (fill_start hQ1 hb1 (by omega))
  obtain ⟨PB, hPB⟩ : ∃ PB, w1.heap.size = PB := ⟨_, rfl⟩
  rw [hPB] at HF
  clear hQ1 hb1 HB hs1
  go_wp2
  go_loopw [35] (fun s35 wr => ∃ k : Nat, s35 = .int .i64 k ∧ k ≤ count ∧ Hid (Fill w (w.heap.size + 1 + count) w.heap.size PB count k wr)) (fun s35 _ => count - (intOf s35).toNat)
  case atStart => exact ⟨0, rfl, by omega, HF⟩
  case round =>
    clear HF hmk
    obtain ⟨k, rfl, hk, hF⟩ := hrel
    by_cases hkc : k < count
    · obtain ⟨v, hcell⟩ := (unhide hF).cell hkc
      have hfz := (unhide hF).frozen k
      have hst := hide ((unhide hF).step hkc)
      go_wp2
      go_roundw
      case rel => exact ⟨k + 1, by go_num, by omega, hst⟩
      case measure => simp [intOf]; omega
    · obtain rfl : count = k := by omega
      have hS := hide (unhide hF).done
      clear hF hkc
      obtain ⟨s, hs⟩ : ∃ s : Nat, (st : Int) % 8 = (s : Int) := ⟨st % 8, by omega⟩
      have hs8 : s ≤ 7 := by omega
      obtain ⟨d, hd⟩ : ∃ d : Bool, decide ((2 : Int) ≤ (s : Int)) = d := ⟨_, rfl⟩
      go_upto_if 46 with fail
      have Hd := hide hd
      clear hs hd
      go_cut [15] (fun s15 wc => Hid (Sync w (w.heap.size + 1 + count) w.heap.size PB count wc))
      case first =>
        cases d with
        | true =>
          have h2 : 2 ≤ s := by have := unhide Hd; simp at this; omega
          go_wp2
          go_loopw [15] (fun s15 wr => ∃ k : Nat, s15 = .int .i64 k ∧ k ≤ count + 7 ∧ Hid (Sync w (w.heap.size + 1 + count) w.heap.size PB count wr)) (fun s15 _ => count - (intOf s15).toNat)
          case atStart => exact ⟨0, rfl, by omega, hS⟩
          case round =>
            clear hS
            obtain ⟨k, rfl, hk, hS⟩ := hrel
            by_cases hkc : k < count
            · have hrem := hide ((unhide hS).rem hc (2 * k) (2 * (k : Int)) (by omega))
              unfold mcells at hrem
              go_wp2_with fail
              refine (unhide hrem).mono ?_
              rintro e w2 ⟨rfl, hH⟩
              obtain ⟨v, hcell⟩ := hH.cell hkc
              have hfz := hH.frozen k
              have hst2 := hide (hH.set hkc rfl)
              clear hH hrem hS
              go_wp2
              go_roundw
              case rel => exact ⟨k + s, by go_num, by omega, hst2⟩
              case measure => simp [intOf]; omega
            · go_wp2_with fail
              go_meet
              case rel => exact hS
        | false =>
          go_wp2_with fail
          go_meet
          case rel => exact hS
      case rest =>
        clear hS
        rcases unhide H3 with h0 | ⟨b, off, rfl, hbw, hz⟩
        · subst h0
          go_wp2_with fail
          refine wp_loop_rounds 1 ?_
          rw [rounds_succ]
          go_wp2_with fail
          have hchk := hide ((unhide hcut).check hc count count)
          refine (unhide hchk).mono ?_
          rintro e w2 ⟨rfl, rfl⟩
          have hbel := hide (unhide hcut).bel
          clear hchk
          go_wp2
          go_ret
          exact ⟨rfl, unhide hbel⟩
        · have HZ := hide hz
          clear hz H3
          go_wp2
          go_loopw [65] (fun s65 wr => ∃ i : Nat, s65 = .int .i64 i ∧ i ≤ len3 ∧ Hid (Sync w (w.heap.size + 1 + count) w.heap.size PB count wr)) (fun s65 _ => len3 - (intOf s65).toNat)
          case atStart => exact ⟨0, rfl, by omega, hcut⟩
          case round =>
            clear hcut
            obtain ⟨i, rfl, hi, hS⟩ := hrel
            by_cases hil : i < len3
            · obtain ⟨r, hr, hcr⟩ := unhide HZ i hil
              have hcr' : wr.cell? ⟨b, off + i, none⟩ = some (.int .u16 r) := ((unhide hS).bel.cell hbw).trans hcr
              obtain ⟨t, ht⟩ : ∃ t : Nat, (r : Int) % (2 * (count : Int) + 2) = (t : Int) := ⟨r % (2 * count + 2), by simp⟩
              have htl : t ≤ 2 * count + 1 := by have := Int.emod_lt_of_pos (r : Int) (by omega : (0 : Int) < 2 * (count : Int) + 2); omega
              have hrem := hide ((unhide hS).rem hc t (t : Int) rfl)
              unfold mcells at hrem
              go_wp2_with fail
              refine (unhide hrem).mono ?_
              rintro e w2 ⟨rfl, hH⟩
              clear hrem hcr hcr' hS
              by_cases hev : t % 2 = 0 ∧ t / 2 < count
              · obtain ⟨hev, hlt⟩ := hev
                obtain ⟨v, hcell⟩ := hH.cell hlt
                have hfz := hH.frozen (t / 2)
                have hst2 := hide (hH.set hlt (by omega))
                have q1 : ((t : Int) % 2 == 0) = true := by simp; omega
                have q2 : (t : Int) / 2 < (count : Int) := by omega
                clear hH
                go_wp2
                go_roundw
                case rel => exact ⟨i + 1, by go_num, by omega, hst2⟩
                case measure => simp [intOf]; omega
              · have hst2 := hide (hH.same (fun k hk => by omega))
                clear hH
                by_cases hodd : t % 2 = 0
                · have q1 : ((t : Int) % 2 == 0) = true := by simp; omega
                  have q2 : decide ((t : Int) / 2 < (count : Int)) = false := by simp; omega
                  clear hev hodd
                  go_wp2
                  go_roundw
                  case rel => exact ⟨i + 1, by go_num, by omega, hst2⟩
                  case measure => simp [intOf]; omega
                · have q1 : ((t : Int) % 2 == 0) = false := by simp; omega
                  clear hev hodd
                  go_wp2
                  go_roundw
                  case rel => exact ⟨i + 1, by go_num, by omega, hst2⟩
                  case measure => simp [intOf]; omega
            · have hchk := hide ((unhide hS).check hc count count)
              have hbel := hide (unhide hS).bel
              clear hS
              go_wp2_with fail
              refine (unhide hchk).mono ?_
              rintro e w2 ⟨rfl, rfl⟩
              clear hchk
              go_wp2
              go_ret
              exact ⟨rfl, unhide hbel⟩
end Go.Proofs.Ybulkbrdi
