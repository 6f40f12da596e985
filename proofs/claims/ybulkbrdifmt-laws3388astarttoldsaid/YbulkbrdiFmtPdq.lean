/-
  b3388aF: slices.pdqsortOrdered, slices.Sort at uint32.
-/
import Derived.Test.YbulkbrdiFmtPd
namespace Go.Proofs.YbulkbrdiFmt
open Go.RowKit
set_option linter.unusedVariables false
set_option linter.unusedSimpArgs false

set_option maxHeartbeats 4000000 in
set_option maxRecDepth 100000 in
theorem pdq_any : ∀ (M g n a b l : Nat) (d : Array Nat) (w : World), b - a = M → Blk w g 53 (rowV d) → d.size = n → n ≤ 1024 → a ≤ b → b ≤ n → Sort.Below ltN a b d → l ≤ 64 →
    Calls Ybaf.prog 11 #[.slice (some ⟨g, 0, none⟩) n n, .int .i64 a, .int .i64 b, .int .i64 l] w fun e w' => e = .returned (.tuple #[]) ∧ ∃ d', Rw w g n d' w' ∧ Sort.PermIn a b d d' ∧ Sort.SortedIn ltN a b d' := by
  intro M
  induction M using Nat.strongRecOn with
  | _ M ih =>
  intro g n a b l d w hM hB hd hn hab hb hBel hl
  have H := hide (Pd.start hB hd hBel)
  clear hB hd hBel
  have IH := hide ih
  clear ih
  go_enter Ybaf.func11, Ybaf.ntmps11
  go_wp2_with fail
  go_loopw [1, 2, 3, 8, 9] (fun s1 s2 s3 s8 s9 wr => ∃ (a1 b1 l : Nat) (wb wp : Bool) (dc : Array Nat), s1 = .int .i64 a1 ∧ s2 = .int .i64 b1 ∧ s3 = .int .i64 l ∧ s8 = .bool wb ∧ s9 = .bool wp ∧ a ≤ a1 ∧ a1 ≤ b1 ∧ b1 ≤ b ∧ l ≤ 64 ∧ Hid (Pd w g n a b d a1 b1 dc wr)) (fun s1 s2 _ _ _ _ => (intOf s2 - intOf s1).toNat)
  case atStart => exact ⟨a, b, l, true, true, d, rfl, rfl, rfl, rfl, rfl, by omega, by omega, by omega, hl, H⟩
  case round =>
    clear H
    clear hl
    obtain ⟨a1, b1, l, wb, wp, dc, rfl, rfl, rfl, rfl, rfl, ha1, hab1, hbb1, hl, hst⟩ := hrel
    obtain ⟨m, hm⟩ : ∃ m, m = b1 - a1 := ⟨_, rfl⟩
    have em : (b1 : Int) - (a1 : Int) = (m : Int) := by omega
    have hm1 : a1 + m = b1 := by omega
    have hb1 : b1 ≤ n := by omega
    have hmn : m ≤ 1024 := by omega
    clear hm
    by_cases h12 : m ≤ 12
    · have d1 : decide ((m : Int) ≤ 12) = true := by simp; omega
      have HI := hide (ins_any g n a1 b1 dc wr (unhide hst).rw.row (unhide hst).rw.size hn hab1 hb1)
      go_wp2_with fail
      refine (unhide HI).mono ?_
      rintro e w2 ⟨rfl, hR⟩
      have HE : Hid (∃ d', Rw w g n d' w2 ∧ Sort.PermIn a b d d' ∧ Sort.SortedIn ltN a b d') := by
        obtain ⟨h1, h2⟩ := Sort.insertionSort_holds swo dc a1 b1 hab1 (by rw [(unhide hst).rw.size]; exact hb1)
        exact ⟨_, (unhide hst).rw.trans hR, (unhide hst).fin _ h1 h2⟩
      clear hR
      go_wp2_with fail
      go_returns
      exact ⟨rfl, HE.out⟩
    · have d1 : decide ((m : Int) ≤ 12) = false := by simp; omega
      by_cases hl0 : l = 0
      · have d2 : ((l : Int) == 0) = true := by simp; omega
        have HI := hide (heap_any g n a1 b1 dc wr (unhide hst).rw.row (unhide hst).rw.size hn (by omega) hb1)
        clear hl0
        go_wp2_with fail
        refine (unhide HI).mono ?_
        rintro e w2 ⟨rfl, hR⟩
        have HE : Hid (∃ d', Rw w g n d' w2 ∧ Sort.PermIn a b d d' ∧ Sort.SortedIn ltN a b d') := by
          obtain ⟨h1, h2⟩ := Sort.heapSort_holds swo dc a1 b1 hab1 (by rw [(unhide hst).rw.size]; exact hb1)
          exact ⟨_, (unhide hst).rw.trans hR, (unhide hst).fin _ h1 h2⟩
        clear hR
        go_wp2_with fail
        go_returns
        exact ⟨rfl, HE.out⟩
      · have d2 : ((l : Int) == 0) = false := by simp; omega
        have hl1 : 1 ≤ l := by omega
        clear hl0
        go_upto_if 35 with fail
        go_cut [3] (fun s3 wd => ∃ (l' : Nat) (dc : Array Nat), s3 = .int .i64 l' ∧ l' ≤ 64 ∧ Hid (Pd w g n a b d a1 b1 dc wd))
        case first =>
          cases wb with
          | true =>
            go_wp2_with fail
            go_meet
            case rel => exact ⟨l, dc, rfl, hl, hst⟩
          | false =>
            have HI := hide (brk_any g n a1 b1 dc wr (unhide hst).rw.row (unhide hst).rw.size hn (by omega) hb1)
            go_wp2_with fail
            refine (unhide HI).mono ?_
            rintro e w2 ⟨rfl, d', hP⟩
            have HN := hide ((unhide hst).perm hP.rw hP.perm hb1)
            clear hP HI
            go_wp2_with fail
            go_meet
            case rel => exact ⟨l - 1, d', by go_num, by omega, HN⟩
        case rest =>
          clear hst
          obtain ⟨l', dc, rfl, hl'64, hst⟩ := hcut
          have HI := hide (piv_any g n a1 b1 dc wc (unhide hst).rw.row (unhide hst).rw.size hn (by omega) hb1)
          go_wp2_with fail
          refine (unhide HI).mono ?_
          rintro e w2 ⟨p, t, rfl, hp1, hp2, ht, hR⟩
          have HN := hide ((unhide hst).perm hR (Sort.permIn_refl _ _ _) hb1)
          clear hR HI hst
          go_upto_if 50 with fail
          go_cut [11, 12] (fun s11 s12 wd => ∃ (p t : Nat) (dc : Array Nat), s11 = .int .i64 p ∧ s12 = .int .i64 t ∧ a1 ≤ p ∧ p < b1 ∧ t ≤ 2 ∧ Hid (Pd w g n a b d a1 b1 dc wd))
          case first =>
            by_cases ht2 : t = 2
            · have d3 : ((t : Int) == 2) = true := by simp; omega
              have HI := hide (rev_any g n a1 b1 dc w2 (unhide HN).rw.row (unhide HN).rw.size hn (by omega) hb1)
              clear ht2
              go_wp2_with fail
              refine (unhide HI).mono ?_
              rintro e w3 ⟨rfl, d', hP⟩
              have HN2 := hide ((unhide HN).perm hP.rw hP.perm hb1)
              clear hP HI HN
              go_wp2_with fail
              go_meet
              case rel => exact ⟨(b1 - 1) - (p - a1), 1, d', by go_num, rfl, by omega, by omega, by omega, HN2⟩
            · have d3 : ((t : Int) == 2) = false := by simp; omega
              clear ht2
              go_wp2_with fail
              go_meet
              case rel => exact ⟨p, t, dc, rfl, rfl, hp1, hp2, ht, HN⟩
          case rest =>
            clear HN
            clear hp1 hp2 ht
            obtain ⟨p, t, dc, rfl, rfl, hp1, hp2, ht, hst⟩ := hcut
            obtain ⟨c, hc⟩ : ∃ c : Bool, c = (wb && wp && decide (t = 1)) := ⟨_, rfl⟩
            have HC := hide hc
            clear hc
            go_upto_region 15 with fail
            go_cut [68] (fun s68 wd => s68 = .bool c ∧ Hid (Pd w g n a b d a1 b1 dc wd))
            case first =>
              cases wb with
              | false =>
                go_wp2_with fail
                go_meet
                case rel => exact ⟨by rw [unhide HC]; rfl, hst⟩
              | true =>
                cases wp with
                | false =>
                  go_wp2_with fail
                  go_meet
                  case rel => exact ⟨by rw [unhide HC]; rfl, hst⟩
                | true =>
                  by_cases ht1 : t = 1
                  · have d4 : ((t : Int) == 1) = true := by simp; omega
                    have HC2 : Hid (c = true) := by show c = true; rw [unhide HC]; simp [ht1]
                    clear ht1
                    go_wp2_with fail
                    go_meet
                    case rel => exact ⟨by rw [unhide HC2], hst⟩
                  · have d4 : ((t : Int) == 1) = false := by simp; omega
                    have HC2 : Hid (c = false) := by show c = false; rw [unhide HC]; simp [ht1]
                    clear ht1
                    go_wp2_with fail
                    go_meet
                    case rel => exact ⟨by rw [unhide HC2], hst⟩
            case rest =>
             clear hst
             obtain ⟨rfl, hst⟩ := hcut
             clear HC
             go_upto_if 68 with fail
             go_cut [] (fun wd => ∃ (dc : Array Nat), Hid (Pd w g n a b d a1 b1 dc wd))
             case first =>
              cases c with
              | true =>
                have HI := hide (pis_any g n a1 b1 dc wc (unhide hst).rw.row (unhide hst).rw.size hn (by omega) hb1 (unhide hst).below)
                go_wp2_with fail
                refine (unhide HI).mono ?_
                rintro e w3 ⟨r, d', rfl, hR, hP, hS⟩
                have HN2 := hide ((unhide hst).perm hR hP hb1)
                cases r with
                | true =>
                  have HE : Hid (∃ d', Rw w g n d' w3 ∧ Sort.PermIn a b d d' ∧ Sort.SortedIn ltN a b d') := ⟨d', (unhide hst).rw.trans hR, (unhide hst).fin _ hP (hS rfl)⟩
                  clear hR hP hS HI
                  go_wp2_with fail
                  go_returns
                  exact ⟨rfl, HE.out⟩
                | false =>
                  clear hR hP hS HI
                  go_wp2_with fail
                  go_meet
                  case rel => exact ⟨d', HN2⟩
              | false =>
                go_wp2_with fail
                go_meet
                case rel => exact ⟨dc, hst⟩
             case rest =>
              clear hst
              obtain ⟨dc, hst⟩ := hcut
              have ih := unhide IH
              obtain ⟨x, hx⟩ : ∃ x, x = dc[p]! := ⟨_, rfl⟩
              have c1 : wc.cell? ⟨g, p, none⟩ = some (.int .u32 (x : Int)) := by rw [hx]; exact (unhide hst).rw.get (by omega)
              have z1 : (p : Int) < (n : Int) := by omega
              have HPA : Hid (∀ q, Calls Ybaf.prog 29 #[.slice (some ⟨g, 0, none⟩) n n, .int .i64 a1, .int .i64 b1, .int .i64 p] (wc.drewN q) fun e w' => ∃ (mid : Nat) (ap : Bool) (d' : Array Nat), e = .returned (.tuple #[.int .i64 mid, .bool ap]) ∧ Rw wc g n d' w' ∧ PaOk a1 b1 mid dc d') := fun q =>
                (pa_any g n a1 b1 p dc (wc.drewN q) (unhide hst).rw.row (unhide hst).rw.size hn (by omega) hb1 ⟨hp1, hp2⟩).mono fun e w' ⟨mid, ap, d', h1, h2, h3⟩ => ⟨mid, ap, d', h1, ⟨h2.row, h2.size, ⟨h2.fr.os, h2.fr.tape, h2.fr.output, h2.fr.size, h2.fr.block⟩⟩, h3⟩
              have HX := hide hx
              clear hx
              by_cases ha0 : 0 < a1
              · have d5 : decide ((0 : Int) < (a1 : Int)) = true := by simp; omega
                obtain ⟨q, hq⟩ : ∃ q, q = a1 - 1 := ⟨_, rfl⟩
                have zq : IntKind.i64.wrap ((a1 : Int) - 1) = (q : Int) := by rw [IntKind.wrap_i64] <;> omega
                obtain ⟨y, hy⟩ : ∃ y, y = dc[q]! := ⟨_, rfl⟩
                have c0 : wc.cell? ⟨g, q, none⟩ = some (.int .u32 (y : Int)) := by rw [hy]; exact (unhide hst).rw.get (by omega)
                have z2 : (q : Int) < (n : Int) := by omega
                have HY : Hid (y = dc[a1 - 1]!) := by show y = _; rw [hy, hq]
                clear hy hq
                by_cases hl3 : ltN y x = true
                · go_wp2_with fail
                  go_quiet (first | (go_at_call 27; refine (less_any _ _ _).mono ?_; rintro e w2 ⟨rfl, rfl⟩; exact ⟨rfl, _, rfl⟩))
                  rw [hl3]
                  go_wp2_with fail
                  refine (unhide HPA _).mono ?_
                  rintro e w7 ⟨mid, ap, d4, rfl, hR7, hOk⟩
                  have hm1 := hOk.lo
                  have hm2 := hOk.hi
                  have HR7 := hide hR7
                  have HOk := hide hOk
                  have HBL := hide ((unhide hst).belowL hOk hb1)
                  have HBR := hide (Pd.belowR hOk)
                  obtain ⟨l1, hl1⟩ : ∃ l1, l1 = mid - a1 := ⟨_, rfl⟩
                  obtain ⟨l2, hl2⟩ : ∃ l2, l2 = b1 - mid := ⟨_, rfl⟩
                  have q1 : (mid : Int) - (a1 : Int) = (l1 : Int) := by omega
                  have q2 : (b1 : Int) - (mid : Int) = (l2 : Int) := by omega
                  have q3 : (m : Int).tdiv 8 = ((m / 8 : Nat) : Int) := rfl
                  have HIL := hide (ih l1 (by omega) g n a1 mid l' d4 w7 (by omega) hR7.row hR7.size hn (by omega) (by omega) (unhide HBL) hl'64)
                  have HIR := hide (ih (l2 - 1) (by omega) g n (mid + 1) b1 l' d4 w7 (by omega) hR7.row hR7.size hn (by omega) (by omega) (unhide HBR) hl'64)
                  have b3 : l1 ≤ 1024 := by omega
                  have b4 : l2 ≤ 1024 := by omega
                  clear hR7 hOk HPA hl1 hl2
                  by_cases hll : l1 < l2
                  · have z5 : (l1 : Int) < (l2 : Int) := by omega
                    go_wp2_with fail
                    refine (unhide HIL).mono ?_
                    rintro e w8 ⟨rfl, L, hR8, hP8, hS8⟩
                    have HN := hide ((unhide hst).left (unhide HR7) (unhide HOk) hb1 hR8 hP8 hS8)
                    clear hR8 hP8 hS8 HIL HIR
                    go_wp2_with fail
                    go_roundw
                    case rel => exact ⟨mid + 1, b1, l', _, _, L, by go_num, rfl, rfl, rfl, rfl, by omega, by omega, by omega, hl'64, HN⟩
                    case measure => (try simp [intOf]) <;> (try omega)
                  · have z5 : decide ((l1 : Int) < (l2 : Int)) = false := by simp; omega
                    have q4 : (mid : Int) + 1 = ((mid + 1 : Nat) : Int) := by omega
                    rw [← q4] at HIR
                    clear q4
                    go_wp2_with fail
                    refine (unhide HIR).mono ?_
                    rintro e w8 ⟨rfl, L, hR8, hP8, hS8⟩
                    have HN := hide ((unhide hst).right (unhide HR7) (unhide HOk) hb1 hR8 hP8 hS8)
                    clear hR8 hP8 hS8 HIL HIR
                    go_wp2_with fail
                    go_roundw
                    case rel => exact ⟨a1, mid, l', _, _, L, rfl, rfl, rfl, rfl, rfl, by omega, by omega, by omega, hl'64, HN⟩
                    case measure => (try simp [intOf]) <;> (try omega)
                · have hl3' : ltN y x = false := by simpa using hl3
                  have HPE : Hid (∀ q, Calls Ybaf.prog 28 #[.slice (some ⟨g, 0, none⟩) n n, .int .i64 a1, .int .i64 b1, .int .i64 p] (wc.drewN q) fun e w' => ∃ (mid : Nat) (d' : Array Nat), e = .returned (.int .i64 mid) ∧ Rw wc g n d' w' ∧ PeOk a1 b1 mid dc[p]! dc d') := fun q =>
                    (pe_any g n a1 b1 p dc (wc.drewN q) (unhide hst).rw.row (unhide hst).rw.size hn (by omega) hb1 ⟨hp1, hp2⟩).mono fun e w' ⟨mid, d', h1, h2, h3⟩ => ⟨mid, d', h1, ⟨h2.row, h2.size, ⟨h2.fr.os, h2.fr.tape, h2.fr.output, h2.fr.size, h2.fr.block⟩⟩, h3⟩
                  clear HPA
                  go_wp2_with fail
                  go_quiet (first | (go_at_call 27; refine (less_any _ _ _).mono ?_; rintro e w2 ⟨rfl, rfl⟩; exact ⟨rfl, _, rfl⟩))
                  rw [hl3']
                  go_wp2_with fail
                  refine (unhide HPE _).mono ?_
                  rintro e w7 ⟨mid, d4, rfl, hR7, hOk⟩
                  have hm2 := hOk.lo
                  have hm3 := hOk.hi
                  have HN := hide ((unhide hst).equal hR7 hOk hb1 ha0 (by rw [← unhide HX, ← unhide HY]; exact hl3'))
                  clear hR7 hOk HPE
                  go_wp2_with fail
                  go_roundw
                  case rel => exact ⟨mid, b1, l', wb, wp, d4, rfl, rfl, rfl, rfl, rfl, by omega, by omega, by omega, hl'64, HN⟩
                  case measure => (try simp [intOf]) <;> (try omega)
              · have d5 : decide ((0 : Int) < (a1 : Int)) = false := by simp; omega
                go_wp2_with fail
                go_quiet (fail)
                go_wp2_with fail
                refine (unhide HPA _).mono ?_
                rintro e w7 ⟨mid, ap, d4, rfl, hR7, hOk⟩
                have hm1 := hOk.lo
                have hm2 := hOk.hi
                have HR7 := hide hR7
                have HOk := hide hOk
                have HBL := hide ((unhide hst).belowL hOk hb1)
                have HBR := hide (Pd.belowR hOk)
                obtain ⟨l1, hl1⟩ : ∃ l1, l1 = mid - a1 := ⟨_, rfl⟩
                obtain ⟨l2, hl2⟩ : ∃ l2, l2 = b1 - mid := ⟨_, rfl⟩
                have q1 : (mid : Int) - (a1 : Int) = (l1 : Int) := by omega
                have q2 : (b1 : Int) - (mid : Int) = (l2 : Int) := by omega
                have q3 : (m : Int).tdiv 8 = ((m / 8 : Nat) : Int) := rfl
                have HIL := hide (ih l1 (by omega) g n a1 mid l' d4 w7 (by omega) hR7.row hR7.size hn (by omega) (by omega) (unhide HBL) hl'64)
                have HIR := hide (ih (l2 - 1) (by omega) g n (mid + 1) b1 l' d4 w7 (by omega) hR7.row hR7.size hn (by omega) (by omega) (unhide HBR) hl'64)
                have b3 : l1 ≤ 1024 := by omega
                have b4 : l2 ≤ 1024 := by omega
                clear hR7 hOk HPA hl1 hl2
                by_cases hll : l1 < l2
                · have z5 : (l1 : Int) < (l2 : Int) := by omega
                  go_wp2_with fail
                  refine (unhide HIL).mono ?_
                  rintro e w8 ⟨rfl, L, hR8, hP8, hS8⟩
                  have HN := hide ((unhide hst).left (unhide HR7) (unhide HOk) hb1 hR8 hP8 hS8)
                  clear hR8 hP8 hS8 HIL HIR
                  go_wp2_with fail
                  go_roundw
                  case rel => exact ⟨mid + 1, b1, l', _, _, L, by go_num, rfl, rfl, rfl, rfl, by omega, by omega, by omega, hl'64, HN⟩
                  case measure => (try simp [intOf]) <;> (try omega)
                · have z5 : decide ((l1 : Int) < (l2 : Int)) = false := by simp; omega
                  have q4 : (mid : Int) + 1 = ((mid + 1 : Nat) : Int) := by omega
                  rw [← q4] at HIR
                  clear q4
                  go_wp2_with fail
                  refine (unhide HIR).mono ?_
                  rintro e w8 ⟨rfl, L, hR8, hP8, hS8⟩
                  have HN := hide ((unhide hst).right (unhide HR7) (unhide HOk) hb1 hR8 hP8 hS8)
                  clear hR8 hP8 hS8 HIL HIR
                  go_wp2_with fail
                  go_roundw
                  case rel => exact ⟨a1, mid, l', _, _, L, rfl, rfl, rfl, rfl, rfl, by omega, by omega, by omega, hl'64, HN⟩
                  case measure => (try simp [intOf]) <;> (try omega)
end Go.Proofs.YbulkbrdiFmt
