/-
  b3389a: fidelity.New where every operator gives its rates.
-/
import Derived.Test.YbulkbrdwNewO
namespace Go.Proofs.Ybulkbrdw
open Go.RowKit
set_option linter.unusedVariables false
set_option linter.unusedSimpArgs false
attribute [local go_sem] run_store_float

set_option maxHeartbeats 2000000 in
set_option maxRecDepth 100000 in
theorem new_good (T O n : Nat) (L : Nat → Nat) (jn nr : Nat → Bool) (rb : Nat → Nat) (rt : Nat → Nat → Nat) (w : World) (h : TopOk w T O n L jn nr rb rt) (hn : n ≤ 300) (hL : sL L n ≤ 4096) (hpos : 0 < sL L n) (hnr : ∀ k, k < n → nr k = false) (hrt : ∀ k i, rt k i ≤ 65535) :
    Calls Yba.prog 8 #[.pointer (some ⟨T, 0, none⟩)] w fun e w' => e = .returned (.tuple #[.pointer (some ⟨w.heap.size, 0, none⟩), .nilIface]) ∧ ∃ tg ct og co g c, NewOk w L jn rt n (maxTo (rAt L rt n) (sL L n - 1)) tg ct og co g c w' := by
  have hTl := h.top.lt
  have hOl := Blk.lt h.ops
  have cT : w.cell? ⟨T, 1, none⟩ = some (.slice (some ⟨O, 0, none⟩) n n) := by rw [h.top.cell]; rfl
  have H := hide h
  have HNR := hide hnr
  have HRT := hide hrt
  obtain ⟨i27, hi27, hz27, hs27, hb27⟩ := info_parts (P := Yba.prog) (e := 27) (z := .float .f64 0) (size := 1) (bytes := 8) (by kernel_rfl)
  clear h hnr hrt
  go_enter Yba.func8, Yba.ntmps8
  go_wp2
  go_loopw [35] (fun s35 wr => ∃ k : Nat, s35 = .int .i64 k ∧ k ≤ n ∧ Hid (∃ s, N1 w L rt k s wr)) (fun s35 _ => n - (intOf s35).toNat)
  case atStart => exact ⟨0, rfl, by omega, _, n1_start w L rt⟩
  case round =>
    obtain ⟨k, rfl, hk, hst⟩ := hrel
    obtain ⟨s, hN⟩ := unhide hst
    by_cases hkn : k < n
    · have hT := (unhide H).kept hN.fr
      have cc := fun j hj => hT.ops.cell hkn j hj
      have c0 : wr.cell? ⟨O, k * 7, none⟩ = some (.string (nameOf (k + 1))) := cc 0 (by omega)
      have c1 : wr.cell? ⟨O, k * 7 + 1, none⟩ = some (.int .i64 (L k)) := cc 1 (by omega)
      have c2 : wr.cell? ⟨O, k * 7 + 2, none⟩ = some (.slice none 0 0) := cc 2 (by omega)
      have c3 : wr.cell? ⟨O, k * 7 + 3, none⟩ = some (.string ⟨#[]⟩) := cc 3 (by omega)
      have c4 : wr.cell? ⟨O, k * 7 + 4, none⟩ = some (.bool (jn k)) := cc 4 (by omega)
      have c5 : wr.cell? ⟨O, k * 7 + 5, none⟩ = some (.slice (some ⟨rb k, 0, none⟩) (L k) (L k)) := by rw [cc 5 (by omega)]; simp [opc, rvF, unhide HNR k hkn]
      have c6 : wr.cell? ⟨O, k * 7 + 6, none⟩ = some (.map none) := cc 6 (by omega)
      have cM : wr.cell? ⟨w.heap.size, 2, none⟩ = some s := by rw [hN.m.cell]; rfl
      have fM : wr.frozen? ⟨w.heap.size, 2, none⟩ = false := hN.m.frozen _
      have hnil : ∀ w, (binOp .eql 25 (.slice (some ⟨rb k, 0, none⟩) (L k) (L k)) (.slice none 0 0)).run Yba.prog w = .ok (.bool false) w := fun w => Lib.run_eql_slice_nil w 25 27 (some ⟨rb k, 0, none⟩) (L k) (L k) 0 0 Yba.underlying25
      have z1 : (k : Int) < (n : Int) := by omega
      have HN := hide hN
      obtain ⟨W0, hW0⟩ : ∃ W0, W0 = wr.alloc (.cells #[.string (nameOf (k + 1)), .int .i64 (L k), .slice none 0 0, .string ⟨#[]⟩, .bool (jn k), .slice (some ⟨rb k, 0, none⟩) (L k) (L k), .map none] 47) := ⟨_, rfl⟩
      have X : Hid (∀ W : World, W.heap = W0.heap → W.ownsRow (w.heap.size + 1) 27 1 s (sL L k) (fl (flatN L rt k))) := fun W hW => owns_heap (owns_kept hN.own ((Fr.refl (fun _ => False) wr).alloc _) (fun _ _ => id)) (by rw [hW, hW0])
      have hrb : Blk W0 (rb k) 27 (fl ((List.range (L k)).map (rt k))) := by rw [hW0]; exact (hT.rts k hkn (unhide HNR k hkn)).alloc _
      have Y : Hid (∀ W : World, W.heap = W0.heap → ∀ j u, (fl ((List.range (L k)).map (rt k)))[j]? = some u → W.cell? ((⟨rb k, 0, none⟩ : Addr).add j) = some u) := fun W hW j u hu => by
        rw [Addr.add_lit, Nat.zero_add, (blk_heap hrb hW).cell]; exact hu
      have LL : Hid ((fl ((List.range (L k)).map (rt k))).length = L k * 1) := by show (fl ((List.range (L k)).map (rt k))).length = L k * 1; simp [fl]
      have hMs : Hid (some w.heap.size ≠ s.ownBlock) := fun e => by have := owns_base hN.own _ e.symm; omega
      have hsum : sL L k + L k ≤ 4096 := by have := sL_mono L (a := k + 1) (b := n) (by omega); have e : sL L (k + 1) = sL L k + L k := rfl; omega
      have hMl : w.heap.size < W0.heap.size := by rw [hW0]; exact (hN.m.alloc _).lt
      have cM0 : Hid (W0.cell? ⟨w.heap.size, 2, none⟩ = some s) := by show W0.cell? _ = _; rw [hW0, (hN.m.alloc _).cell]; rfl
      have fM0 : Hid (W0.frozen? ⟨w.heap.size, 2, none⟩ = false) := by show W0.frozen? _ = _; rw [hW0]; exact (hN.m.alloc _).frozen _
      have hbs : w.heap.size + 1 ≤ W0.heap.size := hMl
      have HW0 := hide hW0
      have hMl2 : w.heap.size < wr.heap.size := hN.m.lt
      clear cc hT hN hst hrb hW0
      go_wp2_with fail
      go_region_law (refine step_append_at _ (by rfl) _ _ _ (by rfl) (w.heap.size + 1) 27 i27 (.float .f64 0) 1 8 Yba.underlying25 hi27 hz27 hs27 hb27 rfl (by omega) _ (sL L k) (fl (flatN L rt k)) (by rfl) (X.out _ (by rw [HW0.out]; rfl)) ⟨rb k, 0, none⟩ (L k) (L k) (fl ((List.range (L k)).map (rt k))) (by rfl) LL.out (Y.out _ (by rw [HW0.out]; rfl)) (fl_one _) (by unfold maxLen; omega) (by omega) (by have := hbs; rw [HW0.out] at this; exact this) ?_; intro v' w1 hown1 hgrow; obtain ⟨a', c', rfl⟩ := owns_slice hown1; have k0 : w1.cell? ⟨w.heap.size, 2, none⟩ = some s := (hgrow.cell_far _ (by have := hbs; rw [HW0.out] at this; exact this) hMs.out).trans (by have := cM0.out; rw [HW0.out] at this; exact this); have k1 : w1.frozen? ⟨w.heap.size, 2, none⟩ = false := (hgrow.frozen_far _ (by have := hbs; rw [HW0.out] at this; exact this) hMs.out).trans (by have := fM0.out; rw [HW0.out] at this; exact this))
      all_goals
        have HNx := hide ((unhide HN).next (o := .cells #[.string (nameOf (k + 1)), .int .i64 (L k), .slice none 0 0, .string ⟨#[]⟩, .bool (jn k), .slice (some ⟨rb k, 0, none⟩) (L k) (L k), .map none] 47) (by exact ⟨rfl, rfl, rfl, rfl⟩) hown1 hgrow)
        clear hown1 hgrow X Y LL cM0 fM0 HW0
        go_wp2_with fail
        go_roundw
        case rel => exact ⟨k + 1, by go_num, by omega, _, HNx⟩
        case measure => simp [intOf]; omega
    · obtain rfl : n = k := by omega
      obtain ⟨g, c, rfl, hg1, hg2⟩ := hN.own.form hpos
      obtain ⟨tl, hB, hl, hcap, hcM, hnc, hgb⟩ := blk_of_owns hN.own
      obtain ⟨N, hNe⟩ : ∃ N, sL L n = N + 1 := ⟨sL L n - 1, by omega⟩
      obtain ⟨mx, hmx⟩ : ∃ mx, mx = maxTo (rAt L rt n) N := ⟨_, rfl⟩
      have hmx2 : mx ≤ 65535 := by rw [hmx]; exact maxTo_le (fun i => rAt_le (unhide HRT) n i) N
      have hB2 : Blk wr g 27 ((List.range (N + 1)).map (fun i => .float .f64 (fi ((rAt L rt n i : Nat) : Int))) ++ tl) := by
        have e := fl_range (flatN L rt n)
        rw [flatN_length, hNe] at e
        rw [e] at hB; exact hB
      have HMx := hide (max_any g N c (rAt L rt n) wr (by omega) (by omega) tl hB2 (fun i => rAt_le (unhide HRT) n i))
      rw [← hmx] at HMx
      have cM : wr.cell? ⟨w.heap.size, 2, none⟩ = some (.slice (some ⟨g, 0, none⟩) (N + 1) c) := by rw [hN.m.cell, hNe]; rfl
      have HN := hide hN
      have HB2 := hide hB2
      have HNe := hide hNe
      have hNb : N ≤ 4096 := by omega
      have HMe := hide hmx
      clear hN hst hB hB2 hl hkn hk hmx hNe
      go_wp2_with fail
      refine (unhide HMx).mono ?_
      rintro e w2 ⟨rfl, rfl⟩
      clear HMx
      have d0 : (FloatKind.f64.format.order (fi mx) 0 == some .gt) = decide (0 < mx) := by have := order_zero (z := (mx : Int)) (by omega); rw [show decide (0 < (mx : Int)) = decide (0 < mx) from by rw [Bool.eq_iff_iff]; simp] at this; exact this
      go_upto_if 64 with fail
      clear d0
      go_cut [0, 4] (fun s0 s4 wc => s0 = .pointer (some ⟨T, 0, none⟩) ∧ s4 = .pointer (some ⟨w.heap.size, 0, none⟩) ∧ Hid (N2 w L rt n mx g c tl wc))
      case first =>
        by_cases hm0 : 0 < mx
        · have HQ : Hid (∀ i, floatBits .quo .f64 (fi ((rAt L rt n i : Nat) : Int)) (fi (mx : Int)) = some (qf (rAt L rt n i) mx)) := fun i => (qf_ok (rAt_le (unhide HRT) n i) hmx2 hm0).1
          go_wp2_with fail
          go_loopw [70] (fun s70 wr2 => ∃ k : Nat, s70 = .int .i64 k ∧ k ≤ N + 1 ∧ Hid (Blk wr2 w.heap.size 59 [.slice none 0 0, .slice none 0 0, .slice (some ⟨g, 0, none⟩) (N + 1) c] ∧ Blk wr2 g 27 (scaled L rt n mx (N + 1) k ++ tl) ∧ Fr (fun _ => False) w wr2)) (fun s70 _ => N + 1 - (intOf s70).toNat)
          case atStart =>
            refine ⟨0, rfl, by omega, ?_, ?_, (unhide HN).fr⟩
            · have := (unhide HN).m; rw [unhide HNe] at this; exact this
            · have := unhide HB2
              unfold scaled; simpa using this
          case round =>
            obtain ⟨k, rfl, hk, hst⟩ := hrel
            obtain ⟨hm, hr, hf⟩ := unhide hst
            have c0 : wr.cell? ⟨w.heap.size, 2, none⟩ = some (.slice (some ⟨g, 0, none⟩) (N + 1) c) := by rw [hm.cell]; rfl
            by_cases hkN : k < N + 1
            · have c1 : wr.cell? ⟨g, k, none⟩ = some (.float .f64 (fi ((rAt L rt n k : Nat) : Int))) := by rw [hr.cell]; exact scaled_get _ _ _ _ _ _ hkN _
              have f1 : wr.frozen? ⟨g, k, none⟩ = false := hr.frozen _
              have r1 : ∀ w, (binOp .quo 27 (.float .f64 (fi ((rAt L rt n k : Nat) : Int))) (.float .f64 (fi (mx : Int)))).run Yba.prog w = .ok (.float .f64 (qf (rAt L rt n k) mx)) w := fun w => run_float_arith w .quo 27 .f64 _ _ _ (unhide HQ k)
              have z1 : (k : Int) < (N : Int) + 1 := by omega
              have Hn : Hid (Blk (wr.setCell ⟨g, k, none⟩ (.float .f64 (qf (rAt L rt n k) mx))) w.heap.size 59 [.slice none 0 0, .slice none 0 0, .slice (some ⟨g, 0, none⟩) (N + 1) c] ∧ Blk (wr.setCell ⟨g, k, none⟩ (.float .f64 (qf (rAt L rt n k) mx))) g 27 (scaled L rt n mx (N + 1) (k + 1) ++ tl) ∧ Fr (fun _ => False) w (wr.setCell ⟨g, k, none⟩ (.float .f64 (qf (rAt L rt n k) mx)))) := by
                refine ⟨hm.setCell_other (by show g ≠ w.heap.size; omega) _, ?_, hf.setCell (.inr (by show w.heap.size ≤ g; omega)) _⟩
                have := hr.setCell k (.float .f64 (qf (rAt L rt n k) mx))
                rw [scaled_set _ _ _ _ _ _ hkN] at this; exact this
              clear hm hr hf hst
              go_wp2
              go_roundw
              case rel => exact ⟨k + 1, by go_num, by omega, Hn⟩
              case measure => simp [intOf]; omega
            · obtain rfl : k = N + 1 := by omega
              have Hn : Hid (N2 w L rt n mx g c tl wr) := by
                refine ⟨by rw [unhide HNe]; exact hm, ?_, by omega, hcM, hgb, hf⟩
                rw [unhide HNe]
                have e : (List.range (N + 1)).map (fun i => Value.float .f64 (rFin mx (rAt L rt n i))) = scaled L rt n mx (N + 1) (N + 1) := by
                  unfold scaled rFin
                  apply List.map_congr_left
                  intro i hi
                  rw [if_pos hm0, if_pos (List.mem_range.1 hi)]
                rw [e]; exact hr
              clear hm hr hf hst
              go_wp2
              go_meet
              case rel => exact ⟨rfl, rfl, Hn⟩
        · have Hn : Hid (N2 w L rt n mx g c tl wr) := by
            refine ⟨(unhide HN).m, ?_, by omega, hcM, hgb, (unhide HN).fr⟩
            rw [unhide HNe]
            have e : (List.range (N + 1)).map (fun i => Value.float .f64 (rFin mx (rAt L rt n i))) = (List.range (N + 1)).map (fun i => .float .f64 (fi ((rAt L rt n i : Nat) : Int))) := by
              unfold rFin; simp [hm0]
            rw [e]; exact unhide HB2
          go_wp2_with fail
          go_meet
          case rel => exact ⟨rfl, rfl, Hn⟩
      case rest =>
        obtain ⟨rfl, rfl, h2⟩ := hcut
        have cTc : wc.cell? ⟨T, 1, none⟩ = some (.slice (some ⟨O, 0, none⟩) n n) := (World.cell?_of_block ((unhide h2).fr.block T hTl id)).trans cT
        have hmk := fun w => run_make_row' (P := Yba.prog) 28 3 (.int .i64 0) 8 Yba.underlying28 (by kernel_rfl) rfl .i64 .i64 n (by omega) (by omega) w
        rw [made_one] at hmk
        have hTc : T < wc.heap.size := Nat.lt_of_lt_of_le hTl (unhide h2).fr.size
        have H3 := hide (n3_start (jn := jn) (unhide h2))
        clear HN HB2 h2
        go_wp2_with fail
        clear hmk
        obtain ⟨FB, hFB⟩ : ∃ FB, wc.heap.size = FB := ⟨_, rfl⟩
        rw [hFB] at H3 ⊢
        go_loopw [95] (fun s95 wr => ∃ k : Nat, s95 = .int .i64 k ∧ k ≤ n ∧ Hid (∃ st, N3 w L jn rt n mx g c tl FB k st wr)) (fun s95 _ => n - (intOf s95).toNat)
        case atStart => exact ⟨0, rfl, by omega, _, H3⟩
        case round =>
          clear H3
          obtain ⟨k, rfl, hk, hst⟩ := hrel
          obtain ⟨st, hN⟩ := unhide hst
          by_cases hkn : k < n
          · obtain ⟨a0, c0', rfl⟩ := owns_slice hN.own
            have hT := (unhide H).kept hN.fr
            have cc := fun j hj => hT.ops.cell hkn j hj
            have c0 : wr.cell? ⟨O, k * 7, none⟩ = some (.string (nameOf (k + 1))) := cc 0 (by omega)
            have c1 : wr.cell? ⟨O, k * 7 + 1, none⟩ = some (.int .i64 (L k)) := cc 1 (by omega)
            have c2 : wr.cell? ⟨O, k * 7 + 2, none⟩ = some (.slice none 0 0) := cc 2 (by omega)
            have c3 : wr.cell? ⟨O, k * 7 + 3, none⟩ = some (.string ⟨#[]⟩) := cc 3 (by omega)
            have c4 : wr.cell? ⟨O, k * 7 + 4, none⟩ = some (.bool (jn k)) := cc 4 (by omega)
            have c5 : wr.cell? ⟨O, k * 7 + 5, none⟩ = some (.slice (some ⟨rb k, 0, none⟩) (L k) (L k)) := by rw [cc 5 (by omega)]; simp [opc, rvF, unhide HNR k hkn]
            have c6 : wr.cell? ⟨O, k * 7 + 6, none⟩ = some (.map none) := cc 6 (by omega)
            have cM : wr.cell? ⟨w.heap.size, 0, none⟩ = some (.slice a0 (sL L k) c0') := by rw [hN.m.cell]; rfl
            have cF : wr.cell? ⟨FB, k, none⟩ = some (.int .i64 0) := by rw [hN.first.cell]; exact fillG _ _ hkn
            have fF : wr.frozen? ⟨FB, k, none⟩ = false := hN.first.frozen _
            have hM := hN.m.lt
            have hFl := hN.first.lt
            have hLk : L k ≤ 4096 := by have := sL_mono L (a := k + 1) (b := n) (by omega); have e : sL L (k + 1) = sL L k + L k := rfl; omega
            have hmk := make57 (L k) hLk
            have z1 : (k : Int) < (n : Int) := by omega
            have HE := hide (hN.enter (oc := [.string (nameOf (k + 1)), .int .i64 (L k), .slice none 0 0, .string ⟨#[]⟩, .bool (jn k), .slice (some ⟨rb k, 0, none⟩) (L k) (L k), .map none]) hkn)
            have hsum : sL L k + L k ≤ 4096 := by have := sL_mono L (a := k + 1) (b := n) (by omega); have e : sL L (k + 1) = sL L k + L k := rfl; omega
            clear cc hT hN hst
            go_wp2_with fail
            clear hmk c0 c1 c2 c3 c4 c5 c6 cM cF fF
            obtain ⟨H0, hH0⟩ : ∃ H0, wr.heap.size = H0 := ⟨_, rfl⟩
            rw [hH0] at HE hM hFl ⊢
            clear hH0
            go_loopw [113] (fun s113 wr2 => ∃ i : Nat, s113 = .int .i64 i ∧ i ≤ L k ∧ Hid (N3m w L jn rt n mx g c tl FB k (.slice a0 (sL L k) c0') [.string (nameOf (k + 1)), .int .i64 (L k), .slice none 0 0, .string ⟨#[]⟩, .bool (jn k), .slice (some ⟨rb k, 0, none⟩) (L k) (L k), .map none] H0 i wr2)) (fun s113 _ => L k - (intOf s113).toNat)
            case atStart => exact ⟨0, rfl, by omega, HE⟩
            case round =>
              clear HE
              obtain ⟨i, rfl, hi, hst⟩ := hrel
              by_cases hiL : i < L k
              · have c4 : wr.cell? ⟨H0, 4, none⟩ = some (.bool (jn k)) := by rw [(unhide hst).op.cell]; rfl
                have ct : ∃ b, wr.cell? ⟨H0 + 1, i * 2, none⟩ = some (.bool b) := by
                  have := tk_get (L k) i (jn k) i hiL 0 (by omega)
                  exact ⟨_, by rw [(unhide hst).tb.cell]; exact this⟩
                obtain ⟨b0, ct⟩ := ct
                have ft : wr.frozen? ⟨H0 + 1, i * 2, none⟩ = false := (unhide hst).tb.frozen _
                have z2 : (i : Int) < (L k : Int) := by omega
                have Hn := hide ((unhide hst).next hiL)
                clear hst
                go_wp2_with fail
                go_roundw
                case rel => exact ⟨i + 1, by go_num, by omega, Hn⟩
                case measure => simp [intOf]; omega
              · obtain rfl : L k = i := by omega
                have c2 : wr.cell? ⟨H0, 2, none⟩ = some (.slice none 0 0) := by rw [(unhide hst).op.cell]; rfl
                have cM : wr.cell? ⟨w.heap.size, 0, none⟩ = some (.slice a0 (sL L k) c0') := by rw [(unhide hst).m.cell]; rfl
                have fM : wr.frozen? ⟨w.heap.size, 0, none⟩ = false := (unhide hst).m.frozen _
                go_wp2_with fail
                refine wp_loop_rounds 1 ?_
                rw [rounds_succ]
                have XO : Hid (wr.ownsRow (FB + 1) 62 2 (.slice a0 (sL L k) c0') (sL L k) (tasksL L jn k)) := (unhide hst).own
                have XL : Hid ((tk (L k) (L k) (jn k)).length = L k * 2) := tk_length _ _ _
                have XN : Hid (∀ j u, (tk (L k) (L k) (jn k))[j]? = some u → wr.cell? ((⟨H0 + 1, 0, none⟩ : Addr).add j) = some u) := fun j u hu => by rw [Addr.add_lit, Nat.zero_add, (unhide hst).tb.cell]; exact hu
                have hbs : FB + 1 ≤ wr.heap.size := by have := (unhide hst).first.lt; omega
                have hMl := (unhide hst).m.lt
                have hMo : Hid (some w.heap.size ≠ (Value.slice a0 (sL L k) c0').ownBlock) := fun e => by have := owns_base (unhide hst).own _ e.symm; have := (unhide hst).ord; omega
                obtain ⟨i62, hi62, hz62, hs62, hb62⟩ := info_parts (P := Yba.prog) (e := 62) (z := .agg #[.bool false, .slice none 0 0]) (size := 2) (bytes := 32) (by kernel_rfl)
                go_wp2_with (at_builtin; refine wpList_append_own_at _ (by rfl) _ _ _ (by rfl) (FB + 1) 62 i62 _ 2 32 Yba.underlying57 hi62 hz62 hs62 hb62 rfl (by omega) _ (sL L k) (tasksL L jn k) (by rfl) XO.out ⟨H0 + 1, 0, none⟩ (L k) (L k) (tk (L k) (L k) (jn k)) (by rfl) XL.out XN.out (tk_one _ _ _) (by unfold maxLen; omega) (by omega) hbs ?_; intro v' w1 hown1 hgrow hnil hat; obtain ⟨a', c', rfl⟩ := owns_slice hown1; have k0 : w1.cell? ⟨w.heap.size, 0, none⟩ = some (.slice a0 (sL L k) c0') := (hgrow.cell_far _ hMl hMo.out).trans cM; have k1 : w1.frozen? ⟨w.heap.size, 0, none⟩ = false := (hgrow.frozen_far _ hMl hMo.out).trans fM; have Hn := hide ((unhide hst).leave hown1 hgrow); clear hown1 hgrow hnil hat)
                go_roundw
                case rel => exact ⟨k + 1, by go_num, by omega, _, Hn⟩
                case measure => simp [intOf]; omega
          · obtain rfl : n = k := by omega
            obtain ⟨a0, c0', rfl⟩ := owns_slice hN.own
            have hn0 : 0 < n := by
              rcases Nat.eq_zero_or_pos n with h0 | h0
              · subst h0; exact absurd hpos (by show ¬ 0 < 0; omega)
              · exact h0
            have hT := (unhide H).kept hN.fr
            have hOu := hide (outputs_any T O n L jn (rvF nr rb L) wr (by rw [hT.top.cell]; rfl) hT.ops hn)
            have HN := hide hN
            clear hst hN hkn hk hT
            go_wp2_with fail
            refine (unhide hOu).mono ?_
            rintro e w5 ⟨vo, rfl, hown5, hF5⟩
            obtain ⟨og, co, rfl, hog1, hog2⟩ := hown5.form hn0
            have H4 := hide (n4_start ((unhide HN).m.kept hF5 id))
            have HO5 := hide hown5
            have HF5 := hide hF5
            have hMl5 : w.heap.size < w5.heap.size := (unhide H4).lt
            have hMo5 : w.heap.size < og := Nat.lt_of_lt_of_le (unhide HN).m.lt hog1
            have hFB5 : FB < w5.heap.size := Nat.lt_of_lt_of_le (unhide HN).first.lt hF5.size
            have hMF : w.heap.size < FB := (unhide HN).ord.1
            have hw5 : w.heap.size ≤ w5.heap.size := Nat.le_of_lt hMl5
            have HT5 := hide ((unhide H).kept ((unhide HN).fr.trans hF5))
            have HFi := hide ((unhide HN).first.kept hF5 id)
            obtain ⟨i3, hi3, hz3, hs3, hb3⟩ := info_parts (P := Yba.prog) (e := 3) (z := .int .i64 0) (size := 1) (bytes := 8) (by kernel_rfl)
            clear hown5 hF5 hOu
            go_wp2_with fail
            go_loopw [248] (fun s248 wr => ∃ k : Nat, s248 = .int .i64 k ∧ k ≤ n ∧ Hid (∃ so, N4 w5 w.heap.size (.slice a0 (sL L n) c0') (.slice (some ⟨g, 0, none⟩) (sL L n) c) (sL L k) so wr)) (fun s248 _ => n - (intOf s248).toNat)
            case atStart => exact ⟨0, rfl, by omega, _, H4⟩
            case round =>
              clear H4
              obtain ⟨k, rfl, hk, hst⟩ := hrel
              obtain ⟨so, h4⟩ := unhide hst
              by_cases hkn : k < n
              · have hTr : TopOk wr T O n L jn nr rb rt → True := fun _ => trivial
                have cO : wr.cell? ⟨og, k, none⟩ = some (.pointer (some ⟨O, k * 7, none⟩)) := by
                  refine (World.cell?_of_block (h4.fr.block og hog2 (by omega))).trans (owns_cell (unhide HO5) rfl k ?_)
                  unfold optrs; rw [List.getElem?_map, List.getElem?_range hkn]; rfl
                have hops : OpsAt wr O n L jn (rvF nr rb L) := Blk.kept (unhide HT5).ops h4.fr (by omega)
                have htop := (unhide HT5).top.kept h4.fr (by omega)
                have cN : wr.cell? ⟨O, k * 7, none⟩ = some (.string (nameOf (k + 1))) := hops.cell hkn 0 (by omega)
                have HX := hide (index_any T O n n k L jn (rvF nr rb L) wr (by rw [htop.cell]; rfl) hops hn (Nat.le_refl _) hkn)
                have z1 : (k : Int) < (n : Int) := by omega
                have H4 := hide h4
                have HO := hide hops
                clear hTr hst h4 hops htop
                go_wp2_with fail
                refine (unhide HX).mono ?_
                rintro e w6 ⟨rfl, hF6⟩
                have cL : w6.cell? ⟨O, k * 7 + 1, none⟩ = some (.int .i64 (L k)) := OpsAt.cell (Blk.kept (unhide HO) hF6 id) hkn 1 (by omega)
                have H6 := hide ((unhide H4).kept hF6)
                have hsum : sL L k + L k ≤ 4096 := by have := sL_mono L (a := k + 1) (b := n) (by omega); have e : sL L (k + 1) = sL L k + L k := rfl; omega
                clear hF6 HX H4 cO cN HO
                go_wp2_with fail
                go_loopw [262] (fun s262 wr => ∃ j : Nat, s262 = .int .i64 j ∧ j ≤ L k ∧ Hid (∃ so, N4 w5 w.heap.size (.slice a0 (sL L n) c0') (.slice (some ⟨g, 0, none⟩) (sL L n) c) (sL L k + j) so wr)) (fun s262 _ => L k - (intOf s262).toNat)
                case atStart => exact ⟨0, rfl, by omega, _, H6⟩
                case round =>
                  clear H6 cL
                  obtain ⟨j, rfl, hj, hst⟩ := hrel
                  obtain ⟨so, h4⟩ := unhide hst
                  by_cases hjL : j < L k
                  · obtain ⟨ao, co', rfl⟩ := owns_slice h4.own
                    have cM1 : wr.cell? ⟨w.heap.size, 1, none⟩ = some (.slice ao (sL L k + j) co') := by rw [h4.m.cell]; rfl
                    have fM1 : wr.frozen? ⟨w.heap.size, 1, none⟩ = false := h4.m.frozen _
                    have cF : wr.cell? ⟨FB, k, none⟩ = some (.int .i64 (sL L k)) := by
                      refine (World.cell?_of_block (h4.fr.block FB hFB5 (by omega))).trans ?_
                      rw [(unhide HFi).cell, List.getElem?_append_left (by simp; exact hkn), List.getElem?_map, List.getElem?_range hkn]; rfl
                    have hM6 := h4.m.lt
                    have hF6 : FB < wr.heap.size := Nat.lt_of_lt_of_le hFB5 h4.fr.size
                    have XO : Hid (∀ W : World, W.heap = (wr.alloc (.cells #[.int .i64 (IntKind.i64.wrap ((sL L k : Int) + (j : Int)))] 3)).heap → W.ownsRow w5.heap.size 3 1 (.slice ao (sL L k + j) co') (sL L k + j) (ints (sL L k + j))) := fun W hW => owns_heap (owns_kept h4.own ((Fr.refl (fun _ => False) wr).alloc _) (fun _ _ => id)) hW
                    have XN : Hid (∀ W : World, W.heap = (wr.alloc (.cells #[.int .i64 (IntKind.i64.wrap ((sL L k : Int) + (j : Int)))] 3)).heap → ∀ i u, ([.int .i64 (IntKind.i64.wrap ((sL L k : Int) + (j : Int)))] : List Value)[i]? = some u → W.cell? ((⟨wr.heap.size, 0, none⟩ : Addr).add i) = some u) := fun W hW i u hu => by
                      rw [Addr.add_lit, Nat.zero_add, (blk_heap (Blk.new wr 3 [.int .i64 (IntKind.i64.wrap ((sL L k : Int) + (j : Int)))]) hW).cell]; exact hu
                    have hMo : Hid (some w.heap.size ≠ (Value.slice ao (sL L k + j) co').ownBlock) := fun e => by have := owns_base h4.own _ e.symm; omega
                    have hW5r : w5.heap.size ≤ wr.heap.size := h4.fr.size
                    have z2 : (j : Int) < (L k : Int) := by omega
                    have hwr : Hid (IntKind.i64.wrap ((sL L k : Int) + (j : Int)) = ((sL L k + j : Nat) : Int)) := by show IntKind.i64.wrap ((sL L k : Int) + (j : Int)) = ((sL L k + j : Nat) : Int); rw [IntKind.wrap_i64] <;> omega
                    have H4 := hide h4
                    clear hst h4
                    go_wp2_with fail
                    go_region_law (refine step_append_at _ (by rfl) _ _ _ (by rfl) w5.heap.size 3 i3 (.int .i64 0) 1 8 Yba.underlying28 hi3 hz3 hs3 hb3 rfl (by omega) _ (sL L k + j) (ints (sL L k + j)) (by rfl) (XO.out _ (by rfl)) ⟨wr.heap.size, 0, none⟩ 1 1 [.int .i64 (IntKind.i64.wrap ((sL L k : Int) + (j : Int)))] (by rfl) (by rfl) (XN.out _ (by rfl)) (by simp [Value.oneCell']) (by unfold maxLen; omega) (by omega) (by simp; omega) ?_; intro v' w1 hown1 hgrow; obtain ⟨a', c', rfl⟩ := owns_slice hown1; have k0 : w1.cell? ⟨w.heap.size, 1, none⟩ = some (.slice ao (sL L k + j) co') := (hgrow.cell_far _ (by simp; omega) hMo.out).trans (((unhide H4).m.alloc _).cell 1); have k1 : w1.frozen? ⟨w.heap.size, 1, none⟩ = false := (hgrow.frozen_far _ (by simp; omega) hMo.out).trans (((unhide H4).m.alloc _).frozen 1))
                    all_goals
                      have Hn := hide ((unhide H4).next (o := .cells #[.int .i64 (IntKind.i64.wrap ((sL L k : Int) + (j : Int)))] 3) (by exact ⟨rfl, rfl, rfl, rfl⟩) (by rw [unhide hwr] at hown1; exact hown1) hgrow)
                      clear hown1 hgrow XO XN
                      go_wp2_with fail
                      go_roundw
                      case rel => exact ⟨j + 1, by go_num, by omega, _, Hn⟩
                      case measure => simp [intOf]; omega
                  · obtain rfl : L k = j := by omega
                    go_wp2_with fail
                    go_roundw
                    case rel => exact ⟨k + 1, by go_num, by omega, _, h4⟩
                    case measure => simp [intOf]; omega
              · obtain rfl : n = k := by omega
                have HE : Hid (∃ tg ct og co g c, NewOk w L jn rt n (maxTo (rAt L rt n) (sL L n - 1)) tg ct og co g c wr) := by
                  obtain ⟨tg, ct, og', co', hok⟩ := new_done (unhide HN) (unhide HF5) h4 hpos
                  have e : maxTo (rAt L rt n) (sL L n - 1) = mx := by rw [unhide HNe, unhide HMe]; rfl
                  rw [e]
                  exact ⟨tg, ct, og', co', g, c, hok⟩
                clear hst h4
                go_wp2_with fail
                go_returns
                exact ⟨rfl, HE.out⟩
end Go.Proofs.Ybulkbrdw
