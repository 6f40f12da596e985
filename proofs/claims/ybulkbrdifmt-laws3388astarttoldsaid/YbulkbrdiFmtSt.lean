/-
  b3388aF: LawS3388AStart.
-/
import Derived.Test.YbulkbrdiFmtSy
import Derived.Deep.CutRange
namespace Go.Proofs.YbulkbrdiFmt
open Go.RowKit
set_option linter.unusedVariables false
set_option linter.unusedSimpArgs false
set_option maxRecDepth 100000
set_option maxHeartbeats 8000000

theorem stT (a0 a1 : Option Addr) (N cap M cap1 nb : Nat) (dv mv : Nat → Nat) (w : World) (h0 : Rd8 w a0 N dv) (h1 : Rd8 w a1 M mv) (hd : ∀ i, dv i ≤ 255) (hm : ∀ i, mv i ≤ 255) (hnb : nb < 256) :
    Calls Ybaf.prog 4 #[.slice a0 N cap, .slice a1 M cap1, .int .u8 (nb : Int)] w fun e w' => e = .returned (.bool true) ∧ Below w.heap.size w w' := by
  have HR0 := hide h0
  have HR1 := hide h1
  have HD := hide hd
  have HM := hide hm
  obtain ⟨np0, hnp0⟩ : ∃ np0, np0 = nb % 8 := ⟨_, rfl⟩
  obtain ⟨np, hnp⟩ : ∃ np, np = 1 + np0 := ⟨_, rfl⟩
  have e1 : (nb : Int) % 8 = (np0 : Int) := by omega
  have e2 : (1 : Int) + (np0 : Int) = (np : Int) := by omega
  have hnp1 : 1 ≤ np ∧ np ≤ 8 := by omega
  obtain ⟨fs, hfs⟩ : ∃ fs : Int, fs = IntKind.u8.wrap ((2 : Int) ^ np) := ⟨_, rfl⟩
  obtain ⟨full, hfull⟩ : ∃ full, full = 2 ^ np - 1 := ⟨_, rfl⟩
  have e3 : IntKind.u8.wrap ((2 : Int) ^ np) = fs := hfs.symm
  have e4 : IntKind.u8.wrap (fs - 1) = (full : Int) := by rw [hfs, hfull]; exact full_u8 np hnp1
  have e5 : IntKind.u64.wrap (np : Int) = (np : Int) := by rw [IntKind.wrap_u64]; omega
  have HFU := hide hfull
  obtain ⟨nm', hnm⟩ : ∃ nm', nm' = if 8 < N then 8 else N := ⟨_, rfl⟩
  have hnm8 : nm' ≤ 8 := by rw [hnm]; split <;> omega
  have hnmN : nm' ≤ N := by rw [hnm]; split <;> omega
  have HNM := hide hnm
  have hmm32 : ∀ w : World, (Instr.makeMap 32 none).run Ybaf.prog w = .ok (.map (some w.heap.size)) (w.alloc (.map #[] 0)) := fun w => rfl
  have hmm35 : ∀ w : World, (Instr.makeMap 35 none).run Ybaf.prog w = .ok (.map (some w.heap.size)) (w.alloc (.map #[] 0)) := fun w => rfl
  have hmm27 : ∀ w : World, (Instr.makeMap 27 none).run Ybaf.prog w = .ok (.map (some w.heap.size)) (w.alloc (.map #[] 0)) := fun w => rfl
  have hmm72 : ∀ w : World, (Instr.makeMap 72 none).run Ybaf.prog w = .ok (.map (some w.heap.size)) (w.alloc (.map #[] 0)) := fun w => rfl
  have hmk := fun w => run_make_row' (P := Ybaf.prog) 71 3 (.int .i64 0) 8 Ybaf.underlying71 (by kernel_rfl) rfl .i64 .i64 np (by omega) (by omega) w
  rw [made_one'] at hmk
  clear h0 h1 hd hm hnp0 hnp hfs hfull hnm
  go_enter Ybaf.func4, Ybaf.ntmps4
  go_upto_if 35 with fail
  go_cut [9] from 34 to 35 (fun s9 wd => s9 = .int .i64 (nm' : Int) ∧ Hid (w = wd))
  case first =>
    by_cases hN : 8 < N
    · have d1 : decide ((8 : Int) < (N : Int)) = true := by simp; omega
      have HE : Hid (nm' = 8) := by show nm' = 8; rw [unhide HNM, if_pos hN]
      go_wp2_with fail
      go_meet
      case rel => exact ⟨by rw [unhide HE]; rfl, rfl⟩
    · have d1 : decide ((8 : Int) < (N : Int)) = false := by simp; omega
      have HE : Hid (nm' = N) := by show nm' = N; rw [unhide HNM, if_neg hN]
      go_wp2_with fail
      go_meet
      case rel => exact ⟨by rw [unhide HE], rfl⟩
  case rest =>
    rename World => wc
    obtain ⟨rfl, hw⟩ := hcut
    obtain rfl := unhide hw
    go_wp2_with fail
    obtain ⟨b, hb⟩ : ∃ b : Bl, BlOk b w.heap.size := ⟨⟨_, _, _, _, _, _, _, _, _, _⟩, rfl, rfl, rfl, rfl, rfl, rfl, rfl, rfl, rfl, rfl⟩
    rw [← hb.gm, ← hb.iD, ← hb.sp, ← hb.st, ← hb.ls, ← hb.cm, ← hb.im, ← hb.lm, ← hb.bY, ← hb.ix]
    have H1 : Hid (Q1 b w np 0 (.slice none 0 0) ((((((((((w.alloc (.map #[] 0)).alloc (.map #[] 0)).alloc (.map #[] 0)).alloc (.map #[] 0)).alloc (.map #[] 0)).alloc (.map #[] 0)).alloc (.map #[] 0)).alloc (.cells #[.pointer none, .nilFunc, .slice none 0 0, .map (some b.IX), .slice none 0 0, .map (some b.BY), .slice none 0 0, .map (some b.LM), .slice none 0 0, .map (some b.IM), .slice none 0 0, .map (some b.CM), .map (some b.LS), .map (some b.ST), .map none, .slice none 0 0, .map none, .slice none 0 0, .map none, .map none] 42)).alloc (.cells (Array.replicate np (.int .i64 0)) 3)).alloc (.map #[] 0))) := Q1.start w np b hb
    obtain ⟨w0, hw0⟩ : ∃ w0, w0 = ((((((((((w.alloc (.map #[] 0)).alloc (.map #[] 0)).alloc (.map #[] 0)).alloc (.map #[] 0)).alloc (.map #[] 0)).alloc (.map #[] 0)).alloc (.map #[] 0)).alloc (.cells #[.pointer none, .nilFunc, .slice none 0 0, .map (some b.IX), .slice none 0 0, .map (some b.BY), .slice none 0 0, .map (some b.LM), .slice none 0 0, .map (some b.IM), .slice none 0 0, .map (some b.CM), .map (some b.LS), .map (some b.ST), .map none, .slice none 0 0, .map none, .slice none 0 0, .map none, .map none] 42)).alloc (.cells (Array.replicate np (.int .i64 0)) 3)).alloc (.map #[] 0)) := ⟨_, rfl⟩
    rw [← hw0] at H1 ⊢
    have HBO := hide hb
    clear hw0 hb hw hmm32 hmm35 hmm27 hmm72 hmk e1 e2 e3 e4 e5
    go_loopw [13] (fun s13 wr => ∃ (i : Nat) (nv : Value), s13 = .int .i64 i ∧ i ≤ np ∧ Hid (Q1 b w np i nv wr)) (fun s13 _ => np - (intOf s13).toNat)
    case atStart => exact ⟨0, _, rfl, by omega, H1⟩
    case round =>
      clear H1
      obtain ⟨i, nv, rfl, hi, hst⟩ := hrel
      by_cases hin : i < np
      · have z1 : (i : Int) < (np : Int) := by omega
        obtain ⟨w2, hrun, sp2, hown2, hle2, hsp2, hnext⟩ := (unhide hst).step hin hnp1.2
        obtain ⟨na, nc, rfl⟩ := owns_slice hown2
        have k0 : wr.cell? ⟨b.ID, i, none⟩ = some (.int .i64 0) := by
          rw [(unhide hst).iD.cell]
          unfold idL
          rw [List.getElem?_map, List.getElem?_range hin]
          simp
        have k1 : wr.frozen? ⟨b.ID, i, none⟩ = false := (unhide hst).iD.frozen _
        have m3 : (wr.setCell ⟨b.ID, i, none⟩ (.int .i64 (i : Int))).cell? ⟨b.SP, 3, none⟩ = some (.map (some b.IX)) := by
          rw [set_far (by have := (unhide hst).ok.lt; omega), (unhide hst).sp.cell]; rfl
        have HO := hide hown2
        have HN := hide hnext
        obtain ⟨i9, hi9, hz9, hs9, hb9⟩ := info_parts (P := Ybaf.prog) (e := 9) (z := .string ⟨#[]⟩) (size := 1) (bytes := 16) (by kernel_rfl)
        clear hown2 hnext
        have i8 : i < 8 := by omega
        go_wp2_with (first | (refine (name_any i i8 _).mono ?_; rintro e w' ⟨rfl, rfl⟩) | (at_builtin; refine wpList_append_lies _ (by rfl) _ _ _ (by rfl) w.heap.size 9 i9 (.string ⟨#[]⟩) 1 16 Ybaf.underlying31 hi9 hz9 hs9 hb9 rfl (by omega) (.slice na i nc) i ((List.range i).map fun d => .string (nm d)) (by rfl) (owns_kept (unhide HO) ((Fr.refl (fun _ => False) w2).alloc (.cells #[.string (nm i)] 9)) (fun _ _ => id)) ⟨w2.heap.size, 0, none⟩ 1 1 [.string (nm i)] (by rfl) (by rfl) (World.news_of_block (Blk.new w2 9 [.string (nm i)])) (by simp [Value.oneCell']) (by omega) (by unfold maxLen; omega) (by omega) (by rw [World.size_alloc]; omega) (w2.heap.size + 1) (by simp) ?_; intro g cap w3 hown hgrow hat hlt; obtain ⟨q1, q2, w5, hrun5, HN5⟩ := unhide HN g cap w3 hown hgrow; clear hown hgrow hat))
        go_roundw
        case rel => exact ⟨i + 1, _, by go_num, by omega, HN5⟩
        case measure => (try simp [intOf]) <;> (try omega)
      · obtain rfl : np = i := by omega
        have z1 : decide ((np : Int) < (np : Int)) = false := by simp
        have hmk2 := fun w => run_make_row' (P := Ybaf.prog) 23 5 (.int .u8 0) 1 Ybaf.underlying23 (by kernel_rfl) rfl .i64 .i64 nm' (by omega) (by omega) w
        rw [made_one'] at hmk2
        obtain ⟨f, hf⟩ : ∃ f : Nat → Nat, f = fun j => if j < M then mv j &&& full else 0 := ⟨_, rfl⟩
        have H2 := hide (Q2.start (n := nm') f (unhide hst))
        have x17 : wr.cell? ⟨b.SP, 17, none⟩ = some (.slice none 0 0) := (unhide hst).sp.cell 17
        have y17 : wr.frozen? ⟨b.SP, 17, none⟩ = false := (unhide hst).sp.frozen 17
        have hspl : b.SP < wr.heap.size := (unhide hst).sp.lt
        have HF := hide hf
        clear hf
        go_wp2_with fail
        obtain ⟨w1, hw1⟩ : ∃ w1, w1 = (((wr.setCell ⟨b.SP, 17, none⟩ (.slice (some ⟨wr.heap.size, 0, none⟩) 1 1)).alloc (.cells #[.slice (some ⟨b.ID, 0, none⟩) np np, .map (some b.GM)] 75)).alloc (.cells (Array.replicate nm' (.int .u8 0)) 5)) := ⟨_, rfl⟩
        rw [← hw1] at H2 ⊢
        obtain ⟨PB, hPB⟩ : ∃ PB, PB = wr.heap.size := ⟨_, rfl⟩
        obtain ⟨MS, hMS⟩ : ∃ MS, MS = PB + 1 := ⟨_, rfl⟩
        rw [← hPB, ← hMS] at H2 ⊢
        clear hw1 hPB hMS hst hmk2 x17 y17 hspl
        have hcv : ∀ (d : Nat), d < 8 → ∀ w : World, (convert 21 9 (.int .i32 ((65 + d : Nat) : Int))).run Ybaf.prog w = .ok (.string (im d)) w := fun d hd w => by
          have h8 : d = 0 ∨ d = 1 ∨ d = 2 ∨ d = 3 ∨ d = 4 ∨ d = 5 ∨ d = 6 ∨ d = 7 := by omega
          rcases h8 with rfl | rfl | rfl | rfl | rfl | rfl | rfl | rfl <;> (show _ = _; kernel_rfl)
        have HCV := hide hcv
        clear hcv
        go_loopw [16] (fun s16 wr => ∃ (j : Nat) (nv mv : Value) (pl : Nat → Nat), s16 = .int .i64 j ∧ j ≤ nm' ∧ Hid (Q2 b w np nm' PB MS f j nv mv pl wr)) (fun s16 _ => nm' - (intOf s16).toNat)
        case atStart => exact ⟨0, _, _, _, rfl, by omega, H2⟩
        case round =>
          clear H2
          obtain ⟨j, nv, mv', pl, rfl, hj, hst⟩ := hrel
          by_cases hjn : j < nm'
          · have z2 : (j : Int) < (nm' : Int) := by omega
            obtain ⟨fj, hfj⟩ : ∃ fj, fj = f j := ⟨_, rfl⟩
            have hfull8 : full < 256 := by
              rw [unhide HFU]
              have : 2 ^ np ≤ 2 ^ 8 := Nat.pow_le_pow_right (by omega) hnp1.2
              omega
            have HFJ : Hid (fj = if j < M then mv j &&& full else 0) := by show fj = _; rw [hfj, unhide HF]
            have HF0 := hide hfj
            clear hfj
            have hfj8 : fj < 256 := by
              rw [unhide HFJ]
              split
              · exact Nat.lt_of_le_of_lt Nat.and_le_right hfull8
              · omega
            obtain ⟨Bq, hBq⟩ : ∃ Bq : Bool, Bq = decide ((j : Int) < (M : Int)) := ⟨_, rfl⟩
            have d1 : decide ((j : Int) < (M : Int)) = Bq := hBq.symm
            have HBq := hide hBq
            clear hBq
            go_upto_if 95 with fail
            clear d1
            go_cut [17] from 92 to 101 (fun s17 wd => s17 = .int .u8 (fj : Int) ∧ Hid (wr = wd))
            case first =>
              cases Bq with
              | true =>
                have hjM : j < M := by
                  have := unhide HBq
                  simp at this
                  omega
                obtain ⟨b1, o1, ha1, hb1, hc1⟩ : ∃ b off, a1 = some ⟨b, off, none⟩ ∧ b < w.heap.size ∧ ∀ i, i < M → w.cell? ⟨b, off + i, none⟩ = some (.int .u8 (mv i : Nat)) := by
                  rcases unhide HR1 with h | h
                  · omega
                  · exact h
                subst ha1
                have t0 : wr.cell? ⟨b1, o1 + j, none⟩ = some (.int .u8 (mv j : Nat)) := cell_keptA (unhide hst).fr (hc1 j hjM)
                have hmj := unhide HM j
                have ea : bits .and .u8 ((mv j : Nat) : Int) (full : Int) = (fj : Int) := by rw [and_u8 _ _ (by omega) hfull8, unhide HFJ, if_pos hjM]
                have zM : (j : Int) < (M : Int) := by omega
                clear hc1 hjM
                go_wp2_with fail
                go_meet
                case rel => exact ⟨rfl, rfl⟩
              | false =>
                have hjM : ¬ j < M := by
                  have := unhide HBq
                  simp at this
                  omega
                have HZ : Hid (fj = 0) := by show fj = 0; rw [unhide HFJ, if_neg hjM]
                have zM : (M : Int) ≤ (j : Int) := by omega
                have zM2 : ¬ ((j : Int) < (M : Int)) := by omega
                clear hjM
                go_wp2_with fail
                go_meet
                case rel => exact ⟨by rw [unhide HZ]; rfl, rfl⟩
            case rest =>
              obtain ⟨rfl, hwr⟩ := hcut
              obtain rfl := unhide hwr
              obtain ⟨w2, hrun, sp2, hown2, hle2, hsp2, hnext⟩ := (unhide hst).step hjn hnm8
              rw [← unhide HF0] at hrun hnext
              obtain ⟨ma, mc, rfl⟩ := owns_slice hown2
              have k0 : wr.cell? ⟨MS, j, none⟩ = some (.int .u8 0) := by
                rw [(unhide hst).ms.cell]
                unfold msL
                rw [List.getElem?_map, List.getElem?_range hjn]
                simp
              have k1 : wr.frozen? ⟨MS, j, none⟩ = false := (unhide hst).ms.frozen _
              have m5 : (wr.setCell ⟨MS, j, none⟩ (.int .u8 (fj : Int))).cell? ⟨b.SP, 5, none⟩ = some (.map (some b.BY)) := by
                rw [set_far (by have := (unhide hst).ok.lt; have := (unhide hst).lt; omega), (unhide hst).sp.cell]; rfl
              obtain ⟨cj, hcj⟩ : ∃ cj, cj = 65 + j := ⟨_, rfl⟩
              have ec : (65 : Int) + (j : Int) = (cj : Int) := by omega
              have ec2 : IntKind.i32.wrap (cj : Int) = (cj : Int) := by rw [IntKind.wrap_i32] <;> omega
              have hcv := unhide HCV j (by omega)
              rw [← hcj] at hcv
              have en : IntKind.u8.wrap (np : Int) = (np : Int) := by rw [IntKind.wrap_u8] <;> omega
              have HO := hide hown2
              have HN := hide hnext
              obtain ⟨i77, hi77, hz77, hs77, hb77⟩ := info_parts (P := Ybaf.prog) (e := 77) (z := .agg #[.string ⟨#[]⟩, .slice none 0 0, .slice none 0 0, .slice none 0 0]) (size := 4) (bytes := 88) (by kernel_rfl)
              clear hown2 hnext hwr hcj
              go_wp2_with (at_builtin; refine wpList_append_lies _ (by rfl) _ _ _ (by rfl) w.heap.size 77 i77 (.agg #[.string ⟨#[]⟩, .slice none 0 0, .slice none 0 0, .slice none 0 0]) 4 88 Ybaf.underlying33 hi77 hz77 hs77 hb77 rfl (by omega) (.slice ma j mc) j ((List.range j).flatMap (msgC pl)) (by rfl) (owns_kept (unhide HO) (((Fr.refl (fun _ => False) w2).alloc (.cells #[.int .u8 (fj : Int), .int .u8 (np : Int)] 5)).alloc (.cells #[.string (im j), .slice none 0 0, .slice none 0 0, .slice (some ⟨w2.heap.size, 0, none⟩) 2 2] 77)) (fun _ _ => id)) ⟨w2.heap.size + 1, 0, none⟩ 1 1 [.string (im j), .slice none 0 0, .slice none 0 0, .slice (some ⟨w2.heap.size, 0, none⟩) 2 2] (by rfl) (by rfl) (by have h1 := World.news_of_block (Blk.new (w2.alloc (.cells #[.int .u8 (fj : Int), .int .u8 (np : Int)] 5)) 77 [.string (im j), .slice none 0 0, .slice none 0 0, .slice (some ⟨w2.heap.size, 0, none⟩) 2 2]); rw [World.size_alloc] at h1; exact h1) (by simp [Value.oneCell']) (by omega) (by unfold maxLen; omega) (by omega) (by rw [World.size_alloc, World.size_alloc]; omega) (w2.heap.size + 1 + 1) (by simp) ?_; intro g cap w5 hown hgrow hat hlt; obtain ⟨q1, q2, HN5⟩ := unhide HN g cap w5 hown hgrow; clear hown hgrow hat)
              go_roundw
              case rel => exact ⟨j + 1, _, _, _, by go_num, by omega, HN5⟩
              case measure => (try simp [intOf]) <;> (try omega)
          · obtain rfl : nm' = j := by omega
            have z2 : decide ((nm' : Int) < (nm' : Int)) = false := by simp
            obtain ⟨ma, mc, rfl⟩ := owns_slice (unhide hst).mv
            obtain ⟨MB, hI0, hMB⟩ := (unhide hst).inv hnp1.2
            have hfl : ∀ j, f j < 2 ^ np := fun j => by
              rw [unhide HF]
              have h2 : 0 < 2 ^ np := Nat.pow_pos (by omega)
              simp only
              split
              · have : mv j &&& full ≤ full := Nat.and_le_right
                have := unhide HFU
                omega
              · exact h2
            have hpk := prok (b := b) (PB := PB) (mc := mc) (nv := nv) (pl := pl) hnp1.2 hnm8 hMB hfl
            have hch := ch_mk (np := np) (n := nm') (PB := PB) (MB := MB) (mc := mc) (ma := ma) (f := f) (nv := nv) (pl := pl) (unhide hst).ok
            obtain ⟨p, hpe⟩ : ∃ p, p = mkP b np nm' PB MB ma mc f nv pl := ⟨_, rfl⟩
            rw [← hpe] at hI0 hpk hch
            have eSP : b.SP = p.SP := by rw [hpe]; rfl
            have enp : p.np = np := by rw [hpe]; rfl
            have emn : p.mn = nm' := by rw [hpe]; rfl
            have ems : p.ms = f := by rw [hpe]; rfl
            have H3 : Hid (Q3 p w MS nm' f 0 t00 wr) := ⟨hI0, Nat.zero_le _, by show 0 ≤ _; omega, (unhide hst).fr, (unhide hst).ms, hch⟩
            have HP := hide hpk
            have HNP := hide enp
            have HMN := hide emn
            have HMS := hide ems
            rw [eSP]
            clear hI0 hMB hfl hpk hch hpe enp emn ems hst HCV HBO
            go_wp2_with fail
            go_loopw [19] (fun s19 wr => ∃ (i : Nat) (t : St), s19 = .int .i64 i ∧ i ≤ np ∧ Hid (Q3 p w MS nm' f i t wr)) (fun s19 _ => np - (intOf s19).toNat)
            case atStart => exact ⟨0, t00, rfl, by omega, H3⟩
            case round =>
              clear H3
              obtain ⟨i, t, rfl, hi, hst⟩ := hrel
              by_cases hin : i < np
              · have z3 : (i : Int) < (np : Int) := by omega
                go_wp2_with fail
                have H4 := hide (Q4.start (i := i) (unhide hst).inv)
                have hwAl : w.heap.size ≤ wr.heap.size := (unhide hst).fr.size
                go_loopw [20, 21, 22] (fun s20 s21 s22 w' => ∃ (j acc : Nat) (its' : List (Nat × Nat)) (vi' : Value) (ba : Option Addr) (bc m : Nat) (ys : List Nat), s22 = .int .i64 j ∧ s20 = .slice ba m bc ∧ s21 = .int .u64 (acc : Int) ∧ j ≤ nm' ∧ acc < 256 ∧ Hid (acc = D p its' ys ∧ m = ys.length) ∧ Hid (Q4 p t wr i j its' vi' (.slice ba m bc) ys w')) (fun _ _ s22 _ => nm' - (intOf s22).toNat)
                case atStart => exact ⟨0, 0, _, _, none, 0, 0, [], rfl, rfl, rfl, by omega, by omega, ⟨rfl, rfl⟩, H4⟩
                case round =>
                  clear H4
                  rename World => wx
                  obtain ⟨j, acc, its', vi', ba, bc, m, ys, rfl, rfl, rfl, hj, hacc, HAC, hq4⟩ := hrel
                  by_cases hjn : j < nm'
                  · have z4 : (j : Int) < (nm' : Int) := by omega
                    obtain ⟨b0, o0, ha0, hb0, hc0⟩ : ∃ b off, a0 = some ⟨b, off, none⟩ ∧ b < w.heap.size ∧ ∀ i, i < N → w.cell? ⟨b, off + i, none⟩ = some (.int .u8 (dv i : Nat)) := by
                      rcases unhide HR0 with h | h
                      · omega
                      · exact h
                    subst ha0
                    have hdj := unhide HD j
                    have hxb : wr.cell? ⟨b0, o0 + j, none⟩ = some (.int .u8 (dv j : Nat)) := cell_keptA (unhide hst).fr (hc0 j (by omega))
                    have t0 : wx.cell? ⟨b0, o0 + j, none⟩ = some (.int .u8 (dv j : Nat)) := cell_kept (lt_of_cell hxb) (unhide hq4).ext.fr (fun hc => by have := (unhide hst).low _ hc; omega) hxb
                    have hms := (unhide hst).ms.kept (unhide hq4).ext.fr ((unhide hst).inv.nch (unhide hst).ms (by decide))
                    have ewi : IntKind.u64.wrap (i : Int) = (i : Int) := by rw [IntKind.wrap_u64]; omega
                    have hbit := bit_u8 (dv j) i (by omega)
                    have zN : (j : Int) < (N : Int) := by omega
                    obtain ⟨Bj, hBj⟩ : ∃ Bj : Bool, Bj = (dv j).testBit i := ⟨_, rfl⟩
                    rw [← hBj] at hbit
                    have HBJ := hide hBj
                    clear hBj hc0 hxb
                    cases Bj with
                    | false =>
                      have HN := hide (unhide hq4).skip
                      clear hms
                      go_wp2_with fail
                      go_roundw
                      case rel => exact ⟨j + 1, acc, its', vi', ba, bc, m, ys, by go_num, rfl, rfl, by omega, hacc, HAC, HN⟩
                      case measure => (try simp [intOf]) <;> (try omega)
                    | true =>
                      have hm8 : m ≤ 8 := by
                        have h1 := (unhide hq4).len
                        have h2 := (unhide HAC).2
                        omega
                      have C38 : Hid (Calls Ybaf.prog 8 #[.pointer (some ⟨p.SP, 0, none⟩), .agg #[.int .i64 (i : Int), .int .i64 (j : Int), .string ⟨#[]⟩, .string ⟨#[]⟩, .int .u64 0, .bool false, .bool false, .int .u64 0, .pointer none]] wx fun e w' => ∃ (no : Nat) (its2 : List (Nat × Nat)) (v2 : Value), e = .returned (.int .u32 (no : Int)) ∧ Inv p { t with its := its2, vi := v2 } w' ∧ Ext p { t with its := its', vi := vi' } { t with its := its2, vi := v2 } wx w' ∧ its2[no]? = some (i, j)) := by
                        have h1 := itemI (unhide HP) (unhide hq4).inv (i, j) ⟨by rw [unhide HNP]; exact hin, by simp only; omega, fun _ => by rw [unhide HMN]; exact hjn⟩
                        have e1 : itSb j = (j : Int) := by unfold itSb; rw [if_pos (by omega)]
                        have e2 : itS1 j = ⟨#[]⟩ := by unfold itS1; rw [if_pos (by omega)]
                        have e3 : itS2 (i, j) = ⟨#[]⟩ := by unfold itS2; rw [if_pos (by simp only; omega)]
                        simp only [e1, e2, e3] at h1
                        exact h1
                      obtain ⟨i53, hi53, hz53, hs53, hb53⟩ := info_parts info53
                      obtain ⟨fj, hfj⟩ : ∃ fj, fj = f j := ⟨_, rfl⟩
                      have HFJ := hide hfj
                      have HMSB := hide hms
                      clear hms hfj
                      go_wp2_with fail
                      refine (unhide C38).mono ?_
                      rintro e wI ⟨no, its2, v2, rfl, hI2, hE2, hno⟩
                      have HI2 := hide hI2
                      have HE2 := hide hE2
                      have HNO := hide hno
                      have HSO := hide ((unhide hq4).inv.keptO hE2.fr (unhide hq4).so (by decide))
                      have hwI : wr.heap.size ≤ wI.heap.size := Nat.le_trans (unhide hq4).ext.fr.size hE2.fr.size
                      clear hI2 hE2 hno C38
                      have HSM : Hid (wI.ownsRow wr.heap.size 53 1 (.slice ba m bc) m (ys.map fun (y : Nat) => .int .u32 (y : Int))) := by
                        have h1 := unhide HSO
                        rw [← (unhide HAC).2] at h1
                        exact h1
                      have hfj8 : fj < 256 := by
                        rw [unhide HFJ, unhide HF]
                        have : full < 256 := by
                          rw [unhide HFU]
                          have : 2 ^ np ≤ 2 ^ 8 := Nat.pow_le_pow_right (by omega) hnp1.2
                          omega
                        simp only
                        split
                        · exact Nat.lt_of_le_of_lt Nat.and_le_right this
                        · omega
                      obtain ⟨hor1, hor2⟩ := or_nat acc fj (by omega) (by omega)
                      obtain ⟨a2, ha2⟩ : ∃ a2, a2 = acc ||| fj := ⟨_, rfl⟩
                      rw [← ha2] at hor1 hor2
                      have ha256 : a2 < 256 := by rw [ha2]; exact Nat.or_lt_two_pow (n := 8) hacc hfj8
                      have HA2 := hide ha2
                      have efj : IntKind.u64.wrap (fj : Int) = (fj : Int) := by rw [IntKind.wrap_u64]; omega
                      clear ha2
                      go_wp2_with (at_builtin; refine wpList_append_lies _ (by rfl) _ _ _ (by rfl) wr.heap.size 53 i53 (.int .u32 0) 1 4 Ybaf.underlying51 hi53 hz53 hs53 hb53 rfl (by omega) (.slice ba m bc) m (ys.map fun (y : Nat) => .int .u32 (y : Int)) (by rfl) (owns_kept (unhide HSM) ((Fr.refl (fun _ => False) wI).alloc (.cells #[.int .u32 (no : Int)] 53)) (fun _ _ => id)) ⟨wI.heap.size, 0, none⟩ 1 1 [.int .u32 (no : Int)] (by rfl) (by rfl) (World.news_of_block (Blk.new wI 53 [.int .u32 (no : Int)])) (by simp [Value.oneCell']) (by omega) (by unfold maxLen; omega) (by omega) (by rw [World.size_alloc]; omega) (wI.heap.size + 1) (by simp) ?_; intro g cap wJ hown hgrow hat hlt; obtain ⟨hN4, hDD⟩ := (unhide hq4).next (unhide hst).inv (Fr.refl (fun _ => False) wx) (unhide HI2) (unhide HE2) (unhide HNO) ((Fr.refl (fun _ => False) wI).alloc (.cells #[.int .u32 (no : Int)] 53)) hgrow (by rw [← (unhide HAC).2]; exact hown); have k39 : wJ.cell? ⟨MS, j, none⟩ = some (.int .u8 (fj : Int)) := (by rw [((unhide hst).ms.kept hN4.ext.fr ((unhide hst).inv.nch (unhide hst).ms (by decide))).cell, unhide HFJ]; unfold msL; rw [List.getElem?_map, List.getElem?_range hjn]; simp only [Option.map_some]; rw [if_pos hjn]); have HN4 := hide hN4; have HDD := hide hDD; clear hown hgrow hat hN4 hDD)
                      rw [← (unhide HAC).2] at HN4
                      go_roundw
                      case rel => exact ⟨j + 1, a2, its2, v2, _, _, m + 1, ys ++ [no], by go_num, rfl, rfl, by omega, ha256, ⟨by rw [unhide HDD, unhide HA2, (unhide HAC).1, unhide HFJ, unhide HMS], by rw [(unhide HAC).2]; simp⟩, HN4⟩
                      case measure => (try simp [intOf]) <;> (try omega)
                  · obtain rfl : nm' = j := by omega
                    have z4 : decide ((nm' : Int) < (nm' : Int)) = false := by simp
                    have hm8 : m ≤ 8 := by
                      have h1 := (unhide hq4).len
                      have h2 := (unhide HAC).2
                      omega
                    have hi8 : i < 8 := by omega
                    have C10 : Hid (Calls Ybaf.prog 10 #[.pointer (some ⟨p.SP, 0, none⟩), .agg #[.int .i64 (i : Int), .iface 82 (.agg #[]), .slice none 0 0, .slice none 0 0]] wx fun e w' => e = .returned (.int .u32 (i : Int)) ∧ ∃ v' nl', Q5 p t wr i nm' its' vi' v' nl' ba bc ys w') := by
                      have hq := unhide hq4
                      rw [(unhide HAC).2] at hq
                      exact hq.loc (unhide HP) (unhide hst).nl (by rw [unhide HNP]; exact hin)
                    go_wp2_with fail
                    refine (unhide C10).mono ?_
                    rintro e wL ⟨rfl, vl', nl', hQ5⟩
                    have C9 : Hid (Calls Ybaf.prog 9 #[.pointer (some ⟨p.SP, 0, none⟩), .int .u32 (i : Int), .slice ba m bc] wL fun e w' => ∃ no : Nat, e = .returned (.int .u32 (no : Int)) ∧ ∃ (t2 : St) (c : Cmp), Q6 p t wr i acc no t2 w' c) := by
                      have hl := (unhide hst).len
                      have hmul : i * 109601 ≤ 7 * 109601 := Nat.mul_le_mul_right _ (by omega)
                      have h := hQ5.comp (unhide HP) (unhide hst).inv hnm8 (by omega)
                      rw [← (unhide HAC).2, ← (unhide HAC).1] at h
                      exact h
                    clear hQ5 C10
                    go_wp2_with fail
                    refine (unhide C9).mono ?_
                    rintro e wC ⟨no, rfl, t2, c, hQ6⟩
                    have C6 := hide (hQ6.dests (unhide HP) hi8 (unhide hst))
                    clear hQ6 C9
                    go_wp2_with fail
                    refine (unhide C6).mono ?_
                    rintro e wD ⟨rfl, t3, cb, nc, cc, hQ3, k10, k2, k5, hno, hnc⟩
                    have HQ3 := hide hQ3
                    have zno : (no : Int) < (nc : Int) := by omega
                    clear hQ3 C6
                    go_wp2_with fail
                    go_roundw
                    case rel => exact ⟨i + 1, t3, by go_num, by omega, HQ3⟩
                    case measure => (try simp [intOf]) <;> (try omega)
              · obtain rfl : np = i := by omega
                have z3 : decide ((np : Int) < (np : Int)) = false := by simp
                have HE : Hid (Below w.heap.size w wr) := ⟨(unhide hst).fr.os, (unhide hst).fr.tape, (unhide hst).fr.output, (unhide hst).fr.size, fun k hk => (unhide hst).fr.block k hk id⟩
                go_wp2_with fail
                go_ret
                exact ⟨rfl, HE.out⟩
end Go.Proofs.YbulkbrdiFmt
