/-
  b3388a: (*queue).remove: the walk.
-/
import Derived.Test.YbulkbrdiRem
namespace Go.Proofs.Ybulkbrdi
open Go.RowKit
set_option linter.unusedVariables false
set_option linter.unusedSimpArgs false

set_option maxHeartbeats 2000000 in
set_option maxRecDepth 100000 in
theorem remove_any (B Q m : Nat) (y : Nat) (X : List (List Nat)) (t : Nat → Nat) (w : World) (hR : Rep w B Q t X) (hs : Srt t X) (hsm : Small X) (hm : MsgB w m y) :
    Calls Yba.prog 6 #[.pointer (some ⟨Q, 0, none⟩), .pointer (some ⟨m, 0, none⟩)] w fun e w' => e = .returned (.tuple #[]) ∧ FrQ B w w' ∧
      ∃ (b i : Nat) (f : Bool), Found t X y b i f ∧ Rep w' B Q t (if f then remM X b i else X) := by
  have HF := hide (find_any B Q m y X t w hR hs hsm hm)
  have HR := hide hR
  have HS := hide hs
  have HM := hide hsm
  clear hR hs hsm hm
  go_enter Yba.func6, Yba.ntmps6
  go_wp2_with fail
  refine (unhide HF).mono ?_
  rintro e w1 ⟨b, i, f, rfl, hfd, hbl⟩
  have hR1 := (unhide HR).below hbl
  have FD := hide hfd
  cases f with
  | false =>
    have R1 := hide hR1
    clear hR1 hfd
    go_wp2
    go_returns
    exact ⟨rfl, FrQ.of_below hbl, b, i, false, unhide FD, unhide R1⟩
  | true =>
    obtain ⟨hB, hms, ⟨rfl, hq⟩ | ⟨og, oc, L, hq, hr, hX⟩⟩ := hR1
    · exact absurd (hfd.last (by have := hfd.le; simp at this ⊢; exact this)).2 (by simp)
    have hlen : L.length = X.length := by rw [← hX]; simp
    have hbX : b < X.length := by
      rcases Nat.lt_or_ge b X.length with h | h
      · exact h
      · exact absurd (hfd.last (by have := hfd.le; omega)).2 (by simp)
    have hLb : L[b]? = some L[b] := List.getElem?_eq_getElem (by omega)
    obtain ⟨bk, ebk⟩ : ∃ bk, bk = L[b] := ⟨_, rfl⟩
    rw [← ebk] at hLb
    have hXb : X[b]? = some bk.ms := by rw [← hX, List.getElem?_map, hLb]; rfl
    have hil := (hfd.mid bk.ms hXb).1
    have hbm := List.mem_of_getElem? hLb
    have hxm := List.mem_of_getElem? hXb
    obtain ⟨tail, ho, hol, hom⟩ := hr.outer
    obtain ⟨t1, r1, c1, M1⟩ := hr.inner bk hbm
    have hn1 : bk.ms.length ≤ 100000 := (unhide HM).2 _ hxm
    have hN : L.length ≤ 100000 := by have := (unhide HM).1; omega
    have hQo := hq.ne ho (by decide)
    have hQ1 := hq.ne r1 (by decide)
    have ho1 := ho.ne r1 (by decide)
    have hdel : ∀ (W : World), W.heap = w1.heap → Calls Yba.prog 12 #[.slice (some ⟨bk.g, 0, none⟩) bk.ms.length bk.cap, .int .i64 i, .int .i64 ((i : Int) + 1)] W fun e w' =>
        e = .returned (.slice (some ⟨bk.g, 0, none⟩) (bk.ms.length - 1) bk.cap) ∧ Blk w' bk.g 30 (delL (bk.ms.map ptr) i (.pointer none) ++ t1) ∧ Fr (· = bk.g) W w' := fun W hW => by
      have := del30_any bk.g bk.ms.length bk.cap i (bk.ms.map ptr) t1 W (by unfold Blk; rw [hW]; exact r1) (by simp) c1 M1 hil (ptr_one _)
      rw [show ((i + 1 : Nat) : Int) = (i : Int) + 1 from by omega] at this
      exact this
    have HD := hide hdel
    have hqc : w1.cell? ⟨Q, 0, none⟩ = some (.slice (some ⟨og, 0, none⟩) L.length oc) := by rw [hq.cell]; rfl
    have hoc : w1.cell? ⟨og, b, none⟩ = some (.slice (some ⟨bk.g, 0, none⟩) bk.ms.length bk.cap) := hr.cell hLb
    have hof : w1.frozen? ⟨og, b, none⟩ = false := ho.frozen _
    have hqf : w1.frozen? ⟨Q, 0, none⟩ = false := hq.frozen _
    have hQl := hq.lt
    have hogl := ho.lt
    have Hms := hide hms
    have Hq := hide hq
    have Hr := hide hr
    have HX := hide hX
    have HLb := hide hLb
    have Ho := hide ho
    have Hr1 := hide r1
    have HXb := hide hXb
    have z0 : (0 : Int) ≤ (b : Int) := by omega
    have z1 : (b : Int) < (L.length : Int) := by omega
    have z2 : (0 : Int) ≤ (i : Int) := by omega
    have zw : IntKind.i64.wrap ((i : Int) + 1) = (i : Int) + 1 := by rw [IntKind.wrap_i64]; omega
    have hbL : b < L.length := by omega
    have HLen := hide hlen
    have hoL : L.length ≤ oc := by omega
    have HOL := hide hol
    have HC1 := hide c1
    clear hdel hms hq hr hX hLb ho r1 hXb hfd ebk hlen hol c1
    go_wp2_with fail
    go_cut [0, 4] (fun s s4 wc => s = .pointer (some ⟨Q, 0, none⟩) ∧ s4 = .int .i64 b ∧ RemMid w1 Q L.length oc og b bk.g bk.ms.length bk.cap i (L.map Bk.sv) tail (bk.ms.map ptr) t1 wc)
    case first =>
      go_region_with (first
        | (go_at_call 12; refine (unhide HD _ (by rfl)).mono ?_; rintro e w2 ⟨rfl, hB2, hF2⟩; have kq : w2.cell? ⟨Q, 0, none⟩ = some (.slice (some ⟨og, 0, none⟩) L.length oc) := (World.cell?_of_block (hF2.block Q hQl hQ1)).trans hqc; have ko : w2.cell? ⟨og, b, none⟩ = some (.slice (some ⟨bk.g, 0, none⟩) bk.ms.length bk.cap) := (World.cell?_of_block (hF2.block og hogl ho1)).trans hoc; have kf : w2.frozen? ⟨og, b, none⟩ = false := (World.frozen?_of_block (hF2.block og hogl ho1)).trans hof))
      all_goals
        go_wp2_with fail
        go_meet
        case rel => exact ⟨rfl, rfl, remMid_mk hB2 hF2 ⟨rfl, rfl, rfl, rfl⟩ (unhide Hq) (unhide Ho) (by simp; omega) hQo hQ1 ho1⟩
    case rest =>
      obtain ⟨rfl, rfl, hmid⟩ := hcut
      have hrep := remMid_rows hB (unhide Hms) (unhide Hq) (unhide Hr) (unhide HX) (unhide HLb) (unhide Ho) (unhide HOL) (unhide Hr1) (unhide HC1) hil hmid
      obtain ⟨mq, mo, mr, mf⟩ := hmid
      have k0 : wc.cell? ⟨Q, 0, none⟩ = some (.slice (some ⟨og, 0, none⟩) L.length oc) := by rw [mq.cell]; rfl
      have k1 : wc.cell? ⟨og, b, none⟩ = some (.slice (some ⟨bk.g, 0, none⟩) (bk.ms.length - 1) bk.cap) := by
        rw [mo.cell, List.getElem?_append_left (by simp; omega), List.getElem?_set_self (by simp; omega)]
      have egd : X.getD b [] = bk.ms := by rw [List.getD_eq_getElem?_getD, unhide HXb]; rfl
      have hne := (unhide HS).1
      have hX1ne : bk.ms.length ≠ 1 → ∀ x ∈ X.set b (bk.ms.eraseIdx i), x ≠ [] := fun h1 x hx => by
        rcases List.mem_or_eq_of_mem_set hx with h | h
        · exact hne x h
        · rw [h]; intro e
          have := congrArg List.length e
          rw [List.length_eraseIdx, if_pos hil] at this
          simp at this; omega
      have hSm1 : Small (X.set b (bk.ms.eraseIdx i)) := (unhide HM).set b (by rw [List.length_eraseIdx]; split <;> omega)
      by_cases h1 : bk.ms.length = 1
      · -- the block is empty now: it goes
        have hL1 : (L.set b ⟨bk.g, bk.cap, bk.ms.eraseIdx i⟩).length = L.length := by simp
        have hmo : Blk wc og 25 ((L.set b ⟨bk.g, bk.cap, bk.ms.eraseIdx i⟩).map Bk.sv ++ tail) := by
          rw [List.map_set]
          have : Bk.sv ⟨bk.g, bk.cap, bk.ms.eraseIdx i⟩ = .slice (some ⟨bk.g, 0, none⟩) (bk.ms.length - 1) bk.cap := by
            unfold Bk.sv; simp [List.length_eraseIdx, hil]
          rw [this]; exact mo
        have hdl := del25_any og L.length oc b _ tail wc hmo (by simp) (unhide HOL) hom (by omega) (sv_one _)
        rw [show ((b + 1 : Nat) : Int) = (b : Int) + 1 from by omega] at hdl
        have hd1 : (((bk.ms.length - 1 : Nat) : Int) == 0) = true := by simp; omega
        have hX2ne : ∀ x ∈ (X.set b (bk.ms.eraseIdx i)).eraseIdx b, x ≠ [] := fun x hx => by
          refine hne x ?_
          rw [List.eraseIdx_set_eq] at hx
          exact List.mem_of_mem_eraseIdx hx
        have kqf : wc.frozen? ⟨Q, 0, none⟩ = false := mq.frozen _
        have HR1 := hide hrep
        have HX2 := hide hX2ne
        have HSm := hide (hSm1.erase b)
        have HE := hide egd
        have HDL := hide hdl
        have MO := hide hmo
        have MQ := hide mq
        have HL1 := hide hL1
        have hbi : (b : Int) ≤ 100000 := by omega
        have H1 := hide h1
        clear hrep mq mo mr mf hne hX1ne hSm1 egd hdl hX2ne hmo hL1 h1
        go_wp2_with fail
        refine (unhide HDL).mono ?_
        rintro e w2 ⟨rfl, hB2, hF2⟩
        have q2 : Blk w2 Q 44 [.slice (some ⟨og, 0, none⟩) L.length oc] := (unhide MQ).kept hF2 (fun e => hQo e)
        have k2 : w2.cell? ⟨Q, 0, none⟩ = some (.slice (some ⟨og, 0, none⟩) L.length oc) := by rw [q2.cell]; rfl
        have k3 : w2.frozen? ⟨Q, 0, none⟩ = false := q2.frozen _
        have Q2 := hide q2
        have B2 := hide hB2
        have F2 := hide hF2
        clear q2 hB2 hF2 k0 k1 kqf
        go_wp2_with fail
        obtain ⟨⟨hms1, hq1, hr1', hx1⟩, hfq1⟩ := unhide HR1
        have hrep2 := outer_del (w3 := w2.setCell ⟨Q, 0, none⟩ (.slice (some ⟨og, 0, none⟩) (L.length - 1) oc)) hB hms1 hq1 hr1' hx1 (by rw [unhide HL1]; omega) (unhide MO) (by rw [unhide HL1]; exact (unhide HOL))
          (by rw [unhide HL1]; exact (unhide Q2).setCell 0 _) ((unhide B2).setCell_other hQo _) (Fr.setCell ((unhide F2).mono (fun k _ hk => .inr hk)) (.inl (.inl rfl)) _)
        refine (join_any B Q t _ b _ hrep2.1 (unhide HX2) (unhide HSm) (by omega) hbi).mono ?_
        rintro e w3 ⟨rfl, hR3, hF3⟩
        have HR3 := hide hR3
        have HF3 := hide (hrep2.2.trans hF3)
        have Hfq := hide hfq1
        clear hR3 hF3 hrep2 hms1 hq1 hr1' hx1 hfq1 k2 k3
        go_wp2_with fail
        refine (join_any B Q t _ ((b : Int) - 1) w3 (unhide HR3) (ne_join (unhide HX2) _) ((unhide HSm).join _) (by omega) (by omega)).mono ?_
        rintro e w4 ⟨rfl, hR4, hF4⟩
        have HR4 := hide hR4
        clear hR4
        go_wp2
        go_returns
        refine ⟨rfl, (FrQ.of_below hbl).trans ((unhide Hfq).trans ((unhide HF3).trans hF4)), b, i, true, unhide FD, ?_⟩
        have : remM X b i = joinI (joinI ((X.set b (bk.ms.eraseIdx i)).eraseIdx b) b) ((b : Int) - 1) := by
          unfold remM; rw [unhide HE]; simp only []; rw [if_pos (unhide H1)]
        rw [if_pos rfl, this]; exact unhide HR4
      · have hd1 : (((bk.ms.length - 1 : Nat) : Int) == 0) = false := by simp; omega
        have HR1 := hide hrep
        have HX1 := hide (hX1ne h1)
        have HSm := hide hSm1
        have HE := hide egd
        have hbi : (b : Int) ≤ 100000 := by omega
        clear hrep mq mo mr mf hne hX1ne hSm1 egd
        go_wp2_with fail
        have hrep1 : Rep wc B Q t (X.set b (bk.ms.eraseIdx i)) := ⟨hB, (unhide HR1).1.1, .inr ⟨og, oc, _, (unhide HR1).1.2.1, (unhide HR1).1.2.2.1, (unhide HR1).1.2.2.2⟩⟩
        refine (join_any B Q t _ b wc hrep1 (unhide HX1) (unhide HSm) (by omega) hbi).mono ?_
        rintro e w2 ⟨rfl, hR2, hF2⟩
        have HR2 := hide hR2
        clear hR2 k0 k1 hrep1
        go_wp2_with fail
        refine (join_any B Q t _ ((b : Int) - 1) w2 (unhide HR2) (ne_join (unhide HX1) _) ((unhide HSm).join _) (by omega) (by omega)).mono ?_
        rintro e w3 ⟨rfl, hR3, hF3⟩
        have HR3 := hide hR3
        clear hR3
        go_wp2
        go_returns
        refine ⟨rfl, (FrQ.of_below hbl).trans ((unhide HR1).2.trans (hF2.trans hF3)), b, i, true, unhide FD, ?_⟩
        have : remM X b i = joinI (joinI (X.set b (bk.ms.eraseIdx i)) b) ((b : Int) - 1) := by
          unfold remM; rw [unhide HE]; simp only []; rw [if_neg h1]
        rw [if_pos rfl, this]; exact unhide HR3
end Go.Proofs.Ybulkbrdi
