/-
  b3388a: (*queue).add: the walk, first part.
-/
import Derived.Test.YbulkbrdiAdd1
import Derived.Deep.CutBlock
namespace Go.Proofs.Ybulkbrdi
open Go.RowKit
set_option linter.unusedVariables false
set_option linter.unusedSimpArgs false

theorem empty_any (Q n c : Nat) (a : Option Addr) (w : World) (hq : w.cell? ⟨Q, 0, none⟩ = some (.slice a n c)) :
    Calls Yba.prog 9 #[.pointer (some ⟨Q, 0, none⟩)] w fun e w' => e = .returned (.bool (n == 0)) ∧ w = w' := by
  have e : ((n : Int) == 0) = (n == 0) := by cases n <;> simp; omega
  have E := hide e
  clear e
  go_enter Yba.func9, Yba.ntmps9
  go_wp2
  go_ret
  exact ⟨by rw [← unhide E]; rfl, rfl⟩

theorem drew_set (w : World) (a : Addr) (v : Value) : (w.setCell a v).drew = w.drew.setCell a v := rfl

/-- where add puts the message: the search's place, or the end of the last block -/
def addAt (X : List (List Nat)) (b i : Nat) : Nat × Nat := if b = X.length then (b - 1, (X.getD (b - 1) []).length) else (b, i)
/-- what add makes of the blocks -/
def addM (X : List (List Nat)) (b0 i0 m : Nat) : List (List Nat) :=
  if X = [] then [[m]] else
  let b := (addAt X b0 i0).1
  let i := (addAt X b0 i0).2
  let x := X.getD b []
  let x' := x.take i ++ m :: x.drop i
  if x'.length ≤ 256 then X.set b x'
  else joinI (joinI (X.take b ++ x'.take (x'.length / 2) :: x'.drop (x'.length / 2) :: X.drop (b + 1)) ((b : Int) + 1)) ((b : Int) - 1)

set_option maxHeartbeats 2000000 in
set_option maxRecDepth 100000 in
theorem add_any (B Q m : Nat) (X : List (List Nat)) (t : Nat → Nat) (w : World) (hR : Rep w B Q t X) (hs : Srt t X) (hsm : Small X) (hm : MsgB w m (t m)) (hlt : X.length < 10000) (hfull : ∀ x ∈ X, x.length ≤ 256) :
    Calls Yba.prog 10 #[.pointer (some ⟨Q, 0, none⟩), .pointer (some ⟨m, 0, none⟩)] w fun e w' => e = .returned (.tuple #[]) ∧ FrQ B w w' ∧
      ∃ (b i : Nat) (f : Bool), Found t X (t m) b i f ∧ Rep w' B Q t (if f then X else addM X b i m) := by
  have HF := hide (find_any B Q m (t m) X t w hR hs hsm hm)
  have HR := hide hR
  have HS := hide hs
  have HM := hide hsm
  have HMs := hide hm
  have HFu := hide hfull
  clear hR hs hsm hm hfull
  go_enter Yba.func10, Yba.ntmps10
  go_wp2_with fail
  refine (unhide HF).mono ?_
  rintro e w1 ⟨b, i, f, rfl, hfd, hbl⟩
  have hR1 := (unhide HR).below hbl
  have HMs1 := hide ((unhide HMs).below hbl)
  have FD := hide hfd
  cases f with
  | true =>
    have R1 := hide hR1
    clear hR1 hfd
    go_wp2
    go_returns
    exact ⟨rfl, FrQ.of_below hbl, b, i, true, unhide FD, unhide R1⟩
  | false =>
    by_cases hX0 : X = []
    · subst hX0
      obtain ⟨hB, hms, hq0⟩ := hR1
      obtain ⟨a, c, hq⟩ : ∃ a c, Blk w1 Q 44 [.slice a 0 c] := by
        rcases hq0 with ⟨_, hq⟩ | ⟨og, oc, L, hq, hr, hX⟩
        · exact ⟨_, _, hq⟩
        · have : L = [] := by simpa using hX
          subst this; exact ⟨_, _, hq⟩
      have hqc : w1.cell? ⟨Q, 0, none⟩ = some (.slice a 0 c) := by rw [hq.cell]; rfl
      have hqf : w1.frozen? ⟨Q, 0, none⟩ = false := hq.frozen _
      have hQl := hq.lt
      have Hq := hide hq
      clear hq hq0 hms hfd
      go_wp2_with (go_at_call 9; refine (empty_any Q 0 c a _ hqc).mono ?_; rintro e w' ⟨rfl, rfl⟩)
      go_returns
      have hae := add_empty (t := t) hB (unhide Hq) (unhide HMs1)
      exact ⟨rfl, (FrQ.of_below hbl).trans hae.2, b, i, false, unhide FD, hae.1⟩
    · have hlen0 : 0 < X.length := List.length_pos_iff.2 hX0
      obtain ⟨hB, hms, ⟨hx, _⟩ | ⟨og, oc, L, hq, hr, hX⟩⟩ := hR1
      · exact absurd hx hX0
      have hlen : L.length = X.length := by rw [← hX]; simp
      have hqc : w1.cell? ⟨Q, 0, none⟩ = some (.slice (some ⟨og, 0, none⟩) L.length oc) := by rw [hq.cell]; rfl
      have hN : L.length ≤ 100000 := by have := (unhide HM).1; omega
      have hN1 : L.length + 1 ≤ 100000 := by omega
      have hle := hfd.le
      obtain ⟨b', eb⟩ : ∃ b', b' = (addAt X b i).1 := ⟨_, rfl⟩
      obtain ⟨i', ei⟩ : ∃ i', i' = (addAt X b i).2 := ⟨_, rfl⟩
      have hb' : b' < L.length := by
        rw [eb]; unfold addAt; split
        · show b - 1 < L.length; omega
        · show b < L.length; omega
      have hLb : L[b']? = some L[b'] := List.getElem?_eq_getElem hb'
      obtain ⟨bk, ebk⟩ : ∃ bk, bk = L[b'] := ⟨_, rfl⟩
      rw [← ebk] at hLb
      have hXb : X[b']? = some bk.ms := by rw [← hX, List.getElem?_map, hLb]; rfl
      have hcase : (b = L.length ∧ b' = b - 1 ∧ i' = bk.ms.length) ∨ (b < L.length ∧ b' = b ∧ i' = i) := by
        by_cases h : b = X.length
        · left
          have e1 : b' = b - 1 := by rw [eb]; unfold addAt; rw [if_pos h]
          refine ⟨by omega, e1, ?_⟩
          rw [ei]; unfold addAt; rw [if_pos h]
          show (X.getD (b - 1) []).length = _
          rw [← e1, List.getD_eq_getElem?_getD, hXb]; rfl
        · right
          exact ⟨by omega, by rw [eb]; unfold addAt; rw [if_neg h], by rw [ei]; unfold addAt; rw [if_neg h]⟩
      have hob : w1.cell? ⟨og, b', none⟩ = some (.slice (some ⟨bk.g, 0, none⟩) bk.ms.length bk.cap) := hr.cell hLb
      have Hms := hide hms
      have Hq := hide hq
      have Hr := hide hr
      have HX := hide hX
      have HLb := hide hLb
      have HXb := hide hXb
      have Heb := hide eb
      have Hei := hide ei
      have Hlen := hide hlen
      have Hfd := hide hfd
      have h00 : ((L.length == 0) : Bool) = false := beq_eq_false_iff_ne.2 (by omega)
      clear hms hq hr hX hLb hXb eb ei ebk hlen hfd hle
      go_upto_block 0 with fail
      go_cut [4, 5] (fun s4 s5 wc => s4 = .int .i64 b' ∧ s5 = .int .i64 i' ∧ w1 = wc)
      case first =>
        rcases hcase with ⟨e1, e2, e3⟩ | ⟨e1, e2, e3⟩
        · have hbb : ((b : Int) == (L.length : Int)) = true := by simp; omega
          have E1 := hide e1
          have E2 := hide e2
          have E3 := hide e3
          have hob' : w1.cell? ⟨og, b - 1, none⟩ = some (.slice (some ⟨bk.g, 0, none⟩) bk.ms.length bk.cap) := by rw [← e2]; exact hob
          have g1 : 1 ≤ b := by omega
          have g2 : b ≤ 100000 := by omega
          have g3 : b - 1 < L.length := by omega
          clear e1 e2 e3
          go_wp2_with (go_at_call 9; refine (empty_any Q _ _ _ _ hqc).mono ?_; rintro e w' ⟨rfl, rfl⟩)
          go_meet
          case rel => exact ⟨by rw [unhide E2]; go_num, by rw [unhide E3], rfl⟩
        · have hbb : ((b : Int) == (L.length : Int)) = false := by simp; omega
          have E2 := hide e2
          have E3 := hide e3
          clear e2 e3
          go_wp2_with (go_at_call 9; refine (empty_any Q _ _ _ _ hqc).mono ?_; rintro e w' ⟨rfl, rfl⟩)
          go_meet
          case rel => exact ⟨by rw [unhide E2], by rw [unhide E3], rfl⟩
      case rest =>
        obtain ⟨rfl, rfl, rfl⟩ := hcut
        obtain ⟨tail, ho, hol, hom⟩ := (unhide Hr).outer
        have hbm := List.mem_of_getElem? (unhide HLb)
        have hxm := List.mem_of_getElem? (unhide HXb)
        obtain ⟨t1, r1, c1, M1⟩ := (unhide Hr).inner bk hbm
        have hQo := (unhide Hq).ne ho (by decide)
        have hQ1 := (unhide Hq).ne r1 (by decide)
        have ho1 := ho.ne r1 (by decide)
        have hf256 : bk.ms.length ≤ 256 := (unhide HFu) _ hxm
        have hi' : i' ≤ bk.ms.length := by
          rcases hcase with ⟨_, _, e⟩ | ⟨h1, h2, e⟩
          · omega
          · rw [e]; rw [h2] at HXb
            exact Nat.le_of_lt ((unhide Hfd).mid _ (unhide HXb)).1
        have hins := ins30_any bk.g bk.ms.length bk.cap i' w1.heap.size (bk.ms.map ptr) (ptr m) t1 (w1.alloc (.cells #[.pointer (some ⟨m, 0, none⟩)] 30)) hi' (by omega) M1
          (Nat.ne_of_gt r1.lt) (r1.alloc _) (by simp) c1 (Blk.new w1 30 [ptr m]) (ptr_one _) rfl
        have HI := hide hins
        have Ho := hide ho
        have Hr1 := hide r1
        have Hcase := hide hcase
        have HOL := hide hol
        have HC1 := hide c1
        clear hins ho r1 hcase hol c1 
        go_wp2_with fail
        refine (unhide HI).mono ?_
        rintro e w2 ⟨g', c', tail', rfl, hc', hl', hB2, hg', hF2⟩
        have hgw : g' = bk.g ∨ w1.heap.size ≤ g' := by rcases hg' with h | h; exact .inl h; right; rw [h]; simp
        have q2 : Blk w2 Q 44 [.slice (some ⟨og, 0, none⟩) L.length oc] := ((unhide Hq).alloc _).kept hF2 hQ1
        have o2 : Blk w2 og 25 (L.map Bk.sv ++ tail) := ((unhide Ho).alloc _).kept hF2 ho1
        have kq : w2.cell? ⟨Q, 0, none⟩ = some (.slice (some ⟨og, 0, none⟩) L.length oc) := by rw [q2.cell]; rfl
        have ko : w2.cell? ⟨og, b', none⟩ = some (.slice (some ⟨bk.g, 0, none⟩) bk.ms.length bk.cap) := by rw [o2.cell, List.getElem?_append_left (by simpa using hb'), List.getElem?_map, unhide HLb]; rfl
        have kf : w2.frozen? ⟨og, b', none⟩ = false := o2.frozen _
        have HB2 := hide hB2
        have Hg' := hide hg'
        have HF2 := hide hF2
        have Q2 := hide q2
        have O2 := hide o2
        have HL' := hide hl'
        clear hB2 hg' hF2 q2 o2 hl'
        have hgd : X.getD b' [] = bk.ms := by rw [List.getD_eq_getElem?_getD, unhide HXb]; rfl
        have HGD := hide hgd
        clear hgd
        by_cases hle : bk.ms.length + 1 ≤ 256
        · go_wp2
          go_returns
          have hfit := add_fit hB (unhide Hms) (unhide Hq) (unhide Hr) (unhide HX) (unhide HLb) (unhide HMs1) (unhide HB2) (unhide HL') hc' (unhide Hg') (unhide HF2)
          refine ⟨rfl, (FrQ.of_below hbl).trans hfit.2, b, i, false, unhide FD, ?_⟩
          have : addM X b i m = X.set b' (insN bk.ms i' m) := by
            unfold addM
            rw [if_neg hX0, ← unhide Heb, ← unhide Hei]
            simp only []
            rw [unhide HGD, if_pos (by have := insN_length bk.ms i' m; unfold insN at this; omega)]
            rfl
          show Rep _ B Q t (addM X b i m)
          rw [this]; exact hfit.1
        · have hn : bk.ms.length = 256 := by omega
          have hysl : (insL (bk.ms.map ptr) i' (ptr m)).length = 257 := by rw [← insN_map, List.length_map, insN_length, hn]
          have hc257 : 257 ≤ c' := by have := unhide HL'; omega
          have hcl : ∀ (W : World), (W.heap = w2.heap ∧ W.os = w2.os ∧ W.tape = w2.tape ∧ W.output = w2.output) → Calls Yba.prog 17 #[.slice (some ⟨g', 128, none⟩) 129 (c' - 128)] W fun e w' =>
              ∃ g3 c3 t3, e = .returned (.slice (some ⟨g3, 0, none⟩) 129 c3) ∧ c3 ≤ 9223372036854775807 ∧ 129 + t3.length = c3 ∧ Blk w' g3 30 ((insL (bk.ms.map ptr) i' (ptr m)).drop 128 ++ t3) ∧ w2.heap.size ≤ g3 ∧ Below w2.heap.size w2 w' := fun W ⟨hW, hW1, hW2, hW3⟩ => by
            have hBW : Blk W g' 30 (insL (bk.ms.map ptr) i' (ptr m) ++ tail') := by unfold Blk; rw [hW]; exact unhide HB2
            have := clone30_any g' 128 129 (c' - 128) ((insL (bk.ms.map ptr) i' (ptr m)).drop 128) W (by omega) (by omega) (by rw [List.length_drop, hysl])
              (fun j u hu => by
                rw [hBW.cell, List.getElem?_append_left (by have := (List.getElem?_eq_some_iff.1 hu).1; rw [List.length_drop] at this; omega), ← List.getElem?_drop]; exact hu) hBW.lt
              (fun v hv => by rw [← insN_map] at hv; exact ptr_one _ v (List.mem_of_mem_drop hv))
            refine this.mono ?_
            rintro e w' ⟨g3, c3, t3, h1, h2, h3, h4, h5, h6⟩
            rw [hW] at h5 h6
            exact ⟨g3, c3, t3, h1, h2, h3, h4, h5, ⟨h6.os.trans hW1, h6.tape.trans hW2, h6.output.trans hW3, hW ▸ h6.size, fun k hk => (h6.block k hk).trans (by rw [hW])⟩⟩
          have hin : ∀ (W : World) (g3 c3 : Nat), Blk W og 25 (L.map Bk.sv ++ tail) → ∀ vb, vb ≠ og → Blk W vb 25 [.slice (some ⟨g3, 0, none⟩) 129 c3] →
              Calls Yba.prog 16 #[.slice (some ⟨og, 0, none⟩) L.length oc, .int .i64 ((b' : Int) + 1), .slice (some ⟨vb, 0, none⟩) 1 1] W fun e w' =>
              ∃ og' oc' tl', e = .returned (.slice (some ⟨og', 0, none⟩) (L.length + 1) oc') ∧ oc' ≤ 9223372036854775807 ∧ L.length + 1 + tl'.length = oc' ∧ Blk w' og' 25 (insL (L.map Bk.sv) (b' + 1) (.slice (some ⟨g3, 0, none⟩) 129 c3) ++ tl') ∧ (og' = og ∨ og' = W.heap.size) ∧ Fr (· = og) W w' := fun W g3 c3 hWo vb hvb hWv => by
            have := ins25_any og L.length oc (b' + 1) vb (L.map Bk.sv) (.slice (some ⟨g3, 0, none⟩) 129 c3) tail W (by omega) hN hom hvb hWo (by simp) (unhide HOL) hWv (sv_one _) rfl
            rw [show ((b' + 1 : Nat) : Int) = (b' : Int) + 1 from by omega] at this
            exact this
          have HCL := hide hcl
          have HIN := hide hin
          have HYS := hide hysl
          have hcne : ¬ (c' = 128) := by omega
          have z0 : (0 : Int) ≤ (b' : Int) := by omega
          have zw : IntKind.i64.wrap ((b' : Int) + 1) = (b' : Int) + 1 := by rw [IntKind.wrap_i64]; omega
          have hQ2 := (unhide Q2).lt
          have hO2 := (unhide O2).lt
          clear hcl hin hysl hle HI HF
          go_wp2_with fail
          go_cut [0, 4, 7, 8] (fun s0 s4 s7 s8 wd => s0 = .pointer (some ⟨Q, 0, none⟩) ∧ s4 = .int .i64 b' ∧ s7 = .slice (some ⟨g', 0, none⟩) 257 c' ∧ s8 = .int .i64 128 ∧ SplitMid w1 Q og bk.g b' L.length (L.map Bk.sv) (insL (bk.ms.map ptr) i' (ptr m)) tail' g' wd)
          case first =>
            go_region_with (first
              | (go_at_call 17; refine (unhide HCL _ (by exact ⟨rfl, rfl, rfl, rfl⟩)).mono ?_; rintro e w3 ⟨g3, c3, t3, rfl, hc3, hl3, hB3, hg3, hb3⟩; have kq3 : w3.cell? ⟨Q, 0, none⟩ = some (.slice (some ⟨og, 0, none⟩) L.length oc) := (hb3.cell hQ2).trans kq; have HO3 := hide ((unhide O2).below hb3 hO2); have HQ3 := hide ((unhide Q2).below hb3 hQ2); have hO3 : og < w3.heap.size := Nat.lt_of_lt_of_le hO2 hb3.size; have hQ3 : Q < w3.heap.size := Nat.lt_of_lt_of_le hQ2 hb3.size; have HB3 := hide hB3; have Hb3 := hide hb3; clear hB3 hb3)
              | (go_at_call 16; refine (unhide HIN (w3.alloc (.cells #[.slice (some ⟨g3, 0, none⟩) 129 c3] 25)) g3 c3 ((unhide HO3).alloc _) w3.heap.size (Nat.ne_of_gt hO3) (Blk.new w3 25 [.slice (some ⟨g3, 0, none⟩) 129 c3])).mono ?_; rintro e w5 ⟨og', oc', tl', rfl, hoc5, hl5, hB5, hog5, hF5⟩; have HQ5 := hide (((unhide HQ3).alloc _).kept hF5 hQo); have kq5 : w5.cell? ⟨Q, 0, none⟩ = some (.slice (some ⟨og, 0, none⟩) L.length oc) := (by rw [(unhide HQ5).cell]; rfl); have kf5 : w5.frozen? ⟨Q, 0, none⟩ = false := (unhide HQ5).frozen _; have HB5 := hide hB5; have HF5 := hide hF5; clear hB5 hF5))
            all_goals
              go_wp2_with fail
              go_meet
              case rel => exact ⟨rfl, rfl, rfl, rfl, splitMid_mk (unhide Hq) (unhide Ho) (unhide Hr1) (unhide HF2) (unhide Hg') (unhide HB2) hc3 hl3 (unhide HB3) hg3 (unhide Hb3) hoc5 hl5 (unhide HB5) hog5 (unhide HF5)⟩
          case rest =>
            obtain ⟨rfl, rfl, rfl, rfl, g3, c3, t3, og', oc', tl', sq, so, sl, som, s3, sl3, sc3, sr, sog, sg3, sne, sF⟩ := hcut
            obtain ⟨W2, hW2⟩ : ∃ W2, W2 = wc.setCells g' 128 (List.replicate 129 (.pointer none)) := ⟨_, rfl⟩
            have hcl : ∀ ty, (Builtin.clear_ #[25] ty #[.slice (some ⟨g', 128, none⟩) 129 (c' - 128)]).run Yba.prog wc = .ok (.tuple #[]) W2 := fun ty => by
              rw [hW2]
              exact Lib.run_clear_slice wc _ _ ty _ Yba.underlying25 Yba.zeroValue30 rfl rfl g' 128 129 (c' - 128) (by omega)
                (fun j hj => by rw [sr.cell, List.getElem?_eq_getElem (by rw [List.length_append, unhide HYS]; omega)]; rfl) (fun j hj => sr.frozen _)
            have n1 := so.ne sr (by decide)
            have n3 := sq.ne sr (by decide)
            have n4 := sq.ne so (by decide)
            have q2 : Blk W2 Q 44 [.slice (some ⟨og', 0, none⟩) (L.length + 1) oc'] := by rw [hW2]; exact Blk.setCells_other (fun e => n3 e.symm) _ _ sq
            have o2 : Blk W2 og' 25 (insL (L.map Bk.sv) (b' + 1) (.slice (some ⟨g3, 0, none⟩) 129 c3) ++ tl') := by rw [hW2]; exact Blk.setCells_other (fun e => n1 e.symm) _ _ so
            have kq2 : W2.cell? ⟨Q, 0, none⟩ = some (.slice (some ⟨og', 0, none⟩) (L.length + 1) oc') := by rw [q2.cell]; rfl
            have ko2 : ∃ v, W2.cell? ⟨og', b', none⟩ = some v := by
              rw [o2.cell, List.getElem?_eq_getElem (by simp [insL]; omega)]; exact ⟨_, rfl⟩
            obtain ⟨v0, ko2⟩ := ko2
            have kf2 : W2.frozen? ⟨og', b', none⟩ = false := o2.frozen _
            have HS2 := hide sq
            have HS3 := hide so
            have HS4 := hide s3
            have HS5 := hide sr
            have HS6 := hide sF
            have HS7 := hide sl
            have HS8 := hide sl3
            have HW2 := hide hW2
            have Hn := hide hn
            have y0 : (0 : Int) ≤ (b' : Int) := by omega
            have y1 : (b' : Int) < ((L.length + 1 : Nat) : Int) := by omega
            have y2 : (b' : Int) < (L.length : Int) + 1 := by omega
            have y3 : 128 ≤ c' := by omega
            clear sq so s3 sr sF sl sl3 hW2 q2 o2 hn kq ko kf
            go_wp2_with fail
            go_region
            all_goals
              go_wp2_with fail
              have hsp := add_split (W := (W2.setCell ⟨og', b', none⟩ (.slice (some ⟨g', 0, none⟩) 128 c')).drew) hB (unhide Hms) (unhide Hq) (unhide Hr) (unhide HX) (unhide HLb) (unhide HMs1) (unhide Hn) (by have := unhide HL'; have := unhide Hn; omega) hc' hgw
                (unhide HS2) (unhide HS3) (unhide HS7) som (unhide HS4) (unhide HS8) sc3 (unhide HS5) sog sg3 sne (unhide HS6) (by rw [← unhide HW2]; exact drew_set W2 _ _)
              have hyn : (insN bk.ms i' m).length = 257 := by rw [insN_length, unhide Hn]
              have hX3ne : ∀ x ∈ X.take b' ++ (insN bk.ms i' m).take 128 :: (insN bk.ms i' m).drop 128 :: X.drop (b' + 1), x ≠ [] := fun x hx => by
                simp only [List.mem_append, List.mem_cons] at hx
                rcases hx with h | rfl | rfl | h
                · exact (unhide HS).1 x (List.mem_of_mem_take h)
                · intro e; have := congrArg List.length e; simp [hyn] at this
                · intro e; have := congrArg List.length e; simp [hyn] at this
                · exact (unhide HS).1 x (List.mem_of_mem_drop h)
              have hX3sm : Small (X.take b' ++ (insN bk.ms i' m).take 128 :: (insN bk.ms i' m).drop 128 :: X.drop (b' + 1)) := by
                refine ⟨?_, fun x hx => ?_⟩
                · have h1 := hN1; have h2 := unhide Hlen; simp; omega
                · simp only [List.mem_append, List.mem_cons] at hx
                  rcases hx with h | rfl | rfl | h
                  · exact (unhide HM).2 x (List.mem_of_mem_take h)
                  · simp [hyn]
                  · simp [hyn]
                  · exact (unhide HM).2 x (List.mem_of_mem_drop h)
              have hadd : addM X b i m = joinI (joinI (X.take b' ++ (insN bk.ms i' m).take 128 :: (insN bk.ms i' m).drop 128 :: X.drop (b' + 1)) ((b' : Int) + 1)) ((b' : Int) - 1) := by
                unfold addM
                rw [if_neg hX0, ← unhide Heb, ← unhide Hei]
                simp only []
                rw [unhide HGD]
                have e1 : (bk.ms.take i' ++ m :: bk.ms.drop i').length = 257 := hyn
                rw [if_neg (by omega), e1]
                rfl
              have HSP := hide hsp
              have HXN := hide hX3ne
              have HXS := hide hX3sm
              have HAD := hide hadd
              clear hsp hyn hX3ne hX3sm hadd kq2 ko2 kf2 hcl
              refine (join_any B Q t _ ((b' : Int) + 1) _ (unhide HSP).1 (unhide HXN) (unhide HXS) (by omega) (by omega)).mono ?_
              rintro e w6 ⟨rfl, hR6, hF6⟩
              have HR6 := hide hR6
              clear hR6
              go_wp2_with fail
              refine (join_any B Q t _ ((b' : Int) - 1) w6 (unhide HR6) (ne_join (unhide HXN) _) ((unhide HXS).join _) (by omega) (by omega)).mono ?_
              rintro e w7 ⟨rfl, hR7, hF7⟩
              have HR7 := hide hR7
              clear hR7
              go_wp2
              go_returns
              refine ⟨rfl, (FrQ.of_below hbl).trans ((unhide HSP).2.trans (hF6.trans hF7)), b, i, false, unhide FD, ?_⟩
              show Rep _ B Q t (addM X b i m)
              rw [unhide HAD]; exact unhide HR7
end Go.Proofs.Ybulkbrdi
