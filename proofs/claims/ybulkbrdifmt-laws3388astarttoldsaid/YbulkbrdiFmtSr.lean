/-
  b3388aF: (*space).dests over what is known of a space.
-/
import Derived.Test.YbulkbrdiFmtSq
namespace Go.Proofs.YbulkbrdiFmt
open Go.RowKit
set_option linter.unusedVariables false
set_option linter.unusedSimpArgs false
set_option maxRecDepth 100000
set_option maxHeartbeats 8000000

/-- in the run of dests -/
structure De (p : Pr) (t : St) (w : World) (n S q : Nat) (v : Value) (bag : List Nat) (t1 : St) (wr : World) : Prop where
  inv : Inv p t1 wr
  ext : Ext p t t1 w wr
  len : t1.cps.length ≤ t.cps.length + q * S
  own : wr.ownsRow w.heap.size 54 1 v n (evW bag)
theorem T_eq {n : Nat} (h : 0 < n) : T n = n * (1 + T (n - 1)) := by
  obtain ⟨m, rfl⟩ : ∃ m, n = m + 1 := ⟨n - 1, by omega⟩
  rfl
theorem destsI {p : Pr} (hp : PrOk p) : ∀ (n : Nat) (t : St) (w : World) (k : Nat) (c : Cmp), Inv p t w → t.cps[k]? = some c → c.bag.length = n → t.cps.length + T n ≤ 1000000 →
    Calls Ybaf.prog 6 #[.pointer (some ⟨p.SP, 0, none⟩), .int .u32 (k : Int)] w fun e w' => e = .returned (.int .u64 ((D p t.its c.bag : Nat) : Int)) ∧ ∃ (t' : St) (c' : Cmp), Inv p t' w' ∧ Ext p t t' w w' ∧ t'.cps.length ≤ t.cps.length + T n ∧ t'.cps[k]? = some c' ∧ c'.ak = true := by
  intro n
  induction n using Nat.strongRecOn with
  | _ n ih =>
  intro t w k c h hk hcn hT
  have IH := hide ih
  have hkl := (List.getElem?_eq_some_iff.1 hk).1
  obtain ⟨hlo, hsort, hb8, hbit, hak, hak0⟩ := h.ok.cok c (List.mem_of_getElem? hk)
  obtain ⟨cb, cc, hvc, hcb, hcc, hco⟩ := owns_at (C := cmC) (s := 6) (n := t.cps.length) (fun _ => rfl) h.cr (by omega)
  obtain ⟨nc, hnc⟩ : ∃ nc, nc = t.cps.length := ⟨_, rfl⟩
  obtain ⟨Dv, hDv⟩ : ∃ Dv, Dv = D p t.its c.bag := ⟨_, rfl⟩
  have hD256 : Dv < 256 := by rw [hDv]; exact D_lt hp _
  have s10 : w.cell? ⟨p.SP, 10, none⟩ = some (.slice (some ⟨cb, 0, none⟩) nc cc) := by rw [hnc, ← hvc]; exact h.sp.sp.cell 10
  have f2 : w.cell? ⟨cb, k * 6 + 2, none⟩ = some (.int .u64 (c.ds : Int)) := hco k c 2 hk (by omega)
  have f5 : w.cell? ⟨cb, k * 6 + 5, none⟩ = some (.bool c.ak) := hco k c 5 hk (by omega)
  have zk : (k : Int) < (nc : Int) := by omega
  rw [← hDv]
  have HI := hide h
  have HK := hide hk
  have HDV := hide hDv
  have HNC := hide hnc
  have hk6 : k < 1000000 := by omega
  have hnc6 : nc ≤ 1000000 := by omega
  clear ih hco
  by_cases hA : c.ak = true
  · rw [hA] at f5
    rw [hak hA, ← hDv] at f2
    have HE : Hid (∃ (t' : St) (c' : Cmp), Inv p t' w ∧ Ext p t t' w w ∧ t'.cps.length ≤ t.cps.length + T n ∧ t'.cps[k]? = some c' ∧ c'.ak = true) := ⟨t, c, h, Ext.refl p t w, by omega, hk, hA⟩
    clear h hk hak hak0 hsort hbit hDv hnc hvc hcc hA hcn hT hlo hb8 hkl
    go_enter Ybaf.func6, Ybaf.ntmps6
    go_wp2_with fail
    go_ret
    exact ⟨rfl, HE.out⟩
  · have hA' : c.ak = false := by simpa using hA
    rw [hA'] at f5
    have HV := hide (eventsI hp h k c hk (by omega))
    rw [hcn] at HV
    have HSO := hide hsort
    have HBI := hide hbit
    have HCN := hide hcn
    have HTT := hide hT
    have hn8 : n ≤ 8 := by omega
    obtain ⟨S, hS⟩ : ∃ S, S = 1 + T (n - 1) := ⟨_, rfl⟩
    have HS := hide hS
    clear h hk hak hak0 hsort hbit hDv hnc hvc hcc hA hA' hcn hT hlo hb8 hkl f2 hS
    go_enter Ybaf.func6, Ybaf.ntmps6
    go_wp2_with fail
    refine (unhide HV).mono ?_
    rintro e w1 ⟨va, vc, rfl, hown, hF1⟩
    have H0 : Hid (De p t w n S 0 (.slice va n vc) c.bag t w1) := ⟨(unhide HI).kept hF1, Ext.of_fr t hF1, by omega, hown⟩
    clear hown hF1 HV s10 f5
    go_wp2_with fail
    go_loopw [31, 5] (fun s31 s5 wr => ∃ (q acc : Nat) (t1 : St), s31 = .int .i64 q ∧ s5 = .int .u64 (acc : Int) ∧ q ≤ n ∧ acc < 256 ∧ Hid (acc = if q = 0 then 0 else Dv) ∧ Hid (De p t w n S q (.slice va n vc) c.bag t1 wr)) (fun s31 _ _ => n - (intOf s31).toNat)
    case atStart => exact ⟨0, 0, t, rfl, rfl, by omega, by omega, rfl, H0⟩
    case round =>
      clear H0
      obtain ⟨q, acc, t1, rfl, rfl, hq, hacc, HAC, hst⟩ := hrel
      by_cases hqn : q < n
      · have z1 : (q : Int) < (n : Int) := by omega
        have hqb : q < c.bag.length := by rw [unhide HCN]; exact hqn
        obtain ⟨x, hx⟩ : ∃ x, c.bag[q]? = some x := ⟨_, List.getElem?_eq_getElem hqb⟩
        have hxm := List.mem_of_getElem? hx
        obtain ⟨j, hj1, hj8⟩ := unhide HBI x hxm
        obtain ⟨g, vc', hva, hg1, hg2⟩ := (unhide hst).own.form (by omega)
        injection hva with hva _ hvc
        subst hva
        obtain ⟨ev, hev⟩ : ∃ ev, ev = x + 1 := ⟨_, rfl⟩
        have e0 : wr.cell? ⟨g, q, none⟩ = some (.int .u32 (ev : Int)) := by
          refine owns_cell (unhide hst).own rfl q ?_
          unfold evW
          rw [List.getElem?_map, hx, hev]; rfl
        obtain ⟨c1, hc1, hc1l, hc1b, _⟩ := (unhide hst).ext.cps k c (unhide HK)
        have hmul : (q + 1) * S ≤ n * S := Nat.mul_le_mul_right _ (by omega)
        have hTn : T n = n * S := by rw [unhide HS]; exact T_eq (by omega)
        have hlen1 := (unhide hst).len
        have hTT := unhide HTT
        rw [Nat.succ_mul] at hmul
        rw [hTn] at hTT
        have hS1 : S = 1 + T (n - 1) := unhide HS
        have C7 : Hid (Calls Ybaf.prog 14 #[.pointer (some ⟨p.SP, 0, none⟩), .int .u32 (k : Int), .int .u32 (ev : Int)] wr fun e w' => ∃ (t' : St) (nx : Nat) (s : Value) (c' : Cmp), e = .returned (.agg #[.int .u32 (nx : Int), s, .slice none 0 0]) ∧ Inv p t' w' ∧ Ext p t1 t' wr w' ∧ t'.cps.length ≤ t1.cps.length + 1 ∧ SendOk p t'.its w' j s ∧ t'.cps[nx]? = some c' ∧ c'.lo = c1.lo ∧ c'.bag = c1.bag.erase x) := by
          rw [hev]
          exact stepI hp (unhide hst).inv k x j c1 hc1 (by rw [hc1b]; exact hxm) (by rw [hc1l]; exact (unhide hst).ext.it hj1) hj8 (by omega)
        have hlenB : t1.cps.length + 1 + T (n - 1) ≤ 1000000 := by omega
        have hlenN : t1.cps.length + 1 + T (n - 1) ≤ t.cps.length + (q + 1) * S := by rw [Nat.succ_mul]; omega
        have HLB := hide hlenB
        have HLN := hide hlenN
        have HX := hide hx
        have HXM := hide hxm
        have HJ1 := hide hj1
        have HC1B := hide hc1b
        have hev9 : ev ≤ 1000000 := by
          have := (List.getElem?_eq_some_iff.1 hj1).1
          have := (unhide HI).itl hp
          omega
        clear hx hxm hj1 hev hc1 hc1l hc1b hmul hTn hlen1 hTT hS1 hlenB hlenN hvc
        go_wp2_with fail
        refine (unhide C7).mono ?_
        rintro e w2 ⟨t2, nx, s, c2, rfl, hI2, hE2, hl2, hs2, hc2, hc2l, hc2b⟩
        obtain ⟨sa, sc, ys, rfl, hbA, hym, hor, hy8⟩ := hs2
        obtain ⟨m, hm⟩ : ∃ m, m = ys.length := ⟨_, rfl⟩
        rw [← hm] at hbA hy8 ⊢
        obtain ⟨w3, hw3⟩ : ∃ w3, w3 = w2.alloc (.cells #[.int .u32 (nx : Int), .slice sa m sc, .slice none 0 0] 67) := ⟨_, rfl⟩
        have hF23 : Fr (fun _ => False) w2 w3 := by rw [hw3]; exact (Fr.refl _ w2).alloc _
        have hI3 := hI2.kept hF23
        have hb3 := hbA.kept hF23 (fun _ _ => id)
        have b0 : w3.cell? ⟨w2.heap.size, 0, none⟩ = some (.int .u32 (nx : Int)) := by rw [hw3]; exact (Blk.new w2 67 [.int .u32 (nx : Int), .slice sa m sc, .slice none 0 0]).cell 0
        have hcl : c2.bag.length = n - 1 := by
          rw [hc2b, unhide HC1B, List.length_erase_of_mem (unhide HXM), unhide HCN]
        have hD2 : D p t2.its c2.bag = D p t.its (c.bag.erase x) := by
          rw [hc2b, unhide HC1B]
          refine D_mono (((unhide hst).ext.trans hE2).its) _ (fun y hy => ?_)
          obtain ⟨j', h1, _⟩ := unhide HBI y (List.erase_sublist.subset hy)
          exact (List.getElem?_eq_some_iff.1 h1).1
        have C13 := hide (unhide IH (n - 1) (by omega) t2 w3 nx c2 hI3 hc2 hcl (by have := unhide HLB; omega))
        have HOW3 : Hid (w3.ownsRow w.heap.size 54 1 (.slice (some ⟨g, 0, none⟩) n vc) n (evW c.bag)) := owns_kept ((unhide hst).inv.keptO hE2.fr (unhide hst).own (by decide)) hF23 (fun _ _ => id)
        have HE3 : Hid (Ext p t t2 w w3) := ((unhide hst).ext.trans hE2).post hF23
        have HL3 : Hid (t2.cps.length ≤ t1.cps.length + 1) := hl2
        have HI3 := hide hI3
        have HB3 := hide hb3
        have HOR : Hid (orTo t2.its ys = p.ms j) := hor
        have HYM := hide hym
        have HM := hide hm
        have HD2 := hide hD2
        have HW3 := hide hw3
        have hDl : D p t2.its c2.bag < 256 := D_lt hp _
        clear hI2 hE2 hl2 hc2 hc2l hc2b hbA hym hor hw3 hF23 hI3 hb3 hcl hD2 C7 e0 hm
        go_upto_region 8 with fail
        rw [← unhide HW3]
        have k1 : w3.cell? ⟨w2.heap.size, 1, none⟩ = some (.slice sa m sc) := by rw [unhide HW3]; exact (Blk.new w2 67 [.int .u32 (nx : Int), .slice sa m sc, .slice none 0 0]).cell 1
        go_wp2_with fail
        clear k1
        go_loopw [42, 5] (fun s42 s5 w' => ∃ (r ac : Nat), s42 = .int .i64 r ∧ s5 = .int .u64 (ac : Int) ∧ r ≤ m ∧ ac < 256 ∧ Hid (ac = acc ||| orTo t2.its (ys.take r)) ∧ Hid (w3 = w')) (fun s42 _ _ => m - (intOf s42).toNat)
        case atStart => exact ⟨0, acc, rfl, rfl, by omega, hacc, by show acc = acc ||| 0; simp, rfl⟩
        case round =>
          obtain ⟨r, ac, rfl, rfl, hr, hac, HAR, hweq⟩ := hrel
          obtain rfl := unhide hweq
          by_cases hrm : r < m
          · have z2 : (r : Int) < (m : Int) := by omega
            have hry : r < ys.length := by rw [← unhide HM]; exact hrm
            obtain ⟨y, hy⟩ : ∃ y, ys[r]? = some y := ⟨_, List.getElem?_eq_getElem hry⟩
            obtain ⟨gs, hgs, hgl, hcy⟩ := (unhide HB3).cell hrm
            have hyv : ys.toArray[r]! = y := by
              rw [getElem!_pos ys.toArray r (by simpa using hry)]
              have := (List.getElem?_eq_some_iff.1 hy).2
              simpa using this
            rw [hyv] at hcy
            subst hgs
            have hyl := unhide HYM y (List.mem_of_getElem? hy)
            obtain ⟨⟨tz, sy⟩, hty⟩ : ∃ a, t2.its[y]? = some a := ⟨_, List.getElem?_eq_getElem hyl⟩
            have hto : tz < 8 := by
              have := ((unhide HI3).ok.iok _ (List.mem_of_getElem? hty)).1
              have := hp.np
              simp only at *
              omega
            obtain ⟨ib, ic, hvi, hib, hic, hit⟩ := owns_at (C := itC) (s := 9) (n := t2.its.length) (fun _ => rfl) (unhide HI3).ir (by omega)
            obtain ⟨ni, hni⟩ : ∃ ni, ni = t2.its.length := ⟨_, rfl⟩
            have s8 : w3.cell? ⟨p.SP, 8, none⟩ = some (.slice (some ⟨ib, 0, none⟩) ni ic) := by rw [hni, ← hvi]; exact (unhide HI3).sp.sp.cell 8
            have i0 : w3.cell? ⟨ib, y * 9, none⟩ = some (.int .i64 (tz : Int)) := hit y (tz, sy) 0 hty (by omega)
            have zy : (y : Int) < (ni : Int) := by omega
            obtain ⟨bt, hbt⟩ : ∃ bt : Nat, bt = 2 ^ tz := ⟨_, rfl⟩
            have hbt2 : bt < 256 := by rw [hbt]; exact Nat.pow_lt_pow_right (by omega) (show tz < 8 from hto)
            have e4 : (2 : Int) ^ tz = (bt : Int) := by rw [hbt]; simp
            have e5 : IntKind.u64.wrap (bt : Int) = (bt : Int) := by rw [IntKind.wrap_u64]; omega
            obtain ⟨hor1, hor2⟩ := or_nat ac bt (by omega) (by omega)
            obtain ⟨a2, ha2⟩ : ∃ a2, a2 = ac ||| bt := ⟨_, rfl⟩
            rw [← ha2] at hor1 hor2
            have ha256 : a2 < 256 := by rw [ha2]; exact Nat.or_lt_two_pow (n := 8) hac hbt2
            have HN : Hid (a2 = acc ||| orTo t2.its (ys.take (r + 1))) := by
              show a2 = _
              rw [ha2, unhide HAR, List.take_add_one, hy]
              show _ = acc ||| orTo t2.its (ys.take r ++ [y])
              rw [orTo_snoc, hty, hbt, Nat.or_assoc]
              rfl
            have hyy : y ≤ 1000000 := by have := (unhide HI3).itl hp; omega
            clear hy hyv hit hvi hni hbt ha2 hty hyl hweq
            go_wp2_with fail
            go_roundw
            case rel => exact ⟨r + 1, a2, by go_num, rfl, by omega, ha256, HN, hide trivial⟩
            case measure => (try simp [intOf]) <;> (try omega)
          · obtain rfl : m = r := by omega
            have z2 : decide ((m : Int) < (m : Int)) = false := by simp
            obtain ⟨De2, hDe2⟩ : ∃ De2, De2 = D p t2.its c2.bag := ⟨_, rfl⟩
            rw [← hDe2] at C13 hDl
            obtain ⟨hor1, hor2⟩ := or_nat ac De2 (by omega) (by omega)
            obtain ⟨a3, ha3⟩ : ∃ a3, a3 = ac ||| De2 := ⟨_, rfl⟩
            rw [← ha3] at hor1 hor2
            have ha256 : a3 < 256 := by rw [ha3]; exact Nat.or_lt_two_pow (n := 8) hac hDl
            have HAD : Hid (a3 = Dv) := by
              have h1 : D p t.its c.bag = p.ms j ||| D p t.its (c.bag.erase x) := D_erase (unhide HXM) (unhide HJ1)
              have h2 := unhide HAR
              rw [show m = ys.length from unhide HM, List.take_length, unhide HOR] at h2
              show a3 = Dv
              rw [ha3, h2, hDe2, unhide HD2, Nat.or_assoc, ← h1, ← unhide HDV, unhide HAC]
              split
              · simp
              · simp
            clear ha3 hDe2 hweq
            go_wp2_with fail
            refine (unhide C13).mono ?_
            rintro e w4 ⟨rfl, t3, c3, hI4, hE4, hl4, _, _⟩
            have HN : Hid (De p t w n S (q + 1) (.slice (some ⟨g, 0, none⟩) n vc) c.bag t3 w4) := ⟨hI4, (unhide HE3).trans hE4, by have := unhide HLN; have := unhide HL3; omega, (unhide HI3).keptO hE4.fr (unhide HOW3) (by decide)⟩
            clear hI4 hE4 hl4 C13
            go_wp2_with fail
            go_roundw
            case rel => exact ⟨q + 1, a3, t3, by go_num, rfl, by omega, ha256, by show a3 = if q + 1 = 0 then 0 else Dv; rw [if_neg (by omega)]; exact unhide HAD, HN⟩
            case measure => (try simp [intOf]) <;> (try omega)
      · obtain rfl : n = q := by omega
        have z1 : decide ((n : Int) < (n : Int)) = false := by simp
        have hAD : acc = Dv := by
          rw [unhide HAC]
          split
          · rename_i h0
            rw [unhide HDV]
            have h1 : c.bag = [] := List.length_eq_zero_iff.1 ((unhide HCN).trans h0)
            rw [h1]; rfl
          · rfl
        obtain ⟨c1, hc1, hc1l, hc1b, _⟩ := (unhide hst).ext.cps k c (unhide HK)
        have hkl1 := (List.getElem?_eq_some_iff.1 hc1).1
        obtain ⟨cb1, cc1, hvc1, hcb1, hcc1, hco1⟩ := owns_at (C := cmC) (s := 6) (n := t1.cps.length) (fun _ => rfl) (unhide hst).inv.cr (by omega)
        obtain ⟨nc1, hnc1⟩ : ∃ nc1, nc1 = t1.cps.length := ⟨_, rfl⟩
        have s10 : wr.cell? ⟨p.SP, 10, none⟩ = some (.slice (some ⟨cb1, 0, none⟩) nc1 cc1) := by rw [hnc1, ← hvc1]; exact (unhide hst).inv.sp.sp.cell 10
        have b2 : wr.cell? ⟨cb1, k * 6 + 2, none⟩ = some (.int .u64 (c1.ds : Int)) := hco1 k c1 2 hc1 (by omega)
        have b5 : wr.cell? ⟨cb1, k * 6 + 5, none⟩ = some (.bool c1.ak) := hco1 k c1 5 hc1 (by omega)
        obtain ⟨cur, hcur⟩ := owns_type (unhide hst).inv.cr (show t1.vc.ownBlock = some cb1 by rw [hvc1]; rfl)
        have bk : Blk wr cb1 64 cur.toList := by show wr.heap[cb1]? = _; rw [hcur]
        have f2 : wr.frozen? ⟨cb1, k * 6 + 2, none⟩ = false := bk.frozen _
        have f5 : wr.frozen? ⟨cb1, k * 6 + 5, none⟩ = false := bk.frozen _
        have n1 : p.SP ≠ cb1 := fun e => owns_neB (unhide hst).inv.cr (unhide hst).inv.sp.sp (by decide) (by rw [hvc1, e]; rfl)
        have zk1 : (k : Int) < (nc1 : Int) := by omega
        have hDD : Dv = D p t1.its c1.bag := by
          rw [unhide HDV, hc1b]
          exact (D_mono (unhide hst).ext.its _ (fun y hy => by
            obtain ⟨j', h1, _⟩ := unhide HBI y hy
            exact (List.getElem?_eq_some_iff.1 h1).1)).symm
        have HE : Hid (∀ W, W = (wr.setCell ⟨cb1, k * 6 + 2, none⟩ (.int .u64 (acc : Int))).setCell ⟨cb1, k * 6 + 5, none⟩ (.bool true) → ∃ (t' : St) (c' : Cmp), Inv p t' W ∧ Ext p t t' w W ∧ t'.cps.length ≤ t.cps.length + T n ∧ t'.cps[k]? = some c' ∧ c'.ak = true) := fun W hW => by
          obtain ⟨q1, q2⟩ := (unhide hst).inv.setAsk (w' := W) hc1 hvc1 (by rw [hW, hAD, hDD])
          refine ⟨_, { c1 with ds := D p t1.its c1.bag, ak := true }, q1, (unhide hst).ext.trans q2, ?_, ?_, rfl⟩
          · show (t1.cps.set k _).length ≤ _
            rw [List.length_set]
            have h1 := (unhide hst).len
            rcases Nat.eq_zero_or_pos n with h0 | h0
            · rw [h0] at h1 ⊢
              simp at h1
              omega
            · rw [T_eq h0, ← unhide HS]
              exact h1
          · show (t1.cps.set k _)[k]? = _
            rw [List.getElem?_set, if_pos rfl, if_pos hkl1]
        have HAD := hide hAD
        clear hc1 hc1l hc1b hkl1 hvc1 hcc1 hco1 hcur bk hDD hst hAD HAC hnc1
        go_wp2_with fail
        go_region
        all_goals
          go_wp2_with fail
          go_ret
          refine ⟨by rw [← unhide HAD]; rfl, ?_⟩
          obtain ⟨t', c', k1, k2, k3⟩ := HE.out _ rfl
          exact ⟨t', c', k1.kept ((Fr.refl _ _).drew), k2.post ((Fr.refl _ _).drew), k3⟩
end Go.Proofs.YbulkbrdiFmt
