/-
  b3388aF: (*space).dests.
-/
import Derived.Test.YbulkbrdiFmtMap
namespace Go.Proofs.YbulkbrdiFmt
open Go.RowKit
set_option linter.unusedVariables false
set_option linter.unusedSimpArgs false

/-- the events of component c -/
def Sc.E (s : Sc) (c : Nat) : List Nat := evOf (s.ll c) (s.dd c) (s.bn c)
/-- the addressees of the first e events -/
def wTo (W tt : Nat → Nat) (nx sn sk : Nat → Nat → Nat) (c : Nat) : Nat → Nat
  | 0 => 0
  | e + 1 => (wTo W tt nx sn sk c e ||| (if sn c e = 1 then 2 ^ tt (sk c e) else 0)) ||| W (nx c e)
/-- the steps in memory -/
structure StOk (s : Sc) (l : List (Nat × Value)) (nx : Nat → Nat → Nat) (sa : Nat → Nat → Option Addr) (sn sk : Nat → Nat → Nat) (w : World) : Prop where
  map : MapAt w s.mp l
  st : ∀ c, c < s.K → ∀ e ev, (s.E c)[e]? = some ev → ev < 4294967296 ∧ look l (key c ev) = some (.agg #[.int .u32 (nx c e : Nat), .slice (sa c e) (sn c e) (sn c e), .slice none 0 0]) ∧ c < nx c e ∧ nx c e < s.K ∧
    (sn c e = 0 ∨ sn c e = 1 ∧ ∃ g, sa c e = some ⟨g, 0, none⟩ ∧ Blk w g 53 [.int .u32 (sk c e : Nat)] ∧ sk c e < s.M)
  W : ∀ c, c < s.K → s.W c = wTo s.W s.tt nx sn sk c (s.E c).length ∧ s.W c < 18446744073709551616
section
variable {s : Sc} {l : List (Nat × Value)} {nx : Nat → Nat → Nat} {sa : Nat → Nat → Option Addr} {sn sk : Nat → Nat → Nat} {w w' : World} {A : Nat → Bool}
theorem StOk.kept (h : StOk s l nx sa sn sk w) (hf : Fr (· = s.CB) w w') (hc : Blk w s.CB 64 ((List.range s.K).flatMap (s.comp A))) : StOk s l nx sa sn sk w' :=
  ⟨h.map.kept hf (h.map.ne hc), fun c hc' e ev he => by
    obtain ⟨h1, h2, h3, h4, h5⟩ := h.st c hc' e ev he
    refine ⟨h1, h2, h3, h4, h5.imp id fun ⟨h6, g, h7, h8, h9⟩ => ⟨h6, g, h7, h8.kept hf (h8.ne hc (by decide)), h9⟩⟩, h.W⟩
/-- component c was asked -/
theorem comps_set (A : Nat → Bool) {c : Nat} (hc : c < s.K) {W : World} (h : Blk w s.CB 64 ((List.range s.K).flatMap (s.comp A)))
    (hW : W = (w.setCell ⟨s.CB, c * 6 + 2, none⟩ (.int .u64 (s.W c : Nat))).setCell ⟨s.CB, c * 6 + 5, none⟩ (.bool true)) : Blk W s.CB 64 ((List.range s.K).flatMap (s.comp fun x => if x = c then true else A x)) := by
  subst hW
  have := (h.setCell (c * 6 + 2) (.int .u64 (s.W c : Nat))).setCell (c * 6 + 5) (.bool true)
  have e : (((List.range s.K).flatMap (s.comp A)).set (c * 6 + 2) (.int .u64 (s.W c : Nat))).set (c * 6 + 5) (.bool true) = (List.range s.K).flatMap (s.comp fun x => if x = c then true else A x) := by
    apply List.ext_getElem?
    intro p
    obtain ⟨x, y, hy, rfl⟩ : ∃ x y, y < 6 ∧ p = x * 6 + y := ⟨p / 6, p % 6, Nat.mod_lt _ (by omega), by omega⟩
    have hl : ∀ A, ((List.range s.K).flatMap (s.comp A)).length = s.K * 6 := fun A => flatS_length _ 6 (fun _ => rfl) s.K
    by_cases hx : x < s.K
    · rw [List.getElem?_set, List.getElem?_set, flatS_get _ 6 (fun _ => rfl) s.K x y hx hy, flatS_get _ 6 (fun _ => rfl) s.K x y hx hy, List.length_set, hl]
      by_cases hxc : x = c
      · subst hxc
        match y, hy with
        | 0, _ => rw [if_neg (by omega), if_neg (by omega)]; rfl
        | 1, _ => rw [if_neg (by omega), if_neg (by omega)]; rfl
        | 2, _ => rw [if_neg (by omega), if_pos rfl, if_pos (by omega)]; simp [Sc.comp]
        | 3, _ => rw [if_neg (by omega), if_neg (by omega)]; rfl
        | 4, _ => rw [if_neg (by omega), if_neg (by omega)]; rfl
        | 5, _ => rw [if_pos rfl, if_pos (by omega)]; simp [Sc.comp]
      · rw [if_neg (by omega), if_neg (by omega)]
        unfold Sc.comp
        simp only [if_neg hxc]
    · rw [List.getElem?_eq_none (by rw [List.length_set, List.length_set, hl]; omega), List.getElem?_eq_none (by rw [hl]; omega)]
  rw [e] at this; exact this
end
theorem or_nat (a b : Nat) (ha : a < 18446744073709551616) (hb : b < 18446744073709551616) : bits .or .u64 (a : Int) (b : Int) = ((a ||| b : Nat) : Int) ∧ a ||| b < 18446744073709551616 :=
  ⟨bits_or_u64_nat a b ha hb, by have := @Nat.or_lt_two_pow a b 64 (by omega) (by omega); omega⟩
theorem pow_nat {t : Nat} (h : t < 64) : (2 : Nat) ^ t < 18446744073709551616 := by
  have : (2 : Nat) ^ t ≤ 2 ^ 63 := Nat.pow_le_pow_right (by omega) (by omega)
  omega

set_option maxHeartbeats 4000000 in
set_option maxRecDepth 100000 in
theorem dests_any (s : Sc) (l : List (Nat × Value)) (nx : Nat → Nat → Nat) (sa : Nat → Nat → Option Addr) (sn sk : Nat → Nat → Nat) : ∀ (N c : Nat) (A : Nat → Bool) (w : World), s.K - c = N → SpOk s A w → StOk s l nx sa sn sk w → c < s.K →
    Calls Ybaf.prog 6 #[.pointer (some ⟨s.SP, 0, none⟩), .int .u32 c] w fun e w' => e = .returned (.int .u64 (s.W c : Nat)) ∧ ∃ A', (∀ x, A x = true → A' x = true) ∧ A' c = true ∧ SpOk s A' w' ∧ Fr (· = s.CB) w w' := by
  intro N
  induction N using Nat.strongRecOn with
  | _ N ih =>
  intro c A w hN hS hT hc
  have IH := hide ih
  have kM := hS.kM
  have b2 : w.cell? ⟨s.CB, c * 6 + 2, none⟩ = some (.int .u64 ((if A c then s.W c else 0 : Nat) : Int)) := hS.cell hc 2 (by omega)
  have b5 : w.cell? ⟨s.CB, c * 6 + 5, none⟩ = some (.bool (A c)) := hS.cell hc 5 (by omega)
  have c10 := hS.comps
  have z1 : (c : Int) < (s.K : Int) := by omega
  have HS := hide hS
  have HT := hide hT
  obtain ⟨hk1, hk2⟩ := kM
  clear ih hS hT
  by_cases hA : A c = true
  · rw [hA] at b5
    simp only [hA, if_true] at b2
    go_enter Ybaf.func6, Ybaf.ntmps6
    go_wp2_with fail
    go_ret
    exact ⟨rfl, A, fun _ h => h, hA, unhide HS, Fr.refl _ _⟩
  · have hA' : A c = false := by simpa using hA
    rw [hA'] at b5
    have HV := hide (events_any s A c w (unhide HS) hc)
    clear b2 hA hA'
    go_enter Ybaf.func6, Ybaf.ntmps6
    go_wp2_with fail
    refine (unhide HV).mono ?_
    rintro e w1 ⟨v, rfl, hown, hF1⟩
    obtain ⟨n, hn⟩ : ∃ n, n = (s.E c).length := ⟨_, rfl⟩
    have hown : w1.ownsRow w.heap.size 54 1 v n (evV (s.E c)) := by rw [hn]; exact hown
    have HN := hide hn
    have HO := hide hown
    have HF1 := hide hF1
    obtain ⟨va, vc, rfl⟩ := owns_slice hown
    have hn1 : n ≤ 1025 := by
      have h1 := ddl_le (s.dd c) (s.bn c)
      have h2 := ((unhide HS).bags c hc).1
      rw [hn]; show (evOf _ _ _).length ≤ _
      unfold evOf
      rw [List.length_append]
      split <;> simp <;> omega
    clear hown hF1 hn HV c10 b5
    go_wp2_with fail
    go_loopw [31, 5] (fun s31 s5 wr => ∃ (e : Nat) (A' : Nat → Bool), s31 = .int .i64 e ∧ s5 = .int .u64 (wTo s.W s.tt nx sn sk c e : Nat) ∧ e ≤ n ∧ Hid (wTo s.W s.tt nx sn sk c e < 18446744073709551616) ∧ Hid ((∀ x, A x = true → A' x = true) ∧ SpOk s A' wr ∧ Fr (· = s.CB) w1 wr)) (fun s31 _ _ => n - (intOf s31).toNat)
    case atStart => exact ⟨0, A, rfl, rfl, by omega, by show 0 < _; omega, fun _ h => h, (unhide HS).kept (unhide HF1), Fr.refl _ _⟩
    case round =>
      obtain ⟨e, A', rfl, rfl, he, hwl, hst⟩ := hrel
      obtain ⟨cur, hcur⟩ : ∃ cur, cur = wTo s.W s.tt nx sn sk c e := ⟨_, rfl⟩
      rw [← hcur]
      rw [← hcur] at hwl
      have hwl' : cur < 18446744073709551616 := unhide hwl
      by_cases hen : e < n
      · obtain ⟨ev, hev⟩ : ∃ ev, (s.E c)[e]? = some ev := ⟨(s.E c)[e]'(by rw [← unhide HN]; exact hen), List.getElem?_eq_getElem _⟩
        obtain ⟨g, vc', hva, hg1, hg2⟩ := (unhide HO).form (by omega)
        injection hva with hva _ hvc
        subst hva
        obtain ⟨_, hSr, hFr⟩ := unhide hst
        have hCB := (unhide HS).cells.lt
        have hFw : Fr (· = s.CB) w wr := ((unhide HF1).mono fun _ _ h => h.elim).trans hFr
        have hTr := (unhide HT).kept hFw (unhide HS).cells
        have e0 : wr.cell? ⟨g, e, none⟩ = some (.int .u32 (ev : Int)) := by
          refine cell_kept hg2 hFr (by omega) (owns_cell (unhide HO) rfl e ?_)
          unfold evV; rw [List.getElem?_map, hev]; rfl
        obtain ⟨hev1, hlk, hq1, hq2, hsd⟩ := hTr.st c hc e ev hev
        have HSp := hide (step_any s.SP s.mp c ev (nx c e) (sn c e) (sa c e) wr l hSr.steps hTr.map (by omega) hev1 hlk)
        obtain ⟨q, hq⟩ : ∃ q, q = nx c e := ⟨_, rfl⟩
        rw [← hq] at HSp hq1 hq2
        have z2 : (e : Int) < (n : Int) := by omega
        have HQ := hide hq
        have HCur := hide hcur
        have HSr := hide hSr
        have HTr := hide hTr
        have HF := hide hFr
        have HSd := hide hsd
        have HEv := hide hev
        clear hSr hFr hFw hTr hlk hsd hq hcur hev hvc
        rcases unhide HSd with h0 | ⟨h1, gs, hsa, hbs, hsm⟩
        · rw [h0] at HSp
          have HSn := hide h0
          clear h0 HSd
          go_wp2_with fail
          refine (unhide HSp).mono ?_
          rintro e' w2 ⟨rfl, hF2⟩
          have HF2 := hide hF2
          clear hF2 HSp
          go_wp2_with fail
          refine wp_loop_rounds 1 ?_
          rw [rounds_succ]
          have HTb : Hid (Blk (w2.alloc (.cells #[.int .u32 (q : Int), .slice (sa c e) 0 0, .slice none 0 0] 67)) w2.heap.size 67 [.int .u32 (q : Int), .slice (sa c e) 0 0, .slice none 0 0]) := Blk.new w2 67 [.int .u32 (q : Int), .slice (sa c e) 0 0, .slice none 0 0]
          have HFx : Hid (Fr (· = s.CB) w1 (w2.alloc (.cells #[.int .u32 (q : Int), .slice (sa c e) 0 0, .slice none 0 0] 67))) := (unhide HF).trans ((((Fr.refl (fun _ => False) wr).trans (unhide HF2)).alloc _).mono fun _ _ h => h.elim)
          have hSx : SpOk s A' (w2.alloc (.cells #[.int .u32 (q : Int), .slice (sa c e) 0 0, .slice none 0 0] 67)) := ((unhide HSr).kept (unhide HF2)).kept ((Fr.refl (fun _ => False) w2).alloc _)
          have HI := hide (unhide IH (s.K - q) (by omega) q A' (w2.alloc (.cells #[.int .u32 (q : Int), .slice (sa c e) 0 0, .slice none 0 0] 67)) rfl hSx ((unhide HTr).kept (((unhide HF2).alloc _).mono fun _ _ h => h.elim) (unhide HSr).cells) (by omega))
          obtain ⟨Wq, hWq⟩ : ∃ Wq, Wq = s.W q := ⟨_, rfl⟩
          have hWl : Wq < 18446744073709551616 := by rw [hWq]; exact ((unhide HT).W q (by omega)).2
          rw [← hWq] at HI
          obtain ⟨hor3, hor4⟩ := or_nat cur Wq hwl' hWl
          obtain ⟨cur3, hcur3⟩ : ∃ cur3, cur3 = cur ||| Wq := ⟨_, rfl⟩
          rw [← hcur3] at hor3 hor4
          have HW3 : Hid (cur3 = wTo s.W s.tt nx sn sk c (e + 1)) := by
            show cur3 = (wTo s.W s.tt nx sn sk c e ||| (if sn c e = 1 then 2 ^ s.tt (sk c e) else 0)) ||| s.W (nx c e)
            rw [hcur3, hWq, ← unhide HCur, ← unhide HQ]
            rw [unhide HSn]; simp
          have kT : (w2.alloc (.cells #[.int .u32 (q : Int), .slice (sa c e) 0 0, .slice none 0 0] 67)).cell? ⟨w2.heap.size, 0, none⟩ = some (.int .u32 (q : Int)) := by rw [(unhide HTb).cell]; rfl
          clear hSx hWq hcur3
          go_wp2_with fail
          refine (unhide HI).mono ?_
          rintro e' w4 ⟨rfl, A2, hA2, hA2c, hS4, hF4⟩
          have HN4 : Hid ((∀ x, A x = true → A2 x = true) ∧ SpOk s A2 w4 ∧ Fr (· = s.CB) w1 w4) := ⟨fun x hx => hA2 x ((unhide hst).1 x hx), hS4, (unhide HFx).trans hF4⟩
          clear hA2 hA2c hS4 hF4 HI
          go_wp2_with fail
          go_roundw
          case rel => exact ⟨e + 1, A2, by go_num, by rw [← unhide HW3], by omega, by rw [← unhide HW3]; exact hor4, HN4⟩
          case measure => (try simp [intOf]) <;> (try omega)
        · rw [h1, hsa] at HSp
          have HSn := hide h1
          have HBs := hide hbs
          obtain ⟨kk, hkk⟩ : ∃ kk, kk = sk c e := ⟨_, rfl⟩
          obtain ⟨t, ht⟩ : ∃ t, t = s.tt kk := ⟨_, rfl⟩
          have ht64 : t < 64 := by rw [ht, hkk]; exact ((unhide HSr).tos _ hsm).2
          obtain ⟨bt, hbt⟩ : ∃ bt : Nat, bt = 2 ^ t := ⟨_, rfl⟩
          have hbt2 : bt < 18446744073709551616 := by rw [hbt]; exact pow_nat ht64
          have e4 : (2 : Int) ^ t = (bt : Int) := by rw [hbt]; simp
          have e5 : IntKind.u64.wrap (bt : Int) = (bt : Int) := by rw [IntKind.wrap_u64]; omega
          obtain ⟨hor1, hor2⟩ := or_nat cur bt hwl' hbt2
          obtain ⟨cur2, hcur2⟩ : ∃ cur2, cur2 = cur ||| bt := ⟨_, rfl⟩
          rw [← hcur2] at hor1 hor2
          have HBt : Hid (cur2 = cur ||| 2 ^ s.tt (sk c e)) := by show cur2 = _; rw [hcur2, hbt, ht, hkk]
          have hkm : kk < s.M := by rw [hkk]; exact hsm
          have HKK := hide hkk
          have HTT := hide ht
          clear h1 HSd hsa hbs hcur2 hbt hkk ht hsm
          go_wp2_with fail
          refine (unhide HSp).mono ?_
          rintro e' w2 ⟨rfl, hF2⟩
          have HF2 := hide hF2
          have hbs2 := (unhide HBs).kept hF2 id
          have hS2 := (unhide HSr).kept hF2
          have g0 : w2.cell? ⟨gs, 0, none⟩ = some (.int .u32 (kk : Int)) := by rw [hbs2.cell, unhide HKK]; rfl
          have g1 : w2.cell? ⟨s.SP, 8, none⟩ = some (.slice (some ⟨s.IB, 0, none⟩) s.M s.M) := hS2.items
          have g2 : w2.cell? ⟨s.IB, kk * 9, none⟩ = some (.int .i64 (t : Int)) := by rw [unhide HTT]; exact (hS2.tos kk hkm).1
          have n0 : gs < w2.heap.size := hbs2.lt
          have n1 : s.SP < w2.heap.size := hS2.lt.1
          have n2 : s.IB < w2.heap.size := hS2.lt.2.2
          have z5 : (kk : Int) < (s.M : Int) := by omega
          clear hF2 HSp hbs2 hS2
          go_wp2_with fail
          refine wp_loop_rounds 2 ?_
          rw [rounds_succ]
          have HTb : Hid (Blk (w2.alloc (.cells #[.int .u32 (q : Int), .slice (some ⟨gs, 0, none⟩) 1 1, .slice none 0 0] 67)) w2.heap.size 67 [.int .u32 (q : Int), .slice (some ⟨gs, 0, none⟩) 1 1, .slice none 0 0]) := Blk.new w2 67 [.int .u32 (q : Int), .slice (some ⟨gs, 0, none⟩) 1 1, .slice none 0 0]
          go_wp2_with fail
          rw [rounds_succ]
          clear g0 g1 g2
          have HFx : Hid (Fr (· = s.CB) w1 (w2.alloc (.cells #[.int .u32 (q : Int), .slice (some ⟨gs, 0, none⟩) 1 1, .slice none 0 0] 67))) := (unhide HF).trans ((((Fr.refl (fun _ => False) wr).trans (unhide HF2)).alloc _).mono fun _ _ h => h.elim)
          have hSx : SpOk s A' (w2.alloc (.cells #[.int .u32 (q : Int), .slice (some ⟨gs, 0, none⟩) 1 1, .slice none 0 0] 67)) := ((unhide HSr).kept (unhide HF2)).kept ((Fr.refl (fun _ => False) w2).alloc _)
          have HI := hide (unhide IH (s.K - q) (by omega) q A' (w2.alloc (.cells #[.int .u32 (q : Int), .slice (some ⟨gs, 0, none⟩) 1 1, .slice none 0 0] 67)) rfl hSx ((unhide HTr).kept (((unhide HF2).alloc _).mono fun _ _ h => h.elim) (unhide HSr).cells) (by omega))
          obtain ⟨Wq, hWq⟩ : ∃ Wq, Wq = s.W q := ⟨_, rfl⟩
          have hWl : Wq < 18446744073709551616 := by rw [hWq]; exact ((unhide HT).W q (by omega)).2
          rw [← hWq] at HI
          obtain ⟨hor3, hor4⟩ := or_nat cur2 Wq hor2 hWl
          obtain ⟨cur3, hcur3⟩ : ∃ cur3, cur3 = cur2 ||| Wq := ⟨_, rfl⟩
          rw [← hcur3] at hor3 hor4
          have HW3 : Hid (cur3 = wTo s.W s.tt nx sn sk c (e + 1)) := by
            show cur3 = (wTo s.W s.tt nx sn sk c e ||| (if sn c e = 1 then 2 ^ s.tt (sk c e) else 0)) ||| s.W (nx c e)
            rw [hcur3, hWq, ← unhide HCur, ← unhide HQ]
            rw [unhide HSn, unhide HBt]; simp
          have kT : (w2.alloc (.cells #[.int .u32 (q : Int), .slice (some ⟨gs, 0, none⟩) 1 1, .slice none 0 0] 67)).cell? ⟨w2.heap.size, 0, none⟩ = some (.int .u32 (q : Int)) := by rw [(unhide HTb).cell]; rfl
          clear hSx hWq hcur3
          go_wp2_with fail
          refine (unhide HI).mono ?_
          rintro e' w4 ⟨rfl, A2, hA2, hA2c, hS4, hF4⟩
          have HN4 : Hid ((∀ x, A x = true → A2 x = true) ∧ SpOk s A2 w4 ∧ Fr (· = s.CB) w1 w4) := ⟨fun x hx => hA2 x ((unhide hst).1 x hx), hS4, (unhide HFx).trans hF4⟩
          clear hA2 hA2c hS4 hF4 HI
          go_wp2_with fail
          go_roundw
          case rel => exact ⟨e + 1, A2, by go_num, by rw [← unhide HW3], by omega, by rw [← unhide HW3]; exact hor4, HN4⟩
          case measure => (try simp [intOf]) <;> (try omega)
      · obtain rfl : e = n := by omega
        obtain ⟨hAA, hSr, hFr⟩ := unhide hst
        have b2 : wr.cell? ⟨s.CB, c * 6 + 2, none⟩ = some (.int .u64 ((if A' c then s.W c else 0 : Nat) : Int)) := hSr.cell hc 2 (by omega)
        have b5 : wr.cell? ⟨s.CB, c * 6 + 5, none⟩ = some (.bool (A' c)) := hSr.cell hc 5 (by omega)
        have f2 : wr.frozen? ⟨s.CB, c * 6 + 2, none⟩ = false := hSr.cells.frozen _
        have f5 : wr.frozen? ⟨s.CB, c * 6 + 5, none⟩ = false := hSr.cells.frozen _
        have c10 := hSr.comps
        have n1 := hSr.ne.1
        have hWc : cur = s.W c := by rw [hcur, unhide HN]; exact ((unhide HT).W c hc).1.symm
        have HE : Hid (∀ W, W = (wr.setCell ⟨s.CB, c * 6 + 2, none⟩ (.int .u64 (cur : Int))).setCell ⟨s.CB, c * 6 + 5, none⟩ (.bool true) → ∃ A2, (∀ x, A x = true → A2 x = true) ∧ A2 c = true ∧ SpOk s A2 W ∧ Fr (· = s.CB) w W) := fun W hW => by
          have hFW : Fr (· = s.CB) wr W := by rw [hW]; exact ((Fr.refl (· = s.CB) wr).setCell (.inl rfl) _).setCell (.inl rfl) _
          refine ⟨fun x => if x = c then true else A' x, fun x hx => ?_, by simp, hSr.set hFW (comps_set A' hc hSr.cells (by rw [hW, hWc])), (((unhide HF1).mono fun _ _ h => h.elim).trans hFr).trans hFW⟩
          by_cases hxc : x = c
          · simp [hxc]
          · simp [hxc]; exact hAA x hx
        have HWc := hide hWc
        obtain ⟨q2, hq2⟩ : ∃ q2 : Nat, q2 = (if A' c then s.W c else 0) := ⟨_, rfl⟩
        rw [← hq2] at b2
        clear hAA hSr hFr hst hcur hWc hq2
        go_wp2_with fail
        go_region
        all_goals
          go_wp2_with fail
          go_ret
          refine ⟨by rw [← unhide HWc]; rfl, ?_⟩
          obtain ⟨A2, h1, h2, h3, h4⟩ := HE.out _ rfl
          exact ⟨A2, h1, h2, h3.kept ((Fr.refl _ _).drew), h4.drew⟩
end Go.Proofs.YbulkbrdiFmt
