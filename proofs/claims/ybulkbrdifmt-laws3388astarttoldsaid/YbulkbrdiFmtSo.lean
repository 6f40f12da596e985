/-
  b3388aF: (*space).step.
-/
import Derived.Test.YbulkbrdiFmtSn0
import Derived.Test.YbulkbrdiFmtSk
import Derived.Deep.CutRange
namespace Go.Proofs.YbulkbrdiFmt
open Go.RowKit
set_option linter.unusedVariables false
set_option linter.unusedSimpArgs false
set_option maxRecDepth 100000
set_option maxHeartbeats 4000000
/-- behind the component: the step's own number laid in -/
structure S4 (p : Pr) (t : St) (w : World) (k x j no SB : Nat) (c c9 : Cmp) (t1 : St) (cps' : List Cmp) (v' sv : Value) (wr : World) : Prop where
  inv : Inv p { t1 with cps := cps', vc := v' } wr
  ext : Ext p t { t1 with cps := cps', vc := v' } w wr
  r0 : Blk wr w.heap.size 67 [.int .u32 0, .slice none 0 0, .slice none 0 0]
  st : Blk wr SB 67 [.int .u32 (no : Int), sv, .slice none 0 0]
  send : SendOk p t1.its wr j sv
  nx : cps'[no]? = some c9
  nlo : c9.lo = c.lo
  nbg : c9.bag = c.bag.erase x
theorem S4.of {p : Pr} {t t1 : St} {w w9 : World} {k x j no SB : Nat} {c c9 : Cmp} {cps' : List Cmp} {v' sv : Value} (hI : Inv p { t1 with cps := cps', vc := v' } w9) (hE : Ext p t { t1 with cps := cps', vc := v' } w w9) (hr : Blk w9 w.heap.size 67 [.int .u32 0, .slice none 0 0, .slice none 0 0]) (hst : Blk w9 SB 67 [.int .u32 (c.lo : Int), sv, .slice none 0 0]) (hs : SendOk p t1.its w9 j sv) (h1 : cps'[no]? = some c9) (h2 : c9.lo = c.lo) (h3 : c9.bag = c.bag.erase x) (hSB : w.heap.size ≤ SB) (hne : w.heap.size ≠ SB) :
    S4 p t w k x j no SB c c9 t1 cps' v' sv (w9.setCell ⟨SB, 0, none⟩ (.int .u32 (no : Int))) := by
  have hF : Fr (· = SB) w9 (w9.setCell ⟨SB, 0, none⟩ (.int .u32 (no : Int))) := (Fr.refl (· = SB) w9).setCell (p := ⟨SB, 0, none⟩) (.inl rfl) _
  refine ⟨hI.kept67 hF (fun k hk => by subst hk; exact ⟨_, hst⟩), { hE with fr := hE.fr.join hF (fun k hk e => by omega) }, hr.kept hF hne, hst.setCell 0 _, hs.kept hF (fun g l hb e => ?_), h1, h2, h3⟩
  subst e
  have := hst.symm.trans hb
  injection this with this
  injection this with _ h5 _
  cases h5
theorem S4.done {p : Pr} {t t1 : St} {w w20 w21 : World} {k x j no SB : Nat} {c c9 : Cmp} {cps' : List Cmp} {v' sv : Value} (h : S4 p t w k x j no SB c c9 t1 cps' v' sv w20) (hk : t.cps[k]? = some c) (hxb : x ∈ c.bag) (hx : t.its[x]? = some (c.lo, j)) (hj : j < 8)
    (hm : MapAt w21 p.ST (t1.stl ++ [(key k (x + 1), .agg #[.int .u32 (no : Int), sv, .slice none 0 0])])) (hf : Fr (· = p.ST) w20.drew w21) :
    Blk w21 w.heap.size 67 [.int .u32 0, .slice none 0 0, .slice none 0 0] ∧ Blk w21 SB 67 [.int .u32 (no : Int), sv, .slice none 0 0] ∧
    ∃ t' : St, Inv p t' (((w21.setCell ⟨w.heap.size, 0, none⟩ (.int .u32 (no : Int))).setCell ⟨w.heap.size, 1, none⟩ sv).setCell ⟨w.heap.size, 2, none⟩ (.slice none 0 0)) ∧ Ext p t t' w (((w21.setCell ⟨w.heap.size, 0, none⟩ (.int .u32 (no : Int))).setCell ⟨w.heap.size, 1, none⟩ sv).setCell ⟨w.heap.size, 2, none⟩ (.slice none 0 0)) ∧ t'.cps = cps' ∧ SendOk p t'.its (((w21.setCell ⟨w.heap.size, 0, none⟩ (.int .u32 (no : Int))).setCell ⟨w.heap.size, 1, none⟩ sv).setCell ⟨w.heap.size, 2, none⟩ (.slice none 0 0)) j sv ∧ t'.cps[no]? = some c9 ∧ c9.lo = c.lo ∧ c9.bag = c.bag.erase x := by
  have hd := (Fr.refl (fun _ => False) w20).drew
  have hID := h.inv.kept hd
  have hsD := h.send.kept hd (fun _ _ _ => id)
  obtain ⟨c2, q1, q2, q3, _⟩ := h.ext.cps k c hk
  obtain ⟨k1, k2⟩ := hID.setSt (k := k) (x := x) (j := j) (nx := no) (c := c2) (c' := c9) (s := sv) q1 (by rw [q3]; exact hxb) (by rw [q2]; exact get_prefix h.ext.its hx) hj hsD h.nx (h.nlo.trans q2.symm) (by rw [q3]; exact h.nbg) hm hf
  have nls : ∀ {g : Nat} {l : List Value}, Blk w20 g 67 l → g ≠ p.ST := fun hb e => by
    subst e
    exact h.inv.st.ne hb rfl
  have r1 : Blk w21 w.heap.size 67 [.int .u32 0, .slice none 0 0, .slice none 0 0] := h.r0.drew.kept hf (nls h.r0)
  have r2 : Blk w21 SB 67 [.int .u32 (no : Int), sv, .slice none 0 0] := h.st.drew.kept hf (nls h.st)
  have hF3 := (((Fr.refl (· = w.heap.size) w21).setCell (p := ⟨w.heap.size, 0, none⟩) (.inl rfl) (.int .u32 (no : Int))).setCell (p := ⟨w.heap.size, 1, none⟩) (.inl rfl) sv).setCell (p := ⟨w.heap.size, 2, none⟩) (.inl rfl) (.slice none 0 0)
  have hE := (h.ext.post hd).trans k2
  refine ⟨r1, r2, _, k1.kept67 hF3 (fun k hk => by subst hk; exact ⟨_, r1⟩), { hE with fr := hE.fr.join hF3 (fun k hk e => by omega) }, rfl, ?_, h.nx, h.nlo, h.nbg⟩
  refine (hsD.kept hf (fun g l hb e => ?_)).kept hF3 (fun g l hb e => ?_)
  · subst e
    exact hID.st.ne hb rfl
  · subst e
    have := r1.symm.trans hb
    injection this with this
    injection this with _ h5 _
    cases h5
section
variable {p : Pr} {t : St} {w : World}
theorem stepHit (hp : PrOk p) (h : Inv p t w) (k x j : Nat) (c : Cmp) (v : Value) (hk : t.cps[k]? = some c) (hx : t.its[x]? = some (c.lo, j)) (hkl : k < 4294967296) (hv : look t.stl (key k (x + 1)) = some v) :
    Calls Ybaf.prog 14 #[.pointer (some ⟨p.SP, 0, none⟩), .int .u32 (k : Int), .int .u32 ((x + 1 : Nat) : Int)] w fun e w' => ∃ (nx : Nat) (s : Value) (c' : Cmp), e = .returned (.agg #[.int .u32 (nx : Int), s, .slice none 0 0]) ∧ SendOk p t.its w' j s ∧ t.cps[nx]? = some c' ∧ c'.lo = c.lo ∧ c'.bag = c.bag.erase x ∧ Fr (fun _ => False) w w' := by
  have hl := h.itl hp
  have l1 := (List.getElem?_eq_some_iff.1 hx).1
  obtain ⟨nx, s, c', rfl, hs, h1, h2, h3⟩ := h.stHit hp hk hx hv
  obtain ⟨sa, sc, ys, rfl, hs2⟩ := hs
  obtain ⟨ev, hev⟩ : ∃ ev, ev = x + 1 := ⟨_, rfl⟩
  obtain ⟨P, hP⟩ : ∃ P, P = k * 4294967296 := ⟨_, rfl⟩
  obtain ⟨ky, hky⟩ : ∃ ky, ky = key k ev := ⟨_, rfl⟩
  have e1 : (k : Int) * 4294967296 = (P : Int) := by rw [hP]; omega
  have e1' : IntKind.u64.wrap (P : Int) = (P : Int) := by rw [IntKind.wrap_u64]; omega
  have e2 : bits .or .u64 (P : Int) (ev : Int) = (ky : Int) := by rw [bits_or_u64_nat P ev (by omega) (by omega), hky, hP]; rfl
  have e3 : IntKind.u64.wrap (k : Int) = (k : Int) := by rw [IntKind.wrap_u64]; omega
  have e4 : IntKind.u64.wrap (ev : Int) = (ev : Int) := by rw [IntKind.wrap_u64]; omega
  have s13 : w.cell? ⟨p.SP, 13, none⟩ = some (.map (some p.ST)) := h.sp.sp.cell 13
  have hSP := h.sp.sp.lt
  have hlk := look_run (h.st.kept ((Fr.refl (fun _ => False) w).alloc (.cells #[.int .u32 0, .slice none 0 0, .slice none 0 0] 67)) id) hv
  rw [← hev, ← hky] at hlk
  rw [← hev]
  have HS := hide hs2
  have H1 := hide h1
  have H2 := hide h2
  have H3 := hide h3
  have hpb : P ≤ 18446744069414584320 := by omega
  clear h hx hv hP hky hs2 hev hk h1 h2 h3
  go_enter Ybaf.func14, Ybaf.ntmps14
  go_wp2_with fail
  go_returns
  have hF := ((Fr.refl (fun _ => False) w).alloc (.cells #[.int .u32 (nx : Int), .slice sa ys.length sc, .slice none 0 0] 67)).alloc (.cells #[.int .u32 (nx : Int), .slice sa ys.length sc, .slice none 0 0] 67)
  refine ⟨nx, _, c', rfl, ?_, H1.out, H2.out, H3.out, hF⟩
  exact SendOk.kept (p := p) (its := t.its) (w := w) ⟨sa, sc, ys, rfl, HS.out⟩ hF (fun _ _ _ => id)
theorem stepMiss (hp : PrOk p) (h : Inv p t w) (k x j : Nat) (c : Cmp) (hk : t.cps[k]? = some c) (hxb : x ∈ c.bag) (hx : t.its[x]? = some (c.lo, j)) (hj : j < 8) (hn : t.cps.length ≤ 1000000) (hv : look t.stl (key k (x + 1)) = none) :
    Calls Ybaf.prog 14 #[.pointer (some ⟨p.SP, 0, none⟩), .int .u32 (k : Int), .int .u32 ((x + 1 : Nat) : Int)] w fun e w' => ∃ (t' : St) (nx : Nat) (s : Value) (c' : Cmp), e = .returned (.agg #[.int .u32 (nx : Int), s, .slice none 0 0]) ∧ Inv p t' w' ∧ Ext p t t' w w' ∧ t'.cps.length ≤ t.cps.length + 1 ∧ SendOk p t'.its w' j s ∧ t'.cps[nx]? = some c' ∧ c'.lo = c.lo ∧ c'.bag = c.bag.erase x := by
  have hl := h.itl hp
  have l1 := (List.getElem?_eq_some_iff.1 hx).1
  have hkl := (List.getElem?_eq_some_iff.1 hk).1
  obtain ⟨hlo, hsort, hb8, hbit, _⟩ := h.ok.cok c (List.mem_of_getElem? hk)
  obtain ⟨cb, cc, hvc, hcb, hcc, hco⟩ := owns_at (C := cmC) (s := 6) (n := t.cps.length) (fun _ => rfl) h.cr (by omega)
  obtain ⟨nc, hnc⟩ : ∃ nc, nc = t.cps.length := ⟨_, rfl⟩
  obtain ⟨bn, hbn⟩ : ∃ bn, bn = c.bag.length := ⟨_, rfl⟩
  obtain ⟨ev, hev⟩ : ∃ ev, ev = x + 1 := ⟨_, rfl⟩
  obtain ⟨P, hP⟩ : ∃ P, P = k * 4294967296 := ⟨_, rfl⟩
  obtain ⟨ky, hky⟩ : ∃ ky, ky = key k ev := ⟨_, rfl⟩
  have e1 : (k : Int) * 4294967296 = (P : Int) := by rw [hP]; omega
  have e1' : IntKind.u64.wrap (P : Int) = (P : Int) := by rw [IntKind.wrap_u64]; omega
  have e2 : bits .or .u64 (P : Int) (ev : Int) = (ky : Int) := by rw [bits_or_u64_nat P ev (by omega) (by omega), hky, hP]; rfl
  have e3 : IntKind.u64.wrap (k : Int) = (k : Int) := by rw [IntKind.wrap_u64]; omega
  have e4 : IntKind.u64.wrap (ev : Int) = (ev : Int) := by rw [IntKind.wrap_u64]; omega
  have e5 : (ev : Int) - 1 = (x : Int) := by omega
  have e6 : IntKind.u32.wrap (x : Int) = (x : Int) := by rw [IntKind.wrap_u32]; omega
  have d1 : ((ev : Int) == 0) = false := by simp; omega
  have d2 : (!((ev : Int) == 0)) = true := by rw [d1]; rfl
  have s13 : w.cell? ⟨p.SP, 13, none⟩ = some (.map (some p.ST)) := h.sp.sp.cell 13
  have s10 : w.cell? ⟨p.SP, 10, none⟩ = some (.slice (some ⟨cb, 0, none⟩) nc cc) := by rw [hnc, ← hvc]; exact h.sp.sp.cell 10
  have f0 : w.cell? ⟨cb, k * 6, none⟩ = some (.int .u32 (c.lo : Int)) := hco k c 0 hk (by omega)
  have f1 : w.cell? ⟨cb, k * 6 + 1, none⟩ = some (.slice c.ba bn c.bc) := by rw [hbn]; exact hco k c 1 hk (by omega)
  have f2 : w.cell? ⟨cb, k * 6 + 2, none⟩ = some (.int .u64 (c.ds : Int)) := hco k c 2 hk (by omega)
  have f3 : w.cell? ⟨cb, k * 6 + 3, none⟩ = some (.int .i32 0) := hco k c 3 hk (by omega)
  have f4 : w.cell? ⟨cb, k * 6 + 4, none⟩ = some (.int .i32 0) := hco k c 4 hk (by omega)
  have f5 : w.cell? ⟨cb, k * 6 + 5, none⟩ = some (.bool c.ak) := hco k c 5 hk (by omega)
  have zk : (k : Int) < (nc : Int) := by omega
  have hSP := h.sp.sp.lt
  have hlk := look_miss_run (h.st.kept ((Fr.refl (fun _ => False) w).alloc (.cells #[.int .u32 0, .slice none 0 0, .slice none 0 0] 67)) id) hv
  rw [← hev, ← hky] at hlk
  rw [← hev]
  obtain ⟨w3, hw3⟩ : ∃ w3, w3 = ((w.alloc (.cells #[.int .u32 0, .slice none 0 0, .slice none 0 0] 67)).alloc (.cells #[.int .u32 0, .slice none 0 0, .slice none 0 0] 67)).alloc (.cells #[.int .u32 (c.lo : Int), .slice c.ba bn c.bc, .int .u64 (c.ds : Int), .int .i32 0, .int .i32 0, .bool c.ak] 64) := ⟨_, rfl⟩
  have hF3 : Fr (fun _ => False) w w3 := by rw [hw3]; exact (((Fr.refl _ w).alloc _).alloc _).alloc _
  have hR3 : Blk w3 w.heap.size 67 [.int .u32 0, .slice none 0 0, .slice none 0 0] := by rw [hw3]; exact ((Blk.new w 67 [.int .u32 0, .slice none 0 0, .slice none 0 0]).alloc _).alloc _
  have hB3 : Blk w3 (w.heap.size + 1 + 1) 64 [.int .u32 (c.lo : Int), .slice c.ba bn c.bc, .int .u64 (c.ds : Int), .int .i32 0, .int .i32 0, .bool c.ak] := by
    have := Blk.new ((w.alloc (.cells #[.int .u32 0, .slice none 0 0, .slice none 0 0] 67)).alloc (.cells #[.int .u32 0, .slice none 0 0, .slice none 0 0] 67)) 64 [.int .u32 (c.lo : Int), .slice c.ba bn c.bc, .int .u64 (c.ds : Int), .int .i32 0, .int .i32 0, .bool c.ak]
    rw [World.size_alloc, World.size_alloc] at this
    rw [hw3]; exact this
  have h3 := h.kept hF3
  have hvo := owns_lt (g := w.heap.size + 1 + 1) h.cr
  have C6 : Hid (Calls Ybaf.prog 32 #[.pointer (some ⟨p.SP, 0, none⟩), .int .u32 (c.lo : Int), .int .u32 (ev : Int)] w3 fun e w' => ∃ (t1 : St) (s : Value), e = .returned (.agg #[.int .u32 (c.lo : Int), s, .slice none 0 0]) ∧ Inv p t1 w' ∧ Ext p t t1 w w' ∧ t1.cps = t.cps ∧ t1.stl = t.stl ∧ t1.nl = t.nl ∧ SendOk p t1.its w' j s ∧ Blk w' w.heap.size 67 [.int .u32 0, .slice none 0 0, .slice none 0 0] ∧ Blk w' (w.heap.size + 1 + 1) 64 [.int .u32 (c.lo : Int), .slice c.ba bn c.bc, .int .u64 (c.ds : Int), .int .i32 0, .int .i32 0, .bool c.ak]) := by
    rw [hev]
    refine (lstepI hp h3 c.lo x j hx hj hlo).mono fun e w' ⟨t1, s, g1, g2, g3, g4, g5, g6, g7⟩ => ⟨t1, s, g1, g2, Ext.pre hF3 g3, g4, g5, g6, g7, hR3.kept g3.fr (h3.nch hR3 (by decide)), hB3.kept g3.fr (h3.nch64 hB3 (fun e => by have := hvo e; omega))⟩
  have q0 : w3.cell? ⟨w.heap.size + 1 + 1, 0, none⟩ = some (.int .u32 (c.lo : Int)) := hB3.cell 0
  have HW3 := hide hw3
  have HI := hide h
  have HX := hide hx
  have HV := hide hv
  have HK := hide hk
  have HNC := hide hnc
  have HBN := hide hbn
  have HKY := hide hky
  have HEV := hide hev
  have HXB := hide hxb
  have HSO := hide hsort
  have HBI := hide hbit
  have hpb : P ≤ 4294967296000000 := by omega
  have hx128 : x < 128 := by omega
  have hev128 : ev ≤ 128 := by omega
  have hnc6 : nc ≤ 1000000 := by omega
  have hbn8 : bn ≤ 8 := by omega
  clear h hx hv hP hky hev hk hnc hbn hco hvc hw3 hF3 hR3 hB3 h3 hvo hxb hsort hbit hb8 hn l1 hkl hl
  go_enter Ybaf.func14, Ybaf.ntmps14
  go_wp2_with fail
  rw [← unhide HW3]
  refine (unhide C6).mono ?_
  rintro e w4 ⟨t1, s, rfl, g2, g3, g4, g5, g6, g7, g8, g9⟩
  obtain ⟨sa, sc, ys, rfl, hs2⟩ := g7
  have HS := hide hs2
  have HI1 := hide g2
  have HE1 := hide g3
  have HC1 := hide g4
  have HT1 := hide g5
  have HN1 := hide g6
  have HR4 := hide g8
  have HB4 := hide g9
  obtain ⟨w5, hw5⟩ : ∃ w5, w5 = w4.alloc (.cells #[.int .u32 (c.lo : Int), .slice sa ys.length sc, .slice none 0 0] 67) := ⟨_, rfl⟩
  have hF45 : Fr (fun _ => False) w4 w5 := by rw [hw5]; exact (Fr.refl _ w4).alloc _
  have HS5 : Hid (Blk w5 w4.heap.size 67 [.int .u32 (c.lo : Int), .slice sa ys.length sc, .slice none 0 0]) := by rw [hw5]; exact Blk.new w4 67 [.int .u32 (c.lo : Int), .slice sa ys.length sc, .slice none 0 0]
  have hI5 := g2.kept hF45
  have hcm : c ∈ t1.cps := by rw [g4]; exact List.mem_of_getElem? (unhide HK)
  have hbag := hI5.bag c hcm
  have hbn0 : 0 < bn := by rw [unhide HBN]; exact List.length_pos_of_mem (unhide HXB)
  obtain ⟨g, hba, hgl, _⟩ := hbag.cell (i := 0) (by rw [← unhide HBN]; exact hbn0)
  have HCL : Hid (∀ (q : Nat) (u : Value), (rowV c.bag.toArray)[q]? = some u → w5.cell? ⟨g, 0 + q, none⟩ = some u) := fun q u hu => by
    have hq : q < c.bag.length := by
      have := (List.getElem?_eq_some_iff.1 hu).1
      rw [rowV_length] at this
      simpa using this
    obtain ⟨g', hg', _, hc⟩ := hbag.cell hq
    rw [hba] at hg'
    injection hg' with hg'
    injection hg' with hg'
    subst hg'
    rw [Nat.zero_add, hc, ← hu, rowV_get _ (by simpa using hq)]
  have C7 := hide (clone53_any g 0 bn c.bc (rowV c.bag.toArray) w5 hbn0 (by omega) (by rw [rowV_length, unhide HBN]; simp) (unhide HCL) hgl (by
    intro v hv
    unfold rowV at hv
    obtain ⟨z, _, rfl⟩ := List.mem_map.1 hv
    rfl))
  have q1 : w5.cell? ⟨w.heap.size + 1 + 1, 1, none⟩ = some (.slice (some ⟨g, 0, none⟩) bn c.bc) := by rw [← hba]; exact (g9.kept hF45 id).cell 1
  have HF45 := hide hF45
  have HW5 := hide hw5
  have HI5 := hide hI5
  clear g2 g3 g4 g5 g6 g8 g9 hs2 hw5 hF45 hI5 hbag C6 q0 HCL
  go_upto_region 7 with fail
  rw [← unhide HW5]
  go_wp2_with fail
  refine (unhide C7).mono ?_
  rintro e w6 ⟨g', c', tail, rfl, hc63, hcap, hB6, hg6, hbel⟩
  have hF56 : Fr (fun _ => False) w5 w6 := Fr.of_below hbel
  obtain ⟨q0, hq0, hq1⟩ : ∃ q0, q0 < bn ∧ c.bag.toArray[q0]! = x := by
    obtain ⟨q, hq, h1⟩ := List.mem_iff_getElem.1 (unhide HXB)
    refine ⟨q, by rw [unhide HBN]; exact hq, ?_⟩
    rw [getElem!_pos c.bag.toArray q (by simpa using hq)]
    simpa using h1
  have C9 := hide (bs_any g' bn c' x q0 c.bag.toArray w6 (fun q hq => by
    rw [hB6.cell, List.getElem?_append_left (by rw [rowV_length]; rw [unhide HBN] at hq; simpa using hq), rowV_get _ (by rw [unhide HBN] at hq; simpa using hq)]) (by rw [unhide HBN]; exact sorted_in (unhide HSO)) (by omega) (by omega) hq0 hq1)
  have HB6 := hide hB6
  have HF56 := hide hF56
  have HG6 := hide hg6
  clear hB6 hg6 hbel hF56 hq0 hq1 C7 q1
  go_wp2_with fail
  refine (unhide C9).mono ?_
  rintro e w7 ⟨qi, rfl, hqi, hqx, hf67⟩
  have hqb : qi < c.bag.length := by rw [← unhide HBN]; exact hqi
  have hqg : c.bag[qi]? = some x := by
    rw [getElem!_pos c.bag.toArray qi (by simpa using hqb)] at hqx
    rw [List.getElem?_eq_getElem hqb]
    simpa using hqx
  have C10 := hide (del53_any g' bn c' qi (rowV c.bag.toArray) tail w7 ((unhide HB6).kept hf67 id) (by rw [rowV_length, unhide HBN]; simp) hcap hc63 hqi (by
    intro v hv
    unfold rowV at hv
    obtain ⟨z, _, rfl⟩ := List.mem_map.1 hv
    rfl))
  obtain ⟨q2, hq2⟩ : ∃ q2, q2 = qi + 1 := ⟨_, rfl⟩
  rw [← hq2] at C10
  have eq1 : ((qi : Int) + 1) = (q2 : Int) := by omega
  have hq2l : q2 ≤ 9 := by omega
  have HF57 := hide ((unhide HF56).trans hf67)
  have HQ := hide hqg
  clear hf67 C9 hqx hqg HB6 hq2
  go_wp2_with fail
  refine (unhide C10).mono ?_
  rintro e w8 ⟨rfl, hB8, hf78⟩
  have hF58 : Fr (fun _ => False) w5 w8 := (unhide HF57).join hf78 (fun k hk e => by have := unhide HG6; omega)
  have hbagD : BagA w8 (some ⟨g', 0, none⟩) (bn - 1) c' (c.bag.eraseIdx qi).toArray := by
    rw [unhide HBN]
    exact BagA.del hqb hB8 (by rw [← unhide HBN]; omega)
  have hsub := List.eraseIdx_sublist c.bag qi
  have hnd : c.bag.Nodup := List.nodup_iff_pairwise_ne.2 ((unhide HSO).imp (fun h => by omega))
  have C11 := hide (compI hp (unhide HI5) hF58 c.lo (bn - 1) c' (some ⟨g', 0, none⟩) (c.bag.eraseIdx qi).toArray hbagD (fun k hk => by injection hk with hk; injection hk with hk; rw [← hk]; exact unhide HG6) (by rw [unhide HN1]; exact hlo) (by omega) (fun y hy => by
    obtain ⟨jj, h1, h2⟩ := unhide HBI y (hsub.subset (by simpa using hy))
    exact ⟨jj, (unhide HE1).it h1, h2⟩) (by simpa using hsub.nodup hnd) (by rw [unhide HC1, ← unhide HNC]; exact hnc6))
  have r0 : w8.cell? ⟨w4.heap.size, 0, none⟩ = some (.int .u32 (c.lo : Int)) := ((unhide HS5).kept hF58 id).cell 0
  have HF58 := hide hF58
  clear hB8 hf78 hF58 hbagD hsub hnd C10
  go_wp2_with fail
  refine (unhide C11).mono ?_
  rintro e w9 ⟨no, cps', v', rfl, hI9, hE9, hl9, c9, hc9, hc9l, hc9p⟩
  have hst9 : Blk w9 w4.heap.size 67 [.int .u32 (c.lo : Int), .slice sa ys.length sc, .slice none 0 0] := (unhide HS5).kept hE9.fr ((unhide HI5).nch (unhide HS5) (by decide))
  have hr5 := (unhide HR4).kept (unhide HF45) id
  have hr9 : Blk w9 w.heap.size 67 [.int .u32 0, .slice none 0 0, .slice none 0 0] := hr5.kept hE9.fr ((unhide HI5).nch hr5 (by decide))
  have hs9 : SendOk p t1.its w9 j (.slice sa ys.length sc) := (SendOk.kept (p := p) (its := t1.its) (w := w4) (w' := w5) ⟨sa, sc, ys, rfl, unhide HS⟩ (unhide HF45) (fun _ _ _ => id)).keptC (unhide HI5) hE9.fr
  have hE09 : Ext p t { t1 with cps := cps', vc := v' } w w9 := ((unhide HE1).post (unhide HF45)).trans hE9
  have hlen : cps'.length ≤ t.cps.length + 1 := by rw [unhide HC1] at hl9; exact hl9
  have hSBl : w.heap.size ≤ w4.heap.size := (unhide HE1).fr.size
  have hbg : c9.bag = c.bag.erase x := by
    have k1 := (hI9.ok.cok c9 (List.mem_of_getElem? hc9)).2.1
    have k2 : (c.bag.erase x).Pairwise (· < ·) := (unhide HSO).sublist List.erase_sublist
    refine sorted_eq k1 k2 ?_
    have k3 : c9.bag.Perm (c.bag.eraseIdx qi) := by simpa using hc9p
    exact k3.trans (erase_perm (unhide HQ))
  have c0 : w9.cell? ⟨w4.heap.size, 0, none⟩ = some (.int .u32 (c.lo : Int)) := hst9.cell 0
  have y0 : w9.frozen? ⟨w4.heap.size, 0, none⟩ = false := hst9.frozen 0
  have H10 : Hid (S4 p t w k x j no w4.heap.size c c9 t1 cps' v' (.slice sa ys.length sc) (w9.setCell ⟨w4.heap.size, 0, none⟩ (.int .u32 (no : Int)))) := S4.of hI9 hE09 hr9 hst9 hs9 hc9 hc9l hbg hSBl (by
    have h1 := (unhide HR4).lt
    omega)
  have HLEN := hide hlen
  clear hI9 hE9 hl9 hc9 hc9l hc9p hst9 hr5 hr9 hs9 hE09 hlen hbg C11 r0 HF58 HS5 HI5 HR4 HB4 HE1 HF45
  go_upto_region 12 with fail
  obtain ⟨w20, hw20⟩ : ∃ w20, w20 = w9.setCell ⟨w4.heap.size, 0, none⟩ (.int .u32 (no : Int)) := ⟨_, rfl⟩
  rw [← hw20] at H10 ⊢
  clear hw20 c0 y0
  have s13' : w20.cell? ⟨p.SP, 13, none⟩ = some (.map (some p.ST)) := (unhide H10).inv.sp.sp.cell 13
  have u0 : w20.cell? ⟨w4.heap.size, 0, none⟩ = some (.int .u32 (no : Int)) := (unhide H10).st.cell 0
  have u1 : w20.cell? ⟨w4.heap.size, 1, none⟩ = some (.slice sa ys.length sc) := (unhide H10).st.cell 1
  have u2 : w20.cell? ⟨w4.heap.size, 2, none⟩ = some (.slice none 0 0) := (unhide H10).st.cell 2
  obtain ⟨w21, hrun, hm21, hF21, hsz21⟩ := update_run (k := key k (x + 1)) (.agg #[.int .u32 (no : Int), .slice sa ys.length sc, .slice none 0 0]) ((unhide H10).inv.kept (Fr.refl (fun _ => False) w20).drew).st (show look t1.stl (key k (x + 1)) = none by rw [unhide HT1]; exact unhide HV)
  rw [← unhide HEV, ← unhide HKY] at hrun
  obtain ⟨r1, r2, t', hfin⟩ := (unhide H10).done (unhide HK) (unhide HXB) (unhide HX) hj (by rw [← unhide HEV, ← unhide HKY] at hm21; rw [← unhide HEV, ← unhide HKY]; exact hm21) hF21
  have HFIN := hide hfin
  have v0 : w21.cell? ⟨w4.heap.size, 0, none⟩ = some (.int .u32 (no : Int)) := r2.cell 0
  have v1 : w21.cell? ⟨w4.heap.size, 1, none⟩ = some (.slice sa ys.length sc) := r2.cell 1
  have v2 : w21.cell? ⟨w4.heap.size, 2, none⟩ = some (.slice none 0 0) := r2.cell 2
  have x0 : w21.cell? ⟨w.heap.size, 0, none⟩ = some (.int .u32 0) := r1.cell 0
  have x1 : w21.cell? ⟨w.heap.size, 1, none⟩ = some (.slice none 0 0) := r1.cell 1
  have x2 : w21.cell? ⟨w.heap.size, 2, none⟩ = some (.slice none 0 0) := r1.cell 2
  have y0 : w21.frozen? ⟨w.heap.size, 0, none⟩ = false := r1.frozen 0
  have y1 : w21.frozen? ⟨w.heap.size, 1, none⟩ = false := r1.frozen 1
  have y2 : w21.frozen? ⟨w.heap.size, 2, none⟩ = false := r1.frozen 2
  have B1 := r1.setCell 0 (.int .u32 (no : Int))
  have B2 := B1.setCell 1 (.slice sa ys.length sc)
  have B3 := B2.setCell 2 (.slice none 0 0)
  have t0 := B1.cell 0
  have t1' := B2.cell 1
  have t2 := B3.cell 2
  simp only [List.set_cons_zero, List.set_cons_succ, List.getElem?_cons_zero, List.getElem?_cons_succ] at t0 t1' t2
  clear hm21 hF21 hsz21 r1 r2 hfin B1 B2 B3
  go_region
  all_goals
    go_wp2_with fail
    (try simp only [Exit.inBlock, Exit.then])
    refine bodyPost_ret (by simp [results, Ybaf.results14, go_sem, t0, t1', t2]; try rfl) rfl ?_
    obtain ⟨f1, f2, f3, f4, f5, f6, f7⟩ := unhide HFIN
    exact ⟨t', no, _, c9, rfl, f1, f2, by rw [f3]; exact unhide HLEN, f4, f5, f6, f7⟩
/-- (*space).step -/
theorem stepI (hp : PrOk p) (h : Inv p t w) (k x j : Nat) (c : Cmp) (hk : t.cps[k]? = some c) (hxb : x ∈ c.bag) (hx : t.its[x]? = some (c.lo, j)) (hj : j < 8) (hn : t.cps.length ≤ 1000000) :
    Calls Ybaf.prog 14 #[.pointer (some ⟨p.SP, 0, none⟩), .int .u32 (k : Int), .int .u32 ((x + 1 : Nat) : Int)] w fun e w' => ∃ (t' : St) (nx : Nat) (s : Value) (c' : Cmp), e = .returned (.agg #[.int .u32 (nx : Int), s, .slice none 0 0]) ∧ Inv p t' w' ∧ Ext p t t' w w' ∧ t'.cps.length ≤ t.cps.length + 1 ∧ SendOk p t'.its w' j s ∧ t'.cps[nx]? = some c' ∧ c'.lo = c.lo ∧ c'.bag = c.bag.erase x := by
  cases hv : look t.stl (key k (x + 1)) with
  | some v => exact (stepHit hp h k x j c v hk hx (by have := (List.getElem?_eq_some_iff.1 hk).1; omega) hv).mono fun e w' ⟨nx, s, c', h1, h2, h3, h4, h5, h6⟩ => ⟨t, nx, s, c', h1, h.kept h6, Ext.of_fr t h6, by omega, h2, h3, h4, h5⟩
  | none => exact stepMiss hp h k x j c hk hxb hx hj hn hv
end
end Go.Proofs.YbulkbrdiFmt
