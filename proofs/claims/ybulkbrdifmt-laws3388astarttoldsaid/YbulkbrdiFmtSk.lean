/-
  b3388aF: (*space).localStep.
-/
import Derived.Test.YbulkbrdiFmtSl
import Derived.Deep.CutRange
namespace Go.Proofs.YbulkbrdiFmt
open Go.RowKit
set_option linter.unusedVariables false
set_option linter.unusedSimpArgs false
set_option maxRecDepth 100000
set_option maxHeartbeats 8000000
theorem set_far {w : World} {g h o o' : Nat} (hn : h ≠ g) (v : Value) : (w.setCell ⟨g, o, none⟩ v).cell? ⟨h, o', none⟩ = w.cell? ⟨h, o', none⟩ := World.cell?_of_block (Below.heap_setCell _ _ _ _ hn)
theorem set4_far {w : World} {g h o' : Nat} (hn : h ≠ g) (a b c d : Value) : ((((w.setCell ⟨g, 0, none⟩ a).setCell ⟨g, 1, none⟩ b).setCell ⟨g, 2, none⟩ c).setCell ⟨g, 3, none⟩ d).cell? ⟨h, o', none⟩ = w.cell? ⟨h, o', none⟩ := by
  rw [set_far hn, set_far hn, set_far hn, set_far hn]
/-- behind the copying -/
structure L1 (w : World) (i tb : Nat) (wr : World) : Prop where
  fr : Fr (fun _ => False) w wr
  r0 : Blk wr w.heap.size 67 [.int .u32 0, .slice none 0 0, .slice none 0 0]
  fb : Blk wr (w.heap.size + 1 + 1) 62 [.int .i64 (i : Int), .iface 82 (.agg #[]), .slice none 0 0, .slice none 0 0]
  tbk : Blk wr tb 62 [.int .i64 (i : Int), .iface 82 (.agg #[]), .slice none 0 0, .slice none 0 0]
  lt : w.heap.size + 1 + 1 < tb
/-- behind the core's answer -/
structure L2 (w : World) (p : Pr) (i j tb OB ks : Nat) (sv : Value) (wr : World) : Prop where
  fr : Fr (fun _ => False) w wr
  r0 : Blk wr w.heap.size 67 [.int .u32 0, .slice none 0 0, .slice none 0 0]
  tbk : Blk wr tb 62 [.int .i64 (i : Int), .iface 82 (.agg #[]), .slice none 0 0, .slice none 0 0]
  out : Blk wr OB 130 [.slice none 0 0, sv, .slice none 0 0, .slice none 0 0]
  own : wr.ownsRow w.heap.size 139 8 sv ks ((bitsOf (p.ms j) p.np).flatMap (sendRow (im j)))
  len : ks = (bitsOf (p.ms j) p.np).length
  lt : w.heap.size + 1 + 1 < tb
  lo : tb < OB
theorem L2.of {w w9 wS : World} {p : Pr} {i j tb ks B : Nat} {sv : Value} (hF : Fr (fun _ => False) w wS) (h9 : Fr (fun _ => False) w9 wS) (hr : Blk w9 w.heap.size 67 [.int .u32 0, .slice none 0 0, .slice none 0 0]) (ht : Blk w9 tb 62 [.int .i64 (i : Int), .iface 82 (.agg #[]), .slice none 0 0, .slice none 0 0]) (OB : Nat) (ho : Blk w9 OB 130 [.slice none 0 0, .slice none 0 0, .slice none 0 0, .slice none 0 0])
    (hown : wS.ownsRow B 139 8 sv ks ((bitsOf (p.ms j) p.np).flatMap (sendRow (im j)))) (hB : w.heap.size ≤ B) (hlen : ks = (bitsOf (p.ms j) p.np).length) (hlt : w.heap.size + 1 + 1 < tb) (hto : tb < OB) :
    L2 w p i j tb OB ks sv ((((wS.setCell ⟨OB, 0, none⟩ (.slice none 0 0)).setCell ⟨OB, 1, none⟩ sv).setCell ⟨OB, 2, none⟩ (.slice none 0 0)).setCell ⟨OB, 3, none⟩ (.slice none 0 0)) := by
  have hoS := ho.kept h9 id
  have hF2 := ((((Fr.refl (· = OB) wS).setCell (p := ⟨OB, 0, none⟩) (.inl rfl) (.slice none 0 0)).setCell (p := ⟨OB, 1, none⟩) (.inl rfl) sv).setCell (p := ⟨OB, 2, none⟩) (.inl rfl) (.slice none 0 0)).setCell (p := ⟨OB, 3, none⟩) (.inl rfl) (.slice none 0 0)
  refine ⟨hF.join hF2 (fun k hk h => by omega), (hr.kept h9 id).kept hF2 (by omega), (ht.kept h9 id).kept hF2 (by omega), ?_, owns_weaken (owns_kept hown hF2 (fun k h1 h2 => ?_)) hB, hlen, hlt, hto⟩
  · exact (((hoS.setCell 0 _).setCell 1 _).setCell 2 _).setCell 3 _
  · subst h2
    exact owns_neB hown hoS (by decide) h1
/-- blocks of steps are not among what is known -/
theorem Inv.kept67 {p : Pr} {t : St} {w w' : World} {S : Nat → Prop} (h : Inv p t w) (hf : Fr S w w') (hS : ∀ k, S k → ∃ l, Blk w k 67 l) : Inv p t w' := by
  have nb : ∀ {k e : Nat} {l : List Value}, Blk w k e l → e ≠ 67 → ¬ S k := fun hb he hs => by
    obtain ⟨l, h1⟩ := hS _ hs
    have := h1.symm.trans hb
    injection this with this
    injection this with _ h5 _
    exact he h5.symm
  have nm' : ∀ {k : Nat} {l : List (ByteArray × Value)}, SMap w k l → ¬ S k := fun hm hs => by
    obtain ⟨l, h1⟩ := hS _ hs
    exact hm.ne h1 rfl
  have na' : ∀ {k : Nat} {l : List (Nat × Value)}, MapAt w k l → ¬ S k := fun hm hs => by
    obtain ⟨l, h1⟩ := hS _ hs
    exact hm.ne h1 rfl
  have no' : ∀ {B e size n : Nat} {v : Value} {xs : List Value}, w.ownsRow B e size v n xs → e ≠ 67 → ∀ k, v.ownBlock = some k → ¬ S k := fun hr he k hk hs => by
    obtain ⟨l, h1⟩ := hS _ hs
    exact owns_neB hr h1 he hk
  have ns : ∀ {its : List (Nat × Nat)} {j : Nat} {v : Value}, SendOk p its w j v → SendOk p its w' j v := fun hs => hs.kept hf (fun g l hb => nb hb (by decide))
  refine { sp := ⟨h.sp.sp.kept hf (nb h.sp.sp (by decide)), h.sp.c17, h.sp.pb.kept hf (nb h.sp.pb (by decide)), h.sp.perm.kept hf (nb h.sp.perm.tos (by decide)) (nm' h.sp.perm.groups)⟩, ix := h.ix.kept hf (nm' h.ix), msg := fun j hj => ?_, mty := fun j hj => ?_, im := h.im.kept hf (nm' h.im), ir := owns_kept h.ir hf (no' h.ir (by decide)), lm := h.lm.kept hf (nm' h.lm), lr := owns_kept h.lr hf (no' h.lr (by decide)), cm := h.cm.kept hf (nm' h.cm), cr := owns_kept h.cr hf (no' h.cr (by decide)), bag := fun c hc => ?_, ls := h.ls.kept hf (na' h.ls), lso := fun e he => ?_, st := h.st.kept hf (na' h.st), sto := fun e he => ?_, ok := h.ok, ne := h.ne }
  · obtain ⟨h1, h2, h3, h4, h5, h6⟩ := h.msg j hj
    obtain ⟨l, m, k1, k2⟩ := h.mty j hj
    have n1 := nb k1 (by decide)
    have n2 := nb k2 (by decide)
    exact ⟨cell_kept k1.lt hf n1 h1, cell_kept k1.lt hf n1 h2, cell_kept k1.lt hf n1 h3, cell_kept k1.lt hf n1 h4, cell_kept k2.lt hf n2 h5, cell_kept k2.lt hf n2 h6⟩
  · obtain ⟨l, m, k1, k2⟩ := h.mty j hj
    exact ⟨l, m, k1.kept hf (nb k1 (by decide)), k2.kept hf (nb k2 (by decide))⟩
  · refine (h.bag c hc).kept hf (fun g hg hs => ?_)
    obtain ⟨l, h1⟩ := hS _ hs
    exact (h.bag c hc).neB h1 (by decide) hg
  · obtain ⟨i, x, j, s, h1, h2, h3, h4⟩ := h.lso e he
    exact ⟨i, x, j, s, h1, h2, h3, ns h4⟩
  · obtain ⟨k, x, j, nx, c, c', s, h1, h2, h3, h4, h5, h6, h7⟩ := h.sto e he
    exact ⟨k, x, j, nx, c, c', s, h1, h2, h3, h4, h5, ns h6, h7⟩
theorem sp_alloc {w : World} {o : Obj} {g j : Nat} {v : Value} (h : w.cell? ⟨g, j, none⟩ = some v) : (w.alloc o).cell? ⟨g, j, none⟩ = some v := cell_keptA ((Fr.refl _ w).alloc o) h
theorem L3.start {p : Pr} {t : St} {w w11 : World} {i j tb OB ks sc : Nat} {sa : Option Addr} (h : Inv p t w) (h2 : L2 w p i j tb OB ks (.slice sa ks sc) w11) :
    L3 p t w i j tb w11.heap.size ks sc sa 0 t.its t.vi (.slice none 0 0) [] (((w11.setCell ⟨tb, 2, none⟩ (.slice none 0 0)).setCell ⟨tb, 3, none⟩ (.slice none 0 0)).alloc (.cells #[.int .u32 0, .slice none 0 0, .slice none 0 0] 67)) := by
  have hF := (((Fr.refl (· = tb) w11).setCell (p := ⟨tb, 2, none⟩) (.inl rfl) (.slice none 0 0)).setCell (p := ⟨tb, 3, none⟩) (.inl rfl) (.slice none 0 0)).alloc (.cells #[.int .u32 0, .slice none 0 0, .slice none 0 0] 67)
  have hlt := h2.lt
  have hF0 : Fr (fun _ => False) w (((w11.setCell ⟨tb, 2, none⟩ (.slice none 0 0)).setCell ⟨tb, 3, none⟩ (.slice none 0 0)).alloc (.cells #[.int .u32 0, .slice none 0 0, .slice none 0 0] 67)) := h2.fr.join hF (fun k hk e => by omega)
  refine ⟨h.kept hF0, Ext.of_fr t hF0, h2.r0.kept hF (by omega), ?_, owns_kept h2.own hF (fun k h1 h3 => by subst h3; exact owns_neB h2.own h2.tbk (by decide) h1), ?_, owns_nil _ _ _ _, rfl, hlt, Nat.lt_of_lt_of_le h2.tbk.lt (Nat.le_refl _)⟩
  · exact ((h2.tbk.setCell 2 (.slice none 0 0)).setCell 3 (.slice none 0 0)).alloc _
  · have h1 := Blk.new ((w11.setCell ⟨tb, 2, none⟩ (.slice none 0 0)).setCell ⟨tb, 3, none⟩ (.slice none 0 0)) 67 [.int .u32 0, .slice none 0 0, .slice none 0 0]
    have h3 : ((w11.setCell ⟨tb, 2, none⟩ (.slice none 0 0)).setCell ⟨tb, 3, none⟩ (.slice none 0 0)).heap.size = w11.heap.size := by simp [World.setCell]
    rw [h3] at h1
    exact h1
/-- behind the sends: the step's own state laid in -/
structure L4 (p : Pr) (t : St) (w : World) (i j SB : Nat) (its' : List (Nat × Nat)) (vi' sv : Value) (wr : World) : Prop where
  inv : Inv p { t with its := its', vi := vi' } wr
  ext : Ext p t { t with its := its', vi := vi' } w wr
  r0 : Blk wr w.heap.size 67 [.int .u32 0, .slice none 0 0, .slice none 0 0]
  st : Blk wr SB 67 [.int .u32 (i : Int), sv, .slice none 0 0]
  send : SendOk p its' wr j sv
  lt : w.heap.size < SB
theorem L3.close {p : Pr} {t : St} {w wr wL : World} {i j tb SB ks sc : Nat} {sa : Option Addr} {its' : List (Nat × Nat)} {vi' sv : Value} {ys : List Nat} (hp : PrOk p) (h : L3 p t w i j tb SB ks sc sa ks its' vi' sv ys wr) (hk : ks = (bitsOf (p.ms j) p.np).length) (hf : Fr (fun _ => False) wr wL) : L4 p t w i j SB its' vi' sv (wL.setCell ⟨SB, 0, none⟩ (.int .u32 (i : Int))) := by
  have hst := h.st.kept hf id
  have hF : Fr (· = SB) wL (wL.setCell ⟨SB, 0, none⟩ (.int .u32 (i : Int))) := (Fr.refl (· = SB) wL).setCell (p := ⟨SB, 0, none⟩) (.inl rfl) _
  have hSB : w.heap.size < SB := by have := h.lt; have := h.lo; omega
  refine ⟨(h.inv.kept hf).kept67 hF (fun k hk => by subst hk; exact ⟨_, hst⟩), ?_, (h.r0.kept hf id).kept hF (by omega), hst.setCell 0 _, ((h.fin hp hk).kept hf (fun _ _ _ => id)).kept hF (fun g l hb e => ?_), hSB⟩
  · have h1 := h.ext.post hf
    exact { h1 with fr := h1.fr.join hF (fun k hk e => by omega) }
  · subst e
    have := hst.symm.trans hb
    injection this with this
    injection this with _ h5 _
    cases h5
theorem L4.done {p : Pr} {t : St} {w w20 w21 : World} {i j x SB : Nat} {its' : List (Nat × Nat)} {vi' sv : Value} (h : L4 p t w i j SB its' vi' sv w20) (hx : t.its[x]? = some (i, j)) (hj : j < 8)
    (hm : MapAt w21 p.LS (t.lsl ++ [(key i (x + 1), .agg #[.int .u32 (i : Int), sv, .slice none 0 0])])) (hf : Fr (· = p.LS) w20.drew w21) :
    Blk w21 w.heap.size 67 [.int .u32 0, .slice none 0 0, .slice none 0 0] ∧ Blk w21 SB 67 [.int .u32 (i : Int), sv, .slice none 0 0] ∧
    ∃ t' : St, Inv p t' (((w21.setCell ⟨w.heap.size, 0, none⟩ (.int .u32 (i : Int))).setCell ⟨w.heap.size, 1, none⟩ sv).setCell ⟨w.heap.size, 2, none⟩ (.slice none 0 0)) ∧ Ext p t t' w (((w21.setCell ⟨w.heap.size, 0, none⟩ (.int .u32 (i : Int))).setCell ⟨w.heap.size, 1, none⟩ sv).setCell ⟨w.heap.size, 2, none⟩ (.slice none 0 0)) ∧ t'.cps = t.cps ∧ t'.stl = t.stl ∧ t'.nl = t.nl ∧ SendOk p t'.its (((w21.setCell ⟨w.heap.size, 0, none⟩ (.int .u32 (i : Int))).setCell ⟨w.heap.size, 1, none⟩ sv).setCell ⟨w.heap.size, 2, none⟩ (.slice none 0 0)) j sv := by
  have hd := (Fr.refl (fun _ => False) w20).drew
  have hID := h.inv.kept hd
  have hsD := h.send.kept hd (fun _ _ _ => id)
  obtain ⟨k1, k2⟩ := hID.setLs (x := x) (i := i) (j := j) (get_prefix h.ext.its hx) hj hsD hm hf
  have nls : ∀ {k : Nat} {l : List Value}, Blk w20 k 67 l → k ≠ p.LS := fun hb e => by
    subst e
    exact h.inv.ls.ne hb rfl
  have r1 : Blk w21 w.heap.size 67 [.int .u32 0, .slice none 0 0, .slice none 0 0] := h.r0.drew.kept hf (nls h.r0)
  have r2 : Blk w21 SB 67 [.int .u32 (i : Int), sv, .slice none 0 0] := h.st.drew.kept hf (nls h.st)
  have hF3 := (((Fr.refl (· = w.heap.size) w21).setCell (p := ⟨w.heap.size, 0, none⟩) (.inl rfl) (.int .u32 (i : Int))).setCell (p := ⟨w.heap.size, 1, none⟩) (.inl rfl) sv).setCell (p := ⟨w.heap.size, 2, none⟩) (.inl rfl) (.slice none 0 0)
  have hE := (h.ext.post hd).trans k2
  refine ⟨r1, r2, _, k1.kept67 hF3 (fun k hk => by subst hk; exact ⟨_, r1⟩), { hE with fr := hE.fr.join hF3 (fun k hk e => by omega) }, rfl, rfl, rfl, ?_⟩
  refine (hsD.kept hf (fun g l hb e => ?_)).kept hF3 (fun g l hb e => ?_)
  · subst e
    exact hID.ls.ne hb rfl
  · subst e
    have := r1.symm.trans hb
    injection this with this
    injection this with _ h5 _
    cases h5
section
variable {p : Pr} {t : St} {w : World}
theorem lstepMiss (hp : PrOk p) (h : Inv p t w) (i x j : Nat) (hx : t.its[x]? = some (i, j)) (hj : j < 8) (hi : i < t.nl) (hv : look t.lsl (key i (x + 1)) = none) :
    Calls Ybaf.prog 32 #[.pointer (some ⟨p.SP, 0, none⟩), .int .u32 (i : Int), .int .u32 ((x + 1 : Nat) : Int)] w fun e w' => ∃ (t' : St) (s : Value), e = .returned (.agg #[.int .u32 (i : Int), s, .slice none 0 0]) ∧ Inv p t' w' ∧ Ext p t t' w w' ∧ t'.cps = t.cps ∧ t'.stl = t.stl ∧ t'.nl = t.nl ∧ SendOk p t'.its w' j s := by
  have hl := h.itl hp
  have hnp := hp.np
  have l1 := (List.getElem?_eq_some_iff.1 hx).1
  have hnl := h.ok.nl
  obtain ⟨lb, lc, hvl, hlb, hlc, hlo⟩ := owns_at (C := loC) (s := 4) (n := t.nl) (fun _ => rfl) h.lr (by omega)
  obtain ⟨ib, ic, hvi, hib, hic, hit⟩ := owns_at (C := itC) (s := 9) (n := t.its.length) (fun _ => rfl) h.ir (by omega)
  obtain ⟨ni, hni⟩ : ∃ ni, ni = t.its.length := ⟨_, rfl⟩
  rw [← hni] at hvi hic hl l1
  have hir : (List.range t.nl)[i]? = some i := by rw [List.getElem?_range hi]
  obtain ⟨ev, hev⟩ : ∃ ev, ev = x + 1 := ⟨_, rfl⟩
  obtain ⟨P, hP⟩ : ∃ P, P = i * 4294967296 := ⟨_, rfl⟩
  obtain ⟨k, hk⟩ : ∃ k, k = key i ev := ⟨_, rfl⟩
  have e1 : (i : Int) * 4294967296 = (P : Int) := by rw [hP]; omega
  have e1' : IntKind.u64.wrap (P : Int) = (P : Int) := by rw [IntKind.wrap_u64]; omega
  have e2 : bits .or .u64 (P : Int) (ev : Int) = (k : Int) := by rw [bits_or_u64_nat P ev (by omega) (by omega), hk, hP]; rfl
  have e3 : IntKind.u64.wrap (i : Int) = (i : Int) := by rw [IntKind.wrap_u64]; omega
  have e4 : IntKind.u64.wrap (ev : Int) = (ev : Int) := by rw [IntKind.wrap_u64]; omega
  have e5 : (ev : Int) - 1 = (x : Int) := by omega
  have e6 : IntKind.u32.wrap (x : Int) = (x : Int) := by rw [IntKind.wrap_u32]; omega
  have d1 : ((ev : Int) == 0) = false := by simp; omega
  have s12 : w.cell? ⟨p.SP, 12, none⟩ = some (.map (some p.LS)) := h.sp.sp.cell 12
  have s6 : w.cell? ⟨p.SP, 6, none⟩ = some (.slice (some ⟨lb, 0, none⟩) t.nl lc) := by rw [← hvl]; exact h.sp.sp.cell 6
  have f0 : w.cell? ⟨lb, i * 4, none⟩ = some (.int .i64 (i : Int)) := hlo i i 0 hir (by omega)
  have f1 : w.cell? ⟨lb, i * 4 + 1, none⟩ = some (.iface 82 (.agg #[])) := hlo i i 1 hir (by omega)
  have f2 : w.cell? ⟨lb, i * 4 + 2, none⟩ = some (.slice none 0 0) := hlo i i 2 hir (by omega)
  have f3 : w.cell? ⟨lb, i * 4 + 3, none⟩ = some (.slice none 0 0) := hlo i i 3 hir (by omega)
  have zi : (i : Int) < (t.nl : Int) := by omega
  have hSP := h.sp.sp.lt
  have hlk := look_miss_run (h.ls.kept ((Fr.refl (fun _ => False) w).alloc (.cells #[.int .u32 0, .slice none 0 0, .slice none 0 0] 67)) id) hv
  rw [← hev, ← hk] at hlk
  rw [← hev]
  have HI := hide h
  have HX := hide hx
  have HV := hide hv
  have HIT := hide hit
  have HVI := hide hvi
  have HNI := hide hni
  have HK := hide hk
  have HEV := hide hev
  have hpb : P ≤ 34359738368 := by omega
  have hx128 : x < 128 := by omega
  have hev128 : ev ≤ 128 := by omega
  have hi8 : i < 8 := by omega
  clear h hx hv hP hk hev hit hvi hni hlo hvl hir
  go_enter Ybaf.func32, Ybaf.ntmps32
  go_wp2_with fail
  have HB : Hid (Blk (((w.alloc (.cells #[.int .u32 0, .slice none 0 0, .slice none 0 0] 67)).alloc (.cells #[.int .u32 0, .slice none 0 0, .slice none 0 0] 67)).alloc (.cells #[.int .i64 (i : Int), .iface 82 (.agg #[]), .slice none 0 0, .slice none 0 0] 62)) (w.heap.size + 1 + 1) 62 [.int .i64 (i : Int), .iface 82 (.agg #[]), .slice none 0 0, .slice none 0 0]) := by
    have := Blk.new ((w.alloc (.cells #[.int .u32 0, .slice none 0 0, .slice none 0 0] 67)).alloc (.cells #[.int .u32 0, .slice none 0 0, .slice none 0 0] 67)) 62 [.int .i64 (i : Int), .iface 82 (.agg #[]), .slice none 0 0, .slice none 0 0]
    rw [World.size_alloc, World.size_alloc] at this; exact this
  have HR : Hid (Blk (((w.alloc (.cells #[.int .u32 0, .slice none 0 0, .slice none 0 0] 67)).alloc (.cells #[.int .u32 0, .slice none 0 0, .slice none 0 0] 67)).alloc (.cells #[.int .i64 (i : Int), .iface 82 (.agg #[]), .slice none 0 0, .slice none 0 0] 62)) w.heap.size 67 [.int .u32 0, .slice none 0 0, .slice none 0 0]) := ((Blk.new w 67 [.int .u32 0, .slice none 0 0, .slice none 0 0]).alloc _).alloc _
  have HF : Hid (Fr (fun _ => False) w (((w.alloc (.cells #[.int .u32 0, .slice none 0 0, .slice none 0 0] 67)).alloc (.cells #[.int .u32 0, .slice none 0 0, .slice none 0 0] 67)).alloc (.cells #[.int .i64 (i : Int), .iface 82 (.agg #[]), .slice none 0 0, .slice none 0 0] 62))) := (((Fr.refl _ w).alloc _).alloc _).alloc _
  obtain ⟨w3, hw3⟩ : ∃ w3, w3 = (((w.alloc (.cells #[.int .u32 0, .slice none 0 0, .slice none 0 0] 67)).alloc (.cells #[.int .u32 0, .slice none 0 0, .slice none 0 0] 67)).alloc (.cells #[.int .i64 (i : Int), .iface 82 (.agg #[]), .slice none 0 0, .slice none 0 0] 62)) := ⟨_, rfl⟩
  rw [← hw3] at HB HR HF ⊢
  have g0 : w3.cell? ⟨w.heap.size + 1 + 1, 0, none⟩ = some (.int .i64 (i : Int)) := (unhide HB).cell 0
  have g1 : w3.cell? ⟨w.heap.size + 1 + 1, 1, none⟩ = some (.iface 82 (.agg #[])) := (unhide HB).cell 1
  have g2 : w3.cell? ⟨w.heap.size + 1 + 1, 2, none⟩ = some (.slice none 0 0) := (unhide HB).cell 2
  have g3 : w3.cell? ⟨w.heap.size + 1 + 1, 3, none⟩ = some (.slice none 0 0) := (unhide HB).cell 3
  have hb3 : w.heap.size + 1 + 1 < w3.heap.size := (unhide HB).lt
  clear hw3 s12 s6 f0 f1 f2 f3 hlk
  have HE1 : Hid (L1 w i (w3.heap.size + 1) ((w3.alloc (.cells #[] 82)).alloc (.cells #[.int .i64 (i : Int), .iface 82 (.agg #[]), .slice none 0 0, .slice none 0 0] 62)).drew) := by
    refine ⟨(((unhide HF).alloc _).alloc _).drew, (((unhide HR).alloc _).alloc _).drew, (((unhide HB).alloc _).alloc _).drew, ?_, by omega⟩
    have := (Blk.new (w3.alloc (.cells #[] 82)) 62 [.int .i64 (i : Int), .iface 82 (.agg #[]), .slice none 0 0, .slice none 0 0]).drew
    rw [World.size_alloc] at this; exact this
  have HE2 : Hid (L1 w i w3.heap.size ((w3.alloc (.cells #[.int .i64 (i : Int), .iface 82 (.agg #[]), .slice none 0 0, .slice none 0 0] 62)).alloc (.cells #[] 82)).drew) := ⟨(((unhide HF).alloc _).alloc _).drew, (((unhide HR).alloc _).alloc _).drew, (((unhide HB).alloc _).alloc _).drew, ((Blk.new w3 62 [.int .i64 (i : Int), .iface 82 (.agg #[]), .slice none 0 0, .slice none 0 0]).alloc _).drew, by omega⟩
  go_cut [11] from 46 to 57 (fun s11 wd => ∃ tb : Nat, s11 = .pointer (some ⟨tb, 0, none⟩) ∧ Hid (L1 w i tb wd))
  case first =>
    go_region_held3 (fun w' => w'.cell? ⟨w.heap.size + 1 + 1, 0, none⟩ = some (.int .i64 (i : Int)) ∧ w'.cell? ⟨w.heap.size + 1 + 1, 1, none⟩ = some (.iface 82 (.agg #[])) ∧ w'.cell? ⟨w.heap.size + 1 + 1, 2, none⟩ = some (.slice none 0 0) ∧ w'.cell? ⟨w.heap.size + 1 + 1, 3, none⟩ = some (.slice none 0 0)) (go_keep)
      (first
        | (go_at_call 96; refine (copy_at _).mono ?_; rintro e w2 ⟨rfl, rfl⟩)
        | (go_at_call 46; refine (clone46_nil _).mono ?_; rintro e w2 ⟨rfl, rfl⟩)
        | (go_at_call 47; refine (clone47_nil _).mono ?_; rintro e w2 ⟨rfl, rfl⟩))
    all_goals
      go_wp2_with fail
      go_meet
      case rel => first | exact ⟨_, rfl, HE1⟩ | exact ⟨_, rfl, HE2⟩
  case rest =>
    clear HE1 HE2 g0 g1 g2 g3 hb3 HB HR HF
    obtain ⟨tb, rfl, hL⟩ := hcut
    rename World => wd
    have hId := (unhide HI).kept (unhide hL).fr
    have hjm : j < p.mn := ((unhide HI).ok.iok _ (List.mem_of_getElem? (unhide HX))).2.2 hj
    have hmn := hp.mn
    have hsb : itSb j = (j : Int) := by unfold itSb; rw [if_pos hj]
    have hs1 : itS1 j = ⟨#[]⟩ := by unfold itS1; rw [if_pos hj]
    have hs2 : itS2 (i, j) = ⟨#[]⟩ := by unfold itS2; rw [if_pos hj]
    have HCI : Hid (∀ k, k < 9 → wd.cell? ⟨ib, x * 9 + k, none⟩ = ([.int .i64 (i : Int), .int .i64 (j : Int), .string ⟨#[]⟩, .string ⟨#[]⟩, .int .u64 0, .bool false, .bool false, .int .u64 0, .pointer none] : List Value)[k]?) := fun k hk => by
      have h1 := unhide HIT x (i, j) k (unhide HX) hk
      obtain ⟨u, hu⟩ : ∃ u, (itC (i, j))[k]? = some u := ⟨_, List.getElem?_eq_getElem (by exact hk)⟩
      rw [hu] at h1
      rw [cell_keptA (unhide hL).fr h1, ← hu]
      unfold itC
      rw [hsb, hs1, hs2]
    have s8 : wd.cell? ⟨p.SP, 8, none⟩ = some (.slice (some ⟨ib, 0, none⟩) ni ic) := by rw [← unhide HVI]; exact hId.sp.sp.cell 8
    have s4 : wd.cell? ⟨p.SP, 4, none⟩ = some (.slice (some ⟨p.MB, 0, none⟩) p.mn p.mc) := by rw [← hp.ma (by omega)]; exact hId.sp.sp.cell 4
    obtain ⟨m0, m1, m2, m3, m4, m5⟩ := hId.msg j hjm
    have C7 : Hid (∀ W, Fr (fun _ => False) wd W → Calls Ybaf.prog 48 #[.pointer (some ⟨p.SP, 0, none⟩), .agg #[.int .i64 (i : Int), .iface 82 (.agg #[]), .slice none 0 0, .slice none 0 0], .int .u32 (ev : Int)] W fun e w' => e = .returned (.string (im j)) ∧ Fr (fun _ => False) W w') := fun W hW => by
      rw [unhide HEV]
      exact about_any p.SP ib ni ic x p.MB p.mn p.mc j i i ⟨#[]⟩ ⟨#[]⟩ (im j) W (cell_keptA hW s8) l1 (by omega) (cell_keptA hW (unhide HCI 0 (by omega))) (cell_keptA hW (unhide HCI 1 (by omega))) (cell_keptA hW (unhide HCI 2 (by omega))) (cell_keptA hW (unhide HCI 3 (by omega))) (cell_keptA hW (unhide HCI 4 (by omega))) (cell_keptA hW (unhide HCI 5 (by omega))) (cell_keptA hW (unhide HCI 6 (by omega))) (cell_keptA hW (unhide HCI 7 (by omega))) (cell_keptA hW (unhide HCI 8 (by omega))) (cell_keptA hW s4) hjm hmn (cell_keptA hW m0)
    have g0 : wd.cell? ⟨w.heap.size + 1 + 1, 0, none⟩ = some (.int .i64 (i : Int)) := (unhide hL).fb.cell 0
    have g1 : wd.cell? ⟨w.heap.size + 1 + 1, 1, none⟩ = some (.iface 82 (.agg #[])) := (unhide hL).fb.cell 1
    have g2 : wd.cell? ⟨w.heap.size + 1 + 1, 2, none⟩ = some (.slice none 0 0) := (unhide hL).fb.cell 2
    have g3 : wd.cell? ⟨w.heap.size + 1 + 1, 3, none⟩ = some (.slice none 0 0) := (unhide hL).fb.cell 3
    have hb3 : w.heap.size + 1 + 1 < wd.heap.size := (unhide hL).fb.lt
    clear hId m0 m1 m2 m3 m4 m5 s8 s4
    go_wp2_with fail
    go_region_held3 (fun w' => w'.cell? ⟨w.heap.size + 1 + 1, 0, none⟩ = some (.int .i64 (i : Int)) ∧ w'.cell? ⟨w.heap.size + 1 + 1, 1, none⟩ = some (.iface 82 (.agg #[])) ∧ w'.cell? ⟨w.heap.size + 1 + 1, 2, none⟩ = some (.slice none 0 0) ∧ w'.cell? ⟨w.heap.size + 1 + 1, 3, none⟩ = some (.slice none 0 0)) (go_keep)
      (first
        | (go_at_call 48; refine (unhide C7 _ (by first | exact (Fr.refl _ _).drew | exact Fr.refl _ _)).mono ?_; rintro e wA ⟨rfl, hfA⟩; have HFA := hide hfA; have q0 := cell_keptA hfA g0; have q1 := cell_keptA hfA g1; have q2 := cell_keptA hfA g2; have q3 := cell_keptA hfA g3; have hbA : w.heap.size + 1 + 1 < wA.heap.size := Nat.lt_of_lt_of_le hb3 hfA.size; clear hfA)
        | (go_at_call 94; refine (settled_at _ _).mono ?_; rintro e w2 ⟨rfl, rfl⟩))
    have HF8 : Hid (Fr (fun _ => False) wd (wA.alloc (.cells #[] 82))) := ((Fr.refl _ wd).drew.trans (unhide HFA)).alloc _
    obtain ⟨w8, hw8⟩ : ∃ w8, w8 = wA.alloc (.cells #[] 82) := ⟨_, rfl⟩
    rw [← hw8] at HF8 ⊢
    clear hw8 HFA q0 q1 q2 q3 g0 g1 g2 g3 hbA hb3 C7
    have hF08 := (unhide hL).fr.trans (unhide HF8)
    have hI8 := (unhide HI).kept hF08
    have s8 : w8.cell? ⟨p.SP, 8, none⟩ = some (.slice (some ⟨ib, 0, none⟩) ni ic) := by rw [← unhide HVI]; exact hI8.sp.sp.cell 8
    have i0 : w8.cell? ⟨ib, x * 9, none⟩ = some (.int .i64 (i : Int)) := cell_keptA (unhide HF8) (unhide HCI 0 (by omega))
    have i1 : w8.cell? ⟨ib, x * 9 + 1, none⟩ = some (.int .i64 (j : Int)) := cell_keptA (unhide HF8) (unhide HCI 1 (by omega))
    have i2 : w8.cell? ⟨ib, x * 9 + 2, none⟩ = some (.string ⟨#[]⟩) := cell_keptA (unhide HF8) (unhide HCI 2 (by omega))
    have i3 : w8.cell? ⟨ib, x * 9 + 3, none⟩ = some (.string ⟨#[]⟩) := cell_keptA (unhide HF8) (unhide HCI 3 (by omega))
    have i4 : w8.cell? ⟨ib, x * 9 + 4, none⟩ = some (.int .u64 0) := cell_keptA (unhide HF8) (unhide HCI 4 (by omega))
    have i5 : w8.cell? ⟨ib, x * 9 + 5, none⟩ = some (.bool false) := cell_keptA (unhide HF8) (unhide HCI 5 (by omega))
    have i6 : w8.cell? ⟨ib, x * 9 + 6, none⟩ = some (.bool false) := cell_keptA (unhide HF8) (unhide HCI 6 (by omega))
    have i7 : w8.cell? ⟨ib, x * 9 + 7, none⟩ = some (.int .u64 0) := cell_keptA (unhide HF8) (unhide HCI 7 (by omega))
    have i8 : w8.cell? ⟨ib, x * 9 + 8, none⟩ = some (.pointer none) := cell_keptA (unhide HF8) (unhide HCI 8 (by omega))
    have d2 : decide ((0 : Int) ≤ (j : Int)) = true := by simp
    have zx : (x : Int) < (ni : Int) := by omega
    have hSP8 : p.SP < w8.heap.size := hI8.sp.sp.lt
    have hib8 : ib < w8.heap.size := lt_of_cell i0
    have htb8 : tb < w8.heap.size := Nat.lt_of_lt_of_le (unhide hL).tbk.lt (unhide HF8).size
    have HF08 := hide hF08
    have HR9 : Hid (Blk (w8.alloc (.cells #[.slice none 0 0, .slice none 0 0, .slice none 0 0, .slice none 0 0] 130)) w.heap.size 67 [.int .u32 0, .slice none 0 0, .slice none 0 0]) := ((unhide hL).r0.kept (unhide HF8) id).alloc _
    have HT9 : Hid (Blk (w8.alloc (.cells #[.slice none 0 0, .slice none 0 0, .slice none 0 0, .slice none 0 0] 130)) tb 62 [.int .i64 (i : Int), .iface 82 (.agg #[]), .slice none 0 0, .slice none 0 0]) := ((unhide hL).tbk.kept (unhide HF8) id).alloc _
    clear hF08 hI8
    go_upto_if 68 with fail
    go_cut [13] from 69 to 118 (fun s13 wc => s13 = .pointer (some ⟨w8.heap.size, 0, none⟩) ∧ ∃ (ks sc : Nat) (sa : Option Addr), Hid (L2 w p i j tb w8.heap.size ks (.slice sa ks sc) wc))
    case first =>
      go_wp2_with fail
      clear s8 i0 i1 i2 i3 i4 i5 i6 i7 i8 hib8
      have HF10 : Hid (Fr (fun _ => False) w ((w8.alloc (.cells #[.slice none 0 0, .slice none 0 0, .slice none 0 0, .slice none 0 0] 130)).alloc (.cells #[.int .i64 (i : Int), .int .i64 (j : Int), .string ⟨#[]⟩, .string ⟨#[]⟩, .int .u64 0, .bool false, .bool false, .int .u64 0, .pointer none] 48))) := ((unhide HF08).alloc _).alloc _
      have HFd : Hid (Fr (fun _ => False) wd ((w8.alloc (.cells #[.slice none 0 0, .slice none 0 0, .slice none 0 0, .slice none 0 0] 130)).alloc (.cells #[.int .i64 (i : Int), .int .i64 (j : Int), .string ⟨#[]⟩, .string ⟨#[]⟩, .int .u64 0, .bool false, .bool false, .int .u64 0, .pointer none] 48))) := ((unhide HF8).alloc _).alloc _
      have HOB : Hid (Blk ((w8.alloc (.cells #[.slice none 0 0, .slice none 0 0, .slice none 0 0, .slice none 0 0] 130)).alloc (.cells #[.int .i64 (i : Int), .int .i64 (j : Int), .string ⟨#[]⟩, .string ⟨#[]⟩, .int .u64 0, .bool false, .bool false, .int .u64 0, .pointer none] 48)) w8.heap.size 130 [.slice none 0 0, .slice none 0 0, .slice none 0 0, .slice none 0 0]) := (Blk.new w8 130 [.slice none 0 0, .slice none 0 0, .slice none 0 0, .slice none 0 0]).alloc _
      have HIB : Hid (Blk ((w8.alloc (.cells #[.slice none 0 0, .slice none 0 0, .slice none 0 0, .slice none 0 0] 130)).alloc (.cells #[.int .i64 (i : Int), .int .i64 (j : Int), .string ⟨#[]⟩, .string ⟨#[]⟩, .int .u64 0, .bool false, .bool false, .int .u64 0, .pointer none] 48)) (w8.heap.size + 1) 48 [.int .i64 (i : Int), .int .i64 (j : Int), .string ⟨#[]⟩, .string ⟨#[]⟩, .int .u64 0, .bool false, .bool false, .int .u64 0, .pointer none]) := by
        have := Blk.new (w8.alloc (.cells #[.slice none 0 0, .slice none 0 0, .slice none 0 0, .slice none 0 0] 130)) 48 [.int .i64 (i : Int), .int .i64 (j : Int), .string ⟨#[]⟩, .string ⟨#[]⟩, .int .u64 0, .bool false, .bool false, .int .u64 0, .pointer none]
        rw [World.size_alloc] at this; exact this
      obtain ⟨w10, hw10⟩ : ∃ w10, w10 = ((w8.alloc (.cells #[.slice none 0 0, .slice none 0 0, .slice none 0 0, .slice none 0 0] 130)).alloc (.cells #[.int .i64 (i : Int), .int .i64 (j : Int), .string ⟨#[]⟩, .string ⟨#[]⟩, .int .u64 0, .bool false, .bool false, .int .u64 0, .pointer none] 48)) := ⟨_, rfl⟩
      rw [← hw10] at HF10 HFd HOB HIB ⊢
      have HW10 := hide hw10
      clear hw10
      have hI10 := (unhide HI).kept (unhide HF10)
      obtain ⟨m0, m1, m2, m3, m4, m5⟩ := hI10.msg j hjm
      have s4 : w10.cell? ⟨p.SP, 4, none⟩ = some (.slice (some ⟨p.MB, 0, none⟩) p.mn p.mc) := by rw [← hp.ma (by omega)]; exact hI10.sp.sp.cell 4
      have t1 : w10.cell? ⟨tb, 1, none⟩ = some (.iface 82 (.agg #[])) := cell_keptA (unhide HFd) ((unhide hL).tbk.cell 1)
      have b1 : w10.cell? ⟨w8.heap.size + 1, 1, none⟩ = some (.int .i64 (j : Int)) := (unhide HIB).cell 1
      have y0 : w10.cell? ⟨w8.heap.size, 0, none⟩ = some (.slice none 0 0) := (unhide HOB).cell 0
      have y1 : w10.cell? ⟨w8.heap.size, 1, none⟩ = some (.slice none 0 0) := (unhide HOB).cell 1
      have y2 : w10.cell? ⟨w8.heap.size, 2, none⟩ = some (.slice none 0 0) := (unhide HOB).cell 2
      have y3 : w10.cell? ⟨w8.heap.size, 3, none⟩ = some (.slice none 0 0) := (unhide HOB).cell 3
      have n1 : tb ≠ w8.heap.size := by omega
      have n2 : p.SP ≠ w8.heap.size := by omega
      have n3 : p.MB ≠ w8.heap.size := by
        obtain ⟨l, m, k1, k2⟩ := (unhide HI).mty j hjm
        have := k1.lt
        have := (unhide hL).lt
        omega
      have n4 : w8.heap.size + 1 ≠ w8.heap.size := by omega
      have zj : (j : Int) < (p.mn : Int) := by omega
      have C16 := hide (submit_any (p.pl j) (p.ms j) p.np (im j) w10.drew (by exact m4) (by exact m5) (by
        have h1 := hp.ms j
        have h2 : 2 ^ p.np ≤ 2 ^ 8 := Nat.pow_le_pow_right (by omega) hnp
        omega) hnp)
      clear hI10 m4 m5
      go_region_held3 (fun w' => w'.cell? ⟨tb, 1, none⟩ = some (.iface 82 (.agg #[])) ∧ w'.cell? ⟨p.SP, 4, none⟩ = some (.slice (some ⟨p.MB, 0, none⟩) p.mn p.mc) ∧ w'.cell? ⟨w8.heap.size + 1, 1, none⟩ = some (.int .i64 (j : Int)) ∧ w'.cell? ⟨p.MB, j * 4, none⟩ = some (.string (im j)) ∧ w'.cell? ⟨p.MB, j * 4 + 1, none⟩ = some (.slice none 0 0) ∧ w'.cell? ⟨p.MB, j * 4 + 2, none⟩ = some (.slice none 0 0) ∧ w'.cell? ⟨p.MB, j * 4 + 3, none⟩ = some (.slice (some ⟨p.pl j, 0, none⟩) 2 2)) (first | exact ⟨v0, v1, v2, v3, v4, v5, v6⟩ | exact ⟨q0, q1, q2, q3, q4, q5, q6⟩ | exact ⟨t1, s4, b1, m0, m1, m2, m3⟩)
        (first
          | (go_at_call 95; refine (unhide C16).mono ?_; rintro e wS ⟨vs, ks, rfl, hown, hks, hfS⟩; have HOS := hide hown; have HKS := hide hks; have HFS := hide hfS; have q0 := cell_keptA hfS t1; have q1 := cell_keptA hfS s4; have q2 := cell_keptA hfS b1; have q3 := cell_keptA hfS m0; have q4 := cell_keptA hfS m1; have q5 := cell_keptA hfS m2; have q6 := cell_keptA hfS m3; have o0 := cell_keptA hfS y0; have o1 := cell_keptA hfS y1; have o2 := cell_keptA hfS y2; have o3 := cell_keptA hfS y3; have hoS := Blk.kept (unhide HOB).drew hfS id; have z0 := hoS.frozen 0; have z1 := hoS.frozen 1; have z2 := hoS.frozen 2; have z3 := hoS.frozen 3; obtain ⟨sa, sc, rfl⟩ := owns_slice hown; have v0 := (set4_far (w := wS) n1 (.slice none 0 0) (.slice sa ks sc) (.slice none 0 0) (.slice none 0 0)).trans q0; have v1 := (set4_far (w := wS) n2 (.slice none 0 0) (.slice sa ks sc) (.slice none 0 0) (.slice none 0 0)).trans q1; have v2 := (set4_far (w := wS) n4 (.slice none 0 0) (.slice sa ks sc) (.slice none 0 0) (.slice none 0 0)).trans q2; have v3 := (set4_far (w := wS) n3 (.slice none 0 0) (.slice sa ks sc) (.slice none 0 0) (.slice none 0 0)).trans q3; have v4 := (set4_far (w := wS) n3 (.slice none 0 0) (.slice sa ks sc) (.slice none 0 0) (.slice none 0 0)).trans q4; have v5 := (set4_far (w := wS) n3 (.slice none 0 0) (.slice sa ks sc) (.slice none 0 0) (.slice none 0 0)).trans q5; have v6 := (set4_far (w := wS) n3 (.slice none 0 0) (.slice sa ks sc) (.slice none 0 0) (.slice none 0 0)).trans q6; clear hown hks hfS hoS))
      all_goals
        go_wp2_with fail
        go_meet
        case rel =>
          refine ⟨rfl, ks, sc, sa, ?_⟩
          have h9 := ((Fr.refl (fun _ => False) (w8.alloc (.cells #[.slice none 0 0, .slice none 0 0, .slice none 0 0, .slice none 0 0] 130))).alloc (.cells #[.int .i64 (i : Int), .int .i64 (j : Int), .string ⟨#[]⟩, .string ⟨#[]⟩, .int .u64 0, .bool false, .bool false, .int .u64 0, .pointer none] 48))
          rw [← unhide HW10] at h9
          exact L2.of ((unhide HF10).drew.trans (unhide HFS)) (h9.drew.trans (unhide HFS)) (unhide HR9) (unhide HT9) w8.heap.size (Blk.new w8 130 [.slice none 0 0, .slice none 0 0, .slice none 0 0, .slice none 0 0]) (unhide HOS) (Nat.le_trans (unhide HF10).size (Nat.le_refl _)) (unhide HKS) (unhide hL).lt htb8
    case rest =>
      obtain ⟨rfl, ks, sc, sa, hL2⟩ := hcut
      rename World => w11
      clear HR9 HT9 HF08 HF8 hL HCI hSP8 htb8 s8 i0 i1 i2 i3 i4 i5 i6 i7 i8 hib8
      have hOBl := (unhide hL2).lo
      generalize w8.heap.size = OB at *
      clear w8 wd
      have t0 : w11.cell? ⟨tb, 0, none⟩ = some (.int .i64 (i : Int)) := (unhide hL2).tbk.cell 0
      have t1 : w11.cell? ⟨tb, 1, none⟩ = some (.iface 82 (.agg #[])) := (unhide hL2).tbk.cell 1
      have t2 : w11.cell? ⟨tb, 2, none⟩ = some (.slice none 0 0) := (unhide hL2).tbk.cell 2
      have t3 : w11.cell? ⟨tb, 3, none⟩ = some (.slice none 0 0) := (unhide hL2).tbk.cell 3
      have y2 : w11.frozen? ⟨tb, 2, none⟩ = false := (unhide hL2).tbk.frozen 2
      have y3 : w11.frozen? ⟨tb, 3, none⟩ = false := (unhide hL2).tbk.frozen 3
      have o0 : w11.cell? ⟨OB, 0, none⟩ = some (.slice none 0 0) := (unhide hL2).out.cell 0
      have o1 : w11.cell? ⟨OB, 1, none⟩ = some (.slice sa ks sc) := (unhide hL2).out.cell 1
      have o2 : w11.cell? ⟨OB, 2, none⟩ = some (.slice none 0 0) := (unhide hL2).out.cell 2
      have n1 : tb ≠ OB := by omega
      have n2 : OB ≠ tb := by omega
      have hOB : OB < w11.heap.size := (unhide hL2).out.lt
      have htb : tb < w11.heap.size := (unhide hL2).tbk.lt
      go_wp2_with fail
      refine wp_loop_rounds 1 ?_
      rw [rounds_succ]
      go_wp2_with fail
      have H3 := hide (L3.start (unhide HI) (unhide hL2))
      have hks8 : ks ≤ 8 := by
        rw [(unhide hL2).len]
        have := bits_len (p.ms j) p.np
        omega
      have HKL := hide (unhide hL2).len
      obtain ⟨SB, hSB⟩ : ∃ SB, w11.heap.size = SB := ⟨_, rfl⟩
      rw [hSB] at H3 ⊢
      clear t0 t1 t2 t3 y2 y3 o0 o1 o2 hOB htb hL2
      go_loopw [155] (fun s155 wr => ∃ (q : Nat) (its' : List (Nat × Nat)) (vi' : Value) (sa' : Option Addr) (sc' : Nat) (ys : List Nat), s155 = .int .i64 q ∧ q ≤ ks ∧ Hid (L3 p t w i j tb SB ks sc sa q its' vi' (.slice sa' q sc') ys wr)) (fun s155 _ => ks - (intOf s155).toNat)
      case atStart => exact ⟨0, _, _, _, _, _, rfl, by omega, H3⟩
      case round =>
        clear H3
        obtain ⟨q, its', vi', va, vc, ys, rfl, hq, hst⟩ := hrel
        by_cases hqk : q < ks
        · obtain ⟨d, hd⟩ : ∃ d, (bitsOf (p.ms j) p.np)[q]? = some d := ⟨_, List.getElem?_eq_getElem (by rw [← unhide HKL]; exact hqk)⟩
          have hdn : d < p.np := by
            have := List.mem_of_getElem? hd
            unfold bitsOf at this
            exact List.mem_range.1 (List.mem_filter.1 this).1
          obtain ⟨g0, c0, hsa, hg0, _, hcel⟩ := owns_at (C := sendRow (im j)) (s := 8) (n := ks) (fun _ => rfl) (owns_weaken (unhide hst).own (Nat.zero_le _)) (by omega)
          injection hsa with hsa _ hsc
          subst hsa
          subst hsc
          have r0 : wr.cell? ⟨g0, q * 8, none⟩ = some (.string (nm d)) := hcel q d 0 hd (by omega)
          have r1 : wr.cell? ⟨g0, q * 8 + 1, none⟩ = some (.string (im j)) := hcel q d 1 hd (by omega)
          have r2 : wr.cell? ⟨g0, q * 8 + 2, none⟩ = some (.string (nm d)) := hcel q d 2 hd (by omega)
          have r3 : wr.cell? ⟨g0, q * 8 + 3, none⟩ = some (.int .u64 0) := hcel q d 3 hd (by omega)
          have r4 : wr.cell? ⟨g0, q * 8 + 4, none⟩ = some (.bool false) := hcel q d 4 hd (by omega)
          have r5 : wr.cell? ⟨g0, q * 8 + 5, none⟩ = some (.bool false) := hcel q d 5 hd (by omega)
          have r6 : wr.cell? ⟨g0, q * 8 + 6, none⟩ = some (.int .u64 0) := hcel q d 6 hd (by omega)
          have r7 : wr.cell? ⟨g0, q * 8 + 7, none⟩ = some (.pointer none) := hcel q d 7 hd (by omega)
          have z1 : (q : Int) < (ks : Int) := by omega
          have bD : Blk ((wr.alloc (.cells #[.string (nm d), .string (im j), .string (nm d), .int .u64 0, .bool false, .bool false, .int .u64 0, .pointer none] 139)).drew) wr.heap.size 139 [.string (nm d), .string (im j), .string (nm d), .int .u64 0, .bool false, .bool false, .int .u64 0, .pointer none] := (Blk.new wr 139 [.string (nm d), .string (im j), .string (nm d), .int .u64 0, .bool false, .bool false, .int .u64 0, .pointer none]).drew
          have sD : Blk ((wr.alloc (.cells #[.string (nm d), .string (im j), .string (nm d), .int .u64 0, .bool false, .bool false, .int .u64 0, .pointer none] 139)).drew) SB 67 [.int .u32 0, .slice va q vc, .slice none 0 0] := ((unhide hst).st.alloc _).drew
          have cst : ((wr.alloc (.cells #[.string (nm d), .string (im j), .string (nm d), .int .u64 0, .bool false, .bool false, .int .u64 0, .pointer none] 139)).drew).cell? ⟨SB, 1, none⟩ = some (.slice va q vc) := sD.cell 1
          have hID := (unhide hst).inv.kept (((Fr.refl (fun _ => False) wr).alloc (.cells #[.string (nm d), .string (im j), .string (nm d), .int .u64 0, .bool false, .bool false, .int .u64 0, .pointer none] 139)).drew)
          have p3D : ((wr.alloc (.cells #[.string (nm d), .string (im j), .string (nm d), .int .u64 0, .bool false, .bool false, .int .u64 0, .pointer none] 139)).drew).cell? ⟨p.SP, 3, none⟩ = some (.map (some p.IX)) := hID.sp.sp.cell 3
          have hlk := slook_run (c := false) Ybaf.underlying32 hID.ix (hp.ix d hdn)
          have C31 : Hid (Calls Ybaf.prog 8 #[.pointer (some ⟨p.SP, 0, none⟩), .agg #[.int .i64 (d : Int), .int .i64 (-1), .string (im j), .string (nm d), .int .u64 0, .bool false, .bool false, .int .u64 0, .pointer none]] ((wr.alloc (.cells #[.string (nm d), .string (im j), .string (nm d), .int .u64 0, .bool false, .bool false, .int .u64 0, .pointer none] 139)).drew) fun e w' => ∃ (no : Nat) (its2 : List (Nat × Nat)) (v2 : Value), e = .returned (.int .u32 (no : Int)) ∧ Inv p { t with its := its2, vi := v2 } w' ∧ Ext p { t with its := its', vi := vi' } { t with its := its2, vi := v2 } ((wr.alloc (.cells #[.string (nm d), .string (im j), .string (nm d), .int .u64 0, .bool false, .bool false, .int .u64 0, .pointer none] 139)).drew) w' ∧ its2[no]? = some (d, 8 + j)) := by
            have h1 := itemI hp hID (d, 8 + j) ⟨hdn, by simp only; omega, fun h => absurd h (by simp only; omega)⟩
            have e1 : itSb (8 + j) = -1 := by unfold itSb; rw [if_neg (by omega)]
            have e2 : itS1 (8 + j) = im j := by unfold itS1; rw [if_neg (by omega), show 8 + j - 8 = j by omega]
            have e3 : itS2 (d, 8 + j) = nm d := by unfold itS2; rw [if_neg (by simp only; omega)]
            simp only [e1, e2, e3] at h1
            exact h1
          obtain ⟨i53, hi53, hz53, hs53, hb53⟩ := info_parts info53
          have HD := hide hd
          have hSBl : SB < wr.heap.size := (unhide hst).st.lt
          have hwr : w.heap.size ≤ wr.heap.size := (unhide hst).ext.fr.size
          clear hcel hID hd
          go_upto_region 31 with fail
          refine wp_region_held_drew (S := (fun w' => w'.cell? ⟨p.SP, 3, none⟩ = some (.map (some p.IX)) ∧ Blk w' wr.heap.size 139 [.string (nm d), .string (im j), .string (nm d), .int .u64 0, .bool false, .bool false, .int .u64 0, .pointer none])) (by kernel_rfl) ⟨p3D, bD⟩ (fun hHeld => ?_)
          refine wpAnyH_take (i := 0) (v := ?_) rg0 (by kernel_rfl) (by kernel_rfl) (by kernel_rfl) (fun _ _ _ h => h) (Or.inl ⟨by rfl, ?_⟩) hHeld ?_
          rotate_left
          · intro w hSw
            go_simp
            all_goals with_reducible rfl
          (try simp only [Act.put, List.setIfInBounds_toArray, List.set_cons_zero, List.set_cons_succ])
          refine wpAnyH_take (i := 2) (v := ?_) (rgS (rgS rg0)) (by kernel_rfl) (by kernel_rfl) (by kernel_rfl) (fun _ _ _ h => h) (Or.inl ⟨by rfl, ?_⟩) hHeld ?_
          rotate_left
          · intro w hSw
            go_simp
            all_goals with_reducible rfl
          (try simp only [Act.put, List.setIfInBounds_toArray, List.set_cons_zero, List.set_cons_succ])
          refine wpAnyH_take (i := 3) (v := ?_) (rgS (rgS (rgS rg0))) (by kernel_rfl) (by kernel_rfl) (by kernel_rfl) (fun _ _ _ h => h) (Or.inl ⟨by rfl, ?_⟩) hHeld ?_
          rotate_left
          · intro w hSw
            go_simp
            all_goals with_reducible rfl
          (try simp only [Act.put, List.setIfInBounds_toArray, List.set_cons_zero, List.set_cons_succ])
          refine wpAnyH_take (i := 4) (v := ?_) (rgS (rgS (rgS (rgS rg0)))) (by kernel_rfl) (by kernel_rfl) (by kernel_rfl) (fun _ _ _ h => h) (Or.inl ⟨by rfl, ?_⟩) hHeld ?_
          rotate_left
          · intro w hSw
            go_simp
            all_goals with_reducible rfl
          (try simp only [Act.put, List.setIfInBounds_toArray, List.set_cons_zero, List.set_cons_succ])
          refine wpAnyH_take (i := 5) (v := ?_) (rgS (rgS (rgS (rgS (rgS rg0))))) (by kernel_rfl) (by kernel_rfl) (by kernel_rfl) (fun _ _ _ h => h) (Or.inl ⟨by rfl, ?_⟩) hHeld ?_
          rotate_left
          · intro w hSw
            go_simp
            all_goals with_reducible rfl
          (try simp only [Act.put, List.setIfInBounds_toArray, List.set_cons_zero, List.set_cons_succ])
          refine wpAnyH_take (i := 6) (v := ?_) (rgS (rgS (rgS (rgS (rgS (rgS rg0)))))) (by kernel_rfl) (by kernel_rfl) (by kernel_rfl) (fun _ _ _ h => h) (Or.inl ⟨by rfl, ?_⟩) hHeld ?_
          rotate_left
          · intro w hSw
            have c3 := hSw.1
            go_simp
            all_goals with_reducible rfl
          (try simp only [Act.put, List.setIfInBounds_toArray, List.set_cons_zero, List.set_cons_succ])
          refine wpAnyH_take (i := 7) (v := ?_) (rgS (rgS (rgS (rgS (rgS (rgS (rgS rg0))))))) (by kernel_rfl) (by kernel_rfl) (by kernel_rfl) (fun _ _ _ h => h) (Or.inl ⟨by rfl, ?_⟩) hHeld ?_
          rotate_left
          · intro w hSw
            go_simp
            all_goals with_reducible rfl
          (try simp only [Act.put, List.setIfInBounds_toArray, List.set_cons_zero, List.set_cons_succ])
          refine wpAnyH_take (i := 8) (v := ?_) (rgS (rgS (rgS (rgS (rgS (rgS (rgS (rgS rg0)))))))) (by kernel_rfl) (by kernel_rfl) (by kernel_rfl) (fun _ _ _ h => h) (Or.inl ⟨by rfl, ?_⟩) hHeld ?_
          rotate_left
          · intro w hSw
            have c0 : w.cell? ⟨wr.heap.size, 0, none⟩ = some (.string (nm d)) := hSw.2.cell 0
            go_simp
            all_goals with_reducible rfl
          (try simp only [Act.put, List.setIfInBounds_toArray, List.set_cons_zero, List.set_cons_succ])
          refine wpAnyH_take (i := 10) (v := ?_) (rgS (rgS (rgS (rgS (rgS (rgS (rgS (rgS (rgS (rgS rg0)))))))))) (by kernel_rfl) (by kernel_rfl) (by kernel_rfl) (fun _ _ _ h => h) (Or.inl ⟨by rfl, ?_⟩) hHeld ?_
          rotate_left
          · intro w hSw
            go_simp
            all_goals with_reducible rfl
          (try simp only [Act.put, List.setIfInBounds_toArray, List.set_cons_zero, List.set_cons_succ])
          refine wpAnyH_take (i := 11) (v := ?_) (rgS (rgS (rgS (rgS (rgS (rgS (rgS (rgS (rgS (rgS (rgS rg0))))))))))) (by kernel_rfl) (by kernel_rfl) (by kernel_rfl) (fun _ _ _ h => h) (Or.inl ⟨by rfl, ?_⟩) hHeld ?_
          rotate_left
          · intro w hSw
            have c1 : w.cell? ⟨wr.heap.size, 1, none⟩ = some (.string (im j)) := hSw.2.cell 1; have c2 : w.cell? ⟨wr.heap.size, 2, none⟩ = some (.string (nm d)) := hSw.2.cell 2; have c3 : w.cell? ⟨wr.heap.size, 3, none⟩ = some (.int .u64 0) := hSw.2.cell 3; have c4 : w.cell? ⟨wr.heap.size, 4, none⟩ = some (.bool false) := hSw.2.cell 4; have c5 : w.cell? ⟨wr.heap.size, 5, none⟩ = some (.bool false) := hSw.2.cell 5; have c6 : w.cell? ⟨wr.heap.size, 6, none⟩ = some (.int .u64 0) := hSw.2.cell 6; have c7 : w.cell? ⟨wr.heap.size, 7, none⟩ = some (.pointer none) := hSw.2.cell 7
            go_simp
            all_goals with_reducible rfl
          (try simp only [Act.put, List.setIfInBounds_toArray, List.set_cons_zero, List.set_cons_succ])
          refine wpAnyH_ready (rs := [1, 9]) (by kernel_rfl) (by simp) ?_
          refine AllReadyH.cons (rgS rg0) (fun K' hK' => ?_) (AllReadyH.cons (rgS (rgS (rgS (rgS (rgS (rgS (rgS (rgS (rgS rg0))))))))) (fun K' hK' => ?_) AllReadyH.nil)
          · go_simp
            refine hK'.out _ _ ⟨p3D, bD⟩ (fun hHeld => ?_)
            clear hK' K'
            (try simp only [Act.put, List.setIfInBounds_toArray, List.set_cons_zero, List.set_cons_succ])
            refine wpAnyH_ready (rs := [9]) (by kernel_rfl) (by simp) ?_
            refine AllReadyH.cons (rgS (rgS (rgS (rgS (rgS (rgS (rgS (rgS (rgS rg0))))))))) (fun K' hK' => ?_) AllReadyH.nil
            go_simp
            refine hK'.out _ _ ⟨p3D, bD⟩ (fun hHeld => ?_)
            clear hK' K'
            (try simp only [Act.put, List.setIfInBounds_toArray, List.set_cons_zero, List.set_cons_succ])
            refine wpAnyH_take (i := 12) (v := ?_) (rgS (rgS (rgS (rgS (rgS (rgS (rgS (rgS (rgS (rgS (rgS (rgS rg0)))))))))))) (by kernel_rfl) (by kernel_rfl) (by kernel_rfl) (fun _ _ _ h => h) (Or.inl ⟨by rfl, ?_⟩) hHeld ?_
            rotate_left
            · intro w hSw
              go_simp
              all_goals with_reducible rfl
            (try simp only [Act.put, List.setIfInBounds_toArray, List.set_cons_zero, List.set_cons_succ])
            refine wpAnyH_ready (rs := [13]) (by kernel_rfl) (by simp) ?_
            refine AllReadyH.cons (rgS (rgS (rgS (rgS (rgS (rgS (rgS (rgS (rgS (rgS (rgS (rgS (rgS rg0))))))))))))) (fun K' hK' => ?_) AllReadyH.nil
            go_simp
            refine (unhide C31).mono ?_
            rintro e wI ⟨no, its2, v2, rfl, hI, hE, hno⟩
            have HI2 := hide hI
            have HE2 := hide hE
            have HNO := hide hno
            have p3 : wI.cell? ⟨p.SP, 3, none⟩ = some (.map (some p.IX)) := hI.sp.sp.cell 3
            have bI : Blk wI wr.heap.size 139 [.string (nm d), .string (im j), .string (nm d), .int .u64 0, .bool false, .bool false, .int .u64 0, .pointer none] := Blk.kept bD hE.fr (((unhide hst).inv.kept (((Fr.refl (fun _ => False) wr).alloc _).drew)).nch bD (by decide))
            have cst : wI.cell? ⟨SB, 1, none⟩ = some (.slice va q vc) := (Blk.kept sD hE.fr (((unhide hst).inv.kept (((Fr.refl (fun _ => False) wr).alloc _).drew)).nch sD (by decide))).cell 1
            have hSI : SB < wI.heap.size := lt_of_cell cst
            have HXS : Hid (wI.ownsRow w.heap.size 53 1 (.slice va q vc) q (ys.map fun (y : Nat) => .int .u32 (y : Int))) := ((unhide hst).inv.kept (((Fr.refl (fun _ => False) wr).alloc _).drew)).keptO hE.fr (owns_kept (unhide hst).so (((Fr.refl (fun _ => False) wr).alloc (.cells #[.string (nm d), .string (im j), .string (nm d), .int .u64 0, .bool false, .bool false, .int .u64 0, .pointer none] 139)).drew) (fun _ _ => id)) (by decide)
            have hWI : w.heap.size ≤ wI.heap.size := by have := hE.fr.size; have := (unhide hst).ext.fr.size; simp only [World.size_drew, World.size_alloc] at *; omega
            clear hI hE hno
            go_wp2_with fail
            refine hK'.out _ _ ⟨p3, bI⟩ (fun hHeld => ?_)
            clear hK' K'
            (try simp only [Act.put, List.setIfInBounds_toArray, List.set_cons_zero, List.set_cons_succ])
            refine wpAnyH_ready (rs := [14]) (by kernel_rfl) (by simp) ?_
            refine AllReadyH.cons (rgS (rgS (rgS (rgS (rgS (rgS (rgS (rgS (rgS (rgS (rgS (rgS (rgS (rgS rg0)))))))))))))) (fun K' hK' => ?_) AllReadyH.nil
            go_simp
            refine hK'.out _ _ ⟨sp_alloc p3, bI.alloc _⟩ (fun hHeld => ?_)
            clear hK' K'
            (try simp only [Act.put, List.setIfInBounds_toArray, List.set_cons_zero, List.set_cons_succ])
            refine wpAnyH_ready (rs := [15]) (by kernel_rfl) (by simp) ?_
            refine AllReadyH.cons (rgS (rgS (rgS (rgS (rgS (rgS (rgS (rgS (rgS (rgS (rgS (rgS (rgS (rgS (rgS rg0))))))))))))))) (fun K' hK' => ?_) AllReadyH.nil
            refine step_append_lies _ (by rfl) _ _ _ (by rfl) w.heap.size 53 i53 (.int .u32 0) 1 4 Ybaf.underlying51 hi53 hz53 hs53 hb53 rfl (by omega) (.slice va q vc) q (ys.map fun (y : Nat) => .int .u32 (y : Int)) (by rfl) (owns_kept (unhide HXS) ((Fr.refl (fun _ => False) wI).alloc _) (fun _ _ => id)) ⟨wI.heap.size, 0, none⟩ 1 1 [.int .u32 (no : Int)] (by rfl) (by rfl) (World.news_of_block (Blk.new wI 53 [.int .u32 (no : Int)])) (by simp [Value.oneCell']) (by omega) (by unfold maxLen; omega) (by omega) (by simp; omega) (wI.heap.size + 1) (by simp) ?_
            intro g cap wJ hown hgrow hat hlt
            obtain ⟨k1, k2, HN, kB, kS1, kS2⟩ := (unhide hst).next (unhide HI) (((Fr.refl (fun _ => False) wr).alloc (.cells #[.string (nm d), .string (im j), .string (nm d), .int .u64 0, .bool false, .bool false, .int .u64 0, .pointer none] 139)).drew) (unhide HI2) (unhide HE2) (unhide HNO) (unhide HD) ((Fr.refl (fun _ => False) wI).alloc _) hgrow hown
            have bJ := kB (bI.alloc _)
            clear hown hgrow hat
            refine hK'.out _ _ ⟨kS1, bJ.1⟩ (fun hHeld => ?_)
            clear hK' K'
            (try simp only [Act.put, List.setIfInBounds_toArray, List.set_cons_zero, List.set_cons_succ])
            refine wpAnyH_take (i := 16) (v := ?_) (rgS (rgS (rgS (rgS (rgS (rgS (rgS (rgS (rgS (rgS (rgS (rgS (rgS (rgS (rgS (rgS rg0)))))))))))))))) (by kernel_rfl) (by kernel_rfl) (by kernel_rfl) (fun _ _ _ h => h) (Or.inl ⟨by rfl, ?_⟩) hHeld ?_
            rotate_left
            · intro w hSw
              go_simp
              all_goals with_reducible rfl
            (try simp only [Act.put, List.setIfInBounds_toArray, List.set_cons_zero, List.set_cons_succ])
            refine wpAnyH_ready (rs := [17]) (by kernel_rfl) (by simp) ?_
            refine AllReadyH.cons (rgS (rgS (rgS (rgS (rgS (rgS (rgS (rgS (rgS (rgS (rgS (rgS (rgS (rgS (rgS (rgS (rgS rg0))))))))))))))))) (fun K' hK' => ?_) AllReadyH.nil
            go_simp
            refine hK'.out _ _ ⟨kS2, bJ.2⟩ (fun hHeld => ?_)
            clear hK' K'
            (try simp only [Act.put, List.setIfInBounds_toArray, List.set_cons_zero, List.set_cons_succ])
            refine wpAnyH_done (by kernel_rfl) ?_ _
            go_wp2_with fail
            go_roundw
            case rel => exact ⟨q + 1, _, _, _, _, _, by go_num, by omega, HN⟩
            case measure => (try simp [intOf]) <;> (try omega)
          · go_simp
            refine hK'.out _ _ ⟨p3D, bD⟩ (fun hHeld => ?_)
            clear hK' K'
            (try simp only [Act.put, List.setIfInBounds_toArray, List.set_cons_zero, List.set_cons_succ])
            refine wpAnyH_take (i := 12) (v := ?_) (rgS (rgS (rgS (rgS (rgS (rgS (rgS (rgS (rgS (rgS (rgS (rgS rg0)))))))))))) (by kernel_rfl) (by kernel_rfl) (by kernel_rfl) (fun _ _ _ h => h) (Or.inl ⟨by rfl, ?_⟩) hHeld ?_
            rotate_left
            · intro w hSw
              go_simp
              all_goals with_reducible rfl
            (try simp only [Act.put, List.setIfInBounds_toArray, List.set_cons_zero, List.set_cons_succ])
            refine wpAnyH_ready (rs := [1, 13]) (by kernel_rfl) (by simp) ?_
            refine AllReadyH.cons (rgS rg0) (fun K' hK' => ?_) (AllReadyH.cons (rgS (rgS (rgS (rgS (rgS (rgS (rgS (rgS (rgS (rgS (rgS (rgS (rgS rg0))))))))))))) (fun K' hK' => ?_) AllReadyH.nil)
            · go_simp
              refine hK'.out _ _ ⟨p3D, bD⟩ (fun hHeld => ?_)
              clear hK' K'
              (try simp only [Act.put, List.setIfInBounds_toArray, List.set_cons_zero, List.set_cons_succ])
              refine wpAnyH_ready (rs := [13]) (by kernel_rfl) (by simp) ?_
              refine AllReadyH.cons (rgS (rgS (rgS (rgS (rgS (rgS (rgS (rgS (rgS (rgS (rgS (rgS (rgS rg0))))))))))))) (fun K' hK' => ?_) AllReadyH.nil
              go_simp
              refine (unhide C31).mono ?_
              rintro e wI ⟨no, its2, v2, rfl, hI, hE, hno⟩
              have HI2 := hide hI
              have HE2 := hide hE
              have HNO := hide hno
              have p3 : wI.cell? ⟨p.SP, 3, none⟩ = some (.map (some p.IX)) := hI.sp.sp.cell 3
              have bI : Blk wI wr.heap.size 139 [.string (nm d), .string (im j), .string (nm d), .int .u64 0, .bool false, .bool false, .int .u64 0, .pointer none] := Blk.kept bD hE.fr (((unhide hst).inv.kept (((Fr.refl (fun _ => False) wr).alloc _).drew)).nch bD (by decide))
              have cst : wI.cell? ⟨SB, 1, none⟩ = some (.slice va q vc) := (Blk.kept sD hE.fr (((unhide hst).inv.kept (((Fr.refl (fun _ => False) wr).alloc _).drew)).nch sD (by decide))).cell 1
              have hSI : SB < wI.heap.size := lt_of_cell cst
              have HXS : Hid (wI.ownsRow w.heap.size 53 1 (.slice va q vc) q (ys.map fun (y : Nat) => .int .u32 (y : Int))) := ((unhide hst).inv.kept (((Fr.refl (fun _ => False) wr).alloc _).drew)).keptO hE.fr (owns_kept (unhide hst).so (((Fr.refl (fun _ => False) wr).alloc (.cells #[.string (nm d), .string (im j), .string (nm d), .int .u64 0, .bool false, .bool false, .int .u64 0, .pointer none] 139)).drew) (fun _ _ => id)) (by decide)
              have hWI : w.heap.size ≤ wI.heap.size := by have := hE.fr.size; have := (unhide hst).ext.fr.size; simp only [World.size_drew, World.size_alloc] at *; omega
              clear hI hE hno
              go_wp2_with fail
              refine hK'.out _ _ ⟨p3, bI⟩ (fun hHeld => ?_)
              clear hK' K'
              (try simp only [Act.put, List.setIfInBounds_toArray, List.set_cons_zero, List.set_cons_succ])
              refine wpAnyH_ready (rs := [14]) (by kernel_rfl) (by simp) ?_
              refine AllReadyH.cons (rgS (rgS (rgS (rgS (rgS (rgS (rgS (rgS (rgS (rgS (rgS (rgS (rgS (rgS rg0)))))))))))))) (fun K' hK' => ?_) AllReadyH.nil
              go_simp
              refine hK'.out _ _ ⟨sp_alloc p3, bI.alloc _⟩ (fun hHeld => ?_)
              clear hK' K'
              (try simp only [Act.put, List.setIfInBounds_toArray, List.set_cons_zero, List.set_cons_succ])
              refine wpAnyH_ready (rs := [15]) (by kernel_rfl) (by simp) ?_
              refine AllReadyH.cons (rgS (rgS (rgS (rgS (rgS (rgS (rgS (rgS (rgS (rgS (rgS (rgS (rgS (rgS (rgS rg0))))))))))))))) (fun K' hK' => ?_) AllReadyH.nil
              refine step_append_lies _ (by rfl) _ _ _ (by rfl) w.heap.size 53 i53 (.int .u32 0) 1 4 Ybaf.underlying51 hi53 hz53 hs53 hb53 rfl (by omega) (.slice va q vc) q (ys.map fun (y : Nat) => .int .u32 (y : Int)) (by rfl) (owns_kept (unhide HXS) ((Fr.refl (fun _ => False) wI).alloc _) (fun _ _ => id)) ⟨wI.heap.size, 0, none⟩ 1 1 [.int .u32 (no : Int)] (by rfl) (by rfl) (World.news_of_block (Blk.new wI 53 [.int .u32 (no : Int)])) (by simp [Value.oneCell']) (by omega) (by unfold maxLen; omega) (by omega) (by simp; omega) (wI.heap.size + 1) (by simp) ?_
              intro g cap wJ hown hgrow hat hlt
              obtain ⟨k1, k2, HN, kB, kS1, kS2⟩ := (unhide hst).next (unhide HI) (((Fr.refl (fun _ => False) wr).alloc (.cells #[.string (nm d), .string (im j), .string (nm d), .int .u64 0, .bool false, .bool false, .int .u64 0, .pointer none] 139)).drew) (unhide HI2) (unhide HE2) (unhide HNO) (unhide HD) ((Fr.refl (fun _ => False) wI).alloc _) hgrow hown
              have bJ := kB (bI.alloc _)
              clear hown hgrow hat
              refine hK'.out _ _ ⟨kS1, bJ.1⟩ (fun hHeld => ?_)
              clear hK' K'
              (try simp only [Act.put, List.setIfInBounds_toArray, List.set_cons_zero, List.set_cons_succ])
              refine wpAnyH_take (i := 16) (v := ?_) (rgS (rgS (rgS (rgS (rgS (rgS (rgS (rgS (rgS (rgS (rgS (rgS (rgS (rgS (rgS (rgS rg0)))))))))))))))) (by kernel_rfl) (by kernel_rfl) (by kernel_rfl) (fun _ _ _ h => h) (Or.inl ⟨by rfl, ?_⟩) hHeld ?_
              rotate_left
              · intro w hSw
                go_simp
                all_goals with_reducible rfl
              (try simp only [Act.put, List.setIfInBounds_toArray, List.set_cons_zero, List.set_cons_succ])
              refine wpAnyH_ready (rs := [17]) (by kernel_rfl) (by simp) ?_
              refine AllReadyH.cons (rgS (rgS (rgS (rgS (rgS (rgS (rgS (rgS (rgS (rgS (rgS (rgS (rgS (rgS (rgS (rgS (rgS rg0))))))))))))))))) (fun K' hK' => ?_) AllReadyH.nil
              go_simp
              refine hK'.out _ _ ⟨kS2, bJ.2⟩ (fun hHeld => ?_)
              clear hK' K'
              (try simp only [Act.put, List.setIfInBounds_toArray, List.set_cons_zero, List.set_cons_succ])
              refine wpAnyH_done (by kernel_rfl) ?_ _
              go_wp2_with fail
              go_roundw
              case rel => exact ⟨q + 1, _, _, _, _, _, by go_num, by omega, HN⟩
              case measure => (try simp [intOf]) <;> (try omega)
            · go_simp
              refine (unhide C31).mono ?_
              rintro e wI ⟨no, its2, v2, rfl, hI, hE, hno⟩
              have HI2 := hide hI
              have HE2 := hide hE
              have HNO := hide hno
              have p3 : wI.cell? ⟨p.SP, 3, none⟩ = some (.map (some p.IX)) := hI.sp.sp.cell 3
              have bI : Blk wI wr.heap.size 139 [.string (nm d), .string (im j), .string (nm d), .int .u64 0, .bool false, .bool false, .int .u64 0, .pointer none] := Blk.kept bD hE.fr (((unhide hst).inv.kept (((Fr.refl (fun _ => False) wr).alloc _).drew)).nch bD (by decide))
              have cst : wI.cell? ⟨SB, 1, none⟩ = some (.slice va q vc) := (Blk.kept sD hE.fr (((unhide hst).inv.kept (((Fr.refl (fun _ => False) wr).alloc _).drew)).nch sD (by decide))).cell 1
              have hSI : SB < wI.heap.size := lt_of_cell cst
              have HXS : Hid (wI.ownsRow w.heap.size 53 1 (.slice va q vc) q (ys.map fun (y : Nat) => .int .u32 (y : Int))) := ((unhide hst).inv.kept (((Fr.refl (fun _ => False) wr).alloc _).drew)).keptO hE.fr (owns_kept (unhide hst).so (((Fr.refl (fun _ => False) wr).alloc (.cells #[.string (nm d), .string (im j), .string (nm d), .int .u64 0, .bool false, .bool false, .int .u64 0, .pointer none] 139)).drew) (fun _ _ => id)) (by decide)
              have hWI : w.heap.size ≤ wI.heap.size := by have := hE.fr.size; have := (unhide hst).ext.fr.size; simp only [World.size_drew, World.size_alloc] at *; omega
              clear hI hE hno
              go_wp2_with fail
              refine hK'.out _ _ ⟨p3, bI⟩ (fun hHeld => ?_)
              clear hK' K'
              (try simp only [Act.put, List.setIfInBounds_toArray, List.set_cons_zero, List.set_cons_succ])
              refine wpAnyH_ready (rs := [1, 14]) (by kernel_rfl) (by simp) ?_
              refine AllReadyH.cons (rgS rg0) (fun K' hK' => ?_) (AllReadyH.cons (rgS (rgS (rgS (rgS (rgS (rgS (rgS (rgS (rgS (rgS (rgS (rgS (rgS (rgS rg0)))))))))))))) (fun K' hK' => ?_) AllReadyH.nil)
              · go_simp
                refine hK'.out _ _ ⟨p3, bI⟩ (fun hHeld => ?_)
                clear hK' K'
                (try simp only [Act.put, List.setIfInBounds_toArray, List.set_cons_zero, List.set_cons_succ])
                refine wpAnyH_ready (rs := [14]) (by kernel_rfl) (by simp) ?_
                refine AllReadyH.cons (rgS (rgS (rgS (rgS (rgS (rgS (rgS (rgS (rgS (rgS (rgS (rgS (rgS (rgS rg0)))))))))))))) (fun K' hK' => ?_) AllReadyH.nil
                go_simp
                refine hK'.out _ _ ⟨sp_alloc p3, bI.alloc _⟩ (fun hHeld => ?_)
                clear hK' K'
                (try simp only [Act.put, List.setIfInBounds_toArray, List.set_cons_zero, List.set_cons_succ])
                refine wpAnyH_ready (rs := [15]) (by kernel_rfl) (by simp) ?_
                refine AllReadyH.cons (rgS (rgS (rgS (rgS (rgS (rgS (rgS (rgS (rgS (rgS (rgS (rgS (rgS (rgS (rgS rg0))))))))))))))) (fun K' hK' => ?_) AllReadyH.nil
                refine step_append_lies _ (by rfl) _ _ _ (by rfl) w.heap.size 53 i53 (.int .u32 0) 1 4 Ybaf.underlying51 hi53 hz53 hs53 hb53 rfl (by omega) (.slice va q vc) q (ys.map fun (y : Nat) => .int .u32 (y : Int)) (by rfl) (owns_kept (unhide HXS) ((Fr.refl (fun _ => False) wI).alloc _) (fun _ _ => id)) ⟨wI.heap.size, 0, none⟩ 1 1 [.int .u32 (no : Int)] (by rfl) (by rfl) (World.news_of_block (Blk.new wI 53 [.int .u32 (no : Int)])) (by simp [Value.oneCell']) (by omega) (by unfold maxLen; omega) (by omega) (by simp; omega) (wI.heap.size + 1) (by simp) ?_
                intro g cap wJ hown hgrow hat hlt
                obtain ⟨k1, k2, HN, kB, kS1, kS2⟩ := (unhide hst).next (unhide HI) (((Fr.refl (fun _ => False) wr).alloc (.cells #[.string (nm d), .string (im j), .string (nm d), .int .u64 0, .bool false, .bool false, .int .u64 0, .pointer none] 139)).drew) (unhide HI2) (unhide HE2) (unhide HNO) (unhide HD) ((Fr.refl (fun _ => False) wI).alloc _) hgrow hown
                have bJ := kB (bI.alloc _)
                clear hown hgrow hat
                refine hK'.out _ _ ⟨kS1, bJ.1⟩ (fun hHeld => ?_)
                clear hK' K'
                (try simp only [Act.put, List.setIfInBounds_toArray, List.set_cons_zero, List.set_cons_succ])
                refine wpAnyH_take (i := 16) (v := ?_) (rgS (rgS (rgS (rgS (rgS (rgS (rgS (rgS (rgS (rgS (rgS (rgS (rgS (rgS (rgS (rgS rg0)))))))))))))))) (by kernel_rfl) (by kernel_rfl) (by kernel_rfl) (fun _ _ _ h => h) (Or.inl ⟨by rfl, ?_⟩) hHeld ?_
                rotate_left
                · intro w hSw
                  go_simp
                  all_goals with_reducible rfl
                (try simp only [Act.put, List.setIfInBounds_toArray, List.set_cons_zero, List.set_cons_succ])
                refine wpAnyH_ready (rs := [17]) (by kernel_rfl) (by simp) ?_
                refine AllReadyH.cons (rgS (rgS (rgS (rgS (rgS (rgS (rgS (rgS (rgS (rgS (rgS (rgS (rgS (rgS (rgS (rgS (rgS rg0))))))))))))))))) (fun K' hK' => ?_) AllReadyH.nil
                go_simp
                refine hK'.out _ _ ⟨kS2, bJ.2⟩ (fun hHeld => ?_)
                clear hK' K'
                (try simp only [Act.put, List.setIfInBounds_toArray, List.set_cons_zero, List.set_cons_succ])
                refine wpAnyH_done (by kernel_rfl) ?_ _
                go_wp2_with fail
                go_roundw
                case rel => exact ⟨q + 1, _, _, _, _, _, by go_num, by omega, HN⟩
                case measure => (try simp [intOf]) <;> (try omega)
              · go_simp
                refine hK'.out _ _ ⟨sp_alloc p3, bI.alloc _⟩ (fun hHeld => ?_)
                clear hK' K'
                (try simp only [Act.put, List.setIfInBounds_toArray, List.set_cons_zero, List.set_cons_succ])
                refine wpAnyH_ready (rs := [1]) (by kernel_rfl) (by simp) ?_
                refine AllReadyH.cons (rgS rg0) (fun K' hK' => ?_) AllReadyH.nil
                go_simp
                refine hK'.out _ _ ⟨sp_alloc p3, bI.alloc _⟩ (fun hHeld => ?_)
                clear hK' K'
                (try simp only [Act.put, List.setIfInBounds_toArray, List.set_cons_zero, List.set_cons_succ])
                refine wpAnyH_ready (rs := [15]) (by kernel_rfl) (by simp) ?_
                refine AllReadyH.cons (rgS (rgS (rgS (rgS (rgS (rgS (rgS (rgS (rgS (rgS (rgS (rgS (rgS (rgS (rgS rg0))))))))))))))) (fun K' hK' => ?_) AllReadyH.nil
                refine step_append_lies _ (by rfl) _ _ _ (by rfl) w.heap.size 53 i53 (.int .u32 0) 1 4 Ybaf.underlying51 hi53 hz53 hs53 hb53 rfl (by omega) (.slice va q vc) q (ys.map fun (y : Nat) => .int .u32 (y : Int)) (by rfl) (owns_kept (unhide HXS) ((Fr.refl (fun _ => False) wI).alloc _) (fun _ _ => id)) ⟨wI.heap.size, 0, none⟩ 1 1 [.int .u32 (no : Int)] (by rfl) (by rfl) (World.news_of_block (Blk.new wI 53 [.int .u32 (no : Int)])) (by simp [Value.oneCell']) (by omega) (by unfold maxLen; omega) (by omega) (by simp; omega) (wI.heap.size + 1) (by simp) ?_
                intro g cap wJ hown hgrow hat hlt
                obtain ⟨k1, k2, HN, kB, kS1, kS2⟩ := (unhide hst).next (unhide HI) (((Fr.refl (fun _ => False) wr).alloc (.cells #[.string (nm d), .string (im j), .string (nm d), .int .u64 0, .bool false, .bool false, .int .u64 0, .pointer none] 139)).drew) (unhide HI2) (unhide HE2) (unhide HNO) (unhide HD) ((Fr.refl (fun _ => False) wI).alloc _) hgrow hown
                have bJ := kB (bI.alloc _)
                clear hown hgrow hat
                refine hK'.out _ _ ⟨kS1, bJ.1⟩ (fun hHeld => ?_)
                clear hK' K'
                (try simp only [Act.put, List.setIfInBounds_toArray, List.set_cons_zero, List.set_cons_succ])
                refine wpAnyH_take (i := 16) (v := ?_) (rgS (rgS (rgS (rgS (rgS (rgS (rgS (rgS (rgS (rgS (rgS (rgS (rgS (rgS (rgS (rgS rg0)))))))))))))))) (by kernel_rfl) (by kernel_rfl) (by kernel_rfl) (fun _ _ _ h => h) (Or.inl ⟨by rfl, ?_⟩) hHeld ?_
                rotate_left
                · intro w hSw
                  go_simp
                  all_goals with_reducible rfl
                (try simp only [Act.put, List.setIfInBounds_toArray, List.set_cons_zero, List.set_cons_succ])
                refine wpAnyH_ready (rs := [17]) (by kernel_rfl) (by simp) ?_
                refine AllReadyH.cons (rgS (rgS (rgS (rgS (rgS (rgS (rgS (rgS (rgS (rgS (rgS (rgS (rgS (rgS (rgS (rgS (rgS rg0))))))))))))))))) (fun K' hK' => ?_) AllReadyH.nil
                go_simp
                refine hK'.out _ _ ⟨kS2, bJ.2⟩ (fun hHeld => ?_)
                clear hK' K'
                (try simp only [Act.put, List.setIfInBounds_toArray, List.set_cons_zero, List.set_cons_succ])
                refine wpAnyH_done (by kernel_rfl) ?_ _
                go_wp2_with fail
                go_roundw
                case rel => exact ⟨q + 1, _, _, _, _, _, by go_num, by omega, HN⟩
                case measure => (try simp [intOf]) <;> (try omega)
        · obtain rfl : ks = q := by omega
          have z1 : decide ((ks : Int) < (ks : Int)) = false := by simp
          have b0 : wr.cell? ⟨tb, 0, none⟩ = some (.int .i64 (i : Int)) := (unhide hst).tbk.cell 0
          have b1 : wr.cell? ⟨tb, 1, none⟩ = some (.iface 82 (.agg #[])) := (unhide hst).tbk.cell 1
          have b2 : wr.cell? ⟨tb, 2, none⟩ = some (.slice none 0 0) := (unhide hst).tbk.cell 2
          have b3 : wr.cell? ⟨tb, 3, none⟩ = some (.slice none 0 0) := (unhide hst).tbk.cell 3
          go_wp2_with fail
          go_quiet (fail)
          go_wp2_with fail
          refine (localHit hp ((unhide hst).inv.kept (Fr.drewN (Fr.refl (fun _ => False) wr) nq)) i hi).mono ?_
          rintro e wL ⟨rfl, hfL⟩
          have hwL := (Fr.drewN (Fr.refl (fun _ => False) wr) nq).trans hfL
          have hstL := (unhide hst).st.kept hwL id
          have c0 : wL.cell? ⟨SB, 0, none⟩ = some (.int .u32 0) := hstL.cell 0
          have y0 : wL.frozen? ⟨SB, 0, none⟩ = false := hstL.frozen 0
          have H20 := hide (L3.close hp (unhide hst) (unhide HKL) hwL)
          have HFL := hide hwL
          clear hfL hwL hstL b0 b1 b2 b3
          go_upto_region 36 with fail
          obtain ⟨w20, hw20⟩ : ∃ w20, w20 = wL.setCell ⟨SB, 0, none⟩ (.int .u32 (i : Int)) := ⟨_, rfl⟩
          rw [← hw20] at H20 ⊢
          clear hw20 c0 y0 HFL
          have s12 : w20.cell? ⟨p.SP, 12, none⟩ = some (.map (some p.LS)) := (unhide H20).inv.sp.sp.cell 12
          have u0 : w20.cell? ⟨SB, 0, none⟩ = some (.int .u32 (i : Int)) := (unhide H20).st.cell 0
          have u1 : w20.cell? ⟨SB, 1, none⟩ = some (.slice va ks vc) := (unhide H20).st.cell 1
          have u2 : w20.cell? ⟨SB, 2, none⟩ = some (.slice none 0 0) := (unhide H20).st.cell 2
          obtain ⟨w21, hrun, hm21, hF21, hsz21⟩ := update_run (.agg #[.int .u32 (i : Int), .slice va ks vc, .slice none 0 0]) ((unhide H20).inv.kept (Fr.refl (fun _ => False) w20).drew).ls (show look t.lsl (key i (x + 1)) = none from unhide HV)
          rw [← unhide HEV, ← unhide HK] at hrun
          obtain ⟨r1, r2, hfin⟩ := (unhide H20).done (unhide HX) hj hm21 hF21
          have HFIN := hide hfin
          have v0 : w21.cell? ⟨SB, 0, none⟩ = some (.int .u32 (i : Int)) := r2.cell 0
          have v1 : w21.cell? ⟨SB, 1, none⟩ = some (.slice va ks vc) := r2.cell 1
          have v2 : w21.cell? ⟨SB, 2, none⟩ = some (.slice none 0 0) := r2.cell 2
          have x0 : w21.cell? ⟨w.heap.size, 0, none⟩ = some (.int .u32 0) := r1.cell 0
          have x1 : w21.cell? ⟨w.heap.size, 1, none⟩ = some (.slice none 0 0) := r1.cell 1
          have x2 : w21.cell? ⟨w.heap.size, 2, none⟩ = some (.slice none 0 0) := r1.cell 2
          have y0 : w21.frozen? ⟨w.heap.size, 0, none⟩ = false := r1.frozen 0
          have y1 : w21.frozen? ⟨w.heap.size, 1, none⟩ = false := r1.frozen 1
          have y2 : w21.frozen? ⟨w.heap.size, 2, none⟩ = false := r1.frozen 2
          have B1 := r1.setCell 0 (.int .u32 (i : Int))
          have B2 := B1.setCell 1 (.slice va ks vc)
          have B3 := B2.setCell 2 (.slice none 0 0)
          have t0 := B1.cell 0
          have t1 := B2.cell 1
          have t2 := B3.cell 2
          simp only [List.set_cons_zero, List.set_cons_succ, List.getElem?_cons_zero, List.getElem?_cons_succ] at t0 t1 t2
          clear hm21 hF21 hsz21 r1 r2 hfin B1 B2 B3
          go_region
          all_goals
            go_wp2_with fail
            (try simp only [Exit.inBlock, Exit.then])
            refine bodyPost_ret (by simp [results, Ybaf.results32, go_sem, t0, t1, t2]; try rfl) rfl ?_
            obtain ⟨t', f1, f2, f3, f4, f5, f6⟩ := unhide HFIN
            exact ⟨t', _, rfl, f1, f2, f3, f4, f5, f6⟩
/-- (*space).localStep -/
theorem lstepI {p : Pr} {t : St} {w : World} (hp : PrOk p) (h : Inv p t w) (i x j : Nat) (hx : t.its[x]? = some (i, j)) (hj : j < 8) (hi : i < t.nl) :
    Calls Ybaf.prog 32 #[.pointer (some ⟨p.SP, 0, none⟩), .int .u32 (i : Int), .int .u32 ((x + 1 : Nat) : Int)] w fun e w' => ∃ (t' : St) (s : Value), e = .returned (.agg #[.int .u32 (i : Int), s, .slice none 0 0]) ∧ Inv p t' w' ∧ Ext p t t' w w' ∧ t'.cps = t.cps ∧ t'.stl = t.stl ∧ t'.nl = t.nl ∧ SendOk p t'.its w' j s := by
  cases hv : look t.lsl (key i (x + 1)) with
  | some v => exact (lstepHit hp h i x j v hx hv).mono fun e w' ⟨s, h1, h2, h3⟩ => ⟨t, s, h1, h.kept h3, Ext.of_fr t h3, rfl, rfl, rfl, h2⟩
  | none => exact lstepMiss hp h i x j hx hj hi hv
end
end Go.Proofs.YbulkbrdiFmt
