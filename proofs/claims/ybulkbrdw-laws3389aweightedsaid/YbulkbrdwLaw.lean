/-
  b3389a: LawS3389AWeighted walked.
-/
import Derived.Test.YbulkbrdwMean2
namespace Go.Proofs.Ybulkbrdw
open Go.RowKit
set_option linter.unusedVariables false
set_option linter.unusedSimpArgs false
attribute [local go_sem] run_store_float

/-- a slice of integers that came in, as the walk reads it -/
def Rd (k : IntKind) (w : World) (a : Option Addr) (len : Nat) (f : Nat → Int) : Prop :=
  len = 0 ∨ ∃ b off, a = some ⟨b, off, none⟩ ∧ b < w.heap.size ∧ ∀ i, i < len → w.cell? ⟨b, off + i, none⟩ = some (.int k (f i))

theorem fill_set (f : Nat → Value) (z : Value) {k m : Nat} (hk : k < m) :
    ((List.range k).map f ++ List.replicate (m - k) z).set k (f k) = (List.range (k + 1)).map f ++ List.replicate (m - (k + 1)) z := by
  rw [List.set_append_right _ _ (by simp), List.length_map, List.length_range, Nat.sub_self, show m - k = (m - (k + 1)) + 1 by omega, List.replicate_succ, List.set_cons_zero, List.range_succ]
  simp
theorem fill_get (f : Nat → Value) (z : Value) {k m : Nat} (hk : k < m) : ((List.range k).map f ++ List.replicate (m - k) z)[k]? = some z := by
  rw [List.getElem?_append_right (by simp), List.length_map, List.length_range, Nat.sub_self, List.getElem?_replicate, if_pos (by omega)]

def fv (vs : Nat → Int) (i : Nat) : Value := .float .f64 (fi (vs i))
def ov (os : Nat → Nat) (i : Nat) : Value := .int .i64 (os i)

structure St1 (w : World) (m : Nat) (vs : Nat → Int) (k : Nat) (wr : World) : Prop where
  vals : Blk wr w.heap.size 27 ((List.range k).map (fv vs) ++ List.replicate (m - k) (.float .f64 0))
  fr : Fr (fun _ => False) w wr
  size : wr.heap.size = w.heap.size + 1
theorem size_setCell (w : World) (p : Addr) (v : Value) : (w.setCell p v).heap.size = w.heap.size := by simp [World.setCell]
theorem St1.next {w : World} {m : Nat} {vs : Nat → Int} {k : Nat} {wr : World} (h : St1 w m vs k wr) (hk : k < m) : St1 w m vs (k + 1) (wr.setCell ⟨w.heap.size, k, none⟩ (fv vs k)) :=
  ⟨by have := h.vals.setCell k (fv vs k); rw [fill_set (fv vs) _ hk] at this; exact this, h.fr.setCell (.inr (Nat.le_refl _)) _, by rw [size_setCell]; exact h.size⟩

structure St2 (w : World) (m n : Nat) (vs : Nat → Int) (os : Nat → Nat) (ws : Nat → Int) (k : Nat) (wr : World) : Prop where
  vals : Blk wr w.heap.size 27 ((List.range m).map (fv vs))
  outs : Blk wr (w.heap.size + 1) 3 ((List.range k).map (ov os) ++ List.replicate (n - k) (.int .i64 0))
  wts : Blk wr (w.heap.size + 2) 27 ((List.range k).map (fv ws) ++ List.replicate (n - k) (.float .f64 0))
  fr : Fr (fun _ => False) w wr
  size : wr.heap.size = w.heap.size + 3
theorem St2.next {w : World} {m n : Nat} {vs : Nat → Int} {os : Nat → Nat} {ws : Nat → Int} {k : Nat} {wr : World} (h : St2 w m n vs os ws k wr) (hk : k < n) (PO : Nat) (hPO : PO = w.heap.size + 1) :
    St2 w m n vs os ws (k + 1) ((wr.setCell ⟨PO, k, none⟩ (ov os k)).setCell ⟨PO + 1, k, none⟩ (fv ws k)) := by
  subst hPO
  refine ⟨(h.vals.setCell_other (by simp) _).setCell_other (by simp; omega) _, ?_, ?_, (h.fr.setCell (.inr (by show _ ≤ w.heap.size + 1; omega)) _).setCell (.inr (by show _ ≤ w.heap.size + 1 + 1; omega)) _, by rw [size_setCell, size_setCell]; exact h.size⟩
  · refine Blk.setCell_other ?_ (by simp) _
    have := h.outs.setCell k (ov os k); rw [fill_set (ov os) _ hk] at this; exact this
  · have := (h.wts.setCell_other (p := ⟨w.heap.size + 1, k, none⟩) (by simp) (ov os k)).setCell k (fv ws k); rw [fill_set (fv ws) _ hk] at this; exact this
theorem st2_start {w : World} {m n : Nat} {vs : Nat → Int} {os : Nat → Nat} {ws : Nat → Int} {wr : World} (h : St1 w m vs m wr) :
    St2 w m n vs os ws 0 ((wr.alloc (.cells (List.replicate n (.int .i64 0)).toArray 3)).alloc (.cells (List.replicate n (.float .f64 0)).toArray 27)) := by
  have hs := h.size
  refine ⟨?_, ?_, ?_, (h.fr.alloc _).alloc _, by simp [hs]⟩
  · have := (h.vals.alloc (.cells (List.replicate n (.int .i64 0)).toArray 3)).alloc (.cells (List.replicate n (.float .f64 0)).toArray 27)
    simpa using this
  · have := (Blk.new wr 3 (List.replicate n (.int .i64 0))).alloc (.cells (List.replicate n (.float .f64 0)).toArray 27)
    rw [hs] at this; simpa using this
  · have := Blk.new (wr.alloc (.cells (List.replicate n (.int .i64 0)).toArray 3)) 27 (List.replicate n (.float .f64 0))
    rw [World.size_alloc, hs] at this; simpa using this
theorem St2.inOk {w : World} {m n : Nat} {vs : Nat → Int} {os : Nat → Nat} {ws : Nat → Int} {wr : World} (h : St2 w m n vs os ws n wr) (PO : Nat) (hPO : PO = w.heap.size + 1) (tot : Nat)
    (ix : ∀ i, i < n → os i < m) (vb : ∀ i, i < m → (vs i).natAbs ≤ 128) (wb : ∀ i, i < n → 0 ≤ ws i ∧ ws i ≤ 255) :
    InOk (wr.alloc (.cells #[.slice (some ⟨PO, 0, none⟩) n n, .slice (some ⟨PO + 1, 0, none⟩) n n, .float .f64 tot] 32)) (PO + 2) PO (PO + 1) w.heap.size n m tot vs os ws := by
  subst hPO
  refine ⟨?_, ?_, ?_, h.vals.alloc _, ix, vb, wb⟩
  · have := Blk.new wr 32 [.slice (some ⟨w.heap.size + 1, 0, none⟩) n n, .slice (some ⟨w.heap.size + 1 + 1, 0, none⟩) n n, .float .f64 tot]
    rw [h.size] at this; exact this
  · have := h.outs.alloc (.cells #[.slice (some ⟨w.heap.size + 1, 0, none⟩) n n, .slice (some ⟨w.heap.size + 1 + 1, 0, none⟩) n n, .float .f64 tot] 32)
    rw [Nat.sub_self, List.replicate_zero, List.append_nil] at this; exact this
  · have := h.wts.alloc (.cells #[.slice (some ⟨w.heap.size + 1, 0, none⟩) n n, .slice (some ⟨w.heap.size + 1 + 1, 0, none⟩) n n, .float .f64 tot] 32)
    rw [Nat.sub_self, List.replicate_zero, List.append_nil] at this; exact this

theorem rd_cell {k : IntKind} {w wr : World} {b off i : Nat} {v : Value} (hb : b < w.heap.size) (hf : Fr (fun _ => False) w wr) (h : w.cell? ⟨b, off + i, none⟩ = some v) : wr.cell? ⟨b, off + i, none⟩ = some v :=
  (World.cell?_of_block (hf.block b hb id)).trans h

theorem mean_fin {w : World} {I O W V n m tot r : Nat} {vs : Nat → Int} {os : Nat → Nat} {ws : Nat → Int} (h : InOk w I O W V n m tot vs os ws) (hn : n ≤ 1024) (hr : MeanOut vs os ws n r) :
    (0 < sS ws n → floatBits .quo .f64 (fi (sW vs os ws n)) (fi (sS ws n)) = some r ∧ Ieee.double.order r r = some .eq) ∧ (¬ 0 < sS ws n → 0 < n → floatBits .quo .f64 (fi (sP vs os n)) (fi n) = some r ∧ Ieee.double.order r r = some .eq) ∧ (n = 0 → sS ws n = 0 ∧ Ieee.double.order r r = none) := by
  have b1 := h.sW_le (Nat.le_refl n)
  have b2 := h.sS_le (Nat.le_refl n)
  have b3 := h.sP_le (Nat.le_refl n)
  refine ⟨fun hs => ?_, fun hs h0 => ?_, fun h0 => ⟨by subst h0; rfl, hr.2.2 h0⟩⟩
  · obtain ⟨q, hq, ho⟩ := div_fi (x := sW vs os ws n) (y := sS ws n) (by omega) (by omega) (by omega)
    have e := hr.1 hs
    rw [hq] at e; cases e
    exact ⟨hq, ho⟩
  · obtain ⟨q, hq, ho⟩ := div_fi (x := sP vs os n) (y := (n : Int)) (by omega) (by omega) (by omega)
    have e := hr.2.1 hs h0
    rw [hq] at e; cases e
    exact ⟨hq, ho⟩

set_option maxHeartbeats 2000000 in
set_option maxRecDepth 100000 in
theorem law_pos (a0 a1 a2 : Option Addr) (m n l cap0 cap1 cap2 : Nat) (vs : Nat → Int) (raw by_ : Nat → Nat) (w : World) (hm : m ≤ 1024) (hn : n ≤ 1024) (hl : l ≤ 1024) (hm0 : 0 < m)
    (h0 : Rd .i8 w a0 m vs) (h1 : Rd .u16 w a1 n (fun i => (raw i : Int))) (h2 : Rd .u8 w a2 l (fun i => (by_ i : Int)))
    (vb : ∀ i, -128 ≤ vs i ∧ vs i ≤ 127) (rb : ∀ i, raw i ≤ 65535) (bb : ∀ i, by_ i ≤ 255) :
    Calls Yba.prog 3 #[.slice a0 m cap0, .slice a1 n cap1, .slice a2 l cap2] w fun e w' => e = .returned (.bool true) ∧ Below w.heap.size w w' := by
  obtain ⟨b0, f0, rfl, hb0, hc0⟩ : ∃ b off, a0 = some ⟨b, off, none⟩ ∧ b < w.heap.size ∧ ∀ i, i < m → w.cell? ⟨b, off + i, none⟩ = some (.int .i8 (vs i)) := by
    rcases h0 with h0 | h0
    · omega
    · exact h0
  obtain ⟨os, hos⟩ : ∃ os : Nat → Nat, os = fun i => raw i % m := ⟨_, rfl⟩
  obtain ⟨ws, hws⟩ : ∃ ws : Nat → Int, ws = fun i => if 0 < l then (by_ (i % l) : Int) else 0 := ⟨_, rfl⟩
  have hix : ∀ i, i < n → os i < m := fun i _ => by rw [hos]; exact Nat.mod_lt _ hm0
  have hwb : ∀ i, i < n → 0 ≤ ws i ∧ ws i ≤ 255 := fun i _ => by
    rw [hws]; show (0 : Int) ≤ (if 0 < l then (by_ (i % l) : Int) else 0) ∧ (if 0 < l then (by_ (i % l) : Int) else 0) ≤ 255
    have := bb (i % l)
    split <;> omega
  have hvb : ∀ i, i < m → (vs i).natAbs ≤ 128 := fun i _ => by have := vb i; omega
  have hmk1 := fun w => run_make_row' (P := Yba.prog) 25 27 (.float .f64 0) 8 Yba.underlying25 (by kernel_rfl) rfl .i64 .i64 m (by omega) (by omega) w
  have hmk2 := fun w => run_make_row' (P := Yba.prog) 28 3 (.int .i64 0) 8 Yba.underlying28 (by kernel_rfl) rfl .i64 .i64 n (by omega) (by omega) w
  have hmk3 := fun w => run_make_row' (P := Yba.prog) 25 27 (.float .f64 0) 8 Yba.underlying25 (by kernel_rfl) rfl .i64 .i64 n (by omega) (by omega) w
  rw [made_one] at hmk1 hmk2 hmk3
  have d0 : decide ((1024 : Int) < (m : Int)) = false := by simp; omega
  have d1 : decide ((1024 : Int) < (n : Int)) = false := by simp; omega
  have d2 : decide ((1024 : Int) < (l : Int)) = false := by simp; omega
  have d3 : ((m : Int) == 0) = false := by simp; omega
  have HC0 := hide hc0
  have H1 := hide h1
  have H2 := hide h2
  have HO := hide hos
  have HW := hide hws
  have HIX := hide hix
  have HWB := hide hwb
  have HVB := hide hvb
  have HV := hide vb
  have HR := hide rb
  have HBB := hide bb
  clear hc0 h0 h1 h2 hos hws hix hwb hvb vb rb bb
  go_enter Yba.func3, Yba.ntmps3
  go_wp2
  go_loopw [42] (fun s wr => ∃ k : Nat, s = .int .i64 k ∧ k ≤ m ∧ Hid (St1 w m vs k wr)) (fun s _ => m - (intOf s).toNat)
  case atStart =>
    exact ⟨0, rfl, by omega, Blk.new w 27 (List.replicate m (.float .f64 0)), (Fr.refl _ w).alloc _, by simp⟩
  case round =>
    obtain ⟨k, rfl, hk, hst⟩ := hrel
    by_cases hkm : k < m
    · have c0 : wr.cell? ⟨w.heap.size, k, none⟩ = some (.float .f64 0) := by rw [(unhide hst).vals.cell]; exact fill_get _ _ hkm
      have c1 : wr.frozen? ⟨w.heap.size, k, none⟩ = false := (unhide hst).vals.frozen _
      have c2 : wr.cell? ⟨b0, f0 + k, none⟩ = some (.int .i8 (vs k)) := rd_cell (k := .i8) hb0 (unhide hst).fr (unhide HC0 k hkm)
      have Hn := hide ((unhide hst).next hkm)
      have z1 : (k : Int) < (m : Int) := by omega
      clear hmk1 hmk2 hmk3
      go_wp2
      go_roundw
      case rel => exact ⟨k + 1, by go_num, by omega, Hn⟩
      case measure => simp [intOf]; omega
    · obtain rfl : m = k := by omega
      obtain ⟨PO, hPO⟩ : ∃ PO, wr.heap.size = PO := ⟨_, rfl⟩
      have hPe : Hid (PO = w.heap.size + 1) := by have := (unhide hst).size; rw [hPO] at this; exact this
      clear hmk1
      go_wp2
      clear hmk2 hmk3 hkm hk
      have Hst := hide (st2_start (n := n) (os := os) (ws := ws) (unhide hst))
      have HPO := hide hPO
      clear hst hPO
      go_loopw [16, 13, 14, 15] (fun s16 s13 s14 s15 wr2 => ∃ k : Nat, s16 = .int .i64 k ∧ s13 = .int .i64 (sW vs os ws k) ∧ s14 = .int .i64 (sS ws k) ∧ s15 = .int .i64 (sP vs os k) ∧ k ≤ n ∧ Hid (St2 w m n vs os ws k wr2)) (fun s16 _ _ _ _ => n - (intOf s16).toNat)
      case atStart =>
        exact ⟨0, rfl, rfl, rfl, rfl, by omega, Hst⟩
      case round =>
        clear Hst
        obtain ⟨k, rfl, rfl, rfl, rfl, hk, hst⟩ := hrel
        by_cases hkn : k < n
        · obtain ⟨b1, f1, rfl, hb1, hc1⟩ : ∃ b off, a1 = some ⟨b, off, none⟩ ∧ b < w.heap.size ∧ ∀ i, i < n → w.cell? ⟨b, off + i, none⟩ = some (.int .u16 (raw i)) := by
            rcases unhide H1 with h1 | h1
            · omega
            · exact h1
          have hfr := (unhide hst).fr
          have hPe' := unhide hPe
          have c0 : wr.cell? ⟨b1, f1 + k, none⟩ = some (.int .u16 (raw k)) := rd_cell (k := .u16) hb1 hfr (hc1 k hkn)
          have hok : os k < m := unhide HIX k hkn
          have c1 : wr.cell? ⟨b0, f0 + os k, none⟩ = some (.int .i8 (vs (os k))) := rd_cell (k := .i8) hb0 hfr (unhide HC0 _ hok)
          have c2 : wr.cell? ⟨PO, k, none⟩ = some (.int .i64 0) := by rw [hPe', (unhide hst).outs.cell]; exact fill_get _ _ hkn
          have c3 : wr.frozen? ⟨PO, k, none⟩ = false := by rw [hPe']; exact (unhide hst).outs.frozen _
          have c4 : wr.cell? ⟨PO + 1, k, none⟩ = some (.float .f64 0) := by rw [hPe', (unhide hst).wts.cell]; exact fill_get _ _ hkn
          have c5 : wr.frozen? ⟨PO + 1, k, none⟩ = false := by rw [hPe']; exact (unhide hst).wts.frozen _
          have hne1 : PO ≠ b0 := by omega
          have hne2 : PO + 1 ≠ b0 := by omega
          have hin := (unhide hst)
          have b1' : (sW vs os ws k).natAbs ≤ 32640 * k := sumTo_le fun i hi => prod_le (x := 128) (y := 255) (unhide HVB _ (unhide HIX i (by omega))) (by have := unhide HWB i (by omega); omega)
          have b2' : (sS ws k).natAbs ≤ 255 * k := sumTo_le fun i hi => by have := unhide HWB i (by omega); omega
          have b3' : (sP vs os k).natAbs ≤ 128 * k := sumTo_le fun i hi => unhide HVB _ (unhide HIX i (by omega))
          have hv := unhide HV (os k)
          have hw1 := unhide HWB k hkn
          have hp := prod_le (a := vs (os k)) (b := ws k) (x := 128) (y := 255) (by omega) (by omega)
          have Hn := hide ((unhide hst).next hkn PO hPe')
          have hr := unhide HR k
          have hmod : ((raw k : Nat) : Int) % (m : Int) = ((os k : Nat) : Int) := by rw [unhide HO]; rfl
          have w1 : IntKind.i64.wrap (vs (os k) * ws k) = vs (os k) * ws k := by rw [IntKind.wrap_i64]; omega
          have w2 : IntKind.i64.wrap (sW vs os ws k + vs (os k) * ws k) = sW vs os ws k + vs (os k) * ws k := by rw [IntKind.wrap_i64]; omega
          have z1 : (k : Int) < (n : Int) := by omega
          have z2 : ((os k : Nat) : Int) < (m : Int) := by omega
          have eS : Hid (sS ws (k + 1) = sS ws k + ws k) := rfl
          have eP : Hid (sP vs os (k + 1) = sP vs os k + vs (os k)) := rfl
          have eW : Hid (sW vs os ws (k + 1) = sW vs os ws k + vs (os k) * ws k) := rfl
          clear hfr hPe' hc1 hin hp
          by_cases hl0 : 0 < l
          · obtain ⟨b2, f2, rfl, hb2, hc2⟩ : ∃ b off, a2 = some ⟨b, off, none⟩ ∧ b < w.heap.size ∧ ∀ i, i < l → w.cell? ⟨b, off + i, none⟩ = some (.int .u8 (by_ i)) := by
              rcases unhide H2 with h2 | h2
              · omega
              · exact h2
            have c6 : wr.cell? ⟨b2, f2 + k % l, none⟩ = some (.int .u8 (by_ (k % l))) := rd_cell (k := .u8) hb2 (unhide hst).fr (hc2 _ (Nat.mod_lt _ hl0))
            have hwk : Hid (ws k = (by_ (k % l) : Nat)) := by rw [unhide HW]; exact if_pos hl0
            obtain ⟨y, hy⟩ : ∃ y, y = by_ (k % l) := ⟨_, rfl⟩
            obtain ⟨q, hq⟩ : ∃ q, q = k % l := ⟨_, rfl⟩
            have hql : q < l := by rw [hq]; exact Nat.mod_lt _ hl0
            have hy2 : y ≤ 255 := by rw [hy]; exact unhide HBB _
            have hkl : ((k : Nat) : Int) % (l : Int) = (q : Int) := by rw [hq]; rfl
            rw [← hy] at c6 hwk
            rw [← hq] at c6
            rw [unhide hwk] at w1 w2
            rw [show fv ws k = .float .f64 (floatOfInt .f64 (y : Int)) from by unfold fv; rw [unhide hwk]; rfl] at Hn
            have z3 : (q : Int) < (l : Int) := by omega
            have d4 : decide ((0 : Int) < (l : Int)) = true := by simp; omega
            have d5 : ((l : Int) == 0) = false := by simp; omega
            have HY := hide hy
            have HQ := hide hq
            clear hy hq hc2
            go_wp2
            go_roundw
            case rel => exact ⟨k + 1, by go_num, by rw [unhide eW, unhide hwk], by rw [unhide eS, unhide hwk], by rw [unhide eP], by omega, Hn⟩
            case measure => simp [intOf]; omega
          · have hwk : Hid (ws k = 0) := by rw [unhide HW]; exact if_neg hl0
            rw [show fv ws k = .float .f64 (floatOfInt .f64 0) from by unfold fv; rw [unhide hwk]; rfl] at Hn
            have d4 : decide ((0 : Int) < (l : Int)) = false := by simp; omega
            clear w1 w2
            go_wp2
            go_roundw
            case rel => exact ⟨k + 1, by go_num, by rw [unhide eW, unhide hwk, Int.mul_zero, Int.add_zero], by rw [unhide eS, unhide hwk, Int.add_zero], by rw [unhide eP], by omega, Hn⟩
            case measure => simp [intOf]; omega
        · obtain rfl : n = k := by omega
          have hiok := (unhide hst).inOk PO (unhide hPe) (floatOfInt .f64 (sS ws n)) (unhide HIX) (unhide HVB) (unhide HWB)
          have Hm := hide (mean_any _ _ _ _ _ _ _ _ _ _ _ hiok hn hm)
          have hsz : wr.heap.size = PO + 2 := by rw [(unhide hst).size, unhide hPe]
          have HI := hide hiok
          clear hiok hkn hk
          go_wp2_with fail
          refine (unhide Hm).mono ?_
          rintro e w4 ⟨r, rfl, hr, hF4⟩
          have hfr4 : Fr (fun _ => False) w w4 := ((unhide hst).fr.alloc _).trans hF4
          have hbel := hide (hfr4.below (Nat.le_refl _) (fun _ h => h.elim))
          have HV4 := hide ((unhide HI).kept hF4).vals
          have HF4 := hide hfr4
          have HEnd := hide (mean_fin (unhide HI) hn hr)
          clear hr hF4 hfr4 HI Hm hst hsz
          go_wp2_with fail
          go_loopw [125] (fun s wr3 => ∃ k : Nat, s = .int .i64 k ∧ k ≤ m ∧ Hid (w4 = wr3)) (fun s _ => m - (intOf s).toNat)
          case atStart => exact ⟨0, rfl, by omega, rfl⟩
          case round =>
            obtain ⟨k, rfl, hk, hweq⟩ := hrel
            obtain rfl := unhide hweq
            by_cases hkm : k < m
            · have c0 : w4.cell? ⟨w.heap.size, k, none⟩ = some (.float .f64 (floatOfInt .f64 (vs k))) := by rw [(unhide HV4).cell]; simp [hkm, fi]
              have c1 : w4.cell? ⟨b0, f0 + k, none⟩ = some (.int .i8 (vs k)) := rd_cell (k := .i8) hb0 (unhide HF4) (unhide HC0 k hkm)
              have ho : FloatKind.f64.format.order (floatOfInt .f64 (vs k)) (floatOfInt .f64 (vs k)) = some .eq := order_fi (vs k)
              have z1 : (k : Int) < (m : Int) := by omega
              go_wp2
              go_roundw
              case rel => exact ⟨k + 1, by go_num, by omega, hide trivial⟩
              case measure => simp [intOf]; omega
            · obtain rfl : m = k := by omega
              clear hkm hk hweq
              by_cases hs : 0 < sS ws n
              · obtain ⟨hq, ho⟩ := (unhide HEnd).1 hs
                have r1 : ∀ w, (binOp .quo 27 (.float .f64 (floatOfInt .f64 (sW vs os ws n))) (.float .f64 (floatOfInt .f64 (sS ws n)))).run Yba.prog w = .ok (.float .f64 r) w := fun w => run_float_arith w .quo 27 .f64 _ _ _ hq
                have ho' : FloatKind.f64.format.order r r = some .eq := ho
                have ds : decide (0 < sS ws n) = true := by simpa using hs
                clear hq ho
                go_wp2
                go_ret
                exact ⟨rfl, unhide hbel⟩
              · have ds : decide (0 < sS ws n) = false := by simpa using hs
                by_cases hn0 : n = 0
                · have ho' : FloatKind.f64.format.order r r = none := ((unhide HEnd).2.2 hn0).2
                  have dn : ((n : Int) == 0) = true := by simp [hn0]
                  clear hn0
                  go_wp2
                  go_ret
                  exact ⟨rfl, unhide hbel⟩
                · obtain ⟨hq, ho⟩ := (unhide HEnd).2.1 (by omega) (by omega)
                  have r1 : ∀ w, (binOp .quo 27 (.float .f64 (floatOfInt .f64 (sP vs os n))) (.float .f64 (floatOfInt .f64 (n : Int)))).run Yba.prog w = .ok (.float .f64 r) w := fun w => run_float_arith w .quo 27 .f64 _ _ _ hq
                  have ho' : FloatKind.f64.format.order r r = some .eq := ho
                  have dn : ((n : Int) == 0) = false := by simp; omega
                  clear hq ho
                  go_wp2
                  go_ret
                  exact ⟨rfl, unhide hbel⟩

set_option maxHeartbeats 2000000 in
set_option maxRecDepth 100000 in
theorem law_zero (a0 a1 a2 : Option Addr) (n l cap0 cap1 cap2 : Nat) (w : World) (hn : n ≤ 1024) (hl : l ≤ 1024) :
    Calls Yba.prog 3 #[.slice a0 0 cap0, .slice a1 n cap1, .slice a2 l cap2] w fun e w' => e = .returned (.bool true) ∧ Below w.heap.size w w' := by
  have hmk1 : ∀ w : World, (Instr.makeSlice 25 (.int .i64 0) (.int .i64 0)).run Yba.prog w = .ok (.slice (some ⟨w.heap.size, 0, none⟩) 0 0) (w.alloc (.cells #[] 27)) := fun w => by have h := run_make_row' (P := Yba.prog) 25 27 (.float .f64 0) 8 Yba.underlying25 (by kernel_rfl) rfl .i64 .i64 0 (by omega) (by omega) w; rw [made_one] at h; exact h
  have hmk2 : ∀ w : World, (Instr.makeSlice 28 (.int .i64 0) (.int .i64 0)).run Yba.prog w = .ok (.slice (some ⟨w.heap.size, 0, none⟩) 0 0) (w.alloc (.cells #[] 3)) := fun w => by have h := run_make_row' (P := Yba.prog) 28 3 (.int .i64 0) 8 Yba.underlying28 (by kernel_rfl) rfl .i64 .i64 0 (by omega) (by omega) w; rw [made_one] at h; exact h
  have d1 : decide ((1024 : Int) < (n : Int)) = false := by simp; omega
  have d2 : decide ((1024 : Int) < (l : Int)) = false := by simp; omega
  have hst : St2 w 0 0 (fun _ => 0) (fun _ => 0) (fun _ => 0) 0 (((w.alloc (.cells #[] 27)).alloc (.cells #[] 3)).alloc (.cells #[] 27)) :=
    st2_start (w := w) (m := 0) (n := 0) (vs := fun _ => 0) (os := fun _ => 0) (ws := fun _ => 0) (wr := w.alloc (.cells #[] 27)) ⟨Blk.new w 27 [], (Fr.refl _ w).alloc _, by simp⟩
  have hiok := hst.inOk (w.heap.size + 1) rfl (floatOfInt .f64 0) (fun i hi => absurd hi (by omega)) (fun i hi => absurd hi (by omega)) (fun i hi => absurd hi (by omega))
  have Hm := hide (mean_any _ _ _ _ _ _ _ _ _ _ _ hiok (by omega) (by omega))
  have HI := hide hiok
  have HS := hide hst
  clear hiok hst
  go_enter Yba.func3, Yba.ntmps3
  go_wp2_with fail
  refine wp_loop_rounds 1 ?_
  rw [rounds_succ]
  go_wp2_with fail
  refine wp_loop_rounds 1 ?_
  rw [rounds_succ]
  go_wp2_with fail
  refine (unhide Hm).mono ?_
  rintro e w4 ⟨r, rfl, hr, hF4⟩
  have hfr4 : Fr (fun _ => False) w w4 := ((unhide HS).fr.alloc _).trans hF4
  have hbel := hide (hfr4.below (Nat.le_refl _) (fun _ h => h.elim))
  have ho' : FloatKind.f64.format.order r r = none := hr.2.2 rfl
  clear hr hF4 hfr4 HI Hm HS
  go_wp2_with fail
  refine wp_loop_rounds 1 ?_
  rw [rounds_succ]
  go_wp2_with fail
  go_ret
  exact ⟨rfl, unhide hbel⟩
end Go.Proofs.Ybulkbrdw
