/-
  b3389a: fidelity.New where some operator gives no rates.
-/
import Derived.Test.YbulkbrdwNewO
namespace Go.Proofs.Ybulkbrdw
open Go.RowKit
set_option linter.unusedVariables false
set_option linter.unusedSimpArgs false
attribute [local go_sem] run_store_float

theorem blk_at {w : World} {g g' e : Nat} {l : List Value} (h : Blk w g e l) (he : g = g') : Blk w g' e l := he ▸ h

set_option maxHeartbeats 2000000 in
set_option maxRecDepth 100000 in
theorem new_bad (T O n b : Nat) (L : Nat → Nat) (jn nr : Nat → Bool) (rb : Nat → Nat) (rt : Nat → Nat → Nat) (w : World) (h : TopOk w T O n L jn nr rb rt) (hn : n ≤ 300) (hL : sL L n ≤ 4096) (hb : b < n) (hnb : nr b = true) (hnr : ∀ k, k < b → nr k = false) :
    Calls Yba.prog 8 #[.pointer (some ⟨T, 0, none⟩)] w fun e w' => ∃ E m, e = .returned (.tuple #[.pointer none, .iface 53 (.pointer (some ⟨E, 0, none⟩))]) ∧ Blk w' E 56 [.string (nameOf (b + 1)), m] ∧ Fr (fun _ => False) w w' := by
  have hTl := h.top.lt
  have hOl := Blk.lt h.ops
  have cT : w.cell? ⟨T, 1, none⟩ = some (.slice (some ⟨O, 0, none⟩) n n) := by rw [h.top.cell]; rfl
  have H := hide h
  have HNR := hide hnr
  have HNB := hide hnb
  obtain ⟨i27, hi27, hz27, hs27, hb27⟩ := info_parts (P := Yba.prog) (e := 27) (z := .float .f64 0) (size := 1) (bytes := 8) (by kernel_rfl)
  clear h hnr hnb
  go_enter Yba.func8, Yba.ntmps8
  go_wp2
  go_loopw [35] (fun s35 wr => ∃ k : Nat, s35 = .int .i64 k ∧ k ≤ b ∧ Hid (∃ s, N1 w L rt k s wr)) (fun s35 _ => n - (intOf s35).toNat)
  case atStart => exact ⟨0, rfl, by omega, _, n1_start w L rt⟩
  case round =>
    obtain ⟨k, rfl, hk, hst⟩ := hrel
    obtain ⟨s, hN⟩ := unhide hst
    by_cases hkn : k < b
    · have hT := (unhide H).kept hN.fr
      have hkn' : k < n := by omega
      have cc := fun j hj => hT.ops.cell hkn' j hj
      have c0 : wr.cell? ⟨O, k * 7, none⟩ = some (.string (nameOf (k + 1))) := cc 0 (by omega)
      have c1 : wr.cell? ⟨O, k * 7 + 1, none⟩ = some (.int .i64 (L k)) := cc 1 (by omega)
      have c2 : wr.cell? ⟨O, k * 7 + 2, none⟩ = some (.slice none 0 0) := cc 2 (by omega)
      have c3 : wr.cell? ⟨O, k * 7 + 3, none⟩ = some (.string ⟨#[]⟩) := cc 3 (by omega)
      have c4 : wr.cell? ⟨O, k * 7 + 4, none⟩ = some (.bool (jn k)) := cc 4 (by omega)
      have c5 : wr.cell? ⟨O, k * 7 + 5, none⟩ = some (.slice (some ⟨rb k, 0, none⟩) (L k) (L k)) := by rw [cc 5 (by omega)]; simp [opc, rvF, unhide HNR k hkn]
      have c6 : wr.cell? ⟨O, k * 7 + 6, none⟩ = some (.map none) := cc 6 (by omega)
      have cM : wr.cell? ⟨w.heap.size, 2, none⟩ = some s := by rw [hN.m.cell]; rfl
      have fM : wr.frozen? ⟨w.heap.size, 2, none⟩ = false := hN.m.frozen _
      have hnil : ∀ w, (binOp .eql 25 (.slice (some ⟨rb k, 0, none⟩) (L k) (L k)) (.slice none 0 0)).run Yba.prog w = .ok (.bool false) w := fun w => Lib.run_eql_slice_nil w 25 27 (some ⟨rb k, 0, none⟩) (L k) (L k) 0 0 Yba.underlying25
      have z1 : (k : Int) < (n : Int) := by omega
      have HN := hide hN
      obtain ⟨W0, hW0⟩ : ∃ W0, W0 = wr.alloc (.cells #[.string (nameOf (k + 1)), .int .i64 (L k), .slice none 0 0, .string ⟨#[]⟩, .bool (jn k), .slice (some ⟨rb k, 0, none⟩) (L k) (L k), .map none] 47) := ⟨_, rfl⟩
      have X : Hid (∀ W : World, W.heap = W0.heap → W.ownsRow (w.heap.size + 1) 27 1 s (sL L k) (fl (flatN L rt k))) := fun W hW => owns_heap (owns_kept hN.own ((Fr.refl (fun _ => False) wr).alloc _) (fun _ _ => id)) (by rw [hW, hW0])
      have hrb : Blk W0 (rb k) 27 (fl ((List.range (L k)).map (rt k))) := by rw [hW0]; exact (hT.rts k hkn' (unhide HNR k hkn)).alloc _
      have Y : Hid (∀ W : World, W.heap = W0.heap → ∀ j u, (fl ((List.range (L k)).map (rt k)))[j]? = some u → W.cell? ((⟨rb k, 0, none⟩ : Addr).add j) = some u) := fun W hW j u hu => by
        rw [Addr.add_lit, Nat.zero_add, (blk_heap hrb hW).cell]; exact hu
      have LL : Hid ((fl ((List.range (L k)).map (rt k))).length = L k * 1) := by show (fl ((List.range (L k)).map (rt k))).length = L k * 1; simp [fl]
      have hMs : Hid (some w.heap.size ≠ s.ownBlock) := fun e => by have := owns_base hN.own _ e.symm; omega
      have hsum : sL L k + L k ≤ 4096 := by have := sL_mono L (a := k + 1) (b := n) (by omega); have e : sL L (k + 1) = sL L k + L k := rfl; omega
      have hMl : w.heap.size < W0.heap.size := by rw [hW0]; exact (hN.m.alloc _).lt
      have cM0 : Hid (W0.cell? ⟨w.heap.size, 2, none⟩ = some s) := by show W0.cell? _ = _; rw [hW0, (hN.m.alloc _).cell]; rfl
      have fM0 : Hid (W0.frozen? ⟨w.heap.size, 2, none⟩ = false) := by show W0.frozen? _ = _; rw [hW0]; exact (hN.m.alloc _).frozen _
      have hbs : w.heap.size + 1 ≤ W0.heap.size := hMl
      have HW0 := hide hW0
      have hMl2 : w.heap.size < wr.heap.size := hN.m.lt
      clear cc hT hN hst hrb hW0
      go_wp2_with fail
      go_region_law (refine step_append_at _ (by rfl) _ _ _ (by rfl) (w.heap.size + 1) 27 i27 (.float .f64 0) 1 8 Yba.underlying25 hi27 hz27 hs27 hb27 rfl (by omega) _ (sL L k) (fl (flatN L rt k)) (by rfl) (X.out _ (by rw [HW0.out]; rfl)) ⟨rb k, 0, none⟩ (L k) (L k) (fl ((List.range (L k)).map (rt k))) (by rfl) LL.out (Y.out _ (by rw [HW0.out]; rfl)) (fl_one _) (by unfold maxLen; omega) (by omega) (by have := hbs; rw [HW0.out] at this; exact this) ?_; intro v' w1 hown1 hgrow; obtain ⟨a', c', rfl⟩ := owns_slice hown1; have k0 : w1.cell? ⟨w.heap.size, 2, none⟩ = some s := (hgrow.cell_far _ (by have := hbs; rw [HW0.out] at this; exact this) hMs.out).trans (by have := cM0.out; rw [HW0.out] at this; exact this); have k1 : w1.frozen? ⟨w.heap.size, 2, none⟩ = false := (hgrow.frozen_far _ (by have := hbs; rw [HW0.out] at this; exact this) hMs.out).trans (by have := fM0.out; rw [HW0.out] at this; exact this))
      all_goals
        have HNx := hide ((unhide HN).next (o := .cells #[.string (nameOf (k + 1)), .int .i64 (L k), .slice none 0 0, .string ⟨#[]⟩, .bool (jn k), .slice (some ⟨rb k, 0, none⟩) (L k) (L k), .map none] 47) (by exact ⟨rfl, rfl, rfl, rfl⟩) hown1 hgrow)
        clear hown1 hgrow X Y LL cM0 fM0 HW0
        go_wp2_with fail
        go_roundw
        case rel => exact ⟨k + 1, by go_num, by omega, _, HNx⟩
        case measure => simp [intOf]; omega
    · obtain rfl : b = k := by omega
      have hT := (unhide H).kept hN.fr
      have cc := fun j hj => hT.ops.cell hb j hj
      have c0 : wr.cell? ⟨O, b * 7, none⟩ = some (.string (nameOf (b + 1))) := cc 0 (by omega)
      have c1 : wr.cell? ⟨O, b * 7 + 1, none⟩ = some (.int .i64 (L b)) := cc 1 (by omega)
      have c2 : wr.cell? ⟨O, b * 7 + 2, none⟩ = some (.slice none 0 0) := cc 2 (by omega)
      have c3 : wr.cell? ⟨O, b * 7 + 3, none⟩ = some (.string ⟨#[]⟩) := cc 3 (by omega)
      have c4 : wr.cell? ⟨O, b * 7 + 4, none⟩ = some (.bool (jn b)) := cc 4 (by omega)
      have c5 : wr.cell? ⟨O, b * 7 + 5, none⟩ = some (.slice none 0 0) := by rw [cc 5 (by omega)]; simp [opc, rvF, unhide HNB]
      have c6 : wr.cell? ⟨O, b * 7 + 6, none⟩ = some (.map none) := cc 6 (by omega)
      have hnil : ∀ w, (binOp .eql 25 (.slice none 0 0) (.slice none 0 0)).run Yba.prog w = .ok (.bool true) w := fun w => Lib.run_eql_slice_nil w 25 27 none 0 0 0 0 Yba.underlying25
      have z1 : (b : Int) < (n : Int) := by omega
      have HF := hide hN.fr
      clear cc hT hN hst
      go_wp2_with fail
      go_region
      all_goals
        go_wp2_with fail
        go_returns
        refine ⟨_, _, rfl, Blk.drew (blk_at (Blk.new (wr.alloc _) 56 [.string (nameOf (b + 1)), _]) (by simp)), ((HF.out.alloc _).alloc _).drew⟩
end Go.Proofs.Ybulkbrdw
