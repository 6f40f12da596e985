/-
  b3388aF: (*space).component of a bag that is no newer than what is known.
-/
import Derived.Test.YbulkbrdiFmtSi
namespace Go.Proofs.YbulkbrdiFmt
open Go.RowKit
set_option linter.unusedVariables false
set_option linter.unusedSimpArgs false
set_option maxRecDepth 100000
set_option maxHeartbeats 4000000
section
variable {p : Pr} {t t0 : St} {w w0 : World}
theorem compI' (hp : PrOk p) (h : Inv p t w) (h0 : Inv p t0 w0) (e1 : t.cps = t0.cps) (e2 : t.lsl = t0.lsl) (e3 : t.stl = t0.stl) (lo bn bc : Nat) (ba : Option Addr) (d : Array Nat) (hb : BagA w ba bn bc d) (hfresh : ∀ k, ba = some ⟨k, 0, none⟩ → w0.heap.size ≤ k)
    (hlo : lo < t.nl) (hbn : bn ≤ 8) (hit : ∀ x ∈ d.toList, ∃ j, t.its[x]? = some (lo, j) ∧ j < 8) (hnd : d.toList.Nodup) (hn : t.cps.length ≤ 1000000) :
    Calls Ybaf.prog 9 #[.pointer (some ⟨p.SP, 0, none⟩), .int .u32 (lo : Int), .slice ba bn bc] w fun e w' => ∃ (no : Nat) (cps' : List Cmp) (v' : Value), e = .returned (.int .u32 (no : Int)) ∧ Inv p { t with cps := cps', vc := v' } w' ∧ Fr (fun k => Ch p t k ∨ ba = some ⟨k, 0, none⟩) w w' ∧ (∀ k, v'.ownBlock = some k → t.vc.ownBlock = some k ∨ w.heap.size ≤ k) ∧ cps'.length ≤ t.cps.length + 1 ∧ ∃ c : Cmp, cps'[no]? = some c ∧ c.lo = lo ∧ c.bag.Perm d.toList := by
  have hnp := hp.np
  have hnl := h.ok.nl
  have hil := h.itl hp
  have hsz := hb.1
  have hx128 : ∀ x ∈ d.toList, x < 128 := fun x hx => by
    obtain ⟨j, hj, _⟩ := hit x hx
    have := (List.getElem?_eq_some_iff.1 hj).1
    omega
  refine (comp_any p.SP p.CM t.cps.length lo bn bc ba d t.vc (tab cmK t.cps) (spcOf p t) (t.cps.flatMap cmC) w h.sp.sp rfl rfl h.cm tab_num h.cr hn hb (by omega) (by omega) (fun i hi => hx128 _ (by rw [getElem!_pos d i (by omega)]; simp))).mono fun e w' ⟨no, d', w1, he, hb1, hperm, hsort, hf1, hR⟩ => ?_
  have h1 : Inv p t w1 := h.keptS h0 e1 e2 e3 hf1 hfresh (fun k hk => ⟨fun e => hb.neO h.ir (by decide) k e hk, fun e => hb.neO h.lr (by decide) k e hk, fun e => hb.neO h.cr (by decide) k e hk⟩)
  have hsz' := hb1.1
  have hpl := perm_list hperm hsz hsz'
  have hlen : d'.toList.length = bn := by simpa using hsz'
  obtain ⟨a, ha⟩ : ∃ a : Cmp, a = ⟨lo, d'.toList, ba, bc, 0, false⟩ := ⟨_, rfl⟩
  have hR' : Res 64 6 10 p.SP p.CM t.cps.length t.vc (tab cmK t.cps) (kS (cmK a)) (spcOf p t) (t.cps.flatMap cmC) (cmC a) no w1 w' := by
    rw [ha]; unfold cmK cmC; simp only; rw [hlen]; exact hR
  obtain ⟨l', v', hc, hm, hbk, hr, hv, hf⟩ := hR'.tab rfl h1.cm h1.sp.sp rfl h1.cr
  have haok : a.lo < t.nl ∧ a.bag.Pairwise (· < ·) ∧ a.bag.length ≤ 8 ∧ (∀ x ∈ a.bag, ∃ j, t.its[x]? = some (a.lo, j) ∧ j < 8) := by
    rw [ha]
    exact ⟨hlo, sorted_list hsort hsz' (hpl.symm.nodup hnd), by simp only; omega, fun x hx => hit x (hpl.mem_iff.1 hx)⟩
  have hba : BagA w1 a.ba a.bag.length a.bc a.bag.toArray := by rw [ha]; simp only; rw [hlen]; exact hb1
  have hi : l' = t.cps ∨ l' = t.cps ++ [a] := by
    rcases hc with ⟨h2, _⟩ | ⟨h2, _⟩
    · exact .inl h2
    · exact .inr h2
  obtain ⟨k1, k2⟩ := h1.addCo haok (by rw [ha]; exact ⟨rfl, rfl⟩) hba hi hm hbk hr hv hf
  refine ⟨no, l', v', he, k1, (hf1.mono (fun _ _ h => .inr h)).trans (k2.fr.mono (fun _ _ h => .inl h)), fun k hk => ?_, ?_, ?_⟩
  · rcases hv k hk with h2 | h2
    · exact .inl h2
    · exact .inr (Nat.le_trans hf1.size h2)
  · rcases hi with h2 | h2 <;> rw [h2] <;> simp
  · rcases hc with ⟨h2, _, b, h3, h4⟩ | ⟨h2, h3, _⟩
    · refine ⟨b, by rw [h2]; exact h3, ?_⟩
      obtain ⟨q1, q2, q3, q4, _⟩ := h.ok.cok b (List.mem_of_getElem? h3)
      have h5 := cmK_inj (c := b) (d := a) ⟨by omega, fun x hx => by
        obtain ⟨j, hj, _⟩ := q4 x hx
        have := (List.getElem?_eq_some_iff.1 hj).1
        omega⟩ ⟨by have := haok.1; omega, fun x hx => by
        obtain ⟨j, hj, _⟩ := haok.2.2.2 x hx
        have := (List.getElem?_eq_some_iff.1 hj).1
        omega⟩ h4
      rw [h5.1, h5.2, ha]
      exact ⟨rfl, hpl⟩
    · exact ⟨a, by rw [h2, h3]; simp, by rw [ha], by rw [ha]; exact hpl⟩
end
end Go.Proofs.YbulkbrdiFmt
