/-
  b3388aF: what is known of a space stands where only new blocks turn.
-/
import Derived.Test.YbulkbrdiFmtSj
namespace Go.Proofs.YbulkbrdiFmt
open Go.RowKit
set_option linter.unusedVariables false
set_option linter.unusedSimpArgs false
set_option maxRecDepth 100000
set_option maxHeartbeats 4000000

theorem BagA.lt {w : World} {ba : Option Addr} {n c : Nat} {d : Array Nat} (h : BagA w ba n c d) : ∀ g, ba = some ⟨g, 0, none⟩ → g < w.heap.size := fun g hg => by
  rcases h.2.2 with ⟨h4, _⟩ | ⟨g', r, h4, h5⟩
  · rw [h4] at hg; cases hg
  · have : g' = g := by rw [h4] at hg; injection hg with hg; injection hg
    subst this
    exact h5.lt
theorem SendOk.keptN {p : Pr} {its its0 : List (Nat × Nat)} {w w' w0 : World} {j j0 : Nat} {v : Value} {S : Nat → Prop} (h : SendOk p its w j v) (h0 : SendOk p its0 w0 j0 v) (hf : Fr S w w') (hS : ∀ k, S k → w0.heap.size ≤ k) : SendOk p its w' j v := by
  obtain ⟨sa, sc, ys, rfl, h2, h3⟩ := h
  obtain ⟨sa0, sc0, ys0, e, k2, k3⟩ := h0
  injection e with e _ _
  subst e
  exact ⟨sa, sc, ys, rfl, h2.kept hf (fun g hg hs => by have := k2.lt g hg; have := hS g hs; omega), h3⟩
theorem Inv.keptS {p : Pr} {t t0 : St} {w w' w0 : World} {S : Nat → Prop} (h : Inv p t w) (h0 : Inv p t0 w0) (e1 : t.cps = t0.cps) (e2 : t.lsl = t0.lsl) (e3 : t.stl = t0.stl) (hf : Fr S w w') (hS : ∀ k, S k → w0.heap.size ≤ k) (hR : ∀ k, S k → t.vi.ownBlock ≠ some k ∧ t.vl.ownBlock ≠ some k ∧ t.vc.ownBlock ≠ some k) : Inv p t w' := by
  have no : ∀ {k : Nat}, k < w0.heap.size → ¬ S k := fun hk hs => by have := hS _ hs; omega
  refine { sp := ⟨h.sp.sp.kept hf (no h0.sp.sp.lt), h.sp.c17, h.sp.pb.kept hf (no h0.sp.pb.lt), h.sp.perm.kept hf (no h0.sp.perm.tos.lt) (no h0.sp.perm.groups.lt)⟩, ix := h.ix.kept hf (no h0.ix.lt), msg := fun j hj => ?_, mty := fun j hj => ?_, im := h.im.kept hf (no h0.im.lt), ir := owns_kept h.ir hf (fun k h1 h2 => (hR k h2).1 h1), lm := h.lm.kept hf (no h0.lm.lt), lr := owns_kept h.lr hf (fun k h1 h2 => (hR k h2).2.1 h1), cm := h.cm.kept hf (no h0.cm.lt), cr := owns_kept h.cr hf (fun k h1 h2 => (hR k h2).2.2 h1), bag := fun c hc => ?_, ls := h.ls.kept hf (no h0.ls.lt), lso := fun e he => ?_, st := h.st.kept hf (no h0.st.lt), sto := fun e he => ?_, ok := h.ok, ne := h.ne }
  · obtain ⟨h1, h2, h3, h4, h5, h6⟩ := h.msg j hj
    obtain ⟨l, m, k1, k2⟩ := h0.mty j hj
    obtain ⟨l', m', k3, k4⟩ := h.mty j hj
    exact ⟨cell_kept k3.lt hf (no k1.lt) h1, cell_kept k3.lt hf (no k1.lt) h2, cell_kept k3.lt hf (no k1.lt) h3, cell_kept k3.lt hf (no k1.lt) h4, cell_kept k4.lt hf (no k2.lt) h5, cell_kept k4.lt hf (no k2.lt) h6⟩
  · obtain ⟨l, m, k1, k2⟩ := h0.mty j hj
    obtain ⟨l', m', k3, k4⟩ := h.mty j hj
    exact ⟨l', m', k3.kept hf (no k1.lt), k4.kept hf (no k2.lt)⟩
  · exact (h.bag c hc).kept hf (fun g hg => no ((h0.bag c (by rw [← e1]; exact hc)).lt g hg))
  · obtain ⟨i, x, j, s, h1, h2, h3, h4⟩ := h.lso e he
    obtain ⟨i', x', j', s', k1, k2, k3, k4⟩ := h0.lso e (by rw [← e2]; exact he)
    rw [h1] at k1
    injection k1 with _ k1
    injection k1 with k1
    have : s = s' := by
      injection k1 with k1
      injection k1 with _ k1
      injection k1 with k1 _
    subst this
    exact ⟨i, x, j, s, h1, h2, h3, h4.keptN k4 hf hS⟩
  · obtain ⟨k, x, j, nx, c, c', s, h1, h2, h3, h4, h5, h6, h7⟩ := h.sto e he
    obtain ⟨k', x', j', nx', d, d', s', k1, k2, k3, k4, k5, k6, k7⟩ := h0.sto e (by rw [← e3]; exact he)
    rw [h1] at k1
    injection k1 with _ k1
    injection k1 with k1
    have : s = s' := by
      injection k1 with k1
      injection k1 with _ k1
      injection k1 with k1 _
    subst this
    exact ⟨k, x, j, nx, c, c', s, h1, h2, h3, h4, h5, h6.keptN k6 hf hS, h7⟩
end Go.Proofs.YbulkbrdiFmt
