/-
  b3388aF: plain matter of (*space).step.
-/
import Derived.Test.YbulkbrdiFmtSl
namespace Go.Proofs.YbulkbrdiFmt
open Go.RowKit
set_option linter.unusedVariables false
set_option linter.unusedSimpArgs false
set_option maxRecDepth 100000
set_option maxHeartbeats 4000000

theorem Inv.nch64 {p : Pr} {t : St} {w : World} {k : Nat} {l : List Value} (h : Inv p t w) (hb : Blk w k 64 l) (hk : t.vc.ownBlock ≠ some k) : ¬ Ch p t k := by
  rintro (h1 | h1 | h1 | h1 | h1 | h1 | h1 | h1 | h1)
  · subst h1
    have := h.sp.sp.symm.trans hb
    injection this with this
    injection this with _ h5 _
    cases h5
  · exact h.lm.ne hb h1.symm
  · exact h.im.ne hb h1.symm
  · exact h.cm.ne hb h1.symm
  · exact h.ls.ne hb h1.symm
  · exact h.st.ne hb h1.symm
  · exact owns_neB h.ir hb (by decide) h1
  · exact owns_neB h.lr hb (by decide) h1
  · exact hk h1
/-- one item taken off a bag -/
theorem erase_perm {l : List Nat} {q x : Nat} (hq : l[q]? = some x) : (l.eraseIdx q).Perm (l.erase x) := by
  obtain ⟨h1, h2⟩ := List.getElem?_eq_some_iff.1 hq
  have e1 : l.Perm (x :: l.eraseIdx q) := by
    have e3 : l = l.take q ++ x :: l.drop (q + 1) := by
      rw [← h2, ← List.drop_eq_getElem_cons h1, List.take_append_drop]
    rw [List.eraseIdx_eq_take_drop_succ]
    have e4 : (l.take q ++ x :: l.drop (q + 1)).Perm (x :: (l.take q ++ l.drop (q + 1))) := List.perm_middle
    rw [← e3] at e4
    exact e4
  have e2 : l.Perm (x :: l.erase x) := List.perm_cons_erase (List.mem_of_getElem? hq)
  exact (e1.symm.trans e2).cons_inv
theorem sorted_eq {a b : List Nat} (ha : a.Pairwise (· < ·)) (hb : b.Pairwise (· < ·)) (h : a.Perm b) : a = b :=
  List.Perm.eq_of_pairwise (le := (· < ·)) (fun x y _ _ h1 h2 => by omega) ha hb h
theorem rowV_list (l : List Nat) : rowV l.toArray = l.map fun (y : Nat) => Value.int .u32 (y : Int) := by unfold rowV; simp
theorem delL_row (l tail : List Value) (q : Nat) (z : Value) : delL l q z ++ tail = l.eraseIdx q ++ ([z] ++ tail) := by
  unfold delL
  rw [List.eraseIdx_eq_take_drop_succ]
  simp
theorem map_eraseIdx {α β : Type} (f : α → β) (l : List α) (q : Nat) : (l.map f).eraseIdx q = (l.eraseIdx q).map f := by
  rw [List.eraseIdx_eq_take_drop_succ, List.eraseIdx_eq_take_drop_succ, List.map_append, List.map_take, List.map_drop]
/-- the bag less one, as slices.Delete leaves it -/
theorem BagA.del {w : World} {g c q : Nat} {bag : List Nat} {tail : List Value} (hq : q < bag.length) (hb : Blk w g 53 (delL (rowV bag.toArray) q (.int .u32 0) ++ tail)) (hc : bag.length ≤ c) : BagA w (some ⟨g, 0, none⟩) (bag.length - 1) c (bag.eraseIdx q).toArray := by
  refine ⟨by simp [List.length_eraseIdx, hq], by omega, .inr ⟨g, [.int .u32 0] ++ tail, rfl, ?_⟩⟩
  rw [delL_row, rowV_list, map_eraseIdx] at hb
  rw [rowV_list]
  exact hb
/-- bags are as sorted rows -/
theorem sorted_in {bag : List Nat} (h : bag.Pairwise (· < ·)) : Sort.SortedIn ltN 0 bag.length bag.toArray := fun i j _ hij hj => by
  have h1 := (List.pairwise_iff_getElem.1 h) i j (by omega) hj hij
  unfold ltN
  rw [getElem!_pos bag.toArray i (by simp; omega), getElem!_pos bag.toArray j (by simpa using hj)]
  simp
  omega
end Go.Proofs.YbulkbrdiFmt
