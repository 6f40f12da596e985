/-
  b3388aF: LawS3388AStart: a process's bag, plain part.
-/
import Derived.Test.YbulkbrdiFmtSv
import Derived.Test.YbulkbrdiFmtSw
namespace Go.Proofs.YbulkbrdiFmt
open Go.RowKit
set_option linter.unusedVariables false
set_option linter.unusedSimpArgs false
set_option maxRecDepth 100000
set_option maxHeartbeats 4000000

/-- in the making of process i's bag; what is known stood at wA -/
structure Q4 (p : Pr) (t : St) (wA : World) (i j : Nat) (its' : List (Nat × Nat)) (vi' v : Value) (ys : List Nat) (wr : World) : Prop where
  inv : Inv p { t with its := its', vi := vi' } wr
  ext : Ext p t { t with its := its', vi := vi' } wA wr
  so : wr.ownsRow wA.heap.size 53 1 v ys.length (ys.map fun (y : Nat) => .int .u32 (y : Int))
  ysok : ∀ y ∈ ys, ∃ j', its'[y]? = some (i, j') ∧ j' < j
  nd : ys.Nodup
theorem Q4.start {p : Pr} {t : St} {wA : World} {i : Nat} (h : Inv p t wA) : Q4 p t wA i 0 t.its t.vi (.slice none 0 0) [] wA :=
  ⟨h, Ext.refl p t wA, owns_nil _ _ _ _, (fun y hy => by cases hy), List.nodup_nil⟩
theorem Q4.skip {p : Pr} {t : St} {wA wr : World} {i j : Nat} {its' : List (Nat × Nat)} {vi' v : Value} {ys : List Nat} (h : Q4 p t wA i j its' vi' v ys wr) : Q4 p t wA i (j + 1) its' vi' v ys wr :=
  ⟨h.inv, h.ext, h.so, (fun y hy => by obtain ⟨j', h1, h2⟩ := h.ysok y hy; exact ⟨j', h1, by omega⟩), h.nd⟩
theorem D_snoc {p : Pr} {its : List (Nat × Nat)} (y : Nat) : ∀ (ys : List Nat), D p its (ys ++ [y]) = D p its ys ||| p.ms (its[y]?.getD (0, 0)).2
  | [] => by
    show p.ms _ ||| 0 = 0 ||| p.ms _
    simp
  | z :: ys => by rw [List.cons_append, D_cons, D_cons, D_snoc y ys, Nat.or_assoc]
/-- one item more -/
theorem Q4.next {p : Pr} {t : St} {wA wr W0 wI W wJ : World} {i j no g cap : Nat} {its' its2 : List (Nat × Nat)} {vi' v2 v : Value} {ys : List Nat} (h : Q4 p t wA i j its' vi' v ys wr) (h00 : Inv p t wA) (hf0 : Fr (fun _ => False) wr W0)
    (hI : Inv p { t with its := its2, vi := v2 } wI) (hE : Ext p { t with its := its', vi := vi' } { t with its := its2, vi := v2 } W0 wI) (hno : its2[no]? = some (i, j))
    (hf1 : Fr (fun _ => False) wI W) (hgrow : W.grownBy wJ v.ownBlock) (hown : wJ.ownsRow wA.heap.size 53 1 (.slice (some ⟨g, 0, none⟩) (ys.length + 1) cap) (ys.length + 1) ((ys.map fun (y : Nat) => Value.int .u32 (y : Int)) ++ [.int .u32 (no : Int)])) :
    Q4 p t wA i (j + 1) its2 v2 (.slice (some ⟨g, 0, none⟩) (ys.length + 1) cap) (ys ++ [no]) wJ ∧ D p its2 (ys ++ [no]) = D p its' ys ||| p.ms j := by
  have i0 := h.inv.kept hf0
  have hsoI := i0.keptO hE.fr (owns_kept h.so hf0 (fun _ _ => id)) (by decide)
  have hsoW := owns_kept hsoI hf1 (fun _ _ => id)
  have hF2 : Fr (fun k => v.ownBlock = some k) W wJ := (Fr.refl _ W).grown hgrow (fun k hk => .inl hk)
  have hIW := hI.kept hf1
  have hB53 : ∀ k, v.ownBlock = some k → wA.heap.size ≤ k := fun k hk => owns_base h.so k hk
  have hsoW0 := owns_weaken hsoW (Nat.zero_le _)
  have hIJ : Inv p { t with its := its2, vi := v2 } wJ := hIW.keptS h00 rfl rfl rfl hF2 (fun k hk => hB53 k hk) (fun k hk => ⟨fun e => own_ne hIW.ir hsoW0 (by decide) k e hk, fun e => own_ne hIW.lr hsoW0 (by decide) k e hk, fun e => own_ne hIW.cr hsoW0 (by decide) k e hk⟩)
  have hE2 : Ext p t { t with its := its2, vi := v2 } wA W := ((h.ext.post hf0).trans hE).post hf1
  have hpre : its' <+: its2 := hE.its
  have hlt : ∀ y ∈ ys, y < its'.length := fun y hy => by
    obtain ⟨j', h1, _⟩ := h.ysok y hy
    exact (List.getElem?_eq_some_iff.1 h1).1
  refine ⟨⟨hIJ, { hE2 with fr := hE2.fr.join hF2 (fun k hk e => by have := hB53 k e; omega) }, ?_, fun y hy => ?_, ?_⟩, ?_⟩
  · rw [List.length_append, List.map_append]
    exact hown
  · rcases List.mem_append.1 hy with hy | hy
    · obtain ⟨j', h1, h2⟩ := h.ysok y hy
      exact ⟨j', get_prefix hpre h1, by omega⟩
    · rw [List.mem_singleton.1 hy]
      exact ⟨j, hno, by omega⟩
  · refine List.nodup_append.2 ⟨h.nd, by simp, fun a ha b hb e => ?_⟩
    rw [List.mem_singleton.1 hb] at e
    subst e
    obtain ⟨j', h1, h2⟩ := h.ysok a ha
    have h3 := get_prefix hpre h1
    rw [hno] at h3
    injection h3 with h3
    injection h3 with _ h3
    omega
  · rw [D_snoc, hno, D_mono hpre ys hlt]
    rfl
/-- the bag, as component wants it -/
theorem Q4.bag {p : Pr} {t : St} {wA wr : World} {i j : Nat} {its' : List (Nat × Nat)} {vi' : Value} {ba : Option Addr} {bc : Nat} {ys : List Nat} (h : Q4 p t wA i j its' vi' (.slice ba ys.length bc) ys wr) : BagA wr ba ys.length bc ys.toArray ∧ ∀ k, ba = some ⟨k, 0, none⟩ → wA.heap.size ≤ k := by
  refine ⟨?_, fun k hk => owns_base h.so k (by rw [hk]; rfl)⟩
  rcases h.so.2 with ⟨h1, h2⟩ | ⟨g, cap, cur, h1, h2, h3, h4, h5, h6, h7⟩
  · injection h1 with e1 e2 e3
    exact ⟨by simp, by omega, .inl ⟨e1, h2, e3⟩⟩
  · injection h1 with e1 e2 e3
    refine ⟨by simp, by omega, .inr ⟨g, cur.toList.drop ys.length, e1, ?_⟩⟩
    rw [Nat.mul_one] at h7
    rw [rowV_list, ← h7, List.take_append_drop]
    exact h3
/-- at most eight in a bag -/
theorem Q4.len {p : Pr} {t : St} {wA wr : World} {i j : Nat} {its' : List (Nat × Nat)} {vi' v : Value} {ys : List Nat} (h : Q4 p t wA i j its' vi' v ys wr) : ys.length ≤ j := by
  have h1 : (ys.map fun y => (its'[y]?.getD (0, 0)).2).Nodup := by
    rw [List.nodup_iff_pairwise_ne, List.pairwise_map]
    refine List.Pairwise.imp_of_mem ?_ (List.nodup_iff_pairwise_ne.1 h.nd)
    intro a b ha hb hab e
    obtain ⟨ja, h2, _⟩ := h.ysok a ha
    obtain ⟨jb, h3, _⟩ := h.ysok b hb
    rw [h2, h3] at e
    simp only [Option.getD_some] at e
    subst e
    have la := (List.getElem?_eq_some_iff.1 h2).1
    have lb := (List.getElem?_eq_some_iff.1 h3).1
    have hnd := List.nodup_iff_pairwise_ne.1 h.inv.ok.ind
    rcases Nat.lt_trichotomy a b with hlt | hlt | hlt
    · exact (List.pairwise_iff_getElem.1 hnd) a b la lb hlt ((List.getElem?_eq_some_iff.1 h2).2.trans (List.getElem?_eq_some_iff.1 h3).2.symm)
    · exact hab hlt
    · exact (List.pairwise_iff_getElem.1 hnd) b a lb la hlt ((List.getElem?_eq_some_iff.1 h3).2.trans (List.getElem?_eq_some_iff.1 h2).2.symm)
  have h2 := nodup_lt j _ h1 (fun x hx => by
    obtain ⟨y, hy, rfl⟩ := List.mem_map.1 hx
    obtain ⟨j', h3, h4⟩ := h.ysok y hy
    rw [h3]
    exact h4)
  simpa using h2
theorem T_le {n : Nat} (h : n ≤ 8) : T n ≤ 109600 := by
  have h8 : n = 0 ∨ n = 1 ∨ n = 2 ∨ n = 3 ∨ n = 4 ∨ n = 5 ∨ n = 6 ∨ n = 7 ∨ n = 8 := by omega
  rcases h8 with rfl | rfl | rfl | rfl | rfl | rfl | rfl | rfl | rfl <;> decide
end Go.Proofs.YbulkbrdiFmt
