/-
  b3388aF: plain matter of (*space).dests.
-/
import Derived.Test.YbulkbrdiFmtSo
import Derived.Test.YbulkbrdiFmtSp
import Derived.Test.YbulkbrdiFmtDes
namespace Go.Proofs.YbulkbrdiFmt
open Go.RowKit
set_option linter.unusedVariables false
set_option linter.unusedSimpArgs false
set_option maxRecDepth 100000
set_option maxHeartbeats 4000000

/-- how many components dests may make of a bag of n -/
def T : Nat → Nat
  | 0 => 0
  | n + 1 => (n + 1) * (1 + T n)
section
variable {p : Pr} {its : List (Nat × Nat)}
theorem D_cons (x : Nat) (bag : List Nat) : D p its (x :: bag) = p.ms ((its[x]?.getD (0, 0)).2) ||| D p its bag := rfl
theorem D_perm {a b : List Nat} (h : a.Perm b) : D p its a = D p its b := by
  induction h with
  | nil => rfl
  | cons x _ ih => rw [D_cons, D_cons, ih]
  | swap x y l => rw [D_cons, D_cons, D_cons, D_cons, ← Nat.or_assoc, ← Nat.or_assoc, Nat.or_comm (p.ms (its[y]?.getD (0, 0)).2)]
  | trans _ _ h1 h2 => exact h1.trans h2
theorem D_erase {x j i : Nat} {bag : List Nat} (hx : x ∈ bag) (hi : its[x]? = some (i, j)) : D p its bag = p.ms j ||| D p its (bag.erase x) := by
  rw [D_perm (List.perm_cons_erase hx), D_cons, hi]
  rfl
theorem D_lt (hp : PrOk p) : ∀ (bag : List Nat), D p its bag < 256
  | [] => by show 0 < 256; omega
  | x :: bag => by
    have h1 := D_lt hp bag
    rw [D_cons]
    have h2 : p.ms ((its[x]?.getD (0, 0)).2) < 256 := Nat.lt_of_lt_of_le (hp.ms _) (Nat.le_trans (Nat.pow_le_pow_right (by omega) hp.np) (by decide))
    exact Nat.or_lt_two_pow (n := 8) h2 h1
end
theorem orTo_cons {its : List (Nat × Nat)} (z : Nat) (ys : List Nat) : orTo its (z :: ys) = 2 ^ (its[z]?.getD (0, 0)).1 ||| orTo its ys := rfl
theorem orTo_snoc {its : List (Nat × Nat)} (y : Nat) : ∀ (ys : List Nat), orTo its (ys ++ [y]) = orTo its ys ||| 2 ^ (its[y]?.getD (0, 0)).1
  | [] => by
    show 2 ^ _ ||| 0 = 0 ||| 2 ^ _
    simp
  | z :: ys => by rw [List.cons_append, orTo_cons, orTo_cons, orTo_snoc y ys, Nat.or_assoc]
theorem tab_set {α : Type} {K : α → List Nat} {l : List α} {k : Nat} {c c' : α} (hk : l[k]? = some c) (hK : K c' = K c) : tab K (l.set k c') = tab K l := by
  unfold tab
  apply List.ext_getElem?
  intro i
  rw [List.getElem?_map, List.getElem?_map, List.getElem?_zipIdx, List.getElem?_zipIdx, List.getElem?_set]
  by_cases e : k = i
  · subst e
    rw [if_pos rfl, if_pos (List.getElem?_eq_some_iff.1 hk).1, hk]
    simp [hK]
  · rw [if_neg e]
theorem flat_set {α : Type} {C : α → List Value} {s : Nat} (hC : ∀ a, (C a).length = s) {l : List α} {k : Nat} {c c' : α} (hk : l[k]? = some c) {i : Nat} {u : Value} (hi : i < s) {i' : Nat} {u' : Value} (hi' : i' < s) (hc : C c' = ((C c).set i u).set i' u') : (l.set k c').flatMap C = ((l.flatMap C).set (k * s + i) u).set (k * s + i') u' := by
  apply List.ext_getElem?
  intro j
  have hs : 0 < s := by omega
  have hjd : j / s * s + j % s = j := by rw [Nat.mul_comm]; exact Nat.div_add_mod j s
  have hjm : j % s < s := Nat.mod_lt _ hs
  obtain ⟨hkl, _⟩ := List.getElem?_eq_some_iff.1 hk
  rw [List.getElem?_set, List.getElem?_set]
  have hlen : ∀ (m : List α), (m.flatMap C).length = m.length * s := fun m => by
    induction m with
    | nil => simp
    | cons a m ih => rw [List.flatMap_cons, List.length_append, hC, ih, List.length_cons, Nat.succ_mul]; omega
  by_cases hjl : j / s < l.length
  · obtain ⟨a, ha⟩ : ∃ a, l[j / s]? = some a := ⟨_, List.getElem?_eq_getElem hjl⟩
    have h1 := flat_get hC ha hjm
    rw [hjd] at h1
    by_cases hjk : j / s = k
    · have hac : a = c := by rw [hjk, hk] at ha; exact (Option.some.inj ha).symm
      have h2 := flat_get (l := l.set k c') (a := c') hC (x := j / s) (k := j % s) (by rw [List.getElem?_set, if_pos hjk.symm, if_pos hkl]) hjm
      rw [hjd] at h2
      rw [h2, hc, List.getElem?_set, List.getElem?_set, h1, hac]
      have e1 : (k * s + i' = j) ↔ i' = j % s := by rw [← hjk]; omega
      have e2 : (k * s + i = j) ↔ i = j % s := by rw [← hjk]; omega
      have hb : ∀ z, z < s → k * s + z < (l.flatMap C).length := fun z hz => by
        rw [hlen]
        have : (k + 1) * s ≤ l.length * s := Nat.mul_le_mul_right _ hkl
        rw [Nat.succ_mul] at this
        omega
      have b1 := hb i hi
      have b2 := hb i' hi'
      by_cases q1 : i' = j % s
      · rw [if_pos q1, if_pos (e1.2 q1), if_pos (by rw [List.length_set, hC]; exact hi'), if_pos (by rw [List.length_set]; exact b2)]
      · rw [if_neg q1, if_neg (fun e => q1 (e1.1 e))]
        by_cases q2 : i = j % s
        · rw [if_pos q2, if_pos (e2.2 q2), if_pos (by rw [hC]; exact hi), if_pos b1]
        · rw [if_neg q2, if_neg (fun e => q2 (e2.1 e))]
    · have h2 := flat_get (l := l.set k c') (a := a) hC (x := j / s) (k := j % s) (by rw [List.getElem?_set, if_neg (fun e => hjk e.symm)]; exact ha) hjm
      rw [hjd] at h2
      have e1 : ∀ z, z < s → k * s + z ≠ j := fun z hz e => by
        apply hjk
        rw [← e, Nat.mul_comm, Nat.mul_add_div hs, Nat.div_eq_of_lt hz, Nat.add_zero]
      rw [h2, h1, if_neg (e1 i' hi'), if_neg (e1 i hi)]
  · have g1 : ((l.set k c').flatMap C)[j]? = none := List.getElem?_eq_none (by
      rw [hlen, List.length_set]
      have : l.length * s ≤ j / s * s := Nat.mul_le_mul_right _ (by omega)
      omega)
    have g2 : (l.flatMap C)[j]? = none := List.getElem?_eq_none (by
      rw [hlen]
      have : l.length * s ≤ j / s * s := Nat.mul_le_mul_right _ (by omega)
      omega)
    have hj2 : (l.flatMap C).length ≤ j := by
      rw [hlen]
      have : l.length * s ≤ j / s * s := Nat.mul_le_mul_right _ (by omega)
      omega
    rw [g1]
    split
    · rename_i e
      rw [if_neg (by rw [List.length_set]; omega)]
    · split
      · rw [if_neg (by omega)]
      · exact g2.symm
theorem owns_set {w : World} {B e s n g c j : Nat} {xs : List Value} (h : w.ownsRow B e s (.slice (some ⟨g, 0, none⟩) n c) n xs) (u : Value) : (w.setCell ⟨g, j, none⟩ u).ownsRow B e s (.slice (some ⟨g, 0, none⟩) n c) n (xs.set j u) := by
  refine ⟨by rw [List.length_set]; exact h.1, ?_⟩
  rcases h.2 with ⟨h1, _⟩ | ⟨g', cap, cur, h1, h2, h3, h4, h5, h6, h7⟩
  · cases h1
  · injection h1 with h1 _ hc
    injection h1 with h1
    injection h1 with h1 _ _
    subst h1; subst hc
    refine .inr ⟨g, c, cur.setIfInBounds j u, rfl, h2, ?_, h4, h5, by simpa using h6, ?_⟩
    · simp only [World.setCell, Array.getElem?_modify, h3]
      simp
    · rw [Array.toList_setIfInBounds, List.take_set, h7]
/-- a component is asked -/
theorem Inv.setAsk {p : Pr} {t : St} {w w' : World} {k cb cc : Nat} {c : Cmp} (h : Inv p t w) (hk : t.cps[k]? = some c) (hvc : t.vc = .slice (some ⟨cb, 0, none⟩) t.cps.length cc)
    (hw : w' = (w.setCell ⟨cb, k * 6 + 2, none⟩ (.int .u64 ((D p t.its c.bag : Nat) : Int))).setCell ⟨cb, k * 6 + 5, none⟩ (.bool true)) :
    Inv p { t with cps := t.cps.set k { c with ds := D p t.its c.bag, ak := true } } w' ∧ Ext p t { t with cps := t.cps.set k { c with ds := D p t.its c.bag, ak := true } } w w' := by
  obtain ⟨c2, hc2⟩ : ∃ c2 : Cmp, c2 = { c with ds := D p t.its c.bag, ak := true } := ⟨_, rfl⟩
  rw [← hc2]
  have el : c2.lo = c.lo := by rw [hc2]
  have eb : c2.bag = c.bag := by rw [hc2]
  obtain ⟨hkl, _⟩ := List.getElem?_eq_some_iff.1 hk
  have hown : t.vc.ownBlock = some cb := by rw [hvc]; rfl
  have hf : Fr (· = cb) w w' := by
    rw [hw]
    exact ((Fr.refl (· = cb) w).setCell (p := ⟨cb, k * 6 + 2, none⟩) (.inl rfl) _).setCell (p := ⟨cb, k * 6 + 5, none⟩) (.inl rfl) _
  have hF : Fr (Ch p t) w w' := hf.mono (fun i _ e => by
    subst e
    exact .inr (.inr (.inr (.inr (.inr (.inr (.inr (.inr hown))))))))
  obtain ⟨s1, s2, s3, s4, s5⟩ := h.stat hF
  have nm' : ∀ {i : Nat} {l : List (ByteArray × Value)}, SMap w i l → ¬ i = cb := fun hm e => by
    subst e
    exact owns_neM h.cr hm hown
  have na' : ∀ {i : Nat} {l : List (Nat × Value)}, MapAt w i l → ¬ i = cb := fun hm e => by
    subst e
    exact MapAt.neO h.cr hm hown
  have hget : ∀ (i : Nat) (d : Cmp), t.cps[i]? = some d → ∃ d' : Cmp, (t.cps.set k c2)[i]? = some d' ∧ d'.lo = d.lo ∧ d'.bag = d.bag ∧ (d.ak = true → d'.ak = true) := fun i d hd => by
    by_cases e : k = i
    · subst e
      have : d = c := by rw [hk] at hd; exact (Option.some.inj hd).symm
      subst this
      exact ⟨c2, by rw [List.getElem?_set, if_pos rfl, if_pos hkl], el, eb, fun _ => by rw [hc2]⟩
    · exact ⟨d, by rw [List.getElem?_set, if_neg e]; exact hd, rfl, rfl, id⟩
  have hmem : ∀ d ∈ t.cps.set k c2, d ∈ t.cps ∨ d = c2 := fun d hd => by
    obtain ⟨i, hi, rfl⟩ := List.mem_iff_getElem.1 hd
    rw [List.getElem_set]
    split
    · exact .inr rfl
    · exact .inl (List.getElem_mem _)
  have hcr : w'.ownsRow 0 64 6 t.vc (t.cps.set k c2).length ((t.cps.set k c2).flatMap cmC) := by
    have h1 := h.cr
    rw [hvc] at h1 ⊢
    have h2 := owns_set (owns_set (j := k * 6 + 2) h1 (.int .u64 ((D p t.its c.bag : Nat) : Int))) (j := k * 6 + 5) (.bool true)
    rw [← hw] at h2
    rw [List.length_set, flat_set (s := 6) (fun _ => rfl) hk (i := 2) (u := .int .u64 ((D p t.its c.bag : Nat) : Int)) (by omega) (i' := 5) (u' := .bool true) (by omega) (by rw [hc2]; rfl)]
    exact h2
  refine ⟨{ sp := ⟨h.sp.sp.kept hf (fun e => by subst e; exact owns_neB h.cr h.sp.sp (by decide) hown), rfl, s1, s2⟩, ix := s3, msg := s4, mty := s5, im := h.im.kept hf (nm' h.im), ir := owns_kept h.ir hf (fun i h1 e => by subst e; exact own_ne h.ir h.cr (by decide) _ h1 hown), lm := h.lm.kept hf (nm' h.lm), lr := owns_kept h.lr hf (fun i h1 e => by subst e; exact own_ne h.lr h.cr (by decide) _ h1 hown), cm := ?_, cr := hcr, bag := fun d hd => ?_, ls := h.ls.kept hf (na' h.ls), lso := fun e he => ?_, st := h.st.kept hf (na' h.st), sto := fun e he => ?_, ok := ⟨h.ok.iok, h.ok.ind, h.ok.nl, fun d hd => ?_⟩, ne := h.ne }, { fr := hF, vi := fun k hk => .inl hk, vl := fun k hk => .inl hk, vc := fun k hk => .inl hk, its := List.prefix_refl _, nl := Nat.le_refl _, cps := hget }⟩
  · show SMap w' p.CM (tab cmK (t.cps.set k c2))
    rw [tab_set hk (by unfold cmK; rw [el, eb])]
    exact h.cm.kept hf (nm' h.cm)
  · rcases hmem d hd with h1 | h1
    · exact (h.bag d h1).keptC h hF
    · rw [h1]
      have := (h.bag c (List.mem_of_getElem? hk)).keptC h hF
      rw [hc2]; exact this
  · obtain ⟨i, x, j, s, h1, h2, h3, h4⟩ := h.lso e he
    exact ⟨i, x, j, s, h1, h2, h3, h4.keptC h hF⟩
  · obtain ⟨k', x, j, nx, d, d', s, h1, h2, h3, h4, h5, h6, h7, h8, h9⟩ := h.sto e he
    obtain ⟨a1, a2, a3, a4, _⟩ := hget k' d h2
    obtain ⟨b1, b2, b3, b4, _⟩ := hget nx d' h7
    exact ⟨k', x, j, nx, a1, b1, s, h1, a2, by rw [a4]; exact h3, by rw [a3]; exact h4, h5, h6.keptC h hF, b2, by rw [b3, a3]; exact h8, by rw [b4, a4]; exact h9⟩
  · rcases hmem d hd with h1 | h1
    · exact h.ok.cok d h1
    · rw [h1, hc2]
      obtain ⟨q1, q2, q3, q4, _⟩ := h.ok.cok c (List.mem_of_getElem? hk)
      exact ⟨q1, q2, q3, q4, fun _ => rfl, fun e => Bool.noConfusion e⟩
end Go.Proofs.YbulkbrdiFmt
