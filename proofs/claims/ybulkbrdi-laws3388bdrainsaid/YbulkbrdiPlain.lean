/-
  b3388a: the plain law: what add and remove make of the blocks.
-/
import Derived.Test.YbulkbrdiAdd
namespace Go.Proofs.Ybulkbrdi
set_option linter.unusedVariables false
set_option linter.unusedSimpArgs false

/-- the length of block i (0 past the end) -/
def ln (X : List (List Nat)) (i : Nat) : Nat := (X[i]?.map List.length).getD 0
theorem ln_some {X : List (List Nat)} {i : Nat} {x : List Nat} (h : X[i]? = some x) : ln X i = x.length := by simp [ln, h]
theorem ln_none {X : List (List Nat)} {i : Nat} (h : X.length ≤ i) : ln X i = 0 := by simp [ln, List.getElem?_eq_none h]

/-- no two neighbours fit in one block -/
def Nbr (X : List (List Nat)) : Prop := ∀ i, i + 1 < X.length → 256 < ln X i + ln X (i + 1)
def Pos (X : List (List Nat)) : Prop := ∀ i, i < X.length → 0 < ln X i
def Fit (X : List (List Nat)) : Prop := ∀ i, ln X i ≤ 256

theorem pos_of_ne {X : List (List Nat)} (h : ∀ x ∈ X, x ≠ []) : Pos X := fun i hi => by
  rw [ln_some (List.getElem?_eq_getElem hi)]
  exact List.length_pos_iff.2 (h _ (List.getElem_mem hi))
theorem fit_of {X : List (List Nat)} (h : ∀ x ∈ X, x.length ≤ 256) : Fit X := fun i => by
  by_cases hi : i < X.length
  · rw [ln_some (List.getElem?_eq_getElem hi)]; exact h _ (List.getElem_mem hi)
  · rw [ln_none (by omega)]; omega
theorem of_fit {X : List (List Nat)} (h : Fit X) : ∀ x ∈ X, x.length ≤ 256 := fun x hx => by
  obtain ⟨i, hi, rfl⟩ := List.getElem_of_mem hx
  have := h i; rw [ln_some (List.getElem?_eq_getElem hi)] at this; exact this

/-! ### join -/
theorem joinM_no {X : List (List Nat)} {b : Nat} (h : X.length ≤ b + 1 ∨ 256 < ln X b + ln X (b + 1)) : joinM X b = X := by
  unfold joinM
  split
  · rename_i x y hx hy
    rw [ln_some hx, ln_some hy] at h
    have := (List.getElem?_eq_some_iff.1 hy).1
    rw [if_neg (by omega)]
  · rfl
theorem joinM_yes {X : List (List Nat)} {b : Nat} (h1 : b + 1 < X.length) (h2 : ln X b + ln X (b + 1) ≤ 256) :
    ∃ x y, X[b]? = some x ∧ X[b + 1]? = some y ∧ joinM X b = X.take b ++ (x ++ y) :: X.drop (b + 2) := by
  have hx : X[b]? = some X[b] := List.getElem?_eq_getElem (by omega)
  have hy : X[b + 1]? = some X[b + 1] := List.getElem?_eq_getElem h1
  refine ⟨_, _, hx, hy, ?_⟩
  rw [ln_some hx, ln_some hy] at h2
  unfold joinM; rw [hx, hy]; simp only []; rw [if_pos h2]
theorem joinM_flat (X : List (List Nat)) (b : Nat) : (joinM X b).flatten = X.flatten := by
  by_cases h : b + 1 < X.length ∧ ln X b + ln X (b + 1) ≤ 256
  · obtain ⟨x, y, hx, hy, e⟩ := joinM_yes h.1 h.2
    rw [e]
    conv => rhs; rw [split_two X b x y hx hy]
    simp
  · rw [joinM_no (by omega)]
theorem joinI_flat (X : List (List Nat)) (b : Int) : (joinI X b).flatten = X.flatten := by
  unfold joinI; split
  · rfl
  · exact joinM_flat _ _
theorem joinM_ln {X : List (List Nat)} {b : Nat} (h1 : b + 1 < X.length) (h2 : ln X b + ln X (b + 1) ≤ 256) :
    (joinM X b).length + 1 = X.length ∧ ∀ i, ln (joinM X b) i = if i < b then ln X i else if i = b then ln X b + ln X (b + 1) else ln X (i + 1) := by
  obtain ⟨x, y, hx, hy, e⟩ := joinM_yes h1 h2
  have hl : (X.take b).length = b := by simp; omega
  refine ⟨by rw [e]; simp; omega, fun i => ?_⟩
  rw [e]
  by_cases h3 : i < b
  · rw [if_pos h3]
    unfold ln
    rw [List.getElem?_append_left (by omega), List.getElem?_take, if_pos h3]
  · rw [if_neg h3]
    by_cases h4 : i = b
    · subst h4
      rw [if_pos rfl, ln_some hx, ln_some hy]
      unfold ln
      rw [List.getElem?_append_right (by omega), hl, Nat.sub_self]
      simp
    · rw [if_neg h4]
      unfold ln
      rw [List.getElem?_append_right (by omega), hl, show i - b = (i - b - 1) + 1 by omega, List.getElem?_cons_succ, List.getElem?_drop, show b + 2 + (i - b - 1) = i + 1 by omega]

/-! ### remove -/
theorem erase_ln (X : List (List Nat)) (b i : Nat) : ln (X.eraseIdx b) i = if i < b then ln X i else ln X (i + 1) := by
  unfold ln; rw [List.getElem?_eraseIdx]; split <;> rfl
theorem set_ln (X : List (List Nat)) (b i : Nat) (x : List Nat) (hb : b < X.length) : ln (X.set b x) i = if i = b then x.length else ln X i := by
  unfold ln; rw [List.getElem?_set]
  by_cases h : b = i
  · subst h; simp [hb]
  · rw [if_neg h, if_neg (fun e => h e.symm)]

structure Inv (X : List (List Nat)) : Prop where
  pos : Pos X
  fit : Fit X
  nbr : Nbr X

theorem ne_of_pos {X : List (List Nat)} (h : Pos X) : ∀ x ∈ X, x ≠ [] := fun x hx e => by
  obtain ⟨i, hi, rfl⟩ := List.getElem_of_mem hx
  have := h i hi
  rw [ln_some (List.getElem?_eq_getElem hi), e] at this
  simp at this

theorem remM_inv {X : List (List Nat)} {b i : Nat} (h : Inv X) (hb : b < X.length) (hi : i < ln X b) : Inv (remM X b i) := by
  have hxb : X.getD b [] = X[b] := by rw [List.getD_eq_getElem?_getD, List.getElem?_eq_getElem hb]; rfl
  have hlb : ln X b = X[b].length := ln_some (List.getElem?_eq_getElem hb)
  unfold remM
  simp only []
  rw [hxb]
  have hP := h.pos
  have hF := h.fit
  have hN := h.nbr
  by_cases h1 : X[b].length = 1
  · rw [if_pos h1]
    have e0 : (X.set b (X[b].eraseIdx i)).eraseIdx b = X.eraseIdx b := List.eraseIdx_set_eq
    rw [e0]
    have hl : (X.eraseIdx b).length + 1 = X.length := by rw [List.length_eraseIdx, if_pos hb]; omega
    have hE : Inv (X.eraseIdx b) := by
      refine ⟨fun k hk => ?_, fun k => ?_, fun k hk => ?_⟩
      · rw [erase_ln]; split
        · exact hP k (by omega)
        · exact hP (k + 1) (by omega)
      · rw [erase_ln]; split
        · exact hF k
        · exact hF (k + 1)
      · rw [erase_ln, erase_ln]
        by_cases c1 : k + 1 < b
        · rw [if_pos (by omega), if_pos c1]; exact hN k (by omega)
        · by_cases c2 : k < b
          · rw [if_pos c2, if_neg c1]
            have := hN k (by omega)
            have e : k + 1 = b := by omega
            rw [e, hlb, h1] at this
            have p2 := hP (k + 1 + 1) (by omega)
            omega
          · rw [if_neg c2, if_neg c1]; exact hN (k + 1) (by omega)
    have j1 : joinI (X.eraseIdx b) b = X.eraseIdx b := by
      unfold joinI; rw [if_neg (by omega), Int.toNat_natCast]
      apply joinM_no
      by_cases c : b + 1 < (X.eraseIdx b).length
      · right; exact hE.nbr b c
      · left; omega
    rw [j1]
    have j2 : joinI (X.eraseIdx b) ((b : Int) - 1) = X.eraseIdx b := by
      unfold joinI; split
      · rfl
      · apply joinM_no
        by_cases c : ((b : Int) - 1).toNat + 1 < (X.eraseIdx b).length
        · right; exact hE.nbr _ c
        · left; omega
    rw [j2]; exact hE
  · rw [if_neg h1]
    have hle : (X[b].eraseIdx i).length = ln X b - 1 := by rw [List.length_eraseIdx, if_pos (by omega), hlb]
    obtain ⟨Y, hY⟩ : ∃ Y, Y = X.set b (X[b].eraseIdx i) := ⟨_, rfl⟩
    rw [← hY]
    have hYl : Y.length = X.length := by rw [hY]; simp
    have hYn : ∀ k, ln Y k = if k = b then ln X b - 1 else ln X k := fun k => by rw [hY, set_ln _ _ _ _ hb, hle]
    have hYb : ln Y b = ln X b - 1 := by rw [hYn, if_pos rfl]
    have hYo : ∀ k, k ≠ b → ln Y k = ln X k := fun k hk => by rw [hYn, if_neg hk]
    have hb2 : 1 < ln X b := by have := hP b hb; omega
    have e1 : joinI Y (b : Int) = joinM Y b := by unfold joinI; rw [if_neg (by omega)]; rfl
    rw [e1]
    have e2 : ∀ Z : List (List Nat), joinI Z ((b : Int) - 1) = if b = 0 then Z else joinM Z (b - 1) := fun Z => by
      unfold joinI
      by_cases c : b = 0
      · rw [if_pos (by omega), if_pos c]
      · rw [if_neg (by omega), if_neg c]; congr 1; omega
    rw [e2]
    by_cases c1 : b + 1 < Y.length ∧ ln Y b + ln Y (b + 1) ≤ 256
    · obtain ⟨zl, zn⟩ := joinM_ln c1.1 c1.2
      have s1 := hYo (b + 1) (by omega)
      have s2 := hN b (by omega)
      have hZ : Inv (joinM Y b) := by
        refine ⟨fun k hk => ?_, fun k => ?_, fun k hk => ?_⟩
        · rw [zn]; split
          · rw [hYo k (by omega)]; exact hP k (by omega)
          · split
            · omega
            · rw [hYo (k + 1) (by omega)]; exact hP (k + 1) (by omega)
        · rw [zn]; split
          · rw [hYo k (by omega)]; exact hF k
          · split
            · omega
            · rw [hYo (k + 1) (by omega)]; exact hF (k + 1)
        · rw [zn, zn]
          by_cases d1 : k + 1 < b
          · rw [if_pos (by omega), if_pos d1, hYo k (by omega), hYo (k + 1) (by omega)]; exact hN k (by omega)
          · by_cases d2 : k + 1 = b
            · rw [if_pos (by omega), if_neg (by omega), if_pos d2, hYo k (by omega)]
              have := hP k (by omega)
              omega
            · by_cases d3 : k = b
              · rw [if_neg (by omega), if_pos d3, if_neg (by omega), if_neg (by omega), hYo (k + 1 + 1) (by omega)]
                have := hP (k + 1 + 1) (by omega)
                omega
              · rw [if_neg (by omega), if_neg d3, if_neg (by omega), if_neg (by omega), hYo (k + 1) (by omega), hYo (k + 1 + 1) (by omega)]
                exact hN (k + 1) (by omega)
      split
      · exact hZ
      · rw [joinM_no]
        · exact hZ
        · by_cases d : b - 1 + 1 < (joinM Y b).length
          · right; exact hZ.nbr _ d
          · left; omega
    · rw [joinM_no (by omega : Y.length ≤ b + 1 ∨ 256 < ln Y b + ln Y (b + 1))]
      have hYP : Pos Y := fun k hk => by rw [hYn]; split; omega; exact hP k (by omega)
      have hYF : Fit Y := fun k => by rw [hYn]; split; have := hF b; omega; exact hF k
      split
      · rename_i c0
        refine ⟨hYP, hYF, fun k hk => ?_⟩
        by_cases d : k = b
        · subst d; omega
        · rw [hYo k d, hYo (k + 1) (by omega)]; exact hN k (by omega)
      · rename_i c0
        have s0 := hYo (b - 1) (by omega)
        have s2 := hN (b - 1) (by omega)
        have eb : b - 1 + 1 = b := by omega
        rw [eb] at s2
        by_cases c2 : ln Y (b - 1) + ln Y b ≤ 256
        · have c2' : ln Y (b - 1) + ln Y (b - 1 + 1) ≤ 256 := by rw [eb]; exact c2
          obtain ⟨zl, zn⟩ := joinM_ln (by omega : b - 1 + 1 < Y.length) c2'
          rw [eb] at zn
          refine ⟨fun k hk => ?_, fun k => ?_, fun k hk => ?_⟩
          · rw [zn]; split
            · exact hYP k (by omega)
            · split
              · omega
              · exact hYP (k + 1) (by omega)
          · rw [zn]; split
            · exact hYF k
            · split
              · omega
              · exact hYF (k + 1)
          · rw [zn, zn]
            by_cases d1 : k + 1 < b - 1
            · rw [if_pos (by omega), if_pos d1, hYo k (by omega), hYo (k + 1) (by omega)]; exact hN k (by omega)
            · by_cases d2 : k + 1 = b - 1
              · rw [if_pos (by omega), if_neg (by omega), if_pos d2]
                have := hYP k (by omega)
                omega
              · by_cases d3 : k = b - 1
                · rw [if_neg (by omega), if_pos d3, if_neg (by omega), if_neg (by omega)]
                  have := hYP (k + 1 + 1) (by omega)
                  omega
                · rw [if_neg (by omega), if_neg d3, if_neg (by omega), if_neg (by omega), hYo (k + 1) (by omega), hYo (k + 1 + 1) (by omega)]
                  exact hN (k + 1) (by omega)
        · rw [joinM_no (by rw [eb]; omega)]
          refine ⟨hYP, hYF, fun k hk => ?_⟩
          by_cases d : k = b
          · subst d; omega
          · by_cases d' : k + 1 = b
            · rw [d', show k = b - 1 by omega]; omega
            · rw [hYo k d, hYo (k + 1) d']; exact hN k (by omega)

/-! ### add -/
theorem addAt_lt {X : List (List Nat)} {b i : Nat} (h0 : X ≠ []) (hb : b ≤ X.length) : (addAt X b i).1 < X.length := by
  have := List.length_pos_iff.2 h0
  unfold addAt; split
  · show b - 1 < _; omega
  · show b < _; omega

theorem addM_inv {X : List (List Nat)} {b0 i0 m : Nat} (h : Inv X) (hb0 : b0 ≤ X.length) : Inv (addM X b0 i0 m) := by
  unfold addM
  split
  · refine ⟨fun k hk => ?_, fun k => ?_, fun k hk => ?_⟩
    · simp at hk; subst hk; simp [ln]
    · unfold ln; cases k <;> simp
    · simp at hk
  · rename_i h0
    have hb := addAt_lt (i := i0) h0 hb0
    simp only []
    generalize (addAt X b0 i0).1 = b at *
    generalize (addAt X b0 i0).2 = i at *
    have hxb : X.getD b [] = X[b] := by rw [List.getD_eq_getElem?_getD, List.getElem?_eq_getElem hb]; rfl
    have hlb : ln X b = X[b].length := ln_some (List.getElem?_eq_getElem hb)
    rw [hxb]
    have hP := h.pos
    have hF := h.fit
    have hN := h.nbr
    obtain ⟨x, hx⟩ : ∃ x, x = X[b].take i ++ m :: X[b].drop i := ⟨_, rfl⟩
    have hxl : x.length = ln X b + 1 := by rw [hx, hlb]; simp; omega
    rw [← hx]
    split
    · rename_i hle
      refine ⟨fun k hk => ?_, fun k => ?_, fun k hk => ?_⟩
      · rw [set_ln _ _ _ _ hb]; split
        · omega
        · rw [List.length_set] at hk; exact hP k hk
      · rw [set_ln _ _ _ _ hb]; split
        · omega
        · exact hF k
      · rw [List.length_set] at hk
        have := hN k hk
        rw [set_ln _ _ _ _ hb, set_ln _ _ _ _ hb]
        split
        · rename_i e; subst e; rw [if_neg (by omega)]; omega
        · split
          · rename_i e1 e; rw [e] at this; omega
          · exact this
    · rename_i hgt
      have hx257 : x.length = 257 := by have := hF b; omega
      have hlb256 : ln X b = 256 := by omega
      rw [hx257]
      obtain ⟨Y, hY⟩ : ∃ Y, Y = X.take b ++ x.take (257 / 2) :: x.drop (257 / 2) :: X.drop (b + 1) := ⟨_, rfl⟩
      rw [← hY]
      have hYl : Y.length = X.length + 1 := by rw [hY]; simp; omega
      have hYn : ∀ k, ln Y k = if k < b then ln X k else if k = b then 128 else if k = b + 1 then 129 else ln X (k - 1) := fun k => by
        have hl : (X.take b).length = b := by simp; omega
        rw [hY]; unfold ln
        by_cases c1 : k < b
        · rw [if_pos c1, List.getElem?_append_left (by omega), List.getElem?_take, if_pos c1]
        · rw [if_neg c1, List.getElem?_append_right (by omega), hl]
          by_cases c2 : k = b
          · rw [if_pos c2, c2, Nat.sub_self]; simp [hx257]
          · rw [if_neg c2]
            by_cases c3 : k = b + 1
            · rw [if_pos c3, c3, show b + 1 - b = 0 + 1 by omega]; simp [hx257]
            · rw [if_neg c3, show k - b = (k - b - 2) + 1 + 1 by omega, List.getElem?_cons_succ, List.getElem?_cons_succ, List.getElem?_drop, show b + 1 + (k - b - 2) = k - 1 by omega]
      have hY1 : ln Y b = 128 := by rw [hYn, if_neg (by omega), if_pos rfl]
      have hY2 : ln Y (b + 1) = 129 := by rw [hYn, if_neg (by omega), if_neg (by omega), if_pos rfl]
      have hYa : ∀ k, k < b → ln Y k = ln X k := fun k hk => by rw [hYn, if_pos hk]
      have hYz : ∀ k, b + 1 < k → ln Y k = ln X (k - 1) := fun k hk => by rw [hYn, if_neg (by omega), if_neg (by omega), if_neg (by omega)]
      have hYP : Pos Y := fun k hk => by
        rw [hYn]; split
        · exact hP k (by omega)
        · split
          · omega
          · split
            · omega
            · exact hP (k - 1) (by omega)
      have hYF : Fit Y := fun k => by
        rw [hYn]; split
        · exact hF k
        · split
          · omega
          · split
            · omega
            · exact hF _
      have hYN : ∀ k, k + 1 < Y.length → k + 1 ≠ b → k ≠ b + 1 → 256 < ln Y k + ln Y (k + 1) := fun k hk d1 d2 => by
        by_cases c1 : k + 1 < b
        · rw [hYa k (by omega), hYa (k + 1) c1]; exact hN k (by omega)
        · by_cases c2 : k = b
          · subst c2; omega
          · rw [hYz k (by omega), hYz (k + 1) (by omega), show k + 1 - 1 = (k - 1) + 1 by omega]; exact hN (k - 1) (by omega)
      have e1 : joinI Y ((b : Int) + 1) = joinM Y (b + 1) := by unfold joinI; rw [if_neg (by omega)]; congr 1
      have e2 : ∀ Z : List (List Nat), joinI Z ((b : Int) - 1) = if b = 0 then Z else joinM Z (b - 1) := fun Z => by
        unfold joinI
        by_cases c : b = 0
        · rw [if_pos (by omega), if_pos c]
        · rw [if_neg (by omega), if_neg c]; congr 1; omega
      rw [e1, e2]
      -- behind the first join: all but (b-1, b) stand
      obtain ⟨Z, hZ⟩ : ∃ Z, Z = joinM Y (b + 1) := ⟨_, rfl⟩
      rw [← hZ]
      have key : Pos Z ∧ Fit Z ∧ b + 1 < Z.length ∧ (∀ k, k < b → ln Z k = ln X k) ∧ ln Z b = 128 ∧ 129 ≤ ln Z (b + 1) ∧ (∀ k, k + 1 < Z.length → k + 1 ≠ b → 256 < ln Z k + ln Z (k + 1)) := by
        by_cases c : b + 1 + 1 < Y.length ∧ ln Y (b + 1) + ln Y (b + 1 + 1) ≤ 256
        · obtain ⟨zl, zn⟩ := joinM_ln c.1 c.2
          rw [← hZ] at zl zn
          have p2 := hYP (b + 1 + 1) (by omega)
          refine ⟨fun k hk => ?_, fun k => ?_, by omega, fun k hk => ?_, ?_, ?_, fun k hk d1 => ?_⟩
          · rw [zn]; split
            · exact hYP k (by omega)
            · split
              · omega
              · exact hYP (k + 1) (by omega)
          · rw [zn]; split
            · exact hYF k
            · split
              · omega
              · exact hYF _
          · rw [zn, if_pos (by omega)]; exact hYa k hk
          · rw [zn, if_pos (by omega)]; exact hY1
          · rw [zn, if_neg (by omega), if_pos rfl]; omega
          · rw [zn, zn]
            by_cases c1 : k + 1 < b + 1
            · rw [if_pos (by omega), if_pos c1]; exact hYN k (by omega) d1 (by omega)
            · by_cases c2 : k = b
              · rw [if_pos (by omega), if_neg (by omega), if_pos (by omega), c2]; omega
              · by_cases c3 : k = b + 1
                · rw [if_neg (by omega), if_pos c3, if_neg (by omega), if_neg (by omega)]
                  have := hYN (k + 1) (by omega) (by omega) (by omega)
                  rw [c3] at this ⊢
                  omega
                · rw [if_neg (by omega), if_neg c3, if_neg (by omega), if_neg (by omega)]
                  exact hYN (k + 1) (by omega) (by omega) (by omega)
        · rw [joinM_no (by omega)] at hZ
          rw [hZ]
          refine ⟨hYP, hYF, by omega, hYa, hY1, by omega, fun k hk d1 => ?_⟩
          by_cases c1 : k = b + 1
          · subst c1; omega
          · exact hYN k hk d1 c1
      obtain ⟨zP, zF, zl, za, zb, zc, zN⟩ := key
      split
      · rename_i c0
        exact ⟨zP, zF, fun k hk => zN k hk (by omega)⟩
      · rename_i c0
        have eb : b - 1 + 1 = b := by omega
        by_cases c : ln Z (b - 1) + ln Z b ≤ 256
        · have c' : ln Z (b - 1) + ln Z (b - 1 + 1) ≤ 256 := by rw [eb]; exact c
          obtain ⟨ul, un⟩ := joinM_ln (by omega : b - 1 + 1 < Z.length) c'
          rw [eb] at un
          refine ⟨fun k hk => ?_, fun k => ?_, fun k hk => ?_⟩
          · rw [un]; split
            · exact zP k (by omega)
            · split
              · omega
              · exact zP (k + 1) (by omega)
          · rw [un]; split
            · exact zF k
            · split
              · omega
              · exact zF _
          · rw [un, un]
            by_cases c1 : k + 1 < b - 1
            · rw [if_pos (by omega), if_pos c1]; exact zN k (by omega) (by omega)
            · by_cases c2 : k + 1 = b - 1
              · rw [if_pos (by omega), if_neg (by omega), if_pos c2]
                have := zN k (by omega) (by omega)
                rw [c2] at this; omega
              · by_cases c3 : k = b - 1
                · rw [if_neg (by omega), if_pos c3, if_neg (by omega), if_neg (by omega)]
                  have h1 := zP (b - 1) (by omega)
                  have : k + 1 + 1 = b + 1 := by omega
                  rw [this]; omega
                · rw [if_neg (by omega), if_neg c3, if_neg (by omega), if_neg (by omega)]
                  exact zN (k + 1) (by omega) (by omega)
        · rw [joinM_no (by rw [eb]; omega)]
          refine ⟨zP, zF, fun k hk => ?_⟩
          by_cases c1 : k + 1 = b
          · rw [c1, show k = b - 1 by omega]; omega
          · exact zN k hk c1
end Go.Proofs.Ybulkbrdi
