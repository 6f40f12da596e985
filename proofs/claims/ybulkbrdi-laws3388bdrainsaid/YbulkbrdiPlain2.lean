/-
  b3388a: the plain law, on: which messages the blocks hold, in which order.
-/
import Derived.Test.YbulkbrdiPlain
namespace Go.Proofs.Ybulkbrdi
set_option linter.unusedVariables false
set_option linter.unusedSimpArgs false

theorem flat_at (X : List (List Nat)) (b : Nat) (x : List Nat) (h : X[b]? = some x) : X.flatten = (X.take b).flatten ++ x ++ (X.drop (b + 1)).flatten := by
  conv => lhs; rw [split_one X b x h]
  simp

theorem found_parts {t : Nat → Nat} {X : List (List Nat)} {y b i : Nat} (hs : Srt t X) (h : Found t X y b i false) : ∀ a ∈ X.flatten, t a ≠ y := by
  intro a ha
  by_cases hb : b = X.length
  · have h1 := h.before
    rw [hb, List.take_length] at h1
    obtain ⟨x, hx, hax⟩ := List.mem_flatten.1 ha
    have := h1 x hx a hax; omega
  · have hbl : b < X.length := by have := h.le; omega
    have hx : X[b]? = some X[b] := List.getElem?_eq_getElem hbl
    obtain ⟨hi, h1, h2, h3, h4⟩ := h.mid _ hx
    rw [flat_at X b _ hx, List.mem_append, List.mem_append] at ha
    rcases ha with (ha | ha) | ha
    · obtain ⟨x, hx', hax⟩ := List.mem_flatten.1 ha
      have := h.before x hx' a hax; omega
    · intro e
      obtain ⟨k, hk, rfl⟩ := List.getElem_of_mem ha
      rcases Nat.lt_trichotomy k i with c | c | c
      · have := h1 X[b][k] (by rw [List.mem_take_iff_getElem]; exact ⟨k, by omega, rfl⟩)
        omega
      · subst c
        exact absurd (h4.2 ⟨_, List.getElem?_eq_getElem hk, e⟩) (by simp)
      · have p := List.pairwise_iff_getElem.1 (hs.in (List.getElem_mem hbl)) i k hi hk c
        have := h2 X[b][i] (by rw [List.mem_drop_iff_getElem]; exact ⟨0, by omega, by simp⟩)
        omega
    · obtain ⟨x, hx', hax⟩ := List.mem_flatten.1 ha
      have := h3 x hx' a hax; omega

theorem rem_flat {t : Nat → Nat} {X : List (List Nat)} {y b i : Nat} (h : Found t X y b i true) :
    b < X.length ∧ i < ln X b ∧ ∃ pre a post, X.flatten = pre ++ a :: post ∧ t a = y ∧ (remM X b i).flatten = pre ++ post := by
  have hb : b < X.length := by
    rcases Nat.lt_or_ge b X.length with h' | h'
    · exact h'
    · exact absurd (h.last (by have := h.le; omega)).2 (by simp)
  have hx : X[b]? = some X[b] := List.getElem?_eq_getElem hb
  obtain ⟨hi, _, _, _, h4⟩ := h.mid _ hx
  obtain ⟨a, ha, hay⟩ := h4.1 rfl
  obtain ⟨_, rfl⟩ := List.getElem?_eq_some_iff.1 ha
  refine ⟨hb, by rw [ln_some hx]; exact hi, (X.take b).flatten ++ X[b].take i, X[b][i], X[b].drop (i + 1) ++ (X.drop (b + 1)).flatten, ?_, hay, ?_⟩
  · rw [flat_at X b _ hx]
    have e := split_one X[b] i X[b][i] (List.getElem?_eq_getElem hi)
    rw [List.append_assoc, List.append_assoc, ← List.cons_append, ← List.append_assoc (X[b].take i), ← e]
  · unfold remM
    simp only []
    rw [joinI_flat, joinI_flat]
    have hxb : X.getD b [] = X[b] := by rw [List.getD_eq_getElem?_getD, hx]; rfl
    rw [hxb]
    have e1 : (X.set b (X[b].eraseIdx i)).flatten = (X.take b).flatten ++ X[b].eraseIdx i ++ (X.drop (b + 1)).flatten := by
      rw [flat_at _ b (X[b].eraseIdx i) (by rw [List.getElem?_set_self hb]), List.take_set_of_le (Nat.le_refl _), List.drop_set_of_lt (by omega)]
    have e2 : X[b].eraseIdx i = X[b].take i ++ X[b].drop (i + 1) := List.eraseIdx_eq_take_drop_succ ..
    split
    · rename_i h1
      have h0 : X[b].eraseIdx i = [] := by
        apply List.eq_nil_of_length_eq_zero
        rw [List.length_eraseIdx, if_pos hi, h1]
      rw [e2] at h0
      obtain ⟨h5, h6⟩ := List.append_eq_nil_iff.1 h0
      rw [h5, h6, show (X.set b (X[b].eraseIdx i)).eraseIdx b = X.eraseIdx b from List.eraseIdx_set_eq, List.eraseIdx_eq_take_drop_succ]
      simp
    · rw [e1, e2]; simp

theorem add_flat {t : Nat → Nat} {X : List (List Nat)} {m b i : Nat} (hs : Srt t X) (h : Found t X (t m) b i false) :
    ∃ pre post, X.flatten = pre ++ post ∧ (addM X b i m).flatten = pre ++ m :: post ∧ (∀ a ∈ pre, t a < t m) ∧ (∀ a ∈ post, t m < t a) := by
  by_cases h0 : X = []
  · subst h0
    exact ⟨[], [], rfl, by simp [addM], by simp, by simp⟩
  have hne := found_parts hs h
  have hbl := addAt_lt (i := i) h0 h.le
  obtain ⟨b', eb⟩ : ∃ b', b' = (addAt X b i).1 := ⟨_, rfl⟩
  obtain ⟨i', ei⟩ : ∃ i', i' = (addAt X b i).2 := ⟨_, rfl⟩
  rw [← eb] at hbl
  have hx : X[b']? = some X[b'] := List.getElem?_eq_getElem hbl
  have hfl : X.flatten = ((X.take b').flatten ++ X[b'].take i') ++ (X[b'].drop i' ++ (X.drop (b' + 1)).flatten) := by
    rw [flat_at X b' _ hx, List.append_assoc, List.append_assoc, ← List.append_assoc (X[b'].take i'), List.take_append_drop]
  refine ⟨(X.take b').flatten ++ X[b'].take i', X[b'].drop i' ++ (X.drop (b' + 1)).flatten, hfl, ?_, ?_, ?_⟩
  · unfold addM
    rw [if_neg h0, ← eb, ← ei]
    simp only []
    have hxb : X.getD b' [] = X[b'] := by rw [List.getD_eq_getElem?_getD, hx]; rfl
    rw [hxb]
    split
    · rw [flat_at _ b' (X[b'].take i' ++ m :: X[b'].drop i') (by rw [List.getElem?_set_self hbl]), List.take_set_of_le (Nat.le_refl _), List.drop_set_of_lt (by omega)]
      simp
    · rw [joinI_flat, joinI_flat]
      generalize (X[b'].take i' ++ m :: X[b'].drop i').length / 2 = hf
      have e : (X[b'].take i' ++ m :: X[b'].drop i').take hf ++ (X[b'].take i' ++ m :: X[b'].drop i').drop hf = X[b'].take i' ++ m :: X[b'].drop i' := List.take_append_drop _ _
      rw [List.flatten_append, List.flatten_cons, List.flatten_cons, ← List.append_assoc (List.take hf _), e]
      simp
  · -- what stands before is smaller
    by_cases hb : b = X.length
    · have h1 := h.before
      rw [hb, List.take_length] at h1
      intro a ha
      have : a ∈ X.flatten := by rw [hfl]; exact List.mem_append_left _ ha
      obtain ⟨x, hx', hax⟩ := List.mem_flatten.1 this
      exact h1 x hx' a hax
    · have e1 : b' = b := by rw [eb]; unfold addAt; rw [if_neg hb]
      have e2 : i' = i := by rw [ei]; unfold addAt; rw [if_neg hb]
      subst e1; subst e2
      obtain ⟨hi, h1, h2, h3, h4⟩ := h.mid _ hx
      intro a ha
      rcases List.mem_append.1 ha with ha | ha
      · obtain ⟨x, hx', hax⟩ := List.mem_flatten.1 ha
        exact h.before x hx' a hax
      · exact h1 a ha
  · by_cases hb : b = X.length
    · have e1 : b' = X.length - 1 := by rw [eb]; unfold addAt; rw [if_pos hb, hb]
      have e2 : i' = X[b'].length := by
        rw [ei]; unfold addAt; rw [if_pos hb]
        show (X.getD (b - 1) []).length = _
        rw [show b - 1 = b' by omega, List.getD_eq_getElem?_getD, hx]; rfl
      intro a ha
      rw [e2, List.drop_length, List.nil_append, List.drop_of_length_le (by omega)] at ha
      simp at ha
    · have e1 : b' = b := by rw [eb]; unfold addAt; rw [if_neg hb]
      have e2 : i' = i := by rw [ei]; unfold addAt; rw [if_neg hb]
      subst e1; subst e2
      obtain ⟨hi, h1, h2, h3, h4⟩ := h.mid _ hx
      intro a ha
      have h5 : t a ≠ t m := hne a (by rw [hfl]; exact List.mem_append_right _ ha)
      rcases List.mem_append.1 ha with ha | ha
      · have := h2 a ha; omega
      · obtain ⟨x, hx', hax⟩ := List.mem_flatten.1 ha
        exact h3 x hx' a hax

/-! ### the messages with timestamps 2k: 'P k': message k is held; 'M k': its heap block -/
/-- The queue holds just the messages M k with P k, k below count, in order. -/
def Holds (M : Nat → Nat) (count : Nat) (P : Nat → Bool) (X : List (List Nat)) : Prop := X.flatten = ((List.range count).filter P).map M

theorem sorted_range (n : Nat) (P : Nat → Bool) : ((List.range n).filter P).Pairwise (· < ·) := (List.pairwise_lt_range).filter _

theorem holds_srt {M : Nat → Nat} {count : Nat} {P : Nat → Bool} {X : List (List Nat)} {t : Nat → Nat} (hM : ∀ k, k < count → t (M k) = 2 * k) (h : Holds M count P X) (hp : Pos X) : Srt t X := by
  refine ⟨ne_of_pos hp, ?_⟩
  rw [h, List.pairwise_map]
  refine (sorted_range count P).imp_of_mem ?_
  intro a b ha hb hab
  have h1 := List.mem_range.1 (List.mem_filter.1 ha).1
  have h2 := List.mem_range.1 (List.mem_filter.1 hb).1
  rw [hM a h1, hM b h2]; omega

theorem uniq {l l' : List Nat} (h1 : l.Pairwise (· < ·)) (h2 : l'.Pairwise (· < ·)) (h : ∀ a, a ∈ l ↔ a ∈ l') : l = l' := by
  induction l generalizing l' with
  | nil =>
    cases l' with
    | nil => rfl
    | cons b r => exact absurd ((h b).2 List.mem_cons_self) (by simp)
  | cons a r ih =>
    cases l' with
    | nil => exact absurd ((h a).1 List.mem_cons_self) (by simp)
    | cons b s =>
      rw [List.pairwise_cons] at h1 h2
      have hab : a = b := by
        have h3 := (h a).1 List.mem_cons_self
        have h4 := (h b).2 List.mem_cons_self
        rcases List.mem_cons.1 h3 with h3 | h3
        · exact h3
        · rcases List.mem_cons.1 h4 with h4 | h4
          · exact h4.symm
          · have := h1.1 b h4
            have := h2.1 a h3
            omega
      subst hab
      congr 1
      refine ih h1.2 h2.2 (fun c => ?_)
      have := h c
      constructor
      · intro hc
        rcases List.mem_cons.1 (this.1 (List.mem_cons_of_mem _ hc)) with e | e
        · have := h1.1 c hc; omega
        · exact e
      · intro hc
        rcases List.mem_cons.1 (this.2 (List.mem_cons_of_mem _ hc)) with e | e
        · have := h2.1 c hc; omega
        · exact e

/-- message k added -/
def addP (P : Nat → Bool) (k : Nat) : Nat → Bool := fun j => P j || j == k
/-- the message with timestamp y removed -/
def remP (P : Nat → Bool) (y : Nat) : Nat → Bool := fun j => P j && !(2 * j == y)

theorem mem_fr {n : Nat} {P : Nat → Bool} {a : Nat} : a ∈ (List.range n).filter P ↔ a < n ∧ P a = true := by
  rw [List.mem_filter, List.mem_range]

theorem holds_add {M : Nat → Nat} {count k : Nat} {P : Nat → Bool} {X : List (List Nat)} {t : Nat → Nat} {b i : Nat} (hM : ∀ k, k < count → t (M k) = 2 * k) (h : Holds M count P X) (hp : Pos X) (hk : k < count)
    (hf : Found t X (t (M k)) b i false) : Holds M count (addP P k) (addM X b i (M k)) := by
  obtain ⟨pre, post, e1, e2, h1, h2⟩ := add_flat (holds_srt hM h hp) hf
  unfold Holds at h ⊢
  rw [h] at e1
  obtain ⟨l1, l2, hl, rfl, rfl⟩ := List.map_eq_append_iff.1 e1
  rw [e2, show l1.map M ++ M k :: l2.map M = (l1 ++ k :: l2).map M by simp]
  congr 1
  have hsrt := sorted_range count P
  have hmem : ∀ a, a ∈ l1 ++ l2 ↔ a < count ∧ P a = true := fun a => by rw [← hl]; exact mem_fr
  rw [hl, List.pairwise_append] at hsrt
  refine uniq ?_ (sorted_range _ _) (fun a => ?_)
  · rw [List.pairwise_append, List.pairwise_cons]
    have a1 : ∀ a ∈ l1, a < k := fun a ha => by
      have := h1 (M a) (List.mem_map.2 ⟨a, ha, rfl⟩)
      rw [hM a ((hmem a).1 (List.mem_append_left _ ha)).1, hM k hk] at this; omega
    have a2 : ∀ a ∈ l2, k < a := fun a ha => by
      have := h2 (M a) (List.mem_map.2 ⟨a, ha, rfl⟩)
      rw [hM a ((hmem a).1 (List.mem_append_right _ ha)).1, hM k hk] at this; omega
    refine ⟨hsrt.1, ⟨a2, hsrt.2.1⟩, fun a ha c hc => ?_⟩
    rcases List.mem_cons.1 hc with rfl | hc
    · exact a1 a ha
    · exact hsrt.2.2 a ha c hc
  · rw [mem_fr]
    have := hmem a
    rw [List.mem_append] at this
    simp only [List.mem_append, List.mem_cons, addP, Bool.or_eq_true, beq_iff_eq]
    constructor
    · rintro (ha | rfl | ha)
      · have := this.1 (.inl ha); exact ⟨this.1, .inl this.2⟩
      · exact ⟨hk, .inr rfl⟩
      · have := this.1 (.inr ha); exact ⟨this.1, .inl this.2⟩
    · rintro ⟨ha, hP | rfl⟩
      · rcases this.2 ⟨ha, hP⟩ with h | h
        · exact .inl h
        · exact .inr (.inr h)
      · exact .inr (.inl rfl)

theorem holds_rem_no {M : Nat → Nat} {count y : Nat} {P : Nat → Bool} {X : List (List Nat)} {t : Nat → Nat} {b i : Nat} (hM : ∀ k, k < count → t (M k) = 2 * k) (h : Holds M count P X) (hp : Pos X)
    (hf : Found t X y b i false) : Holds M count (remP P y) X := by
  have hne := found_parts (holds_srt hM h hp) hf
  unfold Holds at h ⊢
  rw [h]
  congr 1
  apply List.filter_congr
  intro a ha
  have hac := List.mem_range.1 ha
  unfold remP
  cases hP : P a with
  | false => rfl
  | true =>
    have := hne (M a) (by rw [h]; exact List.mem_map.2 ⟨a, mem_fr.2 ⟨hac, hP⟩, rfl⟩)
    rw [hM a hac] at this
    simp [this]

theorem holds_rem_yes {M : Nat → Nat} {count y : Nat} {P : Nat → Bool} {X : List (List Nat)} {t : Nat → Nat} {b i : Nat} (hM : ∀ k, k < count → t (M k) = 2 * k) (h : Holds M count P X)
    (hf : Found t X y b i true) : Holds M count (remP P y) (remM X b i) := by
  obtain ⟨_, _, pre, a, post, e1, hy, e2⟩ := rem_flat hf
  unfold Holds at h ⊢
  rw [h] at e1
  obtain ⟨l1, l2, hl, rfl, h2⟩ := List.map_eq_append_iff.1 e1
  obtain ⟨k, l3, rfl, rfl, rfl⟩ := List.map_eq_cons_iff.1 h2
  rw [e2, ← List.map_append]
  congr 1
  have hsrt := sorted_range count P
  have hmem : ∀ a, a ∈ l1 ++ k :: l3 ↔ a < count ∧ P a = true := fun a => by rw [← hl]; exact mem_fr
  have hk := (hmem k).1 (by simp)
  have hyk : y = 2 * k := by rw [← hy, hM k hk.1]
  rw [hl] at hsrt
  have hsub : (l1 ++ l3).Sublist (l1 ++ k :: l3) := (List.Sublist.refl l1).append (List.sublist_cons_self k l3)
  have hsrt2 := hsrt
  rw [List.pairwise_append, List.pairwise_cons] at hsrt2
  refine uniq (hsrt.sublist hsub) (sorted_range _ _) (fun c => ?_)
  rw [mem_fr]
  have := hmem c
  simp only [List.mem_append, List.mem_cons] at this ⊢
  unfold remP
  rw [Bool.and_eq_true, Bool.not_eq_true', beq_eq_false_iff_ne]
  constructor
  · rintro (hc | hc)
    · have h3 := this.1 (.inl hc)
      have h4 := hsrt2.2.2 c hc k (List.mem_cons_self)
      exact ⟨h3.1, h3.2, by omega⟩
    · have h3 := this.1 (.inr (.inr hc))
      have h4 := hsrt2.2.1.1 c hc
      exact ⟨h3.1, h3.2, by omega⟩
  · rintro ⟨hc, hP, hne⟩
    rcases this.2 ⟨hc, hP⟩ with h | h | h
    · exact .inl h
    · omega
    · exact .inr h
end Go.Proofs.Ybulkbrdi
