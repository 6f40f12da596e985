/-
  b3388a: (*queue).add: a block that is full is split.
-/
import Derived.Test.YbulkbrdiAdd0
namespace Go.Proofs.Ybulkbrdi
open Go.RowKit
set_option linter.unusedVariables false
set_option linter.unusedSimpArgs false

/-- behind 'q.blocks = slices.Insert(q.blocks, b+1, slices.Clone(block[half:]))': the block has 257 messages, half is 128 -/
def SplitMid (w : World) (Q og g1 b n : Nat) (A ys tail' : List Value) (g' : Nat) (wc : World) : Prop :=
  ∃ g3 c3 t3 og' oc' tl', Blk wc Q 44 [.slice (some ⟨og', 0, none⟩) (n + 1) oc'] ∧
    Blk wc og' 25 (insL A (b + 1) (.slice (some ⟨g3, 0, none⟩) 129 c3) ++ tl') ∧ n + 1 + tl'.length = oc' ∧ oc' ≤ 9223372036854775807 ∧
    Blk wc g3 30 (ys.drop 128 ++ t3) ∧ 129 + t3.length = c3 ∧ c3 ≤ 9223372036854775807 ∧
    Blk wc g' 30 (ys ++ tail') ∧ (og' = og ∨ w.heap.size ≤ og') ∧ w.heap.size ≤ g3 ∧ g3 ≠ g' ∧ Fr (fun k => k = Q ∨ k = og ∨ k = g1) w wc

theorem splitMid_mk {w w2 w3 w5 : World} {Q og g1 b n g' g3 c3 og' oc' : Nat} {A ys tail' t3 tl' tail l1 : List Value} {lq : Value} {o : Obj}
    (hq : Blk w Q 44 [lq]) (hoA : Blk w og 25 (A ++ tail)) (hr1 : Blk w g1 30 l1)
    (hF2 : Fr (· = g1) (w.alloc o) w2) (hg' : g' = g1 ∨ g' = (w.alloc o).heap.size) (hB2 : Blk w2 g' 30 (ys ++ tail'))
    (hc3 : c3 ≤ 9223372036854775807) (hl3 : 129 + t3.length = c3) (hB3 : Blk w3 g3 30 (ys.drop 128 ++ t3)) (hg3 : w2.heap.size ≤ g3) (hb3 : Below w2.heap.size w2 w3)
    (hoc : oc' ≤ 9223372036854775807) (hl5 : n + 1 + tl'.length = oc') (hB5 : Blk w5 og' 25 (insL A (b + 1) (.slice (some ⟨g3, 0, none⟩) 129 c3) ++ tl'))
    (hog : og' = og ∨ og' = (w3.alloc (.cells #[.slice (some ⟨g3, 0, none⟩) 129 c3] 25)).heap.size) (hF5 : Fr (· = og) (w3.alloc (.cells #[.slice (some ⟨g3, 0, none⟩) 129 c3] 25)) w5) :
    SplitMid w Q og g1 b n A ys tail' g' (w5.setCell ⟨Q, 0, none⟩ (.slice (some ⟨og', 0, none⟩) (n + 1) oc')) := by
  have hQo := hq.ne hoA (by decide)
  have hQ1 := hq.ne hr1 (by decide)
  have ho1 := hoA.ne hr1 (by decide)
  have s1 : (w.alloc o).heap.size = w.heap.size + 1 := by simp
  have s2 := hF2.size
  have s3 := hb3.size
  have s5 : (w3.alloc (.cells #[.slice (some ⟨g3, 0, none⟩) 129 c3] 25)).heap.size = w3.heap.size + 1 := by simp
  have l0 := hq.lt
  have l1 := hoA.lt
  have l2 := hr1.lt
  have hg2 : g' < w2.heap.size := hB2.lt
  -- carried
  have q2 : Blk w2 Q 44 [lq] := (hq.alloc o).kept hF2 hQ1
  have o2 : Blk w2 og 25 (A ++ tail) := (hoA.alloc o).kept hF2 ho1
  have q3 := (q2.below hb3 q2.lt).alloc (.cells #[.slice (some ⟨g3, 0, none⟩) 129 c3] 25)
  have o3 := (o2.below hb3 o2.lt).alloc (.cells #[.slice (some ⟨g3, 0, none⟩) 129 c3] 25)
  have r3 := (hB2.below hb3 hg2).alloc (.cells #[.slice (some ⟨g3, 0, none⟩) 129 c3] 25)
  have g3' := hB3.alloc (.cells #[.slice (some ⟨g3, 0, none⟩) 129 c3] 25)
  have q5 := q3.kept hF5 hQo
  have r5 := r3.kept hF5 (fun e => o3.ne r3 (by decide) e.symm)
  have g5 := g3'.kept hF5 (fun e => o3.ne g3' (by decide) e.symm)
  have hQr : Q ≠ g' := q5.ne r5 (by decide)
  have hQg : Q ≠ g3 := q5.ne g5 (by decide)
  have hQo' : Q ≠ og' := q5.ne hB5 (by decide)
  have hF : Fr (fun k => k = Q ∨ k = og ∨ k = g1) w (w5.setCell ⟨Q, 0, none⟩ (.slice (some ⟨og', 0, none⟩) (n + 1) oc')) := by
    refine Fr.setCell ?_ (.inl (.inl rfl)) _
    have a1 : Fr (fun k => k = Q ∨ k = og ∨ k = g1) w w2 := Fr.trans ((Fr.refl _ w).alloc o) (hF2.mono (fun k _ hk => .inr (.inr hk)))
    have a2 : Fr (fun k => k = Q ∨ k = og ∨ k = g1) w (w3.alloc (.cells #[.slice (some ⟨g3, 0, none⟩) 129 c3] 25)) := (a1.trans (Fr.of_below hb3)).alloc _
    exact a2.trans (hF5.mono (fun k _ hk => .inr (.inl hk)))
  refine ⟨g3, c3, t3, og', oc', tl', ?_, hB5.setCell_other hQo' _, hl5, hoc, g5.setCell_other hQg _, hl3, hc3, r5.setCell_other hQr _, ?_, by omega, by omega, hF⟩
  · have := q5.setCell 0 (.slice (some ⟨og', 0, none⟩) (n + 1) oc')
    exact this
  · rcases hog with h | h
    · exact .inl h
    · right; omega

theorem set_insL (A : List Value) (b : Nat) (v u : Value) (h : b < A.length) : (insL A (b + 1) v).set b u = A.take b ++ u :: v :: A.drop (b + 1) := by
  unfold insL
  have e1 : A.take (b + 1) = A.take b ++ [A[b]] := by rw [List.take_succ_eq_append_getElem h]
  have hl : (A.take b).length = b := by simp; omega
  rw [e1, List.append_assoc, List.set_append_right _ _ (by omega), hl, Nat.sub_self]
  rfl

theorem split_one {α : Type} (L : List α) (b : Nat) (x : α) (hx : L[b]? = some x) : L = L.take b ++ x :: L.drop (b + 1) := by
  obtain ⟨h1, rfl⟩ := List.getElem?_eq_some_iff.1 hx
  rw [← List.drop_eq_getElem_cons h1, List.take_append_drop]

/-- the split, shut -/
theorem add_split {w wd W : World} {B Q og oc b i m g' c' : Nat} {t : Nat → Nat} {L : List Bk} {X : List (List Nat)} {bk : Bk} {tail' : List Value} (hB : B ≤ Q) (hms : ∀ x ∈ X, ∀ m ∈ x, MsgB w m (t m))
    (hq : Blk w Q 44 [.slice (some ⟨og, 0, none⟩) L.length oc]) (hr : Rows' w B og oc L) (hX : L.map Bk.ms = X) (hb : L[b]? = some bk) (hm : MsgB w m (t m)) (hn : bk.ms.length = 256)
    (hl : 257 + tail'.length = c') (hc : c' ≤ 9223372036854775807) (hg : g' = bk.g ∨ w.heap.size ≤ g')
    {g3 c3 og' oc' : Nat} {t3 tl' : List Value}
    (sq : Blk wd Q 44 [.slice (some ⟨og', 0, none⟩) (L.length + 1) oc']) (so : Blk wd og' 25 (insL (L.map Bk.sv) (b + 1) (.slice (some ⟨g3, 0, none⟩) 129 c3) ++ tl')) (sl : L.length + 1 + tl'.length = oc') (som : oc' ≤ 9223372036854775807)
    (s3 : Blk wd g3 30 ((insL (bk.ms.map ptr) i (ptr m)).drop 128 ++ t3)) (sl3 : 129 + t3.length = c3) (sc3 : c3 ≤ 9223372036854775807)
    (sr : Blk wd g' 30 (insL (bk.ms.map ptr) i (ptr m) ++ tail')) (sog : og' = og ∨ w.heap.size ≤ og') (sg3 : w.heap.size ≤ g3) (sne : g3 ≠ g') (sF : Fr (fun k => k = Q ∨ k = og ∨ k = bk.g) w wd)
    (hW : W = (wd.setCells g' 128 (List.replicate 129 (.pointer none))).drew.setCell ⟨og', b, none⟩ (.slice (some ⟨g', 0, none⟩) 128 c')) :
    Rep W B Q t (X.take b ++ (insN bk.ms i m).take 128 :: (insN bk.ms i m).drop 128 :: X.drop (b + 1)) ∧ FrQ B w W := by
  obtain ⟨tail, ho, hol, hom⟩ := hr.outer
  have hbm := List.mem_of_getElem? hb
  have hbl := (List.getElem?_eq_some_iff.1 hb).1
  obtain ⟨t1, r1, c1, M1⟩ := hr.inner bk hbm
  have hxm : bk.ms ∈ X := by rw [← hX]; exact List.mem_map.2 ⟨bk, hbm, rfl⟩
  have l0 := hq.lt
  have l1 := r1.lt
  have hys : (insL (bk.ms.map ptr) i (ptr m)).length = 257 := by rw [← insN_map, List.length_map, insN_length, hn]
  have hyn : (insN bk.ms i m).length = 257 := by rw [insN_length, hn]
  have n1 := so.ne sr (by decide)
  have n2 := so.ne s3 (by decide)
  have n3 := sq.ne sr (by decide)
  have n4 := sq.ne so (by decide)
  -- the blocks behind all
  have wq : Blk W Q 44 [.slice (some ⟨og', 0, none⟩) (L.length + 1) oc'] := by rw [hW]; exact (Blk.setCells_other (fun e => n3 e.symm) _ _ sq).drew.setCell_other (fun e => n4 e.symm) _
  have w3 : Blk W g3 30 ((insL (bk.ms.map ptr) i (ptr m)).drop 128 ++ t3) := by rw [hW]; exact (Blk.setCells_other (fun e => sne e.symm) _ _ s3).drew.setCell_other n2 _
  have wr : Blk W g' 30 ((insL (bk.ms.map ptr) i (ptr m)).take 128 ++ (List.replicate 129 (.pointer none) ++ tail')) := by
    have := (Blk.setCells (List.replicate 129 (.pointer none)) 128 sr).drew.setCell_other (p := ⟨og', b, none⟩) n1 (.slice (some ⟨g', 0, none⟩) 128 c')
    rw [over_eq _ _ _ (by simp [hys]), List.length_replicate, List.take_append_of_le_length (by omega), List.drop_append, List.drop_of_length_le (by omega : (insL (bk.ms.map ptr) i (ptr m)).length ≤ 128 + 129), hys, Nat.sub_self, List.nil_append, List.drop_zero, List.append_assoc] at this
    rw [hW]; exact this
  have wo : Blk W og' 25 ((L.map Bk.sv).take b ++ (.slice (some ⟨g', 0, none⟩) 128 c') :: (.slice (some ⟨g3, 0, none⟩) 129 c3) :: (L.map Bk.sv).drop (b + 1) ++ tl') := by
    have := (Blk.setCells_other (fun e => n1 e.symm) (List.replicate 129 (.pointer none)) 128 so).drew.setCell b (.slice (some ⟨g', 0, none⟩) 128 c')
    rw [List.set_append_left _ _ (by simp [insL]; omega), set_insL _ _ _ _ (by simpa using hbl)] at this
    rw [hW]; exact this
  have hF : Fr (fun k => k = Q ∨ k = og ∨ k = bk.g) w W := by
    rw [hW]
    refine Fr.setCell (Fr.drew (Fr.setCells ?_ _ _ sF)) ?_ _
    · rcases hg with h | h
      · exact .inl (.inr (.inr h))
      · exact .inr h
    · rcases sog with h | h
      · exact .inl (.inr (.inl h))
      · exact .inr h
  have hFQ : FrQ B w W := FrQ.of hF (fun k hk hS => by
    rcases hS with rfl | rfl | rfl
    · exact ⟨hB, _, .inr (.inr hq)⟩
    · exact ⟨hr.ogge, _, .inl ho⟩
    · exact ⟨hr.ge bk hbm, _, .inr (.inl r1)⟩)
  have hsp := split_one L b bk hb
  have hnd := hr.nodup
  rw [hsp] at hnd
  simp only [List.map_append, List.map_cons, List.nodup_append, List.nodup_cons, List.mem_map, List.mem_cons] at hnd
  have old : ∀ b' ∈ L, b'.g ≠ bk.g → b'.g ≠ g' ∧ b'.g ≠ g3 ∧ Inn W b' := fun b' hb' hne => by
    obtain ⟨tb, rb, _⟩ := hr.inner b' hb'
    have := rb.lt
    refine ⟨by rcases hg with h | h; rw [h]; exact hne; omega, by omega, ?_⟩
    refine (hr.inner b' hb').kept hF (fun hS => ?_)
    rcases hS with h | h | h
    · exact (hq.ne rb (by decide)) h.symm
    · exact (ho.ne rb (by decide)) h.symm
    · exact hne h
  have front : ∀ b' ∈ L.take b, b'.g ≠ bk.g := fun b' hb' e => hnd.2.2 b'.g ⟨b', hb', rfl⟩ bk.g (.inl rfl) e
  have back : ∀ b' ∈ L.drop (b + 1), b'.g ≠ bk.g := fun b' hb' e => hnd.2.1.1 ⟨b', hb', e⟩
  refine ⟨⟨hB, ?_, .inr ⟨og', oc', L.take b ++ ⟨g', c', (insN bk.ms i m).take 128⟩ :: ⟨g3, c3, (insN bk.ms i m).drop 128⟩ :: L.drop (b + 1), ?_, ?_, ?_⟩⟩, hFQ⟩
  · have key : ∀ k ∈ insN bk.ms i m, MsgB W k (t k) := fun k hk => by
      rcases insN_mem hk with h | h
      · rw [h]; exact hm.frq hFQ
      · exact (hms _ hxm k h).frq hFQ
    intro x hx k hk
    simp only [List.mem_append, List.mem_cons] at hx
    rcases hx with h | rfl | rfl | h
    · exact (hms x (List.mem_of_mem_take h) k hk).frq hFQ
    · exact key k (List.mem_of_mem_take hk)
    · exact key k (List.mem_of_mem_drop hk)
    · exact (hms x (List.mem_of_mem_drop h) k hk).frq hFQ
  · have : (L.take b ++ (⟨g', c', (insN bk.ms i m).take 128⟩ : Bk) :: ⟨g3, c3, (insN bk.ms i m).drop 128⟩ :: L.drop (b + 1)).length = L.length + 1 := by simp; omega
    rw [this]; exact wq
  · refine ⟨⟨tl', ?_, by simp; omega, som⟩, ?_, ?_, ?_, ?_⟩
    · have e : (L.take b ++ (⟨g', c', (insN bk.ms i m).take 128⟩ : Bk) :: ⟨g3, c3, (insN bk.ms i m).drop 128⟩ :: L.drop (b + 1)).map Bk.sv = (L.map Bk.sv).take b ++ (.slice (some ⟨g', 0, none⟩) 128 c') :: (.slice (some ⟨g3, 0, none⟩) 129 c3) :: (L.map Bk.sv).drop (b + 1) := by
        simp [Bk.sv, List.map_take, List.map_drop, hyn]
      rw [e]; exact wo
    · intro b' hb'
      simp only [List.mem_append, List.mem_cons] at hb'
      rcases hb' with h | rfl | rfl | h
      · exact (old b' (List.mem_of_mem_take h) (front b' h)).2.2
      · refine ⟨List.replicate 129 (.pointer none) ++ tail', ?_, by simp [hyn]; omega, hc⟩
        show Blk W g' 30 (((insN bk.ms i m).take 128).map ptr ++ _)
        rw [List.map_take, insN_map]; exact wr
      · refine ⟨t3, ?_, by simp [hyn]; omega, sc3⟩
        show Blk W g3 30 (((insN bk.ms i m).drop 128).map ptr ++ _)
        rw [List.map_drop, insN_map]; exact w3
      · exact (old b' (List.mem_of_mem_drop h) (back b' h)).2.2
    · simp only [List.map_append, List.map_cons, List.nodup_append, List.nodup_cons, List.mem_map, List.mem_cons]
      refine ⟨hnd.1, ⟨?_, ?_, hnd.2.1.2⟩, ?_⟩
      · rintro (h | ⟨b', hb', e⟩)
        · exact sne h.symm
        · exact (old b' (List.mem_of_mem_drop hb') (back b' hb')).1 e
      · rintro ⟨b', hb', e⟩
        exact (old b' (List.mem_of_mem_drop hb') (back b' hb')).2.1 e
      · rintro _ ⟨b', hb', rfl⟩ c hcm
        rcases hcm with rfl | rfl | ⟨b'', hb'', rfl⟩
        · exact (old b' (List.mem_of_mem_take hb') (front b' hb')).1
        · exact (old b' (List.mem_of_mem_take hb') (front b' hb')).2.1
        · exact hnd.2.2 b'.g ⟨b', hb', rfl⟩ _ (.inr ⟨b'', hb'', rfl⟩)
    · intro b' hb'
      simp only [List.mem_append, List.mem_cons] at hb'
      rcases hb' with h | rfl | rfl | h
      · exact hr.ge b' (List.mem_of_mem_take h)
      · show B ≤ g'
        have := hr.ge bk hbm
        rcases hg with h | h <;> omega
      · show B ≤ g3; omega
      · exact hr.ge b' (List.mem_of_mem_drop h)
    · have := hr.ogge
      rcases sog with h | h <;> omega
  · simp [← hX, List.map_take, List.map_drop]
end Go.Proofs.Ybulkbrdi
