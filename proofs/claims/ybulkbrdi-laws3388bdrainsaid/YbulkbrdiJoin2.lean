/-
  b3388a: (*queue).join, on a queue as it lies.
-/
import Derived.Test.YbulkbrdiJoin
namespace Go.Proofs.Ybulkbrdi
open Go.RowKit
set_option linter.unusedVariables false
set_option linter.unusedSimpArgs false

/-- what join makes of the blocks -/
def joinM (X : List (List Nat)) (b : Nat) : List (List Nat) :=
  match X[b]?, X[b + 1]? with
  | some x, some y => if x.length + y.length ≤ 256 then X.take b ++ (x ++ y) :: X.drop (b + 2) else X
  | _, _ => X
/-- .. at whatever number, -1 too -/
def joinI (X : List (List Nat)) (b : Int) : List (List Nat) := if b < 0 then X else joinM X b.toNat

theorem ptr_one (l : List Nat) : ∀ u ∈ l.map ptr, u.oneCell' = true := by
  intro u hu; obtain ⟨m, _, rfl⟩ := List.mem_map.1 hu; rfl
theorem sv_one (l : List Bk) : ∀ u ∈ l.map Bk.sv, u.oneCell' = true := by
  intro u hu; obtain ⟨m, _, rfl⟩ := List.mem_map.1 hu; rfl

theorem Blk.ty {w : World} {g e e' : Nat} {l l' : List Value} (h : Blk w g e l) (h' : Blk w g e' l') : e = e' := by
  unfold Blk at h h'; rw [h] at h'; simp at h'; exact h'.2
theorem Blk.ne {w : World} {g g' e e' : Nat} {l l' : List Value} (h : Blk w g e l) (h' : Blk w g' e' l') (hne : e ≠ e') : g ≠ g' := by
  intro he; subst he; exact hne (h.ty h')

/-- a list cut at two neighbours -/
theorem split_two {α : Type} (L : List α) (b : Nat) (x y : α) (hx : L[b]? = some x) (hy : L[b + 1]? = some y) : L = L.take b ++ x :: y :: L.drop (b + 2) := by
  obtain ⟨h1, rfl⟩ := List.getElem?_eq_some_iff.1 hx
  obtain ⟨h2, rfl⟩ := List.getElem?_eq_some_iff.1 hy
  rw [← List.drop_eq_getElem_cons h2, ← List.drop_eq_getElem_cons h1, List.take_append_drop]

theorem delL_join (A : List Value) (b : Nat) (v z : Value) (h : b + 1 < A.length) : delL (A.set b v) (b + 1) z = A.take b ++ v :: A.drop (b + 2) ++ [z] := by
  unfold delL
  have e1 : (A.set b v).take (b + 1) = A.take b ++ [v] := by
    rw [List.take_succ_eq_append_getElem (by simp; omega)]
    simp [List.take_set_of_le]
  have e2 : (A.set b v).drop (b + 1 + 1) = A.drop (b + 2) := by
    rw [List.drop_set_of_lt (by omega)]
  rw [e1, e2]; simp

theorem join_any (B Q : Nat) (t : Nat → Nat) (X : List (List Nat)) (b : Int) (w : World) (hR : Rep w B Q t X) (hne : ∀ x ∈ X, x ≠ []) (hsm : Small X) (hb1 : -1 ≤ b) (hb2 : b ≤ 100000) :
    Calls Yba.prog 14 #[.pointer (some ⟨Q, 0, none⟩), .int .i64 b] w fun e w' => e = .returned (.tuple #[]) ∧ Rep w' B Q t (joinI X b) ∧ FrQ B w w' := by
  by_cases hbn : b < 0
  · refine (join_neg Q b w hbn).mono ?_
    rintro e w' ⟨rfl, hb⟩
    refine ⟨rfl, ?_, FrQ.of_below hb⟩
    unfold joinI; rw [if_pos hbn]; exact hR.below hb
  obtain ⟨k, rfl⟩ := Int.eq_ofNat_of_zero_le (by omega : 0 ≤ b)
  have ej : joinI X (k : Int) = joinM X k := by unfold joinI; rw [if_neg hbn]; rfl
  rw [ej]
  have hR0 := hR
  obtain ⟨hB, hms, ⟨rfl, hq⟩ | ⟨og, oc, L, hq, hr, hX⟩⟩ := hR
  · refine (join_past Q 0 0 none k w (by rw [hq.cell]; rfl) (by omega) (by omega)).mono ?_
    rintro e w' ⟨rfl, hb⟩
    exact ⟨rfl, hR0.below hb, FrQ.of_below hb⟩
  have hlen : L.length = X.length := by rw [← hX]; simp
  have hqc : w.cell? ⟨Q, 0, none⟩ = some (.slice (some ⟨og, 0, none⟩) L.length oc) := by rw [hq.cell]; rfl
  by_cases hpast : L.length ≤ k + 1
  · refine (join_past Q L.length oc _ k w hqc hpast (by omega)).mono ?_
    rintro e w' ⟨rfl, hb⟩
    have : joinM X k = X := by
      unfold joinM
      rw [List.getElem?_eq_none (by omega : X.length ≤ k + 1)]
      split
      · rename_i h; cases h
      · rfl
    rw [this]
    exact ⟨rfl, hR0.below hb, FrQ.of_below hb⟩
  have h1 : L[k]? = some L[k] := List.getElem?_eq_getElem (by omega)
  have h2 : L[k + 1]? = some L[k + 1] := List.getElem?_eq_getElem (by omega)
  obtain ⟨b1, e1⟩ : ∃ b1, b1 = L[k] := ⟨_, rfl⟩
  obtain ⟨b2, e2⟩ : ∃ b2, b2 = L[k + 1] := ⟨_, rfl⟩
  rw [← e1] at h1; rw [← e2] at h2
  have x1 : X[k]? = some b1.ms := by rw [← hX, List.getElem?_map, h1]; rfl
  have x2 : X[k + 1]? = some b2.ms := by rw [← hX, List.getElem?_map, h2]; rfl
  have m1 := List.mem_of_getElem? x1
  have m2 := List.mem_of_getElem? x2
  have hn1 := hsm.2 _ m1
  have hn2 := hsm.2 _ m2
  have hN := hsm.1
  by_cases hbig : 256 < b1.ms.length + b2.ms.length
  · refine (join_big Q L.length oc og k b1.ms.length b1.cap b2.ms.length b2.cap _ _ w hqc (by omega) (by omega) (hr.cell h1) (hr.cell h2) hbig (by omega) (by omega)).mono ?_
    rintro e w' ⟨rfl, hb⟩
    have : joinM X k = X := by unfold joinM; rw [x1, x2]; simp only []; rw [if_neg (by omega)]
    rw [this]
    exact ⟨rfl, hR0.below hb, FrQ.of_below hb⟩
  · obtain ⟨tail, ho, hoc, hom⟩ := hr.outer
    have l1 := List.mem_of_getElem? h1
    have l2 := List.mem_of_getElem? h2
    obtain ⟨t1, r1, c1, M1⟩ := hr.inner b1 l1
    obtain ⟨t2, r2, c2, M2⟩ := hr.inner b2 l2
    have hsplit := split_two L k b1 b2 h1 h2
    have hnd := hr.nodup
    have hg12 : b1.g ≠ b2.g := by
      rw [hsplit] at hnd
      simp [List.nodup_append] at hnd
      exact fun e => hnd.2.1.1.1 e
    have hA1 : (L.map Bk.sv)[k]? = some (.slice (some ⟨b1.g, 0, none⟩) b1.ms.length b1.cap) := by rw [List.getElem?_map, h1]; rfl
    have hA2 : (L.map Bk.sv)[k + 1]? = some (.slice (some ⟨b2.g, 0, none⟩) b2.ms.length b2.cap) := by rw [List.getElem?_map, h2]; rfl
    refine (join_low Q L.length oc og k b1.g b1.ms.length b1.cap b2.g b2.ms.length b2.cap (L.map Bk.sv) tail (b1.ms.map ptr) t1 (b2.ms.map ptr) t2 w hq ho (by simp) hoc hom (by omega) (by omega) hA1 hA2 (by omega)
      (List.length_pos_iff.2 (hne _ m2)) r1 (by simp) c1 M1 r2 (by simp) (ptr_one _) (sv_one _) hg12).mono ?_
    rintro e w' ⟨rfl, g', c', tl, wq, wo, wr, wl, wm, wg, wf⟩
    have hXj : joinM X k = X.take k ++ (b1.ms ++ b2.ms) :: X.drop (k + 2) := by unfold joinM; rw [x1, x2]; simp only []; rw [if_pos (by omega)]
    -- the untouched rows
    have keep : ∀ b ∈ L, b.g ≠ b1.g → Inn w' b := fun b hb hne => by
      refine (hr.inner b hb).kept wf (fun hS => ?_)
      obtain ⟨tb, rb, _⟩ := hr.inner b hb
      rcases hS with h | h | h
      · exact (hq.ne rb (by decide)) h.symm
      · exact (ho.ne rb (by decide)) h.symm
      · exact hne h
    have hFQ : FrQ B w w' := FrQ.of wf (fun j hj hS => by
      rcases hS with rfl | rfl | rfl
      · exact ⟨hB, _, .inr (.inr hq)⟩
      · exact ⟨hr.ogge, _, .inl ho⟩
      · exact ⟨hr.ge b1 l1, _, .inr (.inl r1)⟩)
    rw [hXj]
    refine ⟨rfl, ⟨hB, ?_, .inr ⟨og, oc, L.take k ++ ⟨g', c', b1.ms ++ b2.ms⟩ :: L.drop (k + 2), ?_, ?_, ?_⟩⟩, hFQ⟩
    · intro x hx m hm
      have : ∃ x' ∈ X, m ∈ x' := by
        simp only [List.mem_append, List.mem_cons] at hx
        rcases hx with h | rfl | h
        · exact ⟨x, List.mem_of_mem_take h, hm⟩
        · rcases List.mem_append.1 hm with h | h
          · exact ⟨_, m1, h⟩
          · exact ⟨_, m2, h⟩
        · exact ⟨x, List.mem_of_mem_drop h, hm⟩
      obtain ⟨x', hx', hm'⟩ := this
      exact (hms x' hx' m hm').frq hFQ
    · have : (L.take k ++ (⟨g', c', b1.ms ++ b2.ms⟩ : Bk) :: L.drop (k + 2)).length = L.length - 1 := by simp; omega
      rw [this]; exact wq
    · have hl : L.length = (L.take k ++ (⟨g', c', b1.ms ++ b2.ms⟩ : Bk) :: L.drop (k + 2)).length + 1 := by simp; omega
      constructor
      · refine ⟨[.slice none 0 0] ++ tail, ?_, ?_, hom⟩
        · rw [delL_join _ _ _ _ (by simp; omega)] at wo
          have : (L.take k ++ (⟨g', c', b1.ms ++ b2.ms⟩ : Bk) :: L.drop (k + 2)).map Bk.sv ++ ([.slice none 0 0] ++ tail) = (L.map Bk.sv).take k ++ (.slice (some ⟨g', 0, none⟩) (b1.ms.length + b2.ms.length) c') :: (L.map Bk.sv).drop (k + 2) ++ [.slice none 0 0] ++ tail := by
            simp [Bk.sv, List.map_take, List.map_drop]
          rw [this]; exact wo
        · simp at hl ⊢; omega
      · intro b hb
        simp only [List.mem_append, List.mem_cons] at hb
        have hnd' := hnd
        rw [hsplit] at hnd'
        simp only [List.map_append, List.map_cons, List.nodup_append, List.nodup_cons, List.mem_map, List.mem_cons] at hnd'
        rcases hb with h | rfl | h
        · refine keep b (List.mem_of_mem_take h) (fun e => ?_)
          exact hnd'.2.2 b.g ⟨b, h, rfl⟩ b1.g (.inl rfl) e
        · refine ⟨tl, ?_, by simp; omega, wm⟩
          simpa using wr
        · refine keep b (List.mem_of_mem_drop h) (fun e => ?_)
          exact hnd'.2.1.1 (.inr ⟨b, h, e⟩)
      · have hnd' := hnd
        rw [hsplit] at hnd'
        simp only [List.map_append, List.map_cons, List.nodup_append, List.nodup_cons, List.mem_map, List.mem_cons] at hnd' ⊢
        have new : ∀ b ∈ L, b.g ≠ b1.g → b.g ≠ g' := fun b hb hn => by
          have := (hr.inner b hb).lt
          rcases wg with h | h
          · rw [h]; exact hn
          · omega
        refine ⟨hnd'.1, ⟨?_, hnd'.2.1.2.2⟩, ?_⟩
        · rintro ⟨b, hb, e⟩
          exact new b (List.mem_of_mem_drop hb) (fun e' => hnd'.2.1.1 (.inr ⟨b, hb, e'⟩)) e
        · rintro _ ⟨b, hb, rfl⟩ c hc
          rcases hc with rfl | ⟨b', hb', rfl⟩
          · exact new b (List.mem_of_mem_take hb) (hnd'.2.2 b.g ⟨b, hb, rfl⟩ b1.g (.inl rfl))
          · exact hnd'.2.2 b.g ⟨b, hb, rfl⟩ _ (.inr (.inr ⟨b', hb', rfl⟩))
      · intro b hb
        simp only [List.mem_append, List.mem_cons] at hb
        rcases hb with h | rfl | h
        · exact hr.ge b (List.mem_of_mem_take h)
        · have := hr.ge b1 l1
          have h0 : B ≤ w.heap.size := Nat.le_of_lt (Nat.lt_of_le_of_lt hB hq.lt)
          rcases wg with h | h
          · show B ≤ g'; omega
          · show B ≤ g'; omega
        · exact hr.ge b (List.mem_of_mem_drop h)
      · exact hr.ogge
    · simp [← hX, List.map_take, List.map_drop]
end Go.Proofs.Ybulkbrdi
