/-
  b3388a: (*queue).remove: the walk.
-/
import Derived.Test.YbulkbrdiJoin2
namespace Go.Proofs.Ybulkbrdi
open Go.RowKit
set_option linter.unusedVariables false
set_option linter.unusedSimpArgs false

/-- behind 'q.blocks[b] = slices.Delete(q.blocks[b], i, i+1)' -/
def RemMid (w : World) (Q n c og b g1 n1 c1 i : Nat) (A tail xs t1 : List Value) (wc : World) : Prop :=
  Blk wc Q 44 [.slice (some ⟨og, 0, none⟩) n c] ∧ Blk wc og 25 (A.set b (.slice (some ⟨g1, 0, none⟩) (n1 - 1) c1) ++ tail) ∧ Blk wc g1 30 (delL xs i (.pointer none) ++ t1) ∧
    Fr (fun k => k = Q ∨ k = og ∨ k = g1) w wc

theorem remMid_mk {w W w2 : World} {Q n c og b g1 n1 c1 i : Nat} {A tail xs t1 : List Value} (hB : Blk w2 g1 30 (delL xs i (.pointer none) ++ t1)) (hF : Fr (· = g1) W w2) (hW : W.heap = w.heap ∧ W.os = w.os ∧ W.tape = w.tape ∧ W.output = w.output)
    (hq : Blk w Q 44 [.slice (some ⟨og, 0, none⟩) n c]) (ho : Blk w og 25 (A ++ tail)) (hb : b < A.length) (hQo : Q ≠ og) (hQ1 : Q ≠ g1) (ho1 : og ≠ g1) :
    RemMid w Q n c og b g1 n1 c1 i A tail xs t1 (w2.setCell ⟨og, b, none⟩ (.slice (some ⟨g1, 0, none⟩) (n1 - 1) c1)) := by
  obtain ⟨hh, h2, h3, h4⟩ := hW
  have hF' : Fr (fun k => k = Q ∨ k = og ∨ k = g1) w w2 :=
    ⟨hF.os.trans h2, hF.tape.trans h3, hF.output.trans h4, hh ▸ hF.size, fun k hk hn => (hF.block k (by rw [hh]; exact hk) (fun e => hn (.inr (.inr e)))).trans (by rw [hh])⟩
  have keep : ∀ {g e : Nat} {l : List Value}, Blk w g e l → g ≠ g1 → Blk w2 g e l := fun {g e l} h hn => by
    have := hF.block g (by rw [hh]; exact h.lt) hn
    unfold Blk at *; rw [this, hh]; exact h
  refine ⟨(keep hq hQ1).setCell_other (fun e => hQo e.symm) _, ?_, hB.setCell_other ho1 _, hF'.setCell (.inl (.inr (.inl rfl))) _⟩
  have := (keep ho ho1).setCell b (.slice (some ⟨g1, 0, none⟩) (n1 - 1) c1)
  rw [List.set_append_left _ _ hb] at this
  exact this

/-- what remove makes of the blocks, where the search has come to place i of block b -/
def remM (X : List (List Nat)) (b i : Nat) : List (List Nat) :=
  let X1 := X.set b ((X.getD b []).eraseIdx i)
  let X2 := if (X.getD b []).length = 1 then X1.eraseIdx b else X1
  joinI (joinI X2 b) ((b : Int) - 1)

theorem delL_erase (xs : List Value) (i : Nat) (z : Value) : delL xs i z = xs.eraseIdx i ++ [z] := by
  unfold delL; rw [List.eraseIdx_eq_take_drop_succ]

theorem remMid_rows {w wc : World} {B Q og oc b i : Nat} {t : Nat → Nat} {L : List Bk} {X : List (List Nat)} {bk : Bk} {tail t1 : List Value} (hB : B ≤ Q) (hms : ∀ x ∈ X, ∀ m ∈ x, MsgB w m (t m))
    (hq : Blk w Q 44 [.slice (some ⟨og, 0, none⟩) L.length oc]) (hr : Rows' w B og oc L) (hX : L.map Bk.ms = X) (hb : L[b]? = some bk) (ho : Blk w og 25 (L.map Bk.sv ++ tail)) (hol : L.length + tail.length = oc)
    (hr1 : Blk w bk.g 30 (bk.ms.map ptr ++ t1)) (hc1 : bk.ms.length + t1.length = bk.cap) (hi : i < bk.ms.length)
    (h : RemMid w Q L.length oc og b bk.g bk.ms.length bk.cap i (L.map Bk.sv) tail (bk.ms.map ptr) t1 wc) :
    ((∀ x ∈ X.set b (bk.ms.eraseIdx i), ∀ m ∈ x, MsgB wc m (t m)) ∧ Blk wc Q 44 [.slice (some ⟨og, 0, none⟩) (L.set b ⟨bk.g, bk.cap, bk.ms.eraseIdx i⟩).length oc] ∧ Rows' wc B og oc (L.set b ⟨bk.g, bk.cap, bk.ms.eraseIdx i⟩) ∧
      (L.set b ⟨bk.g, bk.cap, bk.ms.eraseIdx i⟩).map Bk.ms = X.set b (bk.ms.eraseIdx i)) ∧ FrQ B w wc := by
  obtain ⟨wq, wo, wr, wf⟩ := h
  have hbm := List.mem_of_getElem? hb
  have hbl := (List.getElem?_eq_some_iff.1 hb).1
  have hFQ : FrQ B w wc := FrQ.of wf (fun j hj hS => by
    rcases hS with rfl | rfl | rfl
    · exact ⟨hB, _, .inr (.inr hq)⟩
    · exact ⟨hr.ogge, _, .inl ho⟩
    · exact ⟨hr.ge bk hbm, _, .inr (.inl hr1)⟩)
  have hxm : bk.ms ∈ X := by rw [← hX]; exact List.mem_map.2 ⟨bk, hbm, rfl⟩
  have hnd := hr.nodup
  have keep : ∀ j b', L[j]? = some b' → j ≠ b → Inn wc b' := fun j b' hj hne => by
    refine (hr.inner b' (List.mem_of_getElem? hj)).kept wf (fun hS => ?_)
    obtain ⟨tb, rb, _⟩ := hr.inner b' (List.mem_of_getElem? hj)
    rcases hS with h | h | h
    · exact (hq.ne rb (by decide)) h.symm
    · exact (ho.ne rb (by decide)) h.symm
    · apply hne
      have e1 : (L.map Bk.g)[j]? = some b'.g := by rw [List.getElem?_map, hj]; rfl
      have e2 : (L.map Bk.g)[b]? = some b'.g := by rw [List.getElem?_map, hb]; exact congrArg some h.symm
      exact (List.getElem?_inj (by simpa using (List.getElem?_eq_some_iff.1 hj).1) hnd).1 (e1.trans e2.symm)
  refine ⟨⟨?_, ?_, ?_, ?_⟩, hFQ⟩
  · intro x hx m hm
    rcases List.mem_or_eq_of_mem_set hx with h | h
    · exact (hms x h m hm).frq hFQ
    · rw [h] at hm
      exact (hms bk.ms hxm m (List.mem_of_mem_eraseIdx hm)).frq hFQ
  · simpa using wq
  · constructor
    · refine ⟨tail, ?_, by simpa using hol, ?_⟩
      · rw [List.map_set]
        have : Bk.sv ⟨bk.g, bk.cap, bk.ms.eraseIdx i⟩ = .slice (some ⟨bk.g, 0, none⟩) (bk.ms.length - 1) bk.cap := by
          unfold Bk.sv; simp [List.length_eraseIdx, hi]
        rw [this]; exact wo
      · obtain ⟨_, _, _, h⟩ := hr.outer; exact h
    · intro b' hb'
      obtain ⟨j, hj, rfl⟩ := List.getElem_of_mem hb'
      rw [List.getElem_set]
      split
      · obtain ⟨_, _, _, h⟩ := hr.inner bk hbm
        refine ⟨[.pointer none] ++ t1, ?_, by simp [List.length_eraseIdx, hi]; omega, h⟩
        rw [delL_erase] at wr
        have e : (bk.ms.eraseIdx i).map ptr = (bk.ms.map ptr).eraseIdx i := by
          simp [List.eraseIdx_eq_take_drop_succ, List.map_take, List.map_drop]
        show Blk wc bk.g 30 ((bk.ms.eraseIdx i).map ptr ++ ([.pointer none] ++ t1))
        rw [e, ← List.append_assoc]; exact wr
      · rename_i hne
        rw [List.length_set] at hj
        exact keep j _ (List.getElem?_eq_getElem hj) (fun e => hne e.symm)
    · rw [List.map_set]
      have : (L.map Bk.g).set b bk.g = L.map Bk.g := by
        apply List.ext_getElem?
        intro k
        rw [List.getElem?_set]
        split
        · rename_i e; subst e
          rw [List.getElem?_map, hb]; simp [hbl]
        · rfl
      show ((L.map Bk.g).set b bk.g).Nodup
      rw [this]; exact hnd
    · intro b' hb'
      rcases List.mem_or_eq_of_mem_set hb' with h | h
      · exact hr.ge b' h
      · rw [h]; exact hr.ge bk hbm
    · exact hr.ogge
  · rw [List.map_set, hX]

/-- the outer row without block b -/
theorem outer_del {w w3 : World} {B Q og oc b : Nat} {t : Nat → Nat} {L : List Bk} {X : List (List Nat)} {tail : List Value} (hB : B ≤ Q) (hms : ∀ x ∈ X, ∀ m ∈ x, MsgB w m (t m))
    (hq : Blk w Q 44 [.slice (some ⟨og, 0, none⟩) L.length oc]) (hr : Rows' w B og oc L) (hX : L.map Bk.ms = X) (hb : b < L.length) (ho : Blk w og 25 (L.map Bk.sv ++ tail)) (hol : L.length + tail.length = oc)
    (wq : Blk w3 Q 44 [.slice (some ⟨og, 0, none⟩) (L.length - 1) oc]) (wo : Blk w3 og 25 (delL (L.map Bk.sv) b (.slice none 0 0) ++ tail)) (wf : Fr (fun k => k = Q ∨ k = og) w w3) :
    Rep w3 B Q t (X.eraseIdx b) ∧ FrQ B w w3 := by
  have hFQ : FrQ B w w3 := FrQ.of wf (fun j hj hS => by
    rcases hS with rfl | rfl
    · exact ⟨hB, _, .inr (.inr hq)⟩
    · exact ⟨hr.ogge, _, .inl ho⟩)
  refine ⟨⟨hB, fun x hx m hm => (hms x (List.mem_of_mem_eraseIdx hx) m hm).frq hFQ, .inr ⟨og, oc, L.eraseIdx b, ?_, ?_, ?_⟩⟩, hFQ⟩
  · rw [List.length_eraseIdx, if_pos hb]; exact wq
  · constructor
    · refine ⟨[.slice none 0 0] ++ tail, ?_, by rw [List.length_eraseIdx, if_pos hb]; simp; omega, ?_⟩
      · rw [delL_erase] at wo
        have e : (L.eraseIdx b).map Bk.sv = (L.map Bk.sv).eraseIdx b := by simp [List.eraseIdx_eq_take_drop_succ, List.map_take, List.map_drop]
        rw [e, ← List.append_assoc]; exact wo
      · obtain ⟨_, _, _, h⟩ := hr.outer; exact h
    · intro b' hb'
      have hbm := List.mem_of_mem_eraseIdx hb'
      obtain ⟨tb, rb, _⟩ := hr.inner b' hbm
      refine (hr.inner b' hbm).kept wf (fun hS => ?_)
      rcases hS with h | h
      · exact (hq.ne rb (by decide)) h.symm
      · exact (ho.ne rb (by decide)) h.symm
    · exact hr.nodup.sublist ((List.eraseIdx_sublist L b).map _)
    · exact fun b' hb' => hr.ge b' (List.mem_of_mem_eraseIdx hb')
    · exact hr.ogge
  · rw [← hX]; simp [List.eraseIdx_eq_take_drop_succ, List.map_take, List.map_drop]

theorem Small.erase {X : List (List Nat)} (h : Small X) (b : Nat) : Small (X.eraseIdx b) :=
  ⟨Nat.le_trans (List.length_eraseIdx_le X b) h.1, fun x hx => h.2 x (List.mem_of_mem_eraseIdx hx)⟩
theorem Small.set {X : List (List Nat)} (h : Small X) (b : Nat) {x : List Nat} (hx : x.length ≤ 100000) : Small (X.set b x) :=
  ⟨by simpa using h.1, fun y hy => by rcases List.mem_or_eq_of_mem_set hy with h' | h'; exact h.2 y h'; rw [h']; exact hx⟩
theorem Small.join {X : List (List Nat)} (h : Small X) (b : Int) : Small (joinI X b) := by
  unfold joinI; split
  · exact h
  · unfold joinM; split
    · split
      · rename_i x y hx hy hle
        have h1 := (List.getElem?_eq_some_iff.1 hx).1
        refine ⟨?_, ?_⟩
        · have := h.1; simp; omega
        · intro z hz
          simp only [List.mem_append, List.mem_cons] at hz
          rcases hz with h' | rfl | h'
          · exact h.2 z (List.mem_of_mem_take h')
          · simp; omega
          · exact h.2 z (List.mem_of_mem_drop h')
      · exact h
    · exact h
theorem ne_join {X : List (List Nat)} (h : ∀ x ∈ X, x ≠ []) (b : Int) : ∀ x ∈ joinI X b, x ≠ [] := by
  unfold joinI; split
  · exact h
  · unfold joinM; split
    · split
      · rename_i x y hx hy hle
        intro z hz
        simp only [List.mem_append, List.mem_cons] at hz
        rcases hz with h' | rfl | h'
        · exact h z (List.mem_of_mem_take h')
        · have := h x (List.mem_of_getElem? hx); simp [this]
        · exact h z (List.mem_of_mem_drop h')
      · exact h
    · exact h
end Go.Proofs.Ybulkbrdi
