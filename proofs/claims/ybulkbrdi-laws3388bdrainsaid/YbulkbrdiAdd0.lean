/-
  b3388a: (*queue).add: what its steps make of a queue that lies.
-/
import Derived.Test.YbulkbrdiRem
namespace Go.Proofs.Ybulkbrdi
open Go.RowKit
set_option linter.unusedVariables false
set_option linter.unusedSimpArgs false

theorem add_empty {w : World} {B Q m c : Nat} {a : Option Addr} {t : Nat → Nat} (hB : B ≤ Q) (hq : Blk w Q 44 [.slice a 0 c]) (hm : MsgB w m (t m)) :
    Rep (((w.setCell ⟨Q, 0, none⟩ (.slice (some ⟨w.heap.size + 1, 0, none⟩) 1 1)).alloc (.cells #[.pointer (some ⟨m, 0, none⟩)] 30)).alloc (.cells #[.slice (some ⟨w.heap.size, 0, none⟩) 1 1] 25)) B Q t [[m]] ∧
    FrQ B w (((w.setCell ⟨Q, 0, none⟩ (.slice (some ⟨w.heap.size + 1, 0, none⟩) 1 1)).alloc (.cells #[.pointer (some ⟨m, 0, none⟩)] 30)).alloc (.cells #[.slice (some ⟨w.heap.size, 0, none⟩) 1 1] 25)) := by
  have hF : Fr (· = Q) w (((w.setCell ⟨Q, 0, none⟩ (.slice (some ⟨w.heap.size + 1, 0, none⟩) 1 1)).alloc (.cells #[.pointer (some ⟨m, 0, none⟩)] 30)).alloc (.cells #[.slice (some ⟨w.heap.size, 0, none⟩) 1 1] 25)) :=
    (((Fr.refl (· = Q) w).setCell (.inl rfl) _).alloc _).alloc _
  have hFQ := FrQ.of (B := B) hF (fun k hk e => by subst e; exact ⟨hB, _, .inr (.inr hq)⟩)
  have hQl := hq.lt
  have hsz : (w.setCell ⟨Q, 0, none⟩ (.slice (some ⟨w.heap.size + 1, 0, none⟩) 1 1)).heap.size = w.heap.size := by simp
  have b1 : Blk ((w.setCell ⟨Q, 0, none⟩ (.slice (some ⟨w.heap.size + 1, 0, none⟩) 1 1)).alloc (.cells #[.pointer (some ⟨m, 0, none⟩)] 30)) w.heap.size 30 [ptr m] := by
    have := Blk.new (w.setCell ⟨Q, 0, none⟩ (.slice (some ⟨w.heap.size + 1, 0, none⟩) 1 1)) 30 [ptr m]
    rw [hsz] at this; exact this
  have b2 : Blk (((w.setCell ⟨Q, 0, none⟩ (.slice (some ⟨w.heap.size + 1, 0, none⟩) 1 1)).alloc (.cells #[.pointer (some ⟨m, 0, none⟩)] 30)).alloc (.cells #[.slice (some ⟨w.heap.size, 0, none⟩) 1 1] 25)) (w.heap.size + 1) 25 [.slice (some ⟨w.heap.size, 0, none⟩) 1 1] := by
    have := Blk.new ((w.setCell ⟨Q, 0, none⟩ (.slice (some ⟨w.heap.size + 1, 0, none⟩) 1 1)).alloc (.cells #[.pointer (some ⟨m, 0, none⟩)] 30)) 25 [.slice (some ⟨w.heap.size, 0, none⟩) 1 1]
    rw [World.size_alloc, hsz] at this; exact this
  refine ⟨⟨hB, ?_, .inr ⟨w.heap.size + 1, 1, [⟨w.heap.size, 1, [m]⟩], ?_, ?_, rfl⟩⟩, hFQ⟩
  · intro x hx m' hm'
    simp at hx; subst hx; simp at hm'; subst hm'
    exact hm.frq hFQ
  · exact ((hq.setCell 0 _).alloc _).alloc _
  · refine ⟨⟨[], b2, rfl, by omega⟩, ?_, by simp, ?_, by omega⟩
    · intro b hb; simp at hb; subst hb
      exact ⟨[], b1.alloc _, rfl, by show 1 ≤ _; omega⟩
    · intro b hb; simp at hb; subst hb; show B ≤ w.heap.size; omega

theorem nodup_q {l : List Nat} : l.Nodup ↔ ∀ i j, i < j → j < l.length → l[i]? ≠ l[j]? := by
  rw [show l.Nodup ↔ l.Pairwise (· ≠ ·) from Iff.rfl, List.pairwise_iff_getElem]
  constructor
  · intro h i j hij hj e
    rw [List.getElem?_eq_getElem (by omega), List.getElem?_eq_getElem hj] at e
    exact h i j (by omega) hj hij (Option.some.inj e)
  · intro h i j hi hj hij e
    exact h i j hij hj (by rw [List.getElem?_eq_getElem hi, List.getElem?_eq_getElem hj, e])

/-- one block put for another -/
theorem rows_set {w w' : World} {B Q og oc b : Nat} {L : List Bk} {bk bk' : Bk} {tail : List Value} {S : Nat → Prop} (hB : B ≤ w.heap.size)
    (hq : ∃ l, Blk w Q 44 l) (hr : Rows' w B og oc L) (hb : L[b]? = some bk) (hin : Inn w' bk') (hg : bk'.g = bk.g ∨ w.heap.size ≤ bk'.g)
    (ho : Blk w' og 25 ((L.set b bk').map Bk.sv ++ tail)) (hol : L.length + tail.length = oc) (hF : Fr S w w') (hS : ∀ k, S k → k = Q ∨ k = og ∨ k = bk.g) : Rows' w' B og oc (L.set b bk') := by
  obtain ⟨lq, hq⟩ := hq
  have hbm := List.mem_of_getElem? hb
  have hbl := (List.getElem?_eq_some_iff.1 hb).1
  obtain ⟨tl, ho0, _, hom⟩ := hr.outer
  have hnd := hr.nodup
  have inj : ∀ j b', L[j]? = some b' → j ≠ b → b'.g ≠ bk.g := fun j b' hj hne e => by
    apply hne
    have e1 : (L.map Bk.g)[j]? = some b'.g := by rw [List.getElem?_map, hj]; rfl
    have e2 : (L.map Bk.g)[b]? = some b'.g := by rw [List.getElem?_map, hb]; exact congrArg some e.symm
    exact (List.getElem?_inj (by simpa using (List.getElem?_eq_some_iff.1 hj).1) hnd).1 (e1.trans e2.symm)
  have keep : ∀ j b', L[j]? = some b' → j ≠ b → Inn w' b' := fun j b' hj hne => by
    refine (hr.inner b' (List.mem_of_getElem? hj)).kept hF (fun hSk => ?_)
    obtain ⟨tb, rb, _⟩ := hr.inner b' (List.mem_of_getElem? hj)
    rcases hS _ hSk with h | h | h
    · exact (hq.ne rb (by decide)) h.symm
    · exact (ho0.ne rb (by decide)) h.symm
    · exact inj j b' hj hne h
  refine ⟨⟨tail, ho, by simpa using hol, hom⟩, ?_, ?_, ?_, hr.ogge⟩
  · intro b' hb'
    obtain ⟨j, hj, rfl⟩ := List.getElem_of_mem hb'
    rw [List.getElem_set]
    split
    · exact hin
    · rename_i hne
      rw [List.length_set] at hj
      exact keep j _ (List.getElem?_eq_getElem hj) (fun e => hne e.symm)
  · rw [List.map_set]
    rw [nodup_q]
    intro i j hij hj
    rw [List.length_set, List.length_map] at hj
    have hgi : ∀ k, k < L.length → k ≠ b → ((L.map Bk.g).set b bk'.g)[k]? ≠ some bk'.g := fun k hk hne e => by
      rw [List.getElem?_set_ne (fun e => hne e.symm), List.getElem?_map, List.getElem?_eq_getElem hk] at e
      have e' : L[k].g = bk'.g := by simpa using e
      have h1 := inj k _ (List.getElem?_eq_getElem hk) hne
      have h2 := (hr.inner L[k] (List.getElem_mem hk)).lt
      rcases hg with h | h
      · rw [← h] at h1; exact h1 e'
      · omega
    have hset : ((L.map Bk.g).set b bk'.g)[b]? = some bk'.g := by rw [List.getElem?_set_self (by simpa using hbl)]
    by_cases h1 : i = b
    · subst h1; rw [hset]; exact fun e => hgi j hj (by omega) e.symm
    · by_cases h2 : j = b
      · subst h2; rw [hset]; exact hgi i (by omega) h1
      · rw [List.getElem?_set_ne (fun e => h1 e.symm), List.getElem?_set_ne (fun e => h2 e.symm)]
        exact nodup_q.1 hnd i j hij (by simpa using hj)
  · intro b' hb'
    rcases List.mem_or_eq_of_mem_set hb' with h | h
    · exact hr.ge b' h
    · rw [h]
      rcases hg with h' | h'
      · rw [h']; exact hr.ge bk hbm
      · omega

def insN (x : List Nat) (i m : Nat) : List Nat := x.take i ++ m :: x.drop i
theorem insN_map (x : List Nat) (i m : Nat) : (insN x i m).map ptr = insL (x.map ptr) i (ptr m) := by simp [insN, insL, List.map_take, List.map_drop]
theorem insN_length (x : List Nat) (i m : Nat) : (insN x i m).length = x.length + 1 := by simp [insN]; omega
theorem insN_mem {x : List Nat} {i m k : Nat} (h : k ∈ insN x i m) : k = m ∨ k ∈ x := by
  simp only [insN, List.mem_append, List.mem_cons] at h
  rcases h with h | h | h
  · exact .inr (List.mem_of_mem_take h)
  · exact .inl h
  · exact .inr (List.mem_of_mem_drop h)

/-- the block with m in it fits -/
theorem add_fit {w w2 : World} {B Q og oc b i m g' c' : Nat} {t : Nat → Nat} {L : List Bk} {X : List (List Nat)} {bk : Bk} {tail' : List Value} {o : Obj} (hB : B ≤ Q) (hms : ∀ x ∈ X, ∀ m ∈ x, MsgB w m (t m))
    (hq : Blk w Q 44 [.slice (some ⟨og, 0, none⟩) L.length oc]) (hr : Rows' w B og oc L) (hX : L.map Bk.ms = X) (hb : L[b]? = some bk) (hm : MsgB w m (t m))
    (hB2 : Blk w2 g' 30 (insL (bk.ms.map ptr) i (ptr m) ++ tail')) (hl : bk.ms.length + 1 + tail'.length = c') (hc : c' ≤ 9223372036854775807) (hg : g' = bk.g ∨ g' = (w.alloc o).heap.size) (hF : Fr (· = bk.g) (w.alloc o) w2) :
    Rep (w2.setCell ⟨og, b, none⟩ (.slice (some ⟨g', 0, none⟩) (bk.ms.length + 1) c')) B Q t (X.set b (insN bk.ms i m)) ∧ FrQ B w (w2.setCell ⟨og, b, none⟩ (.slice (some ⟨g', 0, none⟩) (bk.ms.length + 1) c')) := by
  obtain ⟨tail, ho, hol, hom⟩ := hr.outer
  have hbm := List.mem_of_getElem? hb
  obtain ⟨t1, r1, c1, M1⟩ := hr.inner bk hbm
  have hQo := hq.ne ho (by decide)
  have hQ1 := hq.ne r1 (by decide)
  have ho1 := ho.ne r1 (by decide)
  have hgw : g' = bk.g ∨ w.heap.size ≤ g' := by rcases hg with h | h; exact .inl h; right; rw [h]; simp
  have hol' := ho.lt
  have hbl := hr.inner bk hbm |>.lt
  have hog' : og ≠ g' := by rcases hgw with h | h; rw [h]; exact ho1; omega
  have hQl := hq.lt
  have hF2 : Fr (fun k => k = Q ∨ k = og ∨ k = bk.g) w (w2.setCell ⟨og, b, none⟩ (.slice (some ⟨g', 0, none⟩) (bk.ms.length + 1) c')) := by
    refine Fr.setCell (Fr.trans ((Fr.refl _ w).alloc o) (hF.mono (fun k _ hk => .inr (.inr hk)))) (.inl (.inr (.inl rfl))) _
  have hFQ : FrQ B w (w2.setCell ⟨og, b, none⟩ (.slice (some ⟨g', 0, none⟩) (bk.ms.length + 1) c')) := FrQ.of hF2 (fun k hk hS => by
    rcases hS with rfl | rfl | rfl
    · exact ⟨hB, _, .inr (.inr hq)⟩
    · exact ⟨hr.ogge, _, .inl ho⟩
    · exact ⟨hr.ge bk hbm, _, .inr (.inl r1)⟩)
  have q2 : Blk w2 Q 44 [.slice (some ⟨og, 0, none⟩) L.length oc] := (hq.alloc o).kept hF hQ1
  have o2 : Blk w2 og 25 (L.map Bk.sv ++ tail) := (ho.alloc o).kept hF ho1
  have hbl2 := (List.getElem?_eq_some_iff.1 hb).1
  refine ⟨⟨hB, ?_, .inr ⟨og, oc, L.set b ⟨g', c', insN bk.ms i m⟩, ?_, ?_, ?_⟩⟩, hFQ⟩
  · intro x hx k hk
    rcases List.mem_or_eq_of_mem_set hx with h | h
    · exact (hms x h k hk).frq hFQ
    · rw [h] at hk
      rcases insN_mem hk with h' | h'
      · rw [h']; exact hm.frq hFQ
      · exact (hms bk.ms (by rw [← hX]; exact List.mem_map.2 ⟨bk, hbm, rfl⟩) k h').frq hFQ
  · rw [List.length_set]; exact q2.setCell_other (fun e => hQo e.symm) _
  · refine rows_set (by omega) ⟨_, hq⟩ hr hb (bk' := ⟨g', c', insN bk.ms i m⟩) ?_ hgw (tail := tail) ?_ hol hF2 (fun k hk => hk)
    · refine ⟨tail', ?_, by show (insN bk.ms i m).length + _ = _; rw [insN_length]; exact hl, hc⟩
      show Blk _ g' 30 ((insN bk.ms i m).map ptr ++ tail')
      rw [insN_map]; exact hB2.setCell_other hog' _
    · have := o2.setCell b (.slice (some ⟨g', 0, none⟩) (bk.ms.length + 1) c')
      rw [List.set_append_left _ _ (by simpa using hbl2)] at this
      rw [List.map_set]
      have e : Bk.sv ⟨g', c', insN bk.ms i m⟩ = .slice (some ⟨g', 0, none⟩) (bk.ms.length + 1) c' := by unfold Bk.sv; simp only []; rw [insN_length]
      rw [e]; exact this
  · rw [List.map_set, hX]
end Go.Proofs.Ybulkbrdi
