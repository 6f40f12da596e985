/-
  b3388a: the queue and the law's own record 'present', in step.
-/
import Derived.Test.YbulkbrdiBuild2
import Derived.Test.YbulkbrdiChk
namespace Go.Proofs.Ybulkbrdi
open Go.RowKit
set_option linter.unusedVariables false
set_option linter.unusedSimpArgs false

/-- whatever is no row of bools lies as it lay -/
def Keep4 (w w' : World) : Prop := ∀ k e l, Blk w k e l → e ≠ 4 → Blk w' k e l

theorem Rep.keep4 {w w' : World} {B Q : Nat} {t : Nat → Nat} {X : List (List Nat)} (h : Rep w B Q t X) (hk : Keep4 w w') : Rep w' B Q t X := by
  obtain ⟨h1, h2, h3⟩ := h
  refine ⟨h1, fun x hx m hm => ?_, ?_⟩
  · obtain ⟨l, hb, a, b⟩ := h2 x hx m hm
    exact ⟨l, hk _ _ _ hb (by decide), a, b⟩
  · rcases h3 with ⟨rfl, hb⟩ | ⟨og, oc, L, hb, hr, hx⟩
    · exact .inl ⟨rfl, hk _ _ _ hb (by decide)⟩
    · refine .inr ⟨og, oc, L, hk _ _ _ hb (by decide), ?_, hx⟩
      obtain ⟨⟨tl, ho, a, b⟩, hi, hn, hg, hog⟩ := hr
      refine ⟨⟨tl, hk _ _ _ ho (by decide), a, b⟩, fun b' hb' => ?_, hn, hg, hog⟩
      obtain ⟨tb, rb, a, b⟩ := hi b' hb'
      exact ⟨tb, hk _ _ _ rb (by decide), a, b⟩
theorem QOk.keep4 {w w' : World} {Q N count : Nat} {P : Nat → Bool} (h : QOk w Q N count P) (hk : Keep4 w w') : QOk w' Q N count P := by
  obtain ⟨⟨X, h1, h2, h3⟩, h4, h5, h6⟩ := h
  refine ⟨⟨X, h1.keep4 hk, h2, h3⟩, hk _ _ _ h4 (by decide), fun j hj => ?_, h6⟩
  obtain ⟨l, hb, a, b⟩ := h5 j hj
  exact ⟨l, hk _ _ _ hb (by decide), a, b⟩
theorem keep4_alloc (w : World) (o : Obj) : Keep4 w (w.alloc o) := fun k e l h _ => h.alloc o
theorem keep4_set {w : World} {PB : Nat} {lp : List Value} (hp : Blk w PB 4 lp) (j : Nat) (v : Value) : Keep4 w (w.setCell ⟨PB, j, none⟩ v) := fun k e l h he =>
  h.setCell_other (fun e' => he ((hp.ne h (fun e4 => he e4.symm)) e').elim) v

/-- the record as a row -/
def recL (count : Nat) (P : Nat → Bool) : List Value := (List.range count).map (fun j => Value.bool (P j))
theorem recL_get {count : Nat} {P : Nat → Bool} {k : Nat} (hk : k < count) : (recL count P)[k]? = some (.bool (P k)) := by
  unfold recL; rw [List.getElem?_map, List.getElem?_range hk]; rfl

/-- queue and record in step; nothing that was there before has turned -/
structure Sync (w : World) (Q N PB count : Nat) (wr : World) : Prop where
  go : ∃ P, QOk wr Q N count P ∧ Blk wr PB 4 (recL count P)
  bel : Below w.heap.size w wr
  big : w.heap.size ≤ PB
  bigQ : w.heap.size ≤ Q

theorem Sync.cell {w wr : World} {Q N PB count : Nat} (h : Sync w Q N PB count wr) {k : Nat} (hk : k < count) : ∃ v, wr.cell? ⟨PB, k, none⟩ = some (.bool v) := by
  obtain ⟨P, _, hp⟩ := h.go
  exact ⟨P k, by rw [hp.cell, recL_get hk]⟩
theorem Sync.lt {w wr : World} {Q N PB count : Nat} (h : Sync w Q N PB count wr) : PB < wr.heap.size := by obtain ⟨P, _, hp⟩ := h.go; exact hp.lt
theorem Sync.frozen {w wr : World} {Q N PB count : Nat} (h : Sync w Q N PB count wr) (k : Nat) : wr.frozen? ⟨PB, k, none⟩ = false := by obtain ⟨P, _, hp⟩ := h.go; exact hp.frozen _

/-- behind the remove of a message with timestamp y, ahead of the record's turn -/
structure Half (w : World) (Q N PB count y : Nat) (wr : World) : Prop where
  go : ∃ P, QOk wr Q N count (remP P y) ∧ Blk wr PB 4 (recL count P)
  bel : Below w.heap.size w wr
  big : w.heap.size ≤ PB
  bigQ : w.heap.size ≤ Q
theorem Half.cell {w wr : World} {Q N PB count y : Nat} (h : Half w Q N PB count y wr) {k : Nat} (hk : k < count) : ∃ v, wr.cell? ⟨PB, k, none⟩ = some (.bool v) := by
  obtain ⟨P, _, hp⟩ := h.go
  exact ⟨P k, by rw [hp.cell, recL_get hk]⟩
theorem Half.frozen {w wr : World} {Q N PB count y : Nat} (h : Half w Q N PB count y wr) (k : Nat) : wr.frozen? ⟨PB, k, none⟩ = false := by obtain ⟨P, _, hp⟩ := h.go; exact hp.frozen _

theorem Sync.rem {w wr : World} {Q N PB count : Nat} (h : Sync w Q N PB count wr) (hc : count ≤ 1200) (y : Nat) (x : Int) (hx : x = (y : Int)) :
    Calls Yba.prog 6 #[.pointer (some ⟨Q, 0, none⟩), .pointer (some ⟨wr.heap.size, 0, none⟩)] (wr.alloc (.cells (mcells x) 39)) fun e w' => e = .returned (.tuple #[]) ∧ Half w Q N PB count y w' := by
  obtain ⟨P, hq, hp⟩ := h.go
  have hq1 := hq.keep4 (keep4_alloc wr (.cells (mcells x) 39))
  refine (hq1.rem (by omega) (msg_new wr y x hx)).mono ?_
  rintro e w' ⟨rfl, hQ', hF'⟩
  have hb1 : Below w.heap.size w (wr.alloc (.cells (mcells x) 39)) := h.bel.alloc h.bel.size _
  refine ⟨rfl, ⟨⟨P, hQ', hF'.blk (hp.alloc _) (.inr (by decide))⟩, ?_, h.big, h.bigQ⟩⟩
  have hQl : Q ≤ (wr.alloc (.cells (mcells x) 39)).heap.size := by
    obtain ⟨X, hR, _⟩ := hq1.q
    obtain ⟨_, _, ⟨_, hb⟩ | ⟨_, _, _, hb, _⟩⟩ := hR
    · exact Nat.le_of_lt hb.lt
    · exact Nat.le_of_lt hb.lt
  exact hb1.trans ((hF'.below hQl).mono h.bigQ)

theorem Half.set {w wr : World} {Q N PB count y : Nat} (h : Half w Q N PB count y wr) {k : Nat} (hk : k < count) (hy : y = 2 * k) : Sync w Q N PB count (wr.setCell ⟨PB, k, none⟩ (.bool false)) := by
  obtain ⟨P, hq, hp⟩ := h.go
  refine ⟨⟨remP P y, hq.keep4 (keep4_set hp k _), ?_⟩, h.bel.setCell h.big _, h.big, h.bigQ⟩
  have := hp.setCell k (.bool false)
  have e : (recL count P).set k (.bool false) = recL count (remP P y) := by
    apply List.ext_getElem?
    intro j
    rw [List.getElem?_set]
    unfold recL
    by_cases hj : j < count
    · rw [List.getElem?_map, List.getElem?_map, List.getElem?_range hj]
      by_cases hjk : k = j
      · subst hjk; simp [remP, hy, hj]
      · rw [if_neg hjk]
        simp only [Option.map_some, remP]
        have : (2 * j == y) = false := beq_eq_false_iff_ne.2 (by omega)
        rw [this]; simp
    · rw [List.getElem?_eq_none (by simp; omega), List.getElem?_eq_none (by simp; omega)]
      split
      · rename_i e; subst e; rw [if_neg (by simp; omega)]
      · rfl
  rw [e] at this; exact this
theorem Half.same {w wr : World} {Q N PB count y : Nat} (h : Half w Q N PB count y wr) (hy : ∀ k, k < count → y ≠ 2 * k) : Sync w Q N PB count wr := by
  obtain ⟨P, hq, hp⟩ := h.go
  refine ⟨⟨P, hq.congr (fun k hk => ?_), hp⟩, h.bel, h.big, h.bigQ⟩
  unfold remP
  have : (2 * k == y) = false := beq_eq_false_iff_ne.2 (fun e => hy k hk e.symm)
  rw [this]; simp

theorem Sync.check {w wr : World} {Q N PB count : Nat} (h : Sync w Q N PB count wr) (hc : count ≤ 1200) (mc pc : Nat) :
    Calls Yba.prog 7 #[.pointer (some ⟨Q, 0, none⟩), .slice (some ⟨N, 0, none⟩) count mc, .slice (some ⟨PB, 0, none⟩) count pc] wr fun e w' => e = .returned (.bool true) ∧ wr = w' := by
  obtain ⟨P, hq, hp⟩ := h.go
  obtain ⟨X, hR, hi, hh⟩ := hq.q
  exact check_any wr Q Q N PB count mc pc (tOf N) X (mOf N) P hR hi hh (fun k hk => hq.cell hk) (fun k hk => by rw [hp.cell, recL_get hk]) (by omega) (by have := holds_len hh hi; omega)

/-- the record is being filled: k of its marks are true -/
structure Fill (w : World) (Q N PB count k : Nat) (wr : World) : Prop where
  go : QOk wr Q N count (fun _ => true) ∧ Blk wr PB 4 (recL count (fun j => decide (j < k)))
  bel : Below w.heap.size w wr
  big : w.heap.size ≤ PB
  bigQ : w.heap.size ≤ Q
theorem fill_start {w w1 : World} {Q N count : Nat} (h : QOk w1 Q N count (fun _ => true)) (hb : Below w.heap.size w w1) (hQ : w.heap.size ≤ Q) : Fill w Q N w1.heap.size count 0 (w1.alloc (.cells (Array.replicate count (.bool false)) 4)) := by
  refine ⟨⟨h.keep4 (keep4_alloc _ _), ?_⟩, hb.alloc hb.size _, hb.size, hQ⟩
  have := Blk.new w1 4 (List.replicate count (.bool false))
  have e : recL count (fun j => decide (j < 0)) = List.replicate count (.bool false) := by
    unfold recL; simp
    apply List.ext_getElem?; intro j
    simp [List.getElem?_replicate, List.getElem?_map]
    by_cases hj : j < count
    · rw [List.getElem?_range hj]; simp [hj]
    · rw [List.getElem?_eq_none (by simpa using hj)]; simp [hj]
  rw [e]; simpa using this
theorem Fill.step {w wr : World} {Q N PB count k : Nat} (h : Fill w Q N PB count k wr) (hk : k < count) : Fill w Q N PB count (k + 1) (wr.setCell ⟨PB, k, none⟩ (.bool true)) := by
  obtain ⟨hq, hp⟩ := h.go
  refine ⟨⟨hq.keep4 (keep4_set hp k _), ?_⟩, h.bel.setCell h.big _, h.big, h.bigQ⟩
  have := hp.setCell k (.bool true)
  have e : (recL count (fun j => decide (j < k))).set k (.bool true) = recL count (fun j => decide (j < k + 1)) := by
    apply List.ext_getElem?
    intro j
    rw [List.getElem?_set]
    unfold recL
    by_cases hj : j < count
    · rw [List.getElem?_map, List.getElem?_map, List.getElem?_range hj]
      by_cases hjk : k = j
      · subst hjk; simp [hj]
      · rw [if_neg hjk]
        simp only [Option.map_some]
        congr 2
        rw [Bool.eq_iff_iff]; simp; omega
    · rw [List.getElem?_eq_none (by simp; omega), List.getElem?_eq_none (by simp; omega)]
      split
      · rename_i e; subst e; rw [if_neg (by simp; omega)]
      · rfl
  rw [e] at this; exact this
theorem Fill.cell {w wr : World} {Q N PB count k : Nat} (h : Fill w Q N PB count k wr) {j : Nat} (hj : j < count) : ∃ v, wr.cell? ⟨PB, j, none⟩ = some (.bool v) := ⟨_, by rw [h.go.2.cell, recL_get hj]⟩
theorem Fill.frozen {w wr : World} {Q N PB count k : Nat} (h : Fill w Q N PB count k wr) (j : Nat) : wr.frozen? ⟨PB, j, none⟩ = false := h.go.2.frozen _
theorem Fill.done {w wr : World} {Q N PB count : Nat} (h : Fill w Q N PB count count wr) : Sync w Q N PB count wr := by
  obtain ⟨hq, hp⟩ := h.go
  exact ⟨⟨fun j => decide (j < count), hq.congr (fun k hk => by simp [hk]), hp⟩, h.bel, h.big, h.bigQ⟩
end Go.Proofs.Ybulkbrdi
