/-
  b3388aF: plain laws on worlds: a block known whole ('Blk'), a frame ('Fr').
-/
import Derived.WalkKit
import Derived.Laws.IdiomCopy
import Derived.Deep.Draws
namespace Go.Proofs.YbulkbrdiFmt
open Go.RowKit
set_option linter.unusedVariables false
set_option linter.unusedSimpArgs false

theorem hide {p : Prop} (h : p) : Hid p := h
theorem unhide {p : Prop} (h : Hid p) : p := h

/-- Block g is a row of type e, none of its cells frozen, holding just l. -/
def Blk (w : World) (g : Nat) (e : TypeId) (l : List Value) : Prop := w.heap[g]? = some (.cells l.toArray e (0, 0))

/-- All blocks outside S are as they were; new ones may have come. -/
structure Fr (S : Nat → Prop) (w w' : World) : Prop where
  os : w'.os = w.os
  tape : w'.tape = w.tape
  output : w'.output = w.output
  size : w.heap.size ≤ w'.heap.size
  block : ∀ k, k < w.heap.size → ¬ S k → w'.heap[k]? = w.heap[k]?

theorem Fr.refl (S : Nat → Prop) (w : World) : Fr S w w := ⟨rfl, rfl, rfl, Nat.le_refl _, fun _ _ _ => rfl⟩
theorem Fr.mono {S T : Nat → Prop} {w w' : World} (h : Fr S w w') (hs : ∀ k, k < w.heap.size → S k → T k) : Fr T w w' :=
  ⟨h.os, h.tape, h.output, h.size, fun k hk hn => h.block k hk (fun hS => hn (hs k hk hS))⟩
theorem Fr.trans {S : Nat → Prop} {a b c : World} (h : Fr S a b) (k : Fr S b c) : Fr S a c :=
  ⟨k.os.trans h.os, k.tape.trans h.tape, k.output.trans h.output, Nat.le_trans h.size k.size,
   fun i hi hn => (k.block i (Nat.lt_of_lt_of_le hi h.size) hn).trans (h.block i hi hn)⟩
theorem Fr.drew {S : Nat → Prop} {a w : World} (h : Fr S a w) : Fr S a w.drew := ⟨h.os, h.tape, h.output, h.size, h.block⟩
theorem Fr.drewN {S : Nat → Prop} {a w : World} (h : Fr S a w) (n : Nat) : Fr S a (w.drewN n) := ⟨h.os, h.tape, h.output, h.size, h.block⟩
theorem Fr.alloc {S : Nat → Prop} {a w : World} (h : Fr S a w) (o : Obj) : Fr S a (w.alloc o) :=
  h.trans ⟨rfl, rfl, rfl, by simp, fun k hk _ => Below.heap_alloc _ _ _ hk⟩
theorem Fr.setCell {S : Nat → Prop} {a w : World} (h : Fr S a w) {p : Addr} (hp : S p.block ∨ a.heap.size ≤ p.block) (u : Value) : Fr S a (w.setCell p u) := by
  refine ⟨h.os, h.tape, h.output, by have := h.size; simp [World.setCell]; exact this, fun k hk hn => ?_⟩
  rw [Below.heap_setCell]
  · exact h.block k hk hn
  · intro e; subst e; rcases hp with hp | hp
    · exact hn hp
    · omega
theorem Fr.grown {S : Nat → Prop} {a w w' : World} {row : Option Nat} (h : Fr S a w) (hg : w.grownBy w' row) (hr : ∀ k, row = some k → S k ∨ a.heap.size ≤ k) : Fr S a w' :=
  ⟨hg.os.trans h.os, hg.tape.trans h.tape, hg.output.trans h.output, Nat.le_trans h.size hg.size,
    fun k hk hn => (hg.block k (Nat.lt_of_lt_of_le hk h.size) (fun e => by rcases hr k e.symm with h1 | h1; exact hn h1; omega)).trans (h.block k hk hn)⟩
theorem Fr.of_below {S : Nat → Prop} {w w' : World} (h : Below w.heap.size w w') : Fr S w w' := ⟨h.os, h.tape, h.output, h.size, fun k hk _ => h.block k hk⟩
theorem Fr.below {S : Nat → Prop} {w w' : World} {B : Nat} (h : Fr S w w') (hB : B ≤ w.heap.size) (hS : ∀ k, S k → B ≤ k) : Below B w w' :=
  ⟨h.os, h.tape, h.output, h.size, fun k hk => h.block k (by omega) (fun hs => by have := hS k hs; omega)⟩
theorem Fr.setCells {S : Nat → Prop} {a : World} {b : Nat} (hb : S b ∨ a.heap.size ≤ b) : ∀ (vs : List Value) (o : Nat) {w : World}, Fr S a w → Fr S a (w.setCells b o vs)
  | [], _, _, h => h
  | v :: r, o, w, h => by rw [World.setCells]; exact Fr.setCells hb r (o + 1) (h.setCell hb v)

section
variable {w w' : World} {g e : Nat} {l : List Value}
theorem Blk.lt (h : Blk w g e l) : g < w.heap.size := (Array.getElem?_eq_some_iff.1 h).1
theorem Blk.cell (h : Blk w g e l) (j : Nat) : w.cell? ⟨g, j, none⟩ = l[j]? := by
  simp only [World.cell?, show w.heap[g]? = _ from h]; simp
theorem Blk.frozen (h : Blk w g e l) (j : Nat) : w.frozen? ⟨g, j, none⟩ = false := by
  simp only [World.frozen?, show w.heap[g]? = _ from h]; simp
theorem Blk.shape (h : Blk w g e l) : w.shape? g = some (e, l.length) := by
  simp only [World.shape?, show w.heap[g]? = _ from h]; simp
theorem Blk.drew (h : Blk w g e l) : Blk w.drew g e l := h
theorem Blk.drewN (h : Blk w g e l) (n : Nat) : Blk (w.drewN n) g e l := h
theorem Blk.alloc (h : Blk w g e l) (o : Obj) : Blk (w.alloc o) g e l := by
  show (w.alloc o).heap[g]? = _; rw [Below.heap_alloc _ _ _ h.lt]; exact h
theorem Blk.new (w : World) (e : Nat) (l : List Value) : Blk (w.alloc (.cells l.toArray e)) w.heap.size e l := heap_alloc_new w _
theorem Blk.kept {S : Nat → Prop} (h : Blk w g e l) (hf : Fr S w w') (hn : ¬ S g) : Blk w' g e l := (hf.block g h.lt hn).trans h
theorem Blk.below {B : Nat} (h : Blk w g e l) (hf : Below B w w') (hn : g < B) : Blk w' g e l := (hf.block g hn).trans h
theorem Blk.setCell_other (h : Blk w g e l) {p : Addr} (hp : p.block ≠ g) (v : Value) : Blk (w.setCell p v) g e l := by
  show (w.setCell p v).heap[g]? = _; rw [Below.heap_setCell _ _ _ _ (fun e => hp e.symm)]; exact h
theorem Blk.setCell (h : Blk w g e l) (j : Nat) (v : Value) : Blk (w.setCell ⟨g, j, none⟩ v) g e (l.set j v) := by
  show (w.setCell ⟨g, j, none⟩ v).heap[g]? = _
  simp only [World.setCell, Array.getElem?_modify, show w.heap[g]? = _ from h]
  simp
theorem Blk.setCells_other {b : Nat} (hp : b ≠ g) : ∀ (vs : List Value) (o : Nat) {w : World}, Blk w g e l → Blk (w.setCells b o vs) g e l
  | [], _, _, h => h
  | v :: r, o, w, h => by rw [World.setCells]; exact Blk.setCells_other hp r (o + 1) (h.setCell_other hp v)

/-- vs laid over l from o on. -/
def over (l : List Value) : Nat → List Value → List Value
  | _, [] => l
  | o, v :: r => over (l.set o v) (o + 1) r
theorem over_length : ∀ (vs l : List Value) (o : Nat), (over l o vs).length = l.length
  | [], _, _ => rfl
  | v :: r, l, o => by rw [over, over_length r]; simp
theorem over_get : ∀ (vs l : List Value) (o k : Nat), (over l o vs)[k]? = if o ≤ k ∧ k < o + vs.length ∧ k < l.length then vs[k - o]? else l[k]?
  | [], l, o, k => by rw [over, if_neg]; simp; omega
  | v :: r, l, o, k => by
    rw [over, over_get r]
    by_cases h1 : o + 1 ≤ k ∧ k < o + 1 + r.length ∧ k < (l.set o v).length
    · rw [if_pos h1, if_pos (by simp at h1 ⊢; omega), show k - o = (k - (o + 1)) + 1 by omega]; simp
    · rw [if_neg h1, List.getElem?_set]
      by_cases h2 : o = k
      · subst h2
        by_cases h3 : o < l.length
        · rw [if_pos rfl, if_pos h3, if_pos (by simp; omega)]; simp
        · rw [if_pos rfl, if_neg h3, if_neg (by omega)]; simp; omega
      · rw [if_neg h2, if_neg (by simp at h1 ⊢; omega)]
theorem over_eq (l vs : List Value) (o : Nat) (h : o + vs.length ≤ l.length) : over l o vs = l.take o ++ vs ++ l.drop (o + vs.length) := by
  apply List.ext_getElem?
  intro k
  rw [over_get]
  by_cases h1 : k < o
  · rw [if_neg (by omega), List.append_assoc, List.getElem?_append_left (by simp; omega), List.getElem?_take, if_pos h1]
  · by_cases h2 : k < o + vs.length
    · rw [if_pos (by omega), List.append_assoc, List.getElem?_append_right (by simp; omega), List.getElem?_append_left (by simp; omega)]
      simp [List.length_take, Nat.min_eq_left (by omega : o ≤ l.length)]
    · rw [if_neg (by omega), List.getElem?_append_right (by simp; omega), List.getElem?_drop]
      simp only [List.length_append, List.length_take, Nat.min_eq_left (by omega : o ≤ l.length)]
      rw [show o + vs.length + (k - (o + vs.length)) = k by omega]
theorem Blk.setCells : ∀ (vs : List Value) (o : Nat) {w : World} {l : List Value}, Blk w g e l → Blk (w.setCells g o vs) g e (over l o vs)
  | [], _, _, _, h => h
  | v :: r, o, w, l, h => by rw [World.setCells]; exact Blk.setCells r (o + 1) (h.setCell o v)
end

end Go.Proofs.YbulkbrdiFmt
