/-
  b3388a: how a queue lies in memory.
-/
import Derived.Test.YbulkbrdiFind
namespace Go.Proofs.Ybulkbrdi
open Go.RowKit
set_option linter.unusedVariables false
set_option linter.unusedSimpArgs false

/-- A block that the queue's operations may write. -/
def Touch (B : Nat) (w : World) (k : Nat) : Prop := B ≤ k ∧ ∃ l, Blk w k 25 l ∨ Blk w k 30 l ∨ Blk w k 44 l
/-- What the queue's operations leave alone. -/
def FrQ (B : Nat) (w w' : World) : Prop := Fr (Touch B w) w w'

theorem FrQ.refl (B : Nat) (w : World) : FrQ B w w := Fr.refl _ _
theorem FrQ.trans {B : Nat} {a b c : World} (h : FrQ B a b) (k : FrQ B b c) : FrQ B a c := by
  refine ⟨k.os.trans h.os, k.tape.trans h.tape, k.output.trans h.output, Nat.le_trans h.size k.size, fun i hi hn => ?_⟩
  have e := h.block i hi hn
  refine (k.block i (Nat.lt_of_lt_of_le hi h.size) (fun ht => hn ⟨ht.1, ?_⟩)).trans e
  obtain ⟨l, hl⟩ := ht.2
  exact ⟨l, by unfold Blk at *; rw [e] at hl; exact hl⟩
theorem FrQ.of {B : Nat} {w w' : World} {S : Nat → Prop} (h : Fr S w w') (hs : ∀ k, k < w.heap.size → S k → Touch B w k) : FrQ B w w' := h.mono hs
theorem FrQ.of_below {B : Nat} {w w' : World} (h : Below w.heap.size w w') : FrQ B w w' := Fr.of_below h
theorem FrQ.below {B : Nat} {w w' : World} (h : FrQ B w w') (hB : B ≤ w.heap.size) : Below B w w' := Fr.below h hB (fun k hk => hk.1)
theorem FrQ.blk {B : Nat} {w w' : World} (h : FrQ B w w') {g e : Nat} {l : List Value} (hb : Blk w g e l) (hn : g < B ∨ (e ≠ 25 ∧ e ≠ 30 ∧ e ≠ 44)) : Blk w' g e l := by
  refine hb.kept h (fun ht => ?_)
  rcases hn with hn | ⟨h1, h2, h3⟩
  · have := ht.1; omega
  · obtain ⟨l', hl⟩ := ht.2
    unfold Blk at *
    rw [hb] at hl
    simp at hl
    rcases hl with hl | hl | hl
    · exact h1 hl.2
    · exact h2 hl.2
    · exact h3 hl.2

/-- A message with an empty ID. -/
def MsgB (w : World) (m : Nat) (t : Nat) : Prop := ∃ l, Blk w m 39 l ∧ l[0]? = some (.string ⟨#[]⟩) ∧ l[4]? = some (.int .u64 t)
theorem MsgB.is {w : World} {m t : Nat} (h : MsgB w m t) : IsMsg w m t := by
  obtain ⟨l, hb, h0, h4⟩ := h
  exact ⟨by rw [hb.cell, h0], by rw [hb.cell, h4]⟩
theorem MsgB.frq {B : Nat} {w w' : World} {m t : Nat} (h : MsgB w m t) (hf : FrQ B w w') : MsgB w' m t := by
  obtain ⟨l, hb, h0, h4⟩ := h
  exact ⟨l, hf.blk hb (.inr (by decide)), h0, h4⟩
theorem MsgB.below {w w' : World} {m t : Nat} (h : MsgB w m t) (hf : Below w.heap.size w w') : MsgB w' m t := by
  obtain ⟨l, hb, h0, h4⟩ := h
  exact ⟨l, hb.below hf hb.lt, h0, h4⟩

/-- One block of a queue: where its row lies, its capacity, its messages (their heap blocks). -/
structure Bk where
  g : Nat
  cap : Nat
  ms : List Nat

def Bk.sv (b : Bk) : Value := .slice (some ⟨b.g, 0, none⟩) b.ms.length b.cap

/-- One block as it lies in memory. -/
def Inn (w : World) (b : Bk) : Prop := ∃ tail, Blk w b.g 30 (b.ms.map ptr ++ tail) ∧ b.ms.length + tail.length = b.cap ∧ b.cap ≤ 9223372036854775807

theorem Inn.below {w w' : World} {b : Bk} (h : Inn w b) (hf : Below w.heap.size w w') : Inn w' b := by
  obtain ⟨t, hb, h1, h2⟩ := h
  exact ⟨t, hb.below hf hb.lt, h1, h2⟩
theorem Inn.kept {S : Nat → Prop} {w w' : World} {b : Bk} (h : Inn w b) (hf : Fr S w w') (hn : ¬ S b.g) : Inn w' b := by
  obtain ⟨t, hb, h1, h2⟩ := h
  exact ⟨t, hb.kept hf hn, h1, h2⟩
theorem Inn.lt {w : World} {b : Bk} (h : Inn w b) : b.g < w.heap.size := by obtain ⟨t, hb, _⟩ := h; exact hb.lt
theorem Inn.cell {w : World} {b : Bk} (h : Inn w b) {j m : Nat} (hj : b.ms[j]? = some m) : w.cell? ⟨b.g, j, none⟩ = some (.pointer (some ⟨m, 0, none⟩)) := by
  obtain ⟨t, hb, _⟩ := h
  rw [hb.cell, List.getElem?_append_left (by simp; exact (List.getElem?_eq_some_iff.1 hj).1), List.getElem?_map, hj]; rfl

/-- A queue's list of blocks as it lies behind the outer row og (capacity oc). -/
structure Rows' (w : World) (B og oc : Nat) (L : List Bk) : Prop where
  outer : ∃ tail, Blk w og 25 (L.map Bk.sv ++ tail) ∧ L.length + tail.length = oc ∧ oc ≤ 9223372036854775807
  inner : ∀ b ∈ L, Inn w b
  nodup : (L.map Bk.g).Nodup
  ge : ∀ b ∈ L, B ≤ b.g
  ogge : B ≤ og

theorem Rows'.below {w w' : World} {B og oc : Nat} {L : List Bk} (h : Rows' w B og oc L) (hf : Below w.heap.size w w') : Rows' w' B og oc L := by
  obtain ⟨⟨t, hb, h1, h2⟩, hi, hn, hg, ho⟩ := h
  exact ⟨⟨t, hb.below hf hb.lt, h1, h2⟩, fun b hb => (hi b hb).below hf, hn, hg, ho⟩

theorem Rows'.cell {w : World} {B og oc : Nat} {L : List Bk} (h : Rows' w B og oc L) {j : Nat} {b : Bk} (hj : L[j]? = some b) : w.cell? ⟨og, j, none⟩ = some b.sv := by
  obtain ⟨t, hb, _⟩ := h.outer
  rw [hb.cell, List.getElem?_append_left (by simp; exact (List.getElem?_eq_some_iff.1 hj).1), List.getElem?_map, hj]; rfl

/-- A queue: the struct at block Q, its rows, its messages (t: their timestamps). -/
def Rep (w : World) (B Q : Nat) (t : Nat → Nat) (X : List (List Nat)) : Prop :=
  B ≤ Q ∧ (∀ x ∈ X, ∀ m ∈ x, MsgB w m (t m)) ∧
  ((X = [] ∧ Blk w Q 44 [.slice none 0 0]) ∨
   ∃ og oc L, Blk w Q 44 [.slice (some ⟨og, 0, none⟩) L.length oc] ∧ Rows' w B og oc L ∧ L.map Bk.ms = X)

theorem Rep.below {w w' : World} {B Q : Nat} {t : Nat → Nat} {X : List (List Nat)} (h : Rep w B Q t X) (hf : Below w.heap.size w w') : Rep w' B Q t X := by
  obtain ⟨h1, h2, h3⟩ := h
  refine ⟨h1, fun x hx m hm => (h2 x hx m hm).below hf, ?_⟩
  rcases h3 with ⟨rfl, hb⟩ | ⟨og, oc, L, hb, hr, hx⟩
  · exact .inl ⟨rfl, hb.below hf hb.lt⟩
  · exact .inr ⟨og, oc, L, hb.below hf hb.lt, hr.below hf, hx⟩

/-- Where the search for the timestamp y comes to. -/
structure Found (t : Nat → Nat) (X : List (List Nat)) (y : Nat) (b i : Nat) (f : Bool) : Prop where
  le : b ≤ X.length
  before : ∀ x ∈ X.take b, ∀ m ∈ x, t m < y
  last : b = X.length → i = 0 ∧ f = false
  mid : ∀ x, X[b]? = some x → i < x.length ∧ (∀ m ∈ x.take i, t m < y) ∧ (∀ m ∈ x.drop i, y ≤ t m) ∧ (∀ x' ∈ X.drop (b + 1), ∀ m ∈ x', y < t m) ∧ (f = true ↔ ∃ m, x[i]? = some m ∧ t m = y)

/-- Each block holds something; the timestamps rise. -/
def Srt (t : Nat → Nat) (X : List (List Nat)) : Prop := (∀ x ∈ X, x ≠ []) ∧ X.flatten.Pairwise (fun a b => t a < t b)

/-- a rising row is cut by y -/
theorem cut_row (key : Nat → Nat) (y : Nat) : ∀ n, (∀ a b, a < b → b < n → key a ≤ key b) → ∃ r, r ≤ n ∧ (∀ j, j < r → key j < y) ∧ (∀ j, r ≤ j → j < n → y ≤ key j)
  | 0, _ => ⟨0, Nat.le_refl _, fun j h => by omega, fun j h h' => by omega⟩
  | n + 1, hm => by
    obtain ⟨r, hr, h1, h2⟩ := cut_row key y n (fun a b hab hb => hm a b hab (by omega))
    by_cases hk : key n < y
    · refine ⟨n + 1, Nat.le_refl _, fun j hj => ?_, fun j h h' => by omega⟩
      by_cases hjn : j = n
      · rw [hjn]; exact hk
      · have := hm j n (by omega) (by omega); omega
    · refine ⟨r, by omega, h1, fun j hj hjn => ?_⟩
      by_cases hjn' : j = n
      · rw [hjn']; omega
      · exact h2 j hj (by omega)

end Go.Proofs.Ybulkbrdi
