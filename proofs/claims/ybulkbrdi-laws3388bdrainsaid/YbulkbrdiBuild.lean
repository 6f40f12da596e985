/-
  b3388a: zzs3388bbuild.
-/
import Derived.Test.YbulkbrdiPlain2
import Derived.Test.YbulkbrdiRem2
import Derived.Deep.OwnRows
namespace Go.Proofs.Ybulkbrdi
open Go.RowKit
set_option linter.unusedVariables false
set_option linter.unusedSimpArgs false

theorem made_one (z : Value) (n : Nat) : madeCells #[z] n = (List.replicate n z).toArray := by
  apply Array.ext
  · simp [madeCells]
  · intro i h1 h2
    simp [madeCells, Nat.mod_one]

/-- a message's cells -/
def mcells (t : Int) : Array Value := #[.string ⟨#[]⟩, .slice none 0 0, .slice none 0 0, .slice none 0 0, .int .u64 t, .bool false, .map none, .bool false, .map none, .bool false, .map none, .slice none 0 0]

theorem msg_new (w : World) (t : Nat) (x : Int) (hx : x = (t : Int)) : MsgB (w.alloc (.cells (mcells x) 39)) w.heap.size t := by
  subst hx
  exact ⟨(mcells t).toList, Blk.new w 39 (mcells t).toList, rfl, rfl⟩

/-- behind k rounds of the first loop -/
structure BuildA (w : World) (count k : Nat) (wr : World) : Prop where
  size : wr.heap.size = w.heap.size + 1 + k
  row : Blk wr w.heap.size 30 ((List.range k).map (fun j => ptr (w.heap.size + 1 + j)) ++ List.replicate (count - k) (.pointer none))
  msg : ∀ j, j < k → MsgB wr (w.heap.size + 1 + j) (2 * j)
  bel : Below w.heap.size w wr

theorem buildA_start (w : World) (count : Nat) : BuildA w count 0 (w.alloc (.cells (Array.replicate count (.pointer none)) 30)) := by
  refine ⟨by simp, ?_, fun j hj => by omega, (Below.refl _ _).alloc (Nat.le_refl _) _⟩
  have := Blk.new w 30 (List.replicate count (.pointer none))
  simpa using this

theorem buildA_step {w wr : World} {count k : Nat} (h : BuildA w count k wr) (hk : k < count) (x : Int) (hx : x = ((2 * k : Nat) : Int)) :
    BuildA w count (k + 1) ((wr.setCell ⟨w.heap.size, k, none⟩ (.pointer (some ⟨wr.heap.size, 0, none⟩))).alloc (.cells (mcells x) 39)) := by
  have hs : (wr.setCell ⟨w.heap.size, k, none⟩ (.pointer (some ⟨wr.heap.size, 0, none⟩))).heap.size = wr.heap.size := by simp
  refine ⟨by rw [World.size_alloc, hs, h.size]; omega, ?_, fun j hj => ?_, (h.bel.setCell (Nat.le_refl _) _).alloc (by rw [hs]; exact h.bel.size) _⟩
  · have := (h.row.setCell k (.pointer (some ⟨wr.heap.size, 0, none⟩))).alloc (.cells (mcells x) 39)
    have e : ((List.range k).map (fun j => ptr (w.heap.size + 1 + j)) ++ List.replicate (count - k) (Value.pointer none)).set k (.pointer (some ⟨wr.heap.size, 0, none⟩)) = (List.range (k + 1)).map (fun j => ptr (w.heap.size + 1 + j)) ++ List.replicate (count - (k + 1)) (Value.pointer none) := by
      rw [List.set_append_right _ _ (by simp), List.range_succ, List.map_append, List.length_map, List.length_range, Nat.sub_self, show count - k = (count - (k + 1)) + 1 by omega, List.replicate_succ]
      simp [ptr, h.size]
    rw [e] at this; exact this
  · by_cases hjk : j < k
    · obtain ⟨l, hb, h0, h4⟩ := h.msg j hjk
      exact ⟨l, (hb.setCell_other (by show w.heap.size ≠ _; omega) _).alloc _, h0, h4⟩
    · have : j = k := by omega
      subst this
      have := msg_new (wr.setCell ⟨w.heap.size, j, none⟩ (.pointer (some ⟨wr.heap.size, 0, none⟩))) (2 * j) x hx
      have e2 := hs.trans h.size
      rw [e2] at this; exact this

theorem holds_congr {M : Nat → Nat} {count : Nat} {P P' : Nat → Bool} {X : List (List Nat)} (h : Holds M count P X) (he : ∀ k, k < count → P k = P' k) : Holds M count P' X := by
  unfold Holds at *
  rw [h]; congr 1
  exact List.filter_congr (fun a ha => he a (List.mem_range.1 ha))

theorem pos_len {X : List (List Nat)} (h : ∀ x ∈ X, x ≠ []) : X.length ≤ X.flatten.length := by
  induction X with
  | nil => simp
  | cons x r ih =>
    have h1 := List.length_pos_iff.2 (h x List.mem_cons_self)
    have h2 := ih (fun y hy => h y (List.mem_cons_of_mem _ hy))
    rw [List.flatten_cons, List.length_append, List.length_cons]; omega
theorem holds_len {M : Nat → Nat} {count : Nat} {P : Nat → Bool} {X : List (List Nat)} (h : Holds M count P X) (hi : Inv X) : X.length ≤ count := by
  have h1 := pos_len (ne_of_pos hi.pos)
  unfold Holds at h
  rw [h, List.length_map] at h1
  have := List.length_filter_le P (List.range count)
  rw [List.length_range] at this
  omega
theorem small_of {M : Nat → Nat} {count : Nat} {P : Nat → Bool} {X : List (List Nat)} (h : Holds M count P X) (hi : Inv X) (hc : count ≤ 10000) : Small X :=
  ⟨by have := holds_len h hi; omega, fun x hx => by have := of_fit hi.fit x hx; omega⟩

/-- message k's block; a block's timestamp -/
def mOf (N k : Nat) : Nat := N + 1 + k
def tOf (N m : Nat) : Nat := 2 * (m - (N + 1))
theorem tm (N count : Nat) : ∀ k, k < count → tOf N (mOf N k) = 2 * k := fun k _ => by unfold tOf mOf; omega

/-- A queue that holds just the messages with P, behind other memory. -/
structure QOk (w : World) (Q N count : Nat) (P : Nat → Bool) : Prop where
  q : ∃ X, Rep w Q Q (tOf N) X ∧ Inv X ∧ Holds (mOf N) count P X
  row : Blk w N 30 ((List.range count).map (fun j => ptr (N + 1 + j)))
  msg : ∀ j, j < count → MsgB w (N + 1 + j) (2 * j)
  Qe : Q = N + 1 + count

theorem QOk.cell {w : World} {Q N count : Nat} {P : Nat → Bool} (h : QOk w Q N count P) {k : Nat} (hk : k < count) : w.cell? ⟨N, k, none⟩ = some (.pointer (some ⟨N + 1 + k, 0, none⟩)) := by
  rw [h.row.cell, List.getElem?_map, List.getElem?_range hk]; rfl

/-- one add -/
theorem QOk.add {w : World} {Q N count : Nat} {P : Nat → Bool} (h : QOk w Q N count P) (hc : count ≤ 10000 - 1) {k : Nat} (hk : k < count) (hP : P k = false) :
    Calls Yba.prog 10 #[.pointer (some ⟨Q, 0, none⟩), .pointer (some ⟨N + 1 + k, 0, none⟩)] w fun e w' => e = .returned (.tuple #[]) ∧ QOk w' Q N count (addP P k) ∧ FrQ Q w w' := by
  obtain ⟨X, hR, hi, hh⟩ := h.q
  have hM := tm N count
  have hs := holds_srt hM hh hi.pos
  have hm : MsgB w (mOf N k) (tOf N (mOf N k)) := by rw [hM k hk]; exact h.msg k hk
  have hl := holds_len hh hi
  refine (add_any Q Q (mOf N k) X _ w hR hs (small_of hh hi (by omega)) hm (by omega) (of_fit hi.fit)).mono ?_
  rintro e w' ⟨rfl, hF, b, i, f, hfd, hR'⟩
  have hNQ : N < Q := by have := h.Qe; omega
  refine ⟨rfl, ⟨?_, hF.blk h.row (.inl hNQ), fun j hj => (h.msg j hj).frq hF, h.Qe⟩, hF⟩
  cases f with
  | true =>
    exfalso
    -- message k is not held
    obtain ⟨_, _, pre, a, post, e1, hy, _⟩ := rem_flat hfd
    unfold Holds at hh
    have ha : a ∈ X.flatten := by rw [e1]; simp
    rw [hh] at ha
    obtain ⟨c, hc', rfl⟩ := List.mem_map.1 ha
    have hcm := mem_fr.1 hc'
    have hce : c = k := by
      rw [hM c hcm.1, hM k hk] at hy
      omega
    rw [hce, hP] at hcm
    exact absurd hcm.2 (by simp)
  | false => exact ⟨_, hR', addM_inv hi hfd.le, holds_add hM hh hi.pos hk hfd⟩

/-- one remove -/
theorem QOk.rem {w : World} {Q N count : Nat} {P : Nat → Bool} (h : QOk w Q N count P) (hc : count ≤ 10000 - 1) {m y : Nat} (hm : MsgB w m y) :
    Calls Yba.prog 6 #[.pointer (some ⟨Q, 0, none⟩), .pointer (some ⟨m, 0, none⟩)] w fun e w' => e = .returned (.tuple #[]) ∧ QOk w' Q N count (remP P y) ∧ FrQ Q w w' := by
  obtain ⟨X, hR, hi, hh⟩ := h.q
  have hM := tm N count
  have hs := holds_srt hM hh hi.pos
  refine (remove_any Q Q m y X _ w hR hs (small_of hh hi (by omega)) hm).mono ?_
  rintro e w' ⟨rfl, hF, b, i, f, hfd, hR'⟩
  have hNQ : N < Q := by have := h.Qe; omega
  refine ⟨rfl, ⟨?_, hF.blk h.row (.inl hNQ), fun j hj => (h.msg j hj).frq hF, h.Qe⟩, hF⟩
  cases f with
  | true =>
    obtain ⟨h1, h2, _⟩ := rem_flat hfd
    exact ⟨_, hR', remM_inv hi h1 h2, holds_rem_yes hM hh hfd⟩
  | false => exact ⟨_, hR', hi, holds_rem_no hM hh hi.pos hfd⟩

theorem QOk.congr {w : World} {Q N count : Nat} {P P' : Nat → Bool} (h : QOk w Q N count P) (he : ∀ k, k < count → P k = P' k) : QOk w Q N count P' := by
  obtain ⟨⟨X, h1, h2, h3⟩, h4, h5, h6⟩ := h
  exact ⟨⟨X, h1, h2, holds_congr h3 he⟩, h4, h5, h6⟩

theorem qok_new {w wr : World} {count : Nat} (h : BuildA w count count wr) : QOk (wr.alloc (.cells #[.slice none 0 0] 44)) (w.heap.size + 1 + count) w.heap.size count (fun _ => false) := by
  refine ⟨⟨[], ⟨Nat.le_refl _, by simp, .inl ⟨rfl, ?_⟩⟩, ⟨fun k hk => by simp at hk, fun k => by simp [ln], fun k hk => by simp at hk⟩, ?_⟩, ?_, fun j hj => ?_, rfl⟩
  · have := Blk.new wr 44 [.slice none 0 0]
    rw [h.size] at this; exact this
  · unfold Holds; simp
  · have := h.row
    rw [Nat.sub_self, List.replicate_zero, List.append_nil] at this
    exact this.alloc _
  · obtain ⟨l, hb, h0, h4⟩ := h.msg j hj
    exact ⟨l, hb.alloc _, h0, h4⟩

/-- which messages have been added behind j rounds -/
def bP (rev : Bool) (count j : Nat) : Nat → Bool := fun k => if rev then decide (count - j ≤ k) else decide (k < j)
end Go.Proofs.Ybulkbrdi
