/-
  b3389a: plain matter for fidelity.New's tasks and outputs.
-/
import Derived.Test.YbulkbrdwNew0
namespace Go.Proofs.Ybulkbrdw
open Go.RowKit
set_option linter.unusedVariables false
set_option linter.unusedSimpArgs false

theorem fillS (f : Nat → Value) (z : Value) {k m : Nat} (hk : k < m) :
    ((List.range k).map f ++ List.replicate (m - k) z).set k (f k) = (List.range (k + 1)).map f ++ List.replicate (m - (k + 1)) z := by
  rw [List.set_append_right _ _ (by simp), List.length_map, List.length_range, Nat.sub_self, show m - k = (m - (k + 1)) + 1 by omega, List.replicate_succ, List.set_cons_zero, List.range_succ]
  simp
theorem fillG (f : Nat → Value) (z : Value) {k m : Nat} (hk : k < m) : ((List.range k).map f ++ List.replicate (m - k) z)[k]? = some z := by
  rw [List.getElem?_append_right (by simp), List.length_map, List.length_range, Nat.sub_self, List.getElem?_replicate, if_pos (by omega)]

/-- l tasks: the first i with join = j, the others with false -/
def tk (l i : Nat) (j : Bool) : List Value := (List.range l).flatMap fun x => [.bool (if x < i then j else false), .slice none 0 0]
theorem tk_length (l i : Nat) (j : Bool) : (tk l i j).length = l * 2 := by
  unfold tk
  induction l with
  | zero => rfl
  | succ n ih => rw [List.range_succ, List.flatMap_append, List.length_append, ih]; simp; omega
theorem two_get (f : Nat → List Value) (hf : ∀ k, (f k).length = 2) : ∀ (n k j : Nat), k < n → j < 2 → ((List.range n).flatMap f)[k * 2 + j]? = (f k)[j]?
  | 0, k, j, hk, _ => by omega
  | n + 1, k, j, hk, hj => by
    have hl : ∀ n, ((List.range n).flatMap f).length = n * 2 := fun n => by
      induction n with
      | zero => rfl
      | succ n ih => rw [List.range_succ, List.flatMap_append, List.length_append, ih]; simp [hf]; omega
    rw [List.range_succ, List.flatMap_append]
    by_cases h : k < n
    · rw [List.getElem?_append_left (by rw [hl]; omega)]
      exact two_get f hf n k j h hj
    · obtain rfl : k = n := by omega
      rw [List.getElem?_append_right (by rw [hl]; omega), hl, Nat.add_sub_cancel_left]
      simp
theorem tk_get (l i : Nat) (j : Bool) (x : Nat) (hx : x < l) (y : Nat) (hy : y < 2) : (tk l i j)[x * 2 + y]? = [Value.bool (if x < i then j else false), .slice none 0 0][y]? := by
  unfold tk; exact two_get _ (fun _ => rfl) l x y hx hy
theorem tk_set (l i : Nat) (j : Bool) (hi : i < l) : (tk l i j).set (i * 2) (.bool j) = tk l (i + 1) j := by
  apply List.ext_getElem?
  intro p
  obtain ⟨x, y, hy, rfl⟩ : ∃ x y, y < 2 ∧ p = x * 2 + y := ⟨p / 2, p % 2, Nat.mod_lt _ (by omega), by omega⟩
  by_cases hx : x < l
  · rw [List.getElem?_set, tk_get _ _ _ _ hx _ hy, tk_get _ _ _ _ hx _ hy, tk_length]
    by_cases h : i * 2 = x * 2 + y
    · have hxi : x = i := by omega
      have hy0 : y = 0 := by omega
      subst hxi; subst hy0
      rw [if_pos (by omega), if_pos (by omega)]; simp
    · rw [if_neg h]
      match y, hy with
      | 0, _ =>
        have : (x < i + 1) ↔ (x < i) := by omega
        simp [this]
      | 1, _ => rfl
  · rw [List.getElem?_eq_none (by rw [List.length_set, tk_length]; omega), List.getElem?_eq_none (by rw [tk_length]; omega)]
theorem tk_one (l i : Nat) (j : Bool) : ∀ u ∈ tk l i j, u.oneCell' = true := by
  intro u hu
  unfold tk at hu
  obtain ⟨x, _, hx⟩ := List.mem_flatMap.1 hu
  simp at hx
  rcases hx with rfl | rfl <;> rfl
theorem tk_full (l : Nat) (j : Bool) : tk l l j = (List.range l).flatMap fun _ => [.bool j, .slice none 0 0] := by
  unfold tk
  rw [List.flatMap_def, List.flatMap_def]
  congr 1
  apply List.map_congr_left
  intro x hx
  rw [if_pos (List.mem_range.1 hx)]
/-- all tasks of the operators below k -/
def tasksL (L : Nat → Nat) (jn : Nat → Bool) (k : Nat) : List Value := (List.range k).flatMap fun o => tk (L o) (L o) (jn o)
theorem tasksL_succ (L : Nat → Nat) (jn : Nat → Bool) (k : Nat) : tasksL L jn (k + 1) = tasksL L jn k ++ tk (L k) (L k) (jn k) := by
  unfold tasksL; rw [List.range_succ, List.flatMap_append]; simp
theorem tasksL_length (L : Nat → Nat) (jn : Nat → Bool) : ∀ k, (tasksL L jn k).length = sL L k * 2
  | 0 => rfl
  | k + 1 => by rw [tasksL_succ, List.length_append, tasksL_length L jn k, tk_length]; show _ = (sL L k + L k) * 2; omega
theorem made_two (l : Nat) : madeCells #[.bool false, .slice none 0 0] (l * 2) = (tk l 0 false).toArray := by
  apply Array.ext
  · rw [size_madeCells]; simp [tk_length]
  · intro i h1 h2
    rw [size_madeCells] at h1
    obtain ⟨x, y, hy, rfl⟩ : ∃ x y, y < 2 ∧ i = x * 2 + y := ⟨i / 2, i % 2, Nat.mod_lt _ (by omega), by omega⟩
    have hg := tk_get l 0 false x (by omega) y hy
    have h3 : (tk l 0 false)[x * 2 + y]'(by rw [tk_length]; omega) = [Value.bool (if x < 0 then false else false), .slice none 0 0][y]'(by simpa using hy) := by
      rw [List.getElem?_eq_getElem (by rw [tk_length]; omega), List.getElem?_eq_getElem (by simpa using hy)] at hg
      exact Option.some.inj hg
    rw [show (tk l 0 false).toArray[x * 2 + y]'h2 = (tk l 0 false)[x * 2 + y]'(by rw [tk_length]; omega) from rfl, h3]
    have hm : (x * 2 + y) % 2 = y := by omega
    have hc : ∀ (h : x * 2 + y < (madeCells #[Value.bool false, .slice none 0 0] (l * 2)).size), (madeCells #[Value.bool false, .slice none 0 0] (l * 2))[x * 2 + y]'h = (#[Value.bool false, .slice none 0 0] : Array Value)[(x * 2 + y) % 2]! := fun h => by simp [madeCells]
    rw [hc, hm]
    have hy2 : y = 0 ∨ y = 1 := by omega
    clear hc h3 hg h1 hm h2
    rcases hy2 with rfl | rfl
    · simp
    · simp

theorem make57 (l : Nat) (hl : l ≤ 4096) (w : World) : (Instr.makeSlice 57 (.int .i64 (l : Int)) (.int .i64 (l : Int))).run Yba.prog w = .ok (.slice (some ⟨w.heap.size, 0, none⟩) l l) (w.alloc (.cells (tk l 0 false).toArray 62)) := by
  obtain ⟨i, hi, hz, hs, hb⟩ := info_parts (P := Yba.prog) (e := 62) (z := .agg #[.bool false, .slice none 0 0]) (size := 2) (bytes := 32) (by kernel_rfl)
  have hr := run_make (P := Yba.prog) w 57 62 i _ Yba.underlying57 hi hz .i64 .i64 l l (by omega) (Int.le_refl _) (by rw [hb]; omega) (by omega)
  simp only [Int.toNat_natCast, hs] at hr
  rw [show (Value.agg #[.bool false, .slice none 0 0]).cells = #[.bool false, .slice none 0 0] from rfl, made_two] at hr
  exact hr

/-- behind k rounds of New's third loop -/
structure N3 (w : World) (L : Nat → Nat) (jn : Nat → Bool) (rt : Nat → Nat → Nat) (n mx g c : Nat) (tl : List Value) (FB k : Nat) (st : Value) (wr : World) : Prop where
  m : Blk wr w.heap.size 59 [st, .slice none 0 0, .slice (some ⟨g, 0, none⟩) (sL L n) c]
  rates : Blk wr g 27 ((List.range (sL L n)).map (fun i => .float .f64 (rFin mx (rAt L rt n i))) ++ tl)
  first : Blk wr FB 3 ((List.range k).map (fun i => .int .i64 (sL L i)) ++ List.replicate (n - k) (.int .i64 0))
  own : wr.ownsRow (FB + 1) 62 2 st (sL L k) (tasksL L jn k)
  ord : w.heap.size < FB ∧ g < FB ∧ w.heap.size + 1 ≤ g
  fr : Fr (fun _ => False) w wr
theorem n3_start {w : World} {L : Nat → Nat} {jn : Nat → Bool} {rt : Nat → Nat → Nat} {n mx g c : Nat} {tl : List Value} {wr : World} (h : N2 w L rt n mx g c tl wr) :
    N3 w L jn rt n mx g c tl wr.heap.size 0 (.slice none 0 0) (wr.alloc (.cells (List.replicate n (.int .i64 0)).toArray 3)) :=
  ⟨h.m.alloc _, h.rates.alloc _, Blk.new wr 3 (List.replicate n (.int .i64 0)), (by exact owns_nil _ _ _ _), ⟨h.m.lt, h.rates.lt, h.base⟩, h.fr.alloc _⟩

/-- inside New's third loop: the operator's copy at H0, its tasks at TB, i of them marked -/
structure N3m (w : World) (L : Nat → Nat) (jn : Nat → Bool) (rt : Nat → Nat → Nat) (n mx g c : Nat) (tl : List Value) (FB k : Nat) (st : Value) (oc : List Value) (H0 i : Nat) (wr : World) : Prop where
  m : Blk wr w.heap.size 59 [st, .slice none 0 0, .slice (some ⟨g, 0, none⟩) (sL L n) c]
  rates : Blk wr g 27 ((List.range (sL L n)).map (fun i => .float .f64 (rFin mx (rAt L rt n i))) ++ tl)
  first : Blk wr FB 3 ((List.range (k + 1)).map (fun i => .int .i64 (sL L i)) ++ List.replicate (n - (k + 1)) (.int .i64 0))
  own : wr.ownsRow (FB + 1) 62 2 st (sL L k) (tasksL L jn k)
  ownlt : ∀ j, st.ownBlock = some j → j < H0
  op : Blk wr H0 47 oc
  tb : Blk wr (H0 + 1) 62 (tk (L k) i (jn k))
  ord : w.heap.size < FB ∧ g < FB ∧ w.heap.size + 1 ≤ g ∧ FB < H0
  fr : Fr (fun _ => False) w wr
section
variable {w : World} {L : Nat → Nat} {jn : Nat → Bool} {rt : Nat → Nat → Nat} {n mx g c : Nat} {tl : List Value} {FB k : Nat} {st : Value} {oc : List Value} {wr : World}
theorem N3.enter (h : N3 w L jn rt n mx g c tl FB k st wr) (hk : k < n) :
    N3m w L jn rt n mx g c tl FB k st oc wr.heap.size 0 (((wr.setCell ⟨FB, k, none⟩ (.int .i64 (sL L k))).alloc (.cells oc.toArray 47)).alloc (.cells (tk (L k) 0 false).toArray 62)) := by
  obtain ⟨o1, o2, o3⟩ := h.ord
  have hf := h.first.lt
  have hown := h.own.lt
  have hs0 : (wr.setCell ⟨FB, k, none⟩ (.int .i64 (sL L k))).heap.size = wr.heap.size := by simp [World.setCell]
  have hsz : ((wr.setCell ⟨FB, k, none⟩ (.int .i64 (sL L k))).alloc (.cells oc.toArray 47)).heap.size = wr.heap.size + 1 := by rw [World.size_alloc, hs0]
  refine ⟨?_, ?_, ?_, ?_, fun j hj => (hown j hj).2, ?_, ?_, ⟨o1, o2, o3, hf⟩, ?_⟩
  · exact ((h.m.setCell_other (by show FB ≠ _; omega) _).alloc _).alloc _
  · exact ((h.rates.setCell_other (by show FB ≠ _; omega) _).alloc _).alloc _
  · refine Blk.alloc (Blk.alloc ?_ _) _
    have := h.first.setCell k (.int .i64 (sL L k))
    rw [fillS (fun i => .int .i64 (sL L i)) _ hk] at this
    exact this
  · refine owns_kept (S := (· = FB)) h.own (((Fr.refl (· = FB) wr).setCell (.inl rfl) _).alloc _ |>.alloc _) (fun j hj e => ?_)
    have := (hown j hj).1
    omega
  · have := Blk.new (wr.setCell ⟨FB, k, none⟩ (.int .i64 (sL L k))) 47 oc
    rw [hs0] at this
    exact this.alloc _
  · have := Blk.new ((wr.setCell ⟨FB, k, none⟩ (.int .i64 (sL L k))).alloc (.cells oc.toArray 47)) 62 (tk (L k) 0 false)
    rw [hsz] at this
    have e : tk (L k) 0 (jn k) = tk (L k) 0 false := by unfold tk; simp
    rw [e]; exact this
  · exact ((h.fr.setCell (.inr (by show _ ≤ FB; omega)) _).alloc _).alloc _
theorem N3m.next {H0 i : Nat} (h : N3m w L jn rt n mx g c tl FB k st oc H0 i wr) (hi : i < L k) : N3m w L jn rt n mx g c tl FB k st oc H0 (i + 1) (wr.setCell ⟨H0 + 1, i * 2, none⟩ (.bool (jn k))) := by
  obtain ⟨o1, o2, o3, o4⟩ := h.ord
  refine ⟨h.m.setCell_other (by show H0 + 1 ≠ _; omega) _, h.rates.setCell_other (by show H0 + 1 ≠ _; omega) _, h.first.setCell_other (by show H0 + 1 ≠ _; omega) _, ?_, h.ownlt, h.op.setCell_other (by show H0 + 1 ≠ _; omega) _, ?_, h.ord, h.fr.setCell (.inr (by show _ ≤ H0 + 1; omega)) _⟩
  · refine owns_kept (S := (· = H0 + 1)) h.own ((Fr.refl (· = H0 + 1) wr).setCell (.inl rfl) _) (fun j hj e => ?_)
    have := h.ownlt j hj
    omega
  · have := h.tb.setCell (i * 2) (.bool (jn k))
    rw [tk_set _ _ _ hi] at this; exact this
/-- behind the append of the tasks -/
theorem N3m.leave {H0 : Nat} {v' : Value} {w1 : World} (h : N3m w L jn rt n mx g c tl FB k st oc H0 (L k) wr) (hown : w1.ownsRow (FB + 1) 62 2 v' (sL L k + L k) (tasksL L jn k ++ tk (L k) (L k) (jn k))) (hg : wr.grownBy w1 st.ownBlock) :
    N3 w L jn rt n mx g c tl FB (k + 1) v' (w1.setCell ⟨w.heap.size, 0, none⟩ v') := by
  obtain ⟨o1, o2, o3, o4⟩ := h.ord
  have hb := owns_base h.own
  have hF : Fr (fun b => FB + 1 ≤ b) wr w1 := ⟨hg.os, hg.tape, hg.output, hg.size, fun j hj hn => hg.block j hj (fun e => hn (hb j e.symm))⟩
  have hm := h.m.kept hF (by omega)
  refine ⟨hm.setCell 0 v', (h.rates.kept hF (by omega)).setCell_other (by show w.heap.size ≠ _; omega) _, (h.first.kept hF (by omega)).setCell_other (by show w.heap.size ≠ _; omega) _, ?_, ⟨o1, o2, o3⟩, ?_⟩
  · rw [tasksL_succ]
    refine owns_kept (S := (· = w.heap.size)) hown ((Fr.refl (· = w.heap.size) w1).setCell (.inl rfl) _) (fun j hj e => ?_)
    have := owns_base hown j hj
    omega
  · exact (h.fr.grown hg (fun j hj => .inr (by have := hb j hj; omega))).setCell (.inr (Nat.le_refl _)) _
end
end Go.Proofs.Ybulkbrdw
