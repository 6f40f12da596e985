import Derived.Test.YbulkbrdiRows
import Derived.Test.YbulkbrdiBase
import Derived.Test.YbulkbrdiDel
import Derived.WalkKit
import Derived.Handy
import Derived.Deep.RegionLaw
import Derived.Deep.AppendLies
import Derived.Lib.SliceRun
import Derived.Shelf.Spec.SlicesInsertGrow
namespace Go.Proofs.Ybulkbrdi
open Go.RowKit Go.Lib
set_option linter.unusedVariables false
set_option linter.unusedSimpArgs false

theorem over_ins1 (R D : List Value) (x : Value) (i : Nat) (h : i + 1 + D.length ≤ R.length) : over (over R i [x]) (i + 1) D = R.take i ++ x :: D ++ R.drop (i + 1 + D.length) := by
  rw [over_eq _ _ _ (by rw [over_length]; omega), over_eq R [x] i (by simp; omega)]
  have e1 : (R.take i ++ [x]).length = i + 1 := by simp; omega
  have e2 : (R.take i ++ [x] ++ R.drop (i + [x].length)).take (i + 1) = R.take i ++ [x] := by
    rw [List.take_append_of_le_length (by omega), List.take_of_length_le (by omega)]
  have e3 : (R.take i ++ [x] ++ R.drop (i + [x].length)).drop (i + 1 + D.length) = R.drop (i + 1 + D.length) := by
    rw [← List.drop_drop, List.drop_append_of_le_length (by omega), List.drop_of_length_le (by omega : (R.take i ++ [x]).length ≤ i + 1), List.nil_append, List.drop_drop]
    rfl
  rw [e2, e3]; simp
theorem over_ins2 (R D : List Value) (x : Value) (i : Nat) (h : i + 1 + D.length ≤ R.length) : over (over R (i + 1) D) i [x] = R.take i ++ x :: D ++ R.drop (i + 1 + D.length) := by
  rw [over_eq _ _ _ (by rw [over_length]; simp; omega), over_eq R D (i + 1) (by omega)]
  have e0 : (R.take (i + 1) ++ (D ++ R.drop (i + 1 + D.length))).take i = R.take i := by
    rw [List.take_append_of_le_length (by simp; omega), List.take_take, Nat.min_eq_left (by omega)]
  have e1 : (R.take (i + 1) ++ (D ++ R.drop (i + 1 + D.length))).drop (i + [x].length) = D ++ R.drop (i + 1 + D.length) := by
    rw [List.drop_append_of_le_length (by simp; omega), List.drop_of_length_le (by simp; omega), List.nil_append]
  rw [List.append_assoc (R.take (i + 1)), e0, e1]; simp
/-- what slices.Insert makes of a row -/
def insL (xs : List Value) (i : Nat) (x : Value) : List Value := xs.take i ++ x :: xs.drop i

theorem owns_of_blk {w : World} {g e n c : Nat} {cs tail : List Value} (hb : Blk w g e (cs ++ tail)) (hcl : cs.length = n) (hcap : n + tail.length = c) (hm : c ≤ maxLen) :
    w.ownsRow 0 e 1 (.slice (some ⟨g, 0, none⟩) n c) n cs :=
  ⟨by omega, .inr ⟨g, c, _, rfl, Nat.zero_le _, hb, by omega, hm, by simp; omega, by simp [← hcl]⟩⟩
theorem blk_of_owns {w : World} {g e n c B : Nat} {cs : List Value} (h : w.ownsRow B e 1 (.slice (some ⟨g, 0, none⟩) n c) n cs) :
    ∃ tail, Blk w g e (cs ++ tail) ∧ cs.length = n ∧ n + tail.length = c ∧ c ≤ maxLen ∧ B ≤ g := by
  obtain ⟨h1, ⟨h2, _⟩ | ⟨g', c', cur, hv, hB, hh, hn, hm, hs, ht⟩⟩ := h
  · cases h2
  · cases hv
    refine ⟨cur.toList.drop n, ?_, by omega, by simp; omega, hm, hB⟩
    have : cs ++ cur.toList.drop n = cur.toList := by rw [← ht, Nat.mul_one, List.take_append_drop]
    show w.heap[g]? = _
    rw [this, hh]

set_option maxHeartbeats 4000000 in
set_option maxRecDepth 100000 in
theorem ins30_shift (g n c i vb : Nat) (cs : List Value) (x : Value) (tail : List Value) (w : World) (hi : i < n) (hroom : n + 1 ≤ c) (hc63 : c ≤ 9223372036854775807) (hvb : vb ≠ g)
    (hb : Blk w g 30 (cs ++ tail)) (hcl : cs.length = n) (hcap : n + tail.length = c) (hv : Blk w vb 30 [x]) (h1c : ∀ v ∈ cs, v.oneCell' = true) (h1v : x.oneCell' = true) :
    Calls Yba.prog 15 #[.slice (some ⟨g, 0, none⟩) n c, .int .i64 i, .slice (some ⟨vb, 0, none⟩) 1 1] w fun e w' =>
      e = .returned (.slice (some ⟨g, 0, none⟩) (n + 1) c) ∧ w' = (w.drew.setCells g (i + 1) (cs.drop i)).setCells g i [x] := by
  have hz2 : ¬ ((i : Int) = (n : Int)) := by omega
  have hsz : (Yba.prog.info? 30).map (·.size) = some 1 := by
    obtain ⟨i0, hi0, h0, h1, h2⟩ := info_parts Yba.info30
    rw [hi0]; simp [h1]
  have hov : ∀ lb cb, (callFunc 22 #[.slice (some ⟨vb, 0, none⟩) 1 1, .slice (some ⟨g, i + 1, none⟩) lb cb]).run Yba.prog w = .ok (.value (.bool false)) w := fun lb cb => by
    rw [run_callFunc_extern Yba.func22 (by kernel_rfl) (by kernel_rfl) (by kernel_rfl) (e := Extern.SlicesOverlaps.overlaps #[25, 25] #[4]) (by kernel_rfl),
      Lib.run_overlaps_apart w 25 4 30 Yba.underlying25 1 Yba.sizeOf30 ⟨vb, 0, none⟩ ⟨g, i + 1, none⟩ 1 1 lb cb hvb 30 30 1 c (by rw [hv.shape]; rfl) (by rw [hb.shape]; simp [hcl, hcap]) (by omega) (hv.frozen _) (hv.frozen _)]
    rfl
  have hdl : (cs.drop i).length = n - i := by rw [List.length_drop, hcl]
  have hsp : ∀ j, j < n + 1 → (w.cell? ⟨g, j, none⟩).isSome = true := fun j hj => by
    rw [hb.cell, List.getElem?_eq_getElem (by simp; omega)]; rfl
  have hw1 : IntKind.i64.wrap ((i : Int) + 1) = (i : Int) + 1 := by rw [IntKind.wrap_i64]; omega
  have hb1 : (0 : Int) ≤ (i : Int) + 1 := by omega
  have hin : i ≤ n := by omega
  have htn : ((i : Int) + 1).toNat = i + 1 := by omega
  have hb2 : ¬ (c = i + 1) := by omega
  have hb3 : (i : Int) ≤ (n : Int) + 1 := by omega
  have hb4 : ¬ (c = i) := by omega
  have hcp1 : ∀ ty dc sc, (Builtin.copy_ #[25, 25] ty #[.slice (some ⟨g, i + 1, none⟩) (n - i) dc, .slice (some ⟨g, i, none⟩) (n + 1 - i) sc]).run Yba.prog w.drew = .ok (goInt (cs.drop i).length) (w.drew.setCells g (i + 1) (cs.drop i)) := fun ty dc sc =>
    run_copy_cells w.drew _ _ ty 30 g (i + 1) (n - i) dc ⟨g, i, none⟩ (n + 1 - i) sc (cs.drop i) Yba.underlying25 hsz (by rw [hdl]; simp only [Nat.min_def]; split <;> omega)
      (fun j v hj => by
        rw [Addr.add_lit, World.cell?_drew, hb.cell, ← hj, List.getElem?_drop, List.getElem?_append_left]
        have := (List.getElem?_eq_some_iff.1 hj).1
        rw [hdl] at this; omega)
      (fun j hj => by rw [World.cell?_drew]; exact hsp _ (by omega)) (fun j hj => hb.frozen _) (fun v hv => h1c v (List.mem_of_mem_drop hv))
  obtain ⟨W1, hW1⟩ : ∃ W1, W1 = w.drew.setCells g (i + 1) (cs.drop i) := ⟨_, rfl⟩
  have hB1 : Blk W1 g 30 (over (cs ++ tail) (i + 1) (cs.drop i)) := by rw [hW1]; exact Blk.setCells _ _ hb
  have hV1 : Blk W1 vb 30 [x] := by rw [hW1]; exact Blk.setCells_other (fun e => hvb e.symm) _ _ hv
  have hL1 : (over (cs ++ tail) (i + 1) (cs.drop i)).length = c := by rw [over_length]; simp [hcl, hcap]
  have hcp2 : ∀ (W : World), (∀ x, W.cell? x = W1.cell? x) → (∀ x, W.frozen? x = W1.frozen? x) → ∀ ty dc, (Builtin.copy_ #[25, 25] ty #[.slice (some ⟨g, i, none⟩) (n + 1 - i) dc, .slice (some ⟨vb, 0, none⟩) 1 1]).run Yba.prog W = .ok (goInt [x].length) (W.setCells g i [x]) := fun W hWc hWf ty dc =>
    run_copy_cells W _ _ ty 30 g i (n + 1 - i) dc ⟨vb, 0, none⟩ 1 1 [x] Yba.underlying25 hsz (by simp only [List.length_singleton, Nat.min_def]; split <;> omega)
      (fun j v hj => by rw [Addr.add_lit, hWc, hV1.cell, Nat.zero_add]; exact hj)
      (fun j hj => by rw [hWc, hB1.cell, List.getElem?_eq_getElem (by rw [hL1]; simp at hj; omega)]; rfl) (fun j hj => by rw [hWf]; exact hB1.frozen _) (fun v hv => by simp at hv; rw [hv]; exact h1v)
  rw [← hW1] at hcp1
  have X : Hid (W1 = w.drew.setCells g (i + 1) (cs.drop i)) := hW1
  clear hW1 hB1 hV1 hL1 hb hv hsp h1c hdl
  go_enter Yba.func15, Yba.ntmps15
  go_wp2_with (simp only [hov])
  go_region_law (refine step_copy_runI rfl _ _ 25 25 rfl _ _ (by simp [Act.eval, Act.put]) (by simp [Act.eval, Act.put]) (hcp1 _ _ _) ?_)
  go_wp2_with (at_builtin; refine wpList_copy_runI _ rfl _ _ 25 25 rfl _ _ rfl rfl (hcp2 _ (fun _ => rfl) (fun _ => rfl) _ _) ?_)
  go_ret
  exact ⟨rfl, by rw [X.out]⟩

set_option maxHeartbeats 4000000 in
set_option maxRecDepth 100000 in
theorem ins30_end (g n c vb : Nat) (cs : List Value) (x : Value) (tail : List Value) (w : World) (hn : n ≤ 100000) (hc63 : c ≤ 9223372036854775807)
    (hb : Blk w g 30 (cs ++ tail)) (hcl : cs.length = n) (hcap : n + tail.length = c) (hv : Blk w vb 30 [x]) (h1v : x.oneCell' = true) :
    Calls Yba.prog 15 #[.slice (some ⟨g, 0, none⟩) n c, .int .i64 n, .slice (some ⟨vb, 0, none⟩) 1 1] w fun e w' =>
      ∃ g' c', e = .returned (.slice (some ⟨g', 0, none⟩) (n + 1) c') ∧ w'.ownsRow 0 30 1 (.slice (some ⟨g', 0, none⟩) (n + 1) c') (n + 1) (cs ++ [x]) ∧ w.grownBy w' (some g) ∧ (g' = g ∨ g' = w.heap.size) := by
  obtain ⟨i0, hi0, hz0, hz1, hz2⟩ := info_parts Yba.info30
  have hown := owns_of_blk hb hcl hcap (by unfold maxLen; omega)
  have hnews : ∀ j u, [x][j]? = some u → w.cell? ((⟨vb, 0, none⟩ : Addr).add j) = some u := fun j u hu => by
    rw [Addr.add_lit, hv.cell, Nat.zero_add]; exact hu
  have X : Hid (w.ownsRow 0 30 1 (.slice (some ⟨g, 0, none⟩) n c) n cs) := hown
  have Y : Hid (∀ j u, [x][j]? = some u → w.cell? ((⟨vb, 0, none⟩ : Addr).add j) = some u) := hnews
  clear hown hnews hb hv
  go_enter Yba.func15, Yba.ntmps15
  go_wp2_with (at_builtin; refine wpList_append_lies _ (by rfl) _ _ _ (by rfl) 0 30 i0 (.pointer none) 1 8 Yba.underlying25 hi0 hz0 hz1 hz2 rfl (by omega) _ n cs (by rfl) X.out ⟨vb, 0, none⟩ 1 1 [x] (by rfl) (by rfl) Y.out (by simp [h1v]) (by omega) (by unfold maxLen; omega) (by omega) (Nat.zero_le _) w.heap.size rfl ?_; intro g' c' w1 hown1 hgrow hat hlt)
  all_goals
    go_ret
    refine ⟨g', c', rfl, hown1, hgrow, ?_⟩
    rcases hat with h | h
    · left; simpa [Value.ownBlock] using h.symm
    · exact .inr h

set_option maxHeartbeats 4000000 in
set_option maxRecDepth 100000 in
theorem ins30_grow (g n c i vb : Nat) (cs : List Value) (x : Value) (tail : List Value) (w : World) (hi : i < n) (hn : n ≤ 100000) (hroom : c < n + 1)
    (hb : Blk w g 30 (cs ++ tail)) (hcl : cs.length = n) (hcap : n + tail.length = c) (hv : Blk w vb 30 [x]) (h1c : ∀ v ∈ cs, v.oneCell' = true) (h1v : x.oneCell' = true) :
    Calls Yba.prog 15 #[.slice (some ⟨g, 0, none⟩) n c, .int .i64 i, .slice (some ⟨vb, 0, none⟩) 1 1] w fun e w' =>
      ∃ c' tail', e = .returned (.slice (some ⟨w.heap.size, 0, none⟩) (n + 1) c') ∧ c' ≤ 9223372036854775807 ∧ n + 1 + tail'.length = c' ∧ Blk w' w.heap.size 30 (insL cs i x ++ tail') ∧ Fr (fun _ => False) w w' := by
  obtain ⟨i0, hi0, hz0, hzs, hzb⟩ := info_parts Yba.info30
  have hz2 : ¬ ((i : Int) = (n : Int)) := by omega
  have hz3 : (c : Int) < (n : Int) + 1 := by omega
  have hsz : (Yba.prog.info? 30).map (·.size) = some 1 := by rw [hi0]; simp [hzs]
  have hbw : g < w.heap.size := hb.lt
  have hvw : vb < w.heap.size := hv.lt
  have hkk : (n : Int) + 1 - (i : Int) = ((n + 1 - i : Nat) : Int) := by omega
  have hik : i + (n + 1 - i) = n + 1 := by omega
  have hold : (Builtin.firstCells i0.size i (.slice (some ⟨g, 0, none⟩) i c)).run Yba.prog w.drew = .ok (cs.take i).toArray w.drew := by
    rw [hzs]
    exact run_firstCells_some w.drew 1 i ⟨g, 0, none⟩ i c (cs.take i) (by rw [List.length_take]; omega) (fun j v hj => by
      rw [Addr.add_lit, World.cell?_drew, hb.cell, Nat.zero_add]
      rw [List.getElem?_take] at hj
      split at hj
      · rw [← hj, List.getElem?_append_left (by omega)]
      · cases hj)
  have hbig : (n + 1) * 8 ≤ 140737488355328 := by omega
  have hrz : ∀ ty, (Builtin.append_ #[25, 3] ty #[.slice (some ⟨g, 0, none⟩) i c, .int .i64 ((n : Int) + 1 - (i : Int))]).run Yba.prog w =
      .ok (.slice (some ⟨w.heap.size, 0, none⟩) (n + 1) (grownCap w (n + 1) c 30)) (w.drew.alloc (.cells ((cs.take i).toArray ++ Builtin.zeroCells (Value.cells (.pointer none)) (n + 1 - i) ++ Builtin.zeroCells (Value.cells (.pointer none)) (grownCap w (n + 1) c 30 - (n + 1))) 30)) := fun ty => by
    have h := Lib.run_append_grow_zeros w 25 3 ty 30 i0 _ .i64 .i64 Yba.underlying25 Yba.underlying3 hi0 hz0 (some ⟨g, 0, none⟩) i c (cs.take i) hold (n + 1 - i) (by omega) (by omega) (by omega) (by omega) (by rw [hzb]; omega) (by rw [hzb, hik]; exact growslice_fits hroom hbig)
    rw [hik] at h
    rw [hkk]
    exact h
  obtain ⟨G, hG⟩ : ∃ G, G = grownCap w (n + 1) c 30 := ⟨_, rfl⟩
  have hGn : n + 1 ≤ G := by rw [hG]; exact grownCap_ge w _ _ _
  have hG63 : G ≤ 9223372036854775807 := by
    have := grownCap_le_maxLen w (n + 1) c 30 (by unfold maxLen; omega)
    rw [← hG] at this
    unfold maxLen at this
    omega
  obtain ⟨ROW, hROW⟩ : ∃ ROW : List Value, ROW.toArray = (cs.take i).toArray ++ Builtin.zeroCells (Value.cells (.pointer none)) (n + 1 - i) ++ Builtin.zeroCells (Value.cells (.pointer none)) (G - (n + 1)) := ⟨((cs.take i).toArray ++ Builtin.zeroCells (Value.cells (.pointer none)) (n + 1 - i) ++ Builtin.zeroCells (Value.cells (.pointer none)) (G - (n + 1))).toList, by rw [Array.toArray_toList]⟩
  rw [← hG] at hrz
  rw [← hROW] at hrz
  have hRl : ROW.length = G := by
    have := congrArg Array.size hROW
    simp [Builtin.zeroCells, Value.cells] at this
    omega
  have hRt : ROW.take i = cs.take i := by
    have : ROW = cs.take i ++ ((Builtin.zeroCells (Value.cells (.pointer none)) (n + 1 - i)).toList ++ (Builtin.zeroCells (Value.cells (.pointer none)) (G - (n + 1))).toList) := by
      have := congrArg Array.toList hROW
      simpa using this
    rw [this, List.take_append_of_le_length (by simp; omega), List.take_take, Nat.min_self]
  obtain ⟨W1, hW1⟩ : ∃ W1, W1 = w.drew.alloc (.cells ROW.toArray 30) := ⟨_, rfl⟩
  rw [← hW1] at hrz
  have hB1 : Blk W1 w.heap.size 30 ROW := by rw [hW1]; exact Blk.new w.drew 30 ROW
  have hO1 : Blk W1 g 30 (cs ++ tail) := by rw [hW1]; exact Blk.alloc (w := w.drew) hb _
  have hV1 : Blk W1 vb 30 [x] := by rw [hW1]; exact Blk.alloc (w := w.drew) hv _
  have hcpA : ∀ (W : World), (∀ x, W.cell? x = W1.cell? x) → (∀ x, W.frozen? x = W1.frozen? x) → ∀ ty dc, (Builtin.copy_ #[25, 25] ty #[.slice (some ⟨w.heap.size, i, none⟩) (n + 1 - i) dc, .slice (some ⟨vb, 0, none⟩) 1 1]).run Yba.prog W = .ok (goInt [x].length) (W.setCells w.heap.size i [x]) := fun W hWc hWf ty dc =>
    run_copy_cells W _ _ ty 30 w.heap.size i (n + 1 - i) dc ⟨vb, 0, none⟩ 1 1 [x] Yba.underlying25 hsz (by simp only [List.length_singleton, Nat.min_def]; split <;> omega)
      (fun j v hj => by rw [Addr.add_lit, hWc, hV1.cell, Nat.zero_add]; exact hj)
      (fun j hj => by rw [hWc, hB1.cell, List.getElem?_eq_getElem (by rw [hRl]; simp at hj; omega)]; rfl) (fun j hj => by rw [hWf]; exact hB1.frozen _) (fun v hv => by simp at hv; rw [hv]; exact h1v)
  have hGi : ¬ (G = i) := by omega
  have hGim : ¬ (G = i + 1) := by omega
  have hci : ¬ (c = i) := by omega
  have hgN : g ≠ w.heap.size := by omega
  have hdl : (cs.drop i).length = n - i := by rw [List.length_drop, hcl]
  have hB2 : Blk (W1.setCells w.heap.size i [x]) w.heap.size 30 (over ROW i [x]) := Blk.setCells _ _ hB1
  have hO2 : Blk (W1.setCells w.heap.size i [x]) g 30 (cs ++ tail) := Blk.setCells_other (fun e => hgN e.symm) _ _ hO1
  have hcpB : ∀ (W : World), (∀ y, W.cell? y = (W1.setCells w.heap.size i [x]).cell? y) → (∀ y, W.frozen? y = (W1.setCells w.heap.size i [x]).frozen? y) → ∀ ty dc sc, (Builtin.copy_ #[25, 25] ty #[.slice (some ⟨w.heap.size, i + 1, none⟩) (n - i) dc, .slice (some ⟨g, i, none⟩) (n - i) sc]).run Yba.prog W = .ok (goInt (cs.drop i).length) (W.setCells w.heap.size (i + 1) (cs.drop i)) := fun W hWc hWf ty dc sc =>
    run_copy_cells W _ _ ty 30 w.heap.size (i + 1) (n - i) dc ⟨g, i, none⟩ (n - i) sc (cs.drop i) Yba.underlying25 hsz (by rw [hdl]; simp only [Nat.min_def]; split <;> omega)
      (fun j v hj => by
        rw [Addr.add_lit, hWc, hO2.cell, ← hj, List.getElem?_drop, List.getElem?_append_left]
        have := (List.getElem?_eq_some_iff.1 hj).1
        rw [hdl] at this; omega)
      (fun j hj => by rw [hWc, hB2.cell, List.getElem?_eq_getElem (by rw [over_length, hRl]; omega)]; rfl)
      (fun j hj => by rw [hWf]; exact hB2.frozen _) (fun v hv => h1c v (List.mem_of_mem_drop hv))
  have hfin : insL cs i x ++ ROW.drop (n + 1) = over (over ROW i [x]) (i + 1) (cs.drop i) := by
    rw [over_ins1 _ _ _ _ (by rw [hdl, hRl]; omega), hRt, hdl, show i + 1 + (n - i) = n + 1 by omega]; rfl
  have XE : Hid (insL cs i x ++ ROW.drop (n + 1) = over (over ROW i [x]) (i + 1) (cs.drop i)) := hfin
  have XB : Hid (Blk (w.drew.alloc (.cells ROW.toArray 30)) w.heap.size 30 ROW) := by rw [← hW1]; exact hB1
  have XL : Hid (ROW.length = G) := hRl
  subst hW1
  have hE1 : ∀ x, ((w.alloc (.cells ROW.toArray 30)).drew).cell? x = (w.drew.alloc (.cells ROW.toArray 30)).cell? x := fun x => rfl
  have hE2 : ∀ x, ((w.alloc (.cells ROW.toArray 30)).drew).frozen? x = (w.drew.alloc (.cells ROW.toArray 30)).frozen? x := fun x => rfl
  have hF1 : ∀ y, (((w.alloc (.cells ROW.toArray 30)).drew.setCells w.heap.size i [x]).drew).cell? y = ((w.drew.alloc (.cells ROW.toArray 30)).setCells w.heap.size i [x]).cell? y := fun x => rfl
  have hF2 : ∀ y, (((w.alloc (.cells ROW.toArray 30)).drew.setCells w.heap.size i [x]).drew).frozen? y = ((w.drew.alloc (.cells ROW.toArray 30)).setCells w.heap.size i [x]).frozen? y := fun x => rfl
  have hw1 : IntKind.i64.wrap ((i : Int) + 1) = (i : Int) + 1 := by rw [IntKind.wrap_i64]; omega
  have hb1 : (0 : Int) ≤ (i : Int) + 1 := by omega
  have hin : i ≤ n := by omega
  have htn : ((i : Int) + 1).toNat = i + 1 := by omega
  have hb3 : (i : Int) ≤ (n : Int) := by omega
  clear hkk hik hold hROW hG hRl hB1 hO1 hV1 hB2 hO2 hfin hRt hb hv h1c hbig hdl hi0 hz0 hzs hzb hsz
  go_enter Yba.func15, Yba.ntmps15
  go_wp2_with (first
    | (at_builtin; refine Lib.wpList_append_run _ rfl _ _ _ _ rfl _ _ rfl rfl _ _ (hrz _) ?_)
    | (at_builtin; refine wpList_copy_runI _ rfl _ _ 25 25 rfl _ _ rfl rfl (hcpA _ hE1 hE2 _ _) ?_)
    | (at_builtin; refine wpList_copy_runI _ rfl _ _ 25 25 rfl _ _ rfl rfl (hcpB _ (fun _ => rfl) (fun _ => rfl) _ _ _) ?_))
  go_region_law (refine step_copy_runI rfl _ _ 25 25 rfl (.slice (some ⟨w.heap.size, i + 1, none⟩) (n - i) (G - (i + 1))) (.slice (some ⟨g, i, none⟩) (n - i) (c - i)) (by simp [Act.eval, Act.put]) (by simp [Act.eval, Act.put]) (hcpB _ hF1 hF2 3 (G - (i + 1)) (c - i)) ?_)
  go_wp2
  go_ret
  refine ⟨G, ROW.drop (n + 1), rfl, hG63, by rw [List.length_drop, XL.out]; omega, ?_, ?_⟩
  · rw [XE.out]; exact Blk.setCells _ _ (Blk.drew (Blk.setCells _ _ XB.out))
  · refine Fr.setCells (.inr (Nat.le_refl _)) _ _ (Fr.drew (Fr.setCells (.inr (Nat.le_refl _)) _ _ ((Fr.refl _ _).alloc _).drew))

/-- slices.Insert of one element, every road. -/
theorem ins30_any (g n c i vb : Nat) (cs : List Value) (x : Value) (tail : List Value) (w : World) (hi : i ≤ n) (hn : n ≤ 100000) (hc63 : c ≤ 9223372036854775807) (hvb : vb ≠ g)
    (hb : Blk w g 30 (cs ++ tail)) (hcl : cs.length = n) (hcap : n + tail.length = c) (hv : Blk w vb 30 [x]) (h1c : ∀ v ∈ cs, v.oneCell' = true) (h1v : x.oneCell' = true) :
    Calls Yba.prog 15 #[.slice (some ⟨g, 0, none⟩) n c, .int .i64 i, .slice (some ⟨vb, 0, none⟩) 1 1] w fun e w' =>
      ∃ g' c' tail', e = .returned (.slice (some ⟨g', 0, none⟩) (n + 1) c') ∧ c' ≤ 9223372036854775807 ∧ n + 1 + tail'.length = c' ∧ Blk w' g' 30 (insL cs i x ++ tail') ∧ (g' = g ∨ g' = w.heap.size) ∧ Fr (· = g) w w' := by
  by_cases h1 : i = n
  · subst h1
    refine (ins30_end g i c vb cs x tail w hn hc63 hb hcl hcap hv h1v).mono ?_
    rintro e w' ⟨g', c', rfl, hown, hgr, hat⟩
    obtain ⟨tail', hB, hl, hc, hm, _⟩ := blk_of_owns hown
    refine ⟨g', c', tail', rfl, by unfold maxLen at hm; omega, hc, ?_, hat, (Fr.refl (· = g) w).grown hgr (fun k hk => by simp at hk; exact .inl hk.symm)⟩
    have : insL cs i x = cs ++ [x] := by unfold insL; rw [List.take_of_length_le (by omega), List.drop_of_length_le (by omega)]
    rw [this]; exact hB
  · by_cases h2 : n + 1 ≤ c
    · refine (ins30_shift g n c i vb cs x tail w (by omega) h2 hc63 hvb hb hcl hcap hv h1c h1v).mono ?_
      rintro e w' ⟨rfl, rfl⟩
      have hdl : (cs.drop i).length = n - i := by rw [List.length_drop, hcl]
      refine ⟨g, c, tail.drop 1, rfl, hc63, by simp; omega, ?_, .inl rfl, ?_⟩
      · have := Blk.setCells (g := g) (e := 30) [x] i (Blk.setCells (cs.drop i) (i + 1) hb.drew)
        rw [over_ins2 _ _ _ _ (by simp [hcl]; omega), List.take_append_of_le_length (by omega), hdl, show i + 1 + (n - i) = n + 1 by omega, List.drop_append, List.drop_of_length_le (by omega : cs.length ≤ n + 1), List.nil_append, show n + 1 - cs.length = 1 by omega] at this
        exact this
      · exact Fr.setCells (S := (· = g)) (.inl rfl) _ _ (Fr.setCells (S := (· = g)) (.inl rfl) _ _ (Fr.refl _ _).drew)
    · refine (ins30_grow g n c i vb cs x tail w (by omega) hn (by omega) hb hcl hcap hv h1c h1v).mono ?_
      rintro e w' ⟨c', tail', rfl, hc', hl, hB, hF⟩
      exact ⟨_, c', tail', rfl, hc', hl, hB, .inr rfl, hF.mono (fun _ _ h => h.elim)⟩

set_option maxHeartbeats 4000000 in
set_option maxRecDepth 100000 in
theorem ins25_shift (g n c i vb : Nat) (cs : List Value) (x : Value) (tail : List Value) (w : World) (hi : i < n) (hroom : n + 1 ≤ c) (hc63 : c ≤ 9223372036854775807) (hvb : vb ≠ g)
    (hb : Blk w g 25 (cs ++ tail)) (hcl : cs.length = n) (hcap : n + tail.length = c) (hv : Blk w vb 25 [x]) (h1c : ∀ v ∈ cs, v.oneCell' = true) (h1v : x.oneCell' = true) :
    Calls Yba.prog 16 #[.slice (some ⟨g, 0, none⟩) n c, .int .i64 i, .slice (some ⟨vb, 0, none⟩) 1 1] w fun e w' =>
      e = .returned (.slice (some ⟨g, 0, none⟩) (n + 1) c) ∧ w' = (w.drew.setCells g (i + 1) (cs.drop i)).setCells g i [x] := by
  have hz2 : ¬ ((i : Int) = (n : Int)) := by omega
  have hsz : (Yba.prog.info? 25).map (·.size) = some 1 := by
    obtain ⟨i0, hi0, h0, h1, h2⟩ := info_parts Yba.info25
    rw [hi0]; simp [h1]
  have hov : ∀ lb cb, (callFunc 24 #[.slice (some ⟨vb, 0, none⟩) 1 1, .slice (some ⟨g, i + 1, none⟩) lb cb]).run Yba.prog w = .ok (.value (.bool false)) w := fun lb cb => by
    rw [run_callFunc_extern Yba.func24 (by kernel_rfl) (by kernel_rfl) (by kernel_rfl) (e := Extern.SlicesOverlaps.overlaps #[42, 42] #[4]) (by kernel_rfl),
      Lib.run_overlaps_apart w 42 4 25 Yba.underlying42 1 Yba.sizeOf25 ⟨vb, 0, none⟩ ⟨g, i + 1, none⟩ 1 1 lb cb hvb 25 25 1 c (by rw [hv.shape]; rfl) (by rw [hb.shape]; simp [hcl, hcap]) (by omega) (hv.frozen _) (hv.frozen _)]
    rfl
  have hdl : (cs.drop i).length = n - i := by rw [List.length_drop, hcl]
  have hsp : ∀ j, j < n + 1 → (w.cell? ⟨g, j, none⟩).isSome = true := fun j hj => by
    rw [hb.cell, List.getElem?_eq_getElem (by simp; omega)]; rfl
  have hw1 : IntKind.i64.wrap ((i : Int) + 1) = (i : Int) + 1 := by rw [IntKind.wrap_i64]; omega
  have hb1 : (0 : Int) ≤ (i : Int) + 1 := by omega
  have hin : i ≤ n := by omega
  have htn : ((i : Int) + 1).toNat = i + 1 := by omega
  have hb2 : ¬ (c = i + 1) := by omega
  have hb3 : (i : Int) ≤ (n : Int) + 1 := by omega
  have hb4 : ¬ (c = i) := by omega
  have hcp1 : ∀ ty dc sc, (Builtin.copy_ #[42, 42] ty #[.slice (some ⟨g, i + 1, none⟩) (n - i) dc, .slice (some ⟨g, i, none⟩) (n + 1 - i) sc]).run Yba.prog w.drew = .ok (goInt (cs.drop i).length) (w.drew.setCells g (i + 1) (cs.drop i)) := fun ty dc sc =>
    run_copy_cells w.drew _ _ ty 25 g (i + 1) (n - i) dc ⟨g, i, none⟩ (n + 1 - i) sc (cs.drop i) Yba.underlying42 hsz (by rw [hdl]; simp only [Nat.min_def]; split <;> omega)
      (fun j v hj => by
        rw [Addr.add_lit, World.cell?_drew, hb.cell, ← hj, List.getElem?_drop, List.getElem?_append_left]
        have := (List.getElem?_eq_some_iff.1 hj).1
        rw [hdl] at this; omega)
      (fun j hj => by rw [World.cell?_drew]; exact hsp _ (by omega)) (fun j hj => hb.frozen _) (fun v hv => h1c v (List.mem_of_mem_drop hv))
  obtain ⟨W1, hW1⟩ : ∃ W1, W1 = w.drew.setCells g (i + 1) (cs.drop i) := ⟨_, rfl⟩
  have hB1 : Blk W1 g 25 (over (cs ++ tail) (i + 1) (cs.drop i)) := by rw [hW1]; exact Blk.setCells _ _ hb
  have hV1 : Blk W1 vb 25 [x] := by rw [hW1]; exact Blk.setCells_other (fun e => hvb e.symm) _ _ hv
  have hL1 : (over (cs ++ tail) (i + 1) (cs.drop i)).length = c := by rw [over_length]; simp [hcl, hcap]
  have hcp2 : ∀ (W : World), (∀ x, W.cell? x = W1.cell? x) → (∀ x, W.frozen? x = W1.frozen? x) → ∀ ty dc, (Builtin.copy_ #[42, 42] ty #[.slice (some ⟨g, i, none⟩) (n + 1 - i) dc, .slice (some ⟨vb, 0, none⟩) 1 1]).run Yba.prog W = .ok (goInt [x].length) (W.setCells g i [x]) := fun W hWc hWf ty dc =>
    run_copy_cells W _ _ ty 25 g i (n + 1 - i) dc ⟨vb, 0, none⟩ 1 1 [x] Yba.underlying42 hsz (by simp only [List.length_singleton, Nat.min_def]; split <;> omega)
      (fun j v hj => by rw [Addr.add_lit, hWc, hV1.cell, Nat.zero_add]; exact hj)
      (fun j hj => by rw [hWc, hB1.cell, List.getElem?_eq_getElem (by rw [hL1]; simp at hj; omega)]; rfl) (fun j hj => by rw [hWf]; exact hB1.frozen _) (fun v hv => by simp at hv; rw [hv]; exact h1v)
  rw [← hW1] at hcp1
  have X : Hid (W1 = w.drew.setCells g (i + 1) (cs.drop i)) := hW1
  clear hW1 hB1 hV1 hL1 hb hv hsp h1c hdl
  go_enter Yba.func16, Yba.ntmps16
  go_wp2_with (simp only [hov])
  go_region_law (refine step_copy_runI rfl _ _ 42 42 rfl _ _ (by simp [Act.eval, Act.put]) (by simp [Act.eval, Act.put]) (hcp1 _ _ _) ?_)
  go_wp2_with (at_builtin; refine wpList_copy_runI _ rfl _ _ 42 42 rfl _ _ rfl rfl (hcp2 _ (fun _ => rfl) (fun _ => rfl) _ _) ?_)
  go_ret
  exact ⟨rfl, by rw [X.out]⟩

set_option maxHeartbeats 4000000 in
set_option maxRecDepth 100000 in
theorem ins25_end (g n c vb : Nat) (cs : List Value) (x : Value) (tail : List Value) (w : World) (hn : n ≤ 100000) (hc63 : c ≤ 9223372036854775807)
    (hb : Blk w g 25 (cs ++ tail)) (hcl : cs.length = n) (hcap : n + tail.length = c) (hv : Blk w vb 25 [x]) (h1v : x.oneCell' = true) :
    Calls Yba.prog 16 #[.slice (some ⟨g, 0, none⟩) n c, .int .i64 n, .slice (some ⟨vb, 0, none⟩) 1 1] w fun e w' =>
      ∃ g' c', e = .returned (.slice (some ⟨g', 0, none⟩) (n + 1) c') ∧ w'.ownsRow 0 25 1 (.slice (some ⟨g', 0, none⟩) (n + 1) c') (n + 1) (cs ++ [x]) ∧ w.grownBy w' (some g) ∧ (g' = g ∨ g' = w.heap.size) := by
  obtain ⟨i0, hi0, hz0, hz1, hz2⟩ := info_parts Yba.info25
  have hown := owns_of_blk hb hcl hcap (by unfold maxLen; omega)
  have hnews : ∀ j u, [x][j]? = some u → w.cell? ((⟨vb, 0, none⟩ : Addr).add j) = some u := fun j u hu => by
    rw [Addr.add_lit, hv.cell, Nat.zero_add]; exact hu
  have X : Hid (w.ownsRow 0 25 1 (.slice (some ⟨g, 0, none⟩) n c) n cs) := hown
  have Y : Hid (∀ j u, [x][j]? = some u → w.cell? ((⟨vb, 0, none⟩ : Addr).add j) = some u) := hnews
  clear hown hnews hb hv
  go_enter Yba.func16, Yba.ntmps16
  go_wp2_with (at_builtin; refine wpList_append_lies _ (by rfl) _ _ _ (by rfl) 0 25 i0 (.slice none 0 0) 1 24 Yba.underlying42 hi0 hz0 hz1 hz2 rfl (by omega) _ n cs (by rfl) X.out ⟨vb, 0, none⟩ 1 1 [x] (by rfl) (by rfl) Y.out (by simp [h1v]) (by omega) (by unfold maxLen; omega) (by omega) (Nat.zero_le _) w.heap.size rfl ?_; intro g' c' w1 hown1 hgrow hat hlt)
  all_goals
    go_ret
    refine ⟨g', c', rfl, hown1, hgrow, ?_⟩
    rcases hat with h | h
    · left; simpa [Value.ownBlock] using h.symm
    · exact .inr h

set_option maxHeartbeats 4000000 in
set_option maxRecDepth 100000 in
theorem ins25_grow (g n c i vb : Nat) (cs : List Value) (x : Value) (tail : List Value) (w : World) (hi : i < n) (hn : n ≤ 100000) (hroom : c < n + 1)
    (hb : Blk w g 25 (cs ++ tail)) (hcl : cs.length = n) (hcap : n + tail.length = c) (hv : Blk w vb 25 [x]) (h1c : ∀ v ∈ cs, v.oneCell' = true) (h1v : x.oneCell' = true) :
    Calls Yba.prog 16 #[.slice (some ⟨g, 0, none⟩) n c, .int .i64 i, .slice (some ⟨vb, 0, none⟩) 1 1] w fun e w' =>
      ∃ c' tail', e = .returned (.slice (some ⟨w.heap.size, 0, none⟩) (n + 1) c') ∧ c' ≤ 9223372036854775807 ∧ n + 1 + tail'.length = c' ∧ Blk w' w.heap.size 25 (insL cs i x ++ tail') ∧ Fr (fun _ => False) w w' := by
  obtain ⟨i0, hi0, hz0, hzs, hzb⟩ := info_parts Yba.info25
  have hz2 : ¬ ((i : Int) = (n : Int)) := by omega
  have hz3 : (c : Int) < (n : Int) + 1 := by omega
  have hsz : (Yba.prog.info? 25).map (·.size) = some 1 := by rw [hi0]; simp [hzs]
  have hbw : g < w.heap.size := hb.lt
  have hvw : vb < w.heap.size := hv.lt
  have hkk : (n : Int) + 1 - (i : Int) = ((n + 1 - i : Nat) : Int) := by omega
  have hik : i + (n + 1 - i) = n + 1 := by omega
  have hold : (Builtin.firstCells i0.size i (.slice (some ⟨g, 0, none⟩) i c)).run Yba.prog w.drew = .ok (cs.take i).toArray w.drew := by
    rw [hzs]
    exact run_firstCells_some w.drew 1 i ⟨g, 0, none⟩ i c (cs.take i) (by rw [List.length_take]; omega) (fun j v hj => by
      rw [Addr.add_lit, World.cell?_drew, hb.cell, Nat.zero_add]
      rw [List.getElem?_take] at hj
      split at hj
      · rw [← hj, List.getElem?_append_left (by omega)]
      · cases hj)
  have hbig : (n + 1) * 24 ≤ 140737488355328 := by omega
  have hrz : ∀ ty, (Builtin.append_ #[42, 3] ty #[.slice (some ⟨g, 0, none⟩) i c, .int .i64 ((n : Int) + 1 - (i : Int))]).run Yba.prog w =
      .ok (.slice (some ⟨w.heap.size, 0, none⟩) (n + 1) (grownCap w (n + 1) c 25)) (w.drew.alloc (.cells ((cs.take i).toArray ++ Builtin.zeroCells (Value.cells (.slice none 0 0)) (n + 1 - i) ++ Builtin.zeroCells (Value.cells (.slice none 0 0)) (grownCap w (n + 1) c 25 - (n + 1))) 25)) := fun ty => by
    have h := Lib.run_append_grow_zeros w 42 3 ty 25 i0 _ .i64 .i64 Yba.underlying42 Yba.underlying3 hi0 hz0 (some ⟨g, 0, none⟩) i c (cs.take i) hold (n + 1 - i) (by omega) (by omega) (by omega) (by omega) (by rw [hzb]; omega) (by rw [hzb, hik]; exact growslice_fits hroom hbig)
    rw [hik] at h
    rw [hkk]
    exact h
  obtain ⟨G, hG⟩ : ∃ G, G = grownCap w (n + 1) c 25 := ⟨_, rfl⟩
  have hGn : n + 1 ≤ G := by rw [hG]; exact grownCap_ge w _ _ _
  have hG63 : G ≤ 9223372036854775807 := by
    have := grownCap_le_maxLen w (n + 1) c 25 (by unfold maxLen; omega)
    rw [← hG] at this
    unfold maxLen at this
    omega
  obtain ⟨ROW, hROW⟩ : ∃ ROW : List Value, ROW.toArray = (cs.take i).toArray ++ Builtin.zeroCells (Value.cells (.slice none 0 0)) (n + 1 - i) ++ Builtin.zeroCells (Value.cells (.slice none 0 0)) (G - (n + 1)) := ⟨((cs.take i).toArray ++ Builtin.zeroCells (Value.cells (.slice none 0 0)) (n + 1 - i) ++ Builtin.zeroCells (Value.cells (.slice none 0 0)) (G - (n + 1))).toList, by rw [Array.toArray_toList]⟩
  rw [← hG] at hrz
  rw [← hROW] at hrz
  have hRl : ROW.length = G := by
    have := congrArg Array.size hROW
    simp [Builtin.zeroCells, Value.cells] at this
    omega
  have hRt : ROW.take i = cs.take i := by
    have : ROW = cs.take i ++ ((Builtin.zeroCells (Value.cells (.slice none 0 0)) (n + 1 - i)).toList ++ (Builtin.zeroCells (Value.cells (.slice none 0 0)) (G - (n + 1))).toList) := by
      have := congrArg Array.toList hROW
      simpa using this
    rw [this, List.take_append_of_le_length (by simp; omega), List.take_take, Nat.min_self]
  obtain ⟨W1, hW1⟩ : ∃ W1, W1 = w.drew.alloc (.cells ROW.toArray 25) := ⟨_, rfl⟩
  rw [← hW1] at hrz
  have hB1 : Blk W1 w.heap.size 25 ROW := by rw [hW1]; exact Blk.new w.drew 25 ROW
  have hO1 : Blk W1 g 25 (cs ++ tail) := by rw [hW1]; exact Blk.alloc (w := w.drew) hb _
  have hV1 : Blk W1 vb 25 [x] := by rw [hW1]; exact Blk.alloc (w := w.drew) hv _
  have hcpA : ∀ (W : World), (∀ x, W.cell? x = W1.cell? x) → (∀ x, W.frozen? x = W1.frozen? x) → ∀ ty dc, (Builtin.copy_ #[42, 42] ty #[.slice (some ⟨w.heap.size, i, none⟩) (n + 1 - i) dc, .slice (some ⟨vb, 0, none⟩) 1 1]).run Yba.prog W = .ok (goInt [x].length) (W.setCells w.heap.size i [x]) := fun W hWc hWf ty dc =>
    run_copy_cells W _ _ ty 25 w.heap.size i (n + 1 - i) dc ⟨vb, 0, none⟩ 1 1 [x] Yba.underlying42 hsz (by simp only [List.length_singleton, Nat.min_def]; split <;> omega)
      (fun j v hj => by rw [Addr.add_lit, hWc, hV1.cell, Nat.zero_add]; exact hj)
      (fun j hj => by rw [hWc, hB1.cell, List.getElem?_eq_getElem (by rw [hRl]; simp at hj; omega)]; rfl) (fun j hj => by rw [hWf]; exact hB1.frozen _) (fun v hv => by simp at hv; rw [hv]; exact h1v)
  have hGi : ¬ (G = i) := by omega
  have hGim : ¬ (G = i + 1) := by omega
  have hci : ¬ (c = i) := by omega
  have hgN : g ≠ w.heap.size := by omega
  have hdl : (cs.drop i).length = n - i := by rw [List.length_drop, hcl]
  have hB2 : Blk (W1.setCells w.heap.size i [x]) w.heap.size 25 (over ROW i [x]) := Blk.setCells _ _ hB1
  have hO2 : Blk (W1.setCells w.heap.size i [x]) g 25 (cs ++ tail) := Blk.setCells_other (fun e => hgN e.symm) _ _ hO1
  have hcpB : ∀ (W : World), (∀ y, W.cell? y = (W1.setCells w.heap.size i [x]).cell? y) → (∀ y, W.frozen? y = (W1.setCells w.heap.size i [x]).frozen? y) → ∀ ty dc sc, (Builtin.copy_ #[42, 42] ty #[.slice (some ⟨w.heap.size, i + 1, none⟩) (n - i) dc, .slice (some ⟨g, i, none⟩) (n - i) sc]).run Yba.prog W = .ok (goInt (cs.drop i).length) (W.setCells w.heap.size (i + 1) (cs.drop i)) := fun W hWc hWf ty dc sc =>
    run_copy_cells W _ _ ty 25 w.heap.size (i + 1) (n - i) dc ⟨g, i, none⟩ (n - i) sc (cs.drop i) Yba.underlying42 hsz (by rw [hdl]; simp only [Nat.min_def]; split <;> omega)
      (fun j v hj => by
        rw [Addr.add_lit, hWc, hO2.cell, ← hj, List.getElem?_drop, List.getElem?_append_left]
        have := (List.getElem?_eq_some_iff.1 hj).1
        rw [hdl] at this; omega)
      (fun j hj => by rw [hWc, hB2.cell, List.getElem?_eq_getElem (by rw [over_length, hRl]; omega)]; rfl)
      (fun j hj => by rw [hWf]; exact hB2.frozen _) (fun v hv => h1c v (List.mem_of_mem_drop hv))
  have hfin : insL cs i x ++ ROW.drop (n + 1) = over (over ROW i [x]) (i + 1) (cs.drop i) := by
    rw [over_ins1 _ _ _ _ (by rw [hdl, hRl]; omega), hRt, hdl, show i + 1 + (n - i) = n + 1 by omega]; rfl
  have XE : Hid (insL cs i x ++ ROW.drop (n + 1) = over (over ROW i [x]) (i + 1) (cs.drop i)) := hfin
  have XB : Hid (Blk (w.drew.alloc (.cells ROW.toArray 25)) w.heap.size 25 ROW) := by rw [← hW1]; exact hB1
  have XL : Hid (ROW.length = G) := hRl
  subst hW1
  have hE1 : ∀ x, ((w.alloc (.cells ROW.toArray 25)).drew).cell? x = (w.drew.alloc (.cells ROW.toArray 25)).cell? x := fun x => rfl
  have hE2 : ∀ x, ((w.alloc (.cells ROW.toArray 25)).drew).frozen? x = (w.drew.alloc (.cells ROW.toArray 25)).frozen? x := fun x => rfl
  have hF1 : ∀ y, (((w.alloc (.cells ROW.toArray 25)).drew.setCells w.heap.size i [x]).drew).cell? y = ((w.drew.alloc (.cells ROW.toArray 25)).setCells w.heap.size i [x]).cell? y := fun x => rfl
  have hF2 : ∀ y, (((w.alloc (.cells ROW.toArray 25)).drew.setCells w.heap.size i [x]).drew).frozen? y = ((w.drew.alloc (.cells ROW.toArray 25)).setCells w.heap.size i [x]).frozen? y := fun x => rfl
  have hw1 : IntKind.i64.wrap ((i : Int) + 1) = (i : Int) + 1 := by rw [IntKind.wrap_i64]; omega
  have hb1 : (0 : Int) ≤ (i : Int) + 1 := by omega
  have hin : i ≤ n := by omega
  have htn : ((i : Int) + 1).toNat = i + 1 := by omega
  have hb3 : (i : Int) ≤ (n : Int) := by omega
  clear hkk hik hold hROW hG hRl hB1 hO1 hV1 hB2 hO2 hfin hRt hb hv h1c hbig hdl hi0 hz0 hzs hzb hsz
  go_enter Yba.func16, Yba.ntmps16
  go_wp2_with (first
    | (at_builtin; refine Lib.wpList_append_run _ rfl _ _ _ _ rfl _ _ rfl rfl _ _ (hrz _) ?_)
    | (at_builtin; refine wpList_copy_runI _ rfl _ _ 42 42 rfl _ _ rfl rfl (hcpA _ hE1 hE2 _ _) ?_)
    | (at_builtin; refine wpList_copy_runI _ rfl _ _ 42 42 rfl _ _ rfl rfl (hcpB _ (fun _ => rfl) (fun _ => rfl) _ _ _) ?_))
  go_region_law (refine step_copy_runI rfl _ _ 42 42 rfl (.slice (some ⟨w.heap.size, i + 1, none⟩) (n - i) (G - (i + 1))) (.slice (some ⟨g, i, none⟩) (n - i) (c - i)) (by simp [Act.eval, Act.put]) (by simp [Act.eval, Act.put]) (hcpB _ hF1 hF2 3 (G - (i + 1)) (c - i)) ?_)
  go_wp2
  go_ret
  refine ⟨G, ROW.drop (n + 1), rfl, hG63, by rw [List.length_drop, XL.out]; omega, ?_, ?_⟩
  · rw [XE.out]; exact Blk.setCells _ _ (Blk.drew (Blk.setCells _ _ XB.out))
  · refine Fr.setCells (.inr (Nat.le_refl _)) _ _ (Fr.drew (Fr.setCells (.inr (Nat.le_refl _)) _ _ ((Fr.refl _ _).alloc _).drew))

/-- slices.Insert of one element, every road. -/
theorem ins25_any (g n c i vb : Nat) (cs : List Value) (x : Value) (tail : List Value) (w : World) (hi : i ≤ n) (hn : n ≤ 100000) (hc63 : c ≤ 9223372036854775807) (hvb : vb ≠ g)
    (hb : Blk w g 25 (cs ++ tail)) (hcl : cs.length = n) (hcap : n + tail.length = c) (hv : Blk w vb 25 [x]) (h1c : ∀ v ∈ cs, v.oneCell' = true) (h1v : x.oneCell' = true) :
    Calls Yba.prog 16 #[.slice (some ⟨g, 0, none⟩) n c, .int .i64 i, .slice (some ⟨vb, 0, none⟩) 1 1] w fun e w' =>
      ∃ g' c' tail', e = .returned (.slice (some ⟨g', 0, none⟩) (n + 1) c') ∧ c' ≤ 9223372036854775807 ∧ n + 1 + tail'.length = c' ∧ Blk w' g' 25 (insL cs i x ++ tail') ∧ (g' = g ∨ g' = w.heap.size) ∧ Fr (· = g) w w' := by
  by_cases h1 : i = n
  · subst h1
    refine (ins25_end g i c vb cs x tail w hn hc63 hb hcl hcap hv h1v).mono ?_
    rintro e w' ⟨g', c', rfl, hown, hgr, hat⟩
    obtain ⟨tail', hB, hl, hc, hm, _⟩ := blk_of_owns hown
    refine ⟨g', c', tail', rfl, by unfold maxLen at hm; omega, hc, ?_, hat, (Fr.refl (· = g) w).grown hgr (fun k hk => by simp at hk; exact .inl hk.symm)⟩
    have : insL cs i x = cs ++ [x] := by unfold insL; rw [List.take_of_length_le (by omega), List.drop_of_length_le (by omega)]
    rw [this]; exact hB
  · by_cases h2 : n + 1 ≤ c
    · refine (ins25_shift g n c i vb cs x tail w (by omega) h2 hc63 hvb hb hcl hcap hv h1c h1v).mono ?_
      rintro e w' ⟨rfl, rfl⟩
      have hdl : (cs.drop i).length = n - i := by rw [List.length_drop, hcl]
      refine ⟨g, c, tail.drop 1, rfl, hc63, by simp; omega, ?_, .inl rfl, ?_⟩
      · have := Blk.setCells (g := g) (e := 25) [x] i (Blk.setCells (cs.drop i) (i + 1) hb.drew)
        rw [over_ins2 _ _ _ _ (by simp [hcl]; omega), List.take_append_of_le_length (by omega), hdl, show i + 1 + (n - i) = n + 1 by omega, List.drop_append, List.drop_of_length_le (by omega : cs.length ≤ n + 1), List.nil_append, show n + 1 - cs.length = 1 by omega] at this
        exact this
      · exact Fr.setCells (S := (· = g)) (.inl rfl) _ _ (Fr.setCells (S := (· = g)) (.inl rfl) _ _ (Fr.refl _ _).drew)
    · refine (ins25_grow g n c i vb cs x tail w (by omega) hn (by omega) hb hcl hcap hv h1c h1v).mono ?_
      rintro e w' ⟨c', tail', rfl, hc', hl, hB, hF⟩
      exact ⟨_, c', tail', rfl, hc', hl, hB, .inr rfl, hF.mono (fun _ _ h => h.elim)⟩
end Go.Proofs.Ybulkbrdi
