/-
  b3388aF: slices.Clone, slices.Delete at []uint32.
-/
import Derived.Test.YbulkbrdiFmtS6
import Derived.Lib.SliceRun
import Derived.Deep.RegionLaw
import Derived.Deep.AppendLies
namespace Go.Proofs.YbulkbrdiFmt
open Go.RowKit Go.Lib
set_option linter.unusedVariables false
set_option linter.unusedSimpArgs false
set_option maxRecDepth 100000
set_option maxHeartbeats 2000000

theorem info53 : (Ybaf.prog.info? 53).map (fun i => (i.zero, i.size, i.bytes)) = some (some (.int .u32 0), 1, 4) := by kernel_rfl
theorem over_del (xs tail : List Value) (z : Value) (n i : Nat) (hn : xs.length = n) (hi : i < n) :
    over (over (xs ++ tail) i (xs.drop (i + 1))) (n - 1) [z] = xs.take i ++ xs.drop (i + 1) ++ [z] ++ tail := by
  have hA : (xs.take i ++ xs.drop (i + 1)).length = n - 1 := by simp [hn]; omega
  rw [over_eq (xs ++ tail) _ _ (by simp [hn]; omega)]
  have e1 : (xs ++ tail).take i = xs.take i := by rw [List.take_append_of_le_length (by omega)]
  have e2 : (xs ++ tail).drop (i + (xs.drop (i + 1)).length) = xs.drop (n - 1) ++ tail := by
    rw [List.length_drop, show i + (xs.length - (i + 1)) = n - 1 by omega, List.drop_append_of_le_length (by omega)]
  rw [e1, e2, over_eq _ _ _ (by simp [hn]; omega)]
  generalize xs.take i ++ xs.drop (i + 1) = A at *
  have hD : (xs.drop (n - 1)).length = 1 := by simp [hn]; omega
  generalize xs.drop (n - 1) = D at *
  have e3 : (A ++ (D ++ tail)).take (n - 1) = A := by rw [List.take_append_of_le_length (by omega), List.take_of_length_le (by omega)]
  have e4 : (A ++ (D ++ tail)).drop (n - 1 + [z].length) = tail := by
    rw [← List.append_assoc, List.drop_append_of_le_length (by simp; omega)]
    rw [List.drop_of_length_le (by simp; omega)]; rfl
  rw [e3, e4]

/-- what slices.Delete leaves of a row -/
def delL (xs : List Value) (i : Nat) (z : Value) : List Value := xs.take i ++ xs.drop (i + 1) ++ [z]

set_option maxHeartbeats 1000000 in
set_option maxRecDepth 100000 in
theorem del53_any (g n cap i : Nat) (xs tail : List Value) (w : World) (hb : Blk w g 53 (xs ++ tail)) (hn : xs.length = n) (hcap : n + tail.length = cap) (hm : cap ≤ 9223372036854775807) (hi : i < n) (h1 : ∀ u ∈ xs, u.oneCell' = true) :
    Calls Ybaf.prog 35 #[.slice (some ⟨g, 0, none⟩) n cap, .int .i64 i, .int .i64 (i + 1 : Nat)] w fun e w' =>
      e = .returned (.slice (some ⟨g, 0, none⟩) (n - 1) cap) ∧ Blk w' g 53 (delL xs i (.int .u32 0) ++ tail) ∧ Fr (· = g) w w' := by
  obtain ⟨i0, hi0, hz0, hz1, hz2⟩ := info_parts info53
  obtain ⟨news, hnews⟩ : ∃ news, news = xs.drop (i + 1) := ⟨_, rfl⟩
  have hlen : news.length = n - (i + 1) := by rw [hnews]; simp [hn]
  obtain ⟨A, hA, hsrc⟩ : ∃ A : Addr, (if cap = i + 1 then some (⟨g, 0, none⟩ : Addr) else some ⟨g, i + 1, none⟩) = some A ∧ Hid (∀ t u, news[t]? = some u → w.drew.cell? (A.add t) = some u) := by
    by_cases h : cap = i + 1
    · refine ⟨⟨g, 0, none⟩, by simp [h], fun t u hu => ?_⟩
      have h0 : news.length = 0 := by rw [hlen]; omega
      rw [List.length_eq_zero_iff.1 h0] at hu
      simp at hu
    · refine ⟨⟨g, i + 1, none⟩, by simp [h], fun t u hu => ?_⟩
      rw [Addr.add_lit, World.cell?_drew, hb.cell, ← hu, hnews, List.getElem?_drop, List.getElem?_append_left]
      have := (List.getElem?_eq_some_iff.1 hu).1
      rw [hlen] at this; omega
  have s1 : Hid (news.length = (n - (i + 1)) * 1) := by rw [Nat.mul_one]; exact hlen
  have s2 : Hid (∀ u ∈ news, u.oneCell' = true) := by
    intro u hu; rw [hnews] at hu; exact h1 u (List.mem_of_mem_drop hu)
  have s3 : Hid (∀ t, t < news.length → (w.drew.cell? ⟨g, 0 + i * 1 + t, none⟩).isSome = true ∧ w.drew.frozen? ⟨g, 0 + i * 1 + t, none⟩ = false) := by
    intro t ht
    rw [hlen] at ht
    refine ⟨?_, hb.frozen _⟩
    rw [World.cell?_drew, hb.cell, List.getElem?_eq_getElem (by simp; omega)]; rfl
  obtain ⟨W1, hW1⟩ : ∃ W1, W1 = w.drew.setCells g (0 + i * 1) news := ⟨_, rfl⟩
  have hB1 : Blk W1 g 53 (over (xs ++ tail) (0 + i * 1) news) := by rw [hW1]; exact Blk.setCells _ _ hb
  have hF1 : Fr (· = g) w W1 := by rw [hW1]; exact Fr.setCells (S := (· = g)) (.inl rfl) _ _ (Fr.refl _ _).drew
  have hL1 : (over (xs ++ tail) (0 + i * 1) news).length = cap := by rw [over_length]; simp [hn]; omega
  have hcl : ∀ ty, (Builtin.clear_ #[51] ty #[.slice (some ⟨g, i + (n - (i + 1)), none⟩) (n - (i + (n - (i + 1)))) (cap - (i + (n - (i + 1))))]).run Ybaf.prog W1 = .ok (.tuple #[]) (W1.setCells g (i + (n - (i + 1))) (List.replicate (n - (i + (n - (i + 1)))) (.int .u32 0))) :=
    fun ty => Lib.run_clear_slice W1 _ _ ty _ Ybaf.underlying51 zero53 rfl rfl g (i + (n - (i + 1))) _ _ (by omega)
      (fun t ht => by rw [hB1.cell, List.getElem?_eq_getElem (by rw [hL1]; omega)]; rfl) (fun t ht => hB1.frozen _)
  have hfin : delL xs i (.int .u32 0) ++ tail = over (over (xs ++ tail) (0 + i * 1) news) (i + (n - (i + 1))) (List.replicate (n - (i + (n - (i + 1)))) (.int .u32 0)) := by
    have e1 : n - (i + (n - (i + 1))) = 1 := by omega
    rw [e1, hnews, show i + (n - (i + 1)) = n - 1 by omega, show 0 + i * 1 = i by omega]
    exact (over_del xs tail _ n i hn hi).symm
  have X : Hid (W1 = w.drew.setCells g (0 + i * 1) news) := hW1
  have XB : Hid (Blk W1 g 53 (over (xs ++ tail) (0 + i * 1) news)) := hB1
  have XF : Hid (Fr (· = g) w W1) := hF1
  have XE : Hid (delL xs i (.int .u32 0) ++ tail = over (over (xs ++ tail) (0 + i * 1) news) (i + (n - (i + 1))) (List.replicate (n - (i + (n - (i + 1)))) (.int .u32 0))) := hfin
  have hic : i ≤ cap := by omega
  have hjc : i + 1 ≤ cap := by omega
  have hq0 : (0 : Int) ≤ (i : Int) + 1 := by omega
  have hq1 : (i : Int) + 1 ≤ (n : Int) := by omega
  clear hW1 hB1 hF1 hL1 hb hfin hnews hlen h1
  go_enter Ybaf.func35, Ybaf.ntmps35
  go_wp2_with fail
  go_region_law (refine step_append_room rfl (.tmp 22) (.tmp 25) 51 rfl 53 i0 1 Ybaf.underlying51 hi0 hz1 g 0 i cap (by simp [Act.eval, Act.put]) A (n - (i + 1)) (cap - (i + 1)) news (by simp [Act.eval, Act.put]) s1.out hsrc.out s2.out (by omega) s3.out ?_; rw [← X.out])
  go_wp2
  go_ret
  refine ⟨?_, ?_, ?_⟩
  · show Ending.returned (.slice _ (i + (n - (i + 1))) cap) = _
    rw [show i + (n - (i + 1)) = n - 1 by omega]
  · rw [XE.out]; exact Blk.setCells _ _ XB.out
  · exact Fr.setCells (S := (· = g)) (.inl rfl) _ _ XF.out
theorem blk_of_owns {w : World} {g e n c B : Nat} {cs : List Value} (h : w.ownsRow B e 1 (.slice (some ⟨g, 0, none⟩) n c) n cs) :
    ∃ tail, Blk w g e (cs ++ tail) ∧ cs.length = n ∧ n + tail.length = c ∧ c ≤ maxLen ∧ B ≤ g := by
  obtain ⟨h1, ⟨h2, _⟩ | ⟨g', c', cur, hv, hB, hh, hn, hm, hs, ht⟩⟩ := h
  · cases h2
  · cases hv
    refine ⟨cur.toList.drop n, ?_, by omega, by simp; omega, hm, hB⟩
    have : cs ++ cur.toList.drop n = cur.toList := by rw [← ht, Nat.mul_one, List.take_append_drop]
    show w.heap[g]? = _
    rw [this, hh]

/-- slices.Clone of a cut of a row that holds something. -/
theorem clone53_any (g o m c : Nat) (ys : List Value) (w : World) (h0 : 0 < m) (hm : m ≤ 100000) (hl : ys.length = m) (hc : ∀ j u, ys[j]? = some u → w.cell? ⟨g, o + j, none⟩ = some u) (hg : g < w.heap.size) (h1 : ∀ v ∈ ys, v.oneCell' = true) :
    Calls Ybaf.prog 33 #[.slice (some ⟨g, o, none⟩) m c] w fun e w' =>
      ∃ g' c' tail', e = .returned (.slice (some ⟨g', 0, none⟩) m c') ∧ c' ≤ 9223372036854775807 ∧ m + tail'.length = c' ∧ Blk w' g' 53 (ys ++ tail') ∧ w.heap.size ≤ g' ∧ Below w.heap.size w w' := by
  obtain ⟨i0, hi0, hz0, hz1, hz2⟩ := info_parts info53
  have hown : (w.alloc (.cells #[] 53)).ownsRow w.heap.size 53 1 (.slice (some ⟨w.heap.size, 0, none⟩) 0 0) 0 [] := World.ownsRow_made w #[] 0 (Nat.le_refl _) (by unfold maxLen; omega) (by rfl)
  have hnews : ∀ j u, ys[j]? = some u → (w.alloc (.cells #[] 53)).cell? ((⟨g, o, none⟩ : Addr).add j) = some u := fun j u hu => by
    rw [Addr.add_lit, World.cell?_alloc_past _ _ _ hg]; exact hc j u hu
  have X : Hid ((w.alloc (.cells #[] 53)).ownsRow w.heap.size 53 1 (.slice (some ⟨w.heap.size, 0, none⟩) 0 0) 0 []) := hown
  have Y : Hid (∀ j u, ys[j]? = some u → (w.alloc (.cells #[] 53)).cell? ((⟨g, o, none⟩ : Addr).add j) = some u) := hnews
  have Z : Hid (∀ v ∈ ys, v.oneCell' = true) := h1
  have L : Hid (ys.length = m * 1) := by rw [Nat.mul_one]; exact hl
  clear hown hnews hc h1 hl
  have q51 : ∀ (W : World), (binOp .eql 51 (.slice (some ⟨g, o, none⟩) m c) (.slice none 0 0)).run Ybaf.prog W = .ok (.bool false) W := fun W => Lib.run_eql_slice_nil W _ _ _ m c 0 0 Ybaf.underlying51
  go_enter Ybaf.func33, Ybaf.ntmps33
  go_wp2_with (at_builtin; refine wpList_append_lies _ (by rfl) _ _ _ (by rfl) w.heap.size 53 i0 (.int .u32 0) 1 4 Ybaf.underlying51 hi0 hz0 hz1 hz2 rfl (by omega) _ 0 [] (by rfl) X.out ⟨g, o, none⟩ m c ys (by rfl) L.out Y.out Z.out h0 (by unfold maxLen; omega) (by omega) (by simp) (w.heap.size + 1) (by simp) ?_; intro g' c' w1 hown1 hgrow hat hlt)
  go_ret
  rw [Nat.zero_add, List.nil_append] at hown1
  obtain ⟨tail', hB, hl', hc', hm', hBg⟩ := blk_of_owns hown1
  refine ⟨g', c', tail', rfl, by unfold maxLen at hm'; omega, hc', hB, hBg, ?_⟩
  exact ((Below.refl _ _).alloc (Nat.le_refl _) _).grown hgrow (by simp) (fun k hk => by simp [Value.ownBlock] at hk; omega)
end Go.Proofs.YbulkbrdiFmt
