import Derived.Test.YbulkbrdiIns
namespace Go.Proofs.Ybulkbrdi
open Go.RowKit Go.Lib
set_option linter.unusedVariables false
set_option linter.unusedSimpArgs false

set_option maxHeartbeats 1000000 in
set_option maxRecDepth 100000 in
/-- slices.Clone of a cut of a row that holds something. -/
theorem clone30_any (g o m c : Nat) (ys : List Value) (w : World) (h0 : 0 < m) (hm : m ≤ 100000) (hl : ys.length = m) (hc : ∀ j u, ys[j]? = some u → w.cell? ⟨g, o + j, none⟩ = some u) (hg : g < w.heap.size) (h1 : ∀ v ∈ ys, v.oneCell' = true) :
    Calls Yba.prog 17 #[.slice (some ⟨g, o, none⟩) m c] w fun e w' =>
      ∃ g' c' tail', e = .returned (.slice (some ⟨g', 0, none⟩) m c') ∧ c' ≤ 9223372036854775807 ∧ m + tail'.length = c' ∧ Blk w' g' 30 (ys ++ tail') ∧ w.heap.size ≤ g' ∧ Below w.heap.size w w' := by
  obtain ⟨i0, hi0, hz0, hz1, hz2⟩ := info_parts Yba.info30
  have hown : (w.alloc (.cells #[] 30)).ownsRow w.heap.size 30 1 (.slice (some ⟨w.heap.size, 0, none⟩) 0 0) 0 [] := World.ownsRow_made w #[] 0 (Nat.le_refl _) (by unfold maxLen; omega) (by rfl)
  have hnews : ∀ j u, ys[j]? = some u → (w.alloc (.cells #[] 30)).cell? ((⟨g, o, none⟩ : Addr).add j) = some u := fun j u hu => by
    rw [Addr.add_lit, World.cell?_alloc_past _ _ _ hg]; exact hc j u hu
  have X : Hid ((w.alloc (.cells #[] 30)).ownsRow w.heap.size 30 1 (.slice (some ⟨w.heap.size, 0, none⟩) 0 0) 0 []) := hown
  have Y : Hid (∀ j u, ys[j]? = some u → (w.alloc (.cells #[] 30)).cell? ((⟨g, o, none⟩ : Addr).add j) = some u) := hnews
  have Z : Hid (∀ v ∈ ys, v.oneCell' = true) := h1
  have L : Hid (ys.length = m * 1) := by rw [Nat.mul_one]; exact hl
  clear hown hnews hc h1 hl
  have q25 : ∀ (W : World), (binOp .eql 25 (.slice (some ⟨g, o, none⟩) m c) (.slice none 0 0)).run Yba.prog W = .ok (.bool false) W := fun W => Lib.run_eql_slice_nil W _ _ _ m c 0 0 Yba.underlying25
  go_enter Yba.func17, Yba.ntmps17
  go_wp2_with (at_builtin; refine wpList_append_lies _ (by rfl) _ _ _ (by rfl) w.heap.size 30 i0 (.pointer none) 1 8 Yba.underlying25 hi0 hz0 hz1 hz2 rfl (by omega) _ 0 [] (by rfl) X.out ⟨g, o, none⟩ m c ys (by rfl) L.out Y.out Z.out h0 (by unfold maxLen; omega) (by omega) (by simp) (w.heap.size + 1) (by simp) ?_; intro g' c' w1 hown1 hgrow hat hlt)
  go_ret
  rw [Nat.zero_add, List.nil_append] at hown1
  obtain ⟨tail', hB, hl', hc', hm', hBg⟩ := blk_of_owns hown1
  refine ⟨g', c', tail', rfl, by unfold maxLen at hm'; omega, hc', hB, hBg, ?_⟩
  exact ((Below.refl _ _).alloc (Nat.le_refl _) _).grown hgrow (by simp) (fun k hk => by simp [Value.ownBlock] at hk; omega)
end Go.Proofs.Ybulkbrdi
