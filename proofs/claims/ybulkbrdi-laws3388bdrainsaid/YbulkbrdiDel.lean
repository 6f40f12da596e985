import Derived.Test.YbulkbrdiRows
import Derived.Test.YbulkbrdiBase
import Derived.WalkKit
import Derived.Handy
import Derived.Deep.RegionLaw
import Derived.Lib.SliceRun
namespace Go.Proofs.Ybulkbrdi
open Go.RowKit
set_option linter.unusedVariables false
set_option linter.unusedSimpArgs false

theorem Yba.info30 : (Yba.prog.info? 30).map (fun i => (i.zero, i.size, i.bytes)) = some (some (.pointer none), 1, 8) := by kernel_rfl
theorem Yba.info25 : (Yba.prog.info? 25).map (fun i => (i.zero, i.size, i.bytes)) = some (some (.slice none 0 0), 1, 24) := by kernel_rfl


theorem over_del (xs tail : List Value) (z : Value) (n i : Nat) (hn : xs.length = n) (hi : i < n) :
    over (over (xs ++ tail) i (xs.drop (i + 1))) (n - 1) [z] = xs.take i ++ xs.drop (i + 1) ++ [z] ++ tail := by
  have hA : (xs.take i ++ xs.drop (i + 1)).length = n - 1 := by simp [hn]; omega
  rw [over_eq (xs ++ tail) _ _ (by simp [hn]; omega)]
  have e1 : (xs ++ tail).take i = xs.take i := by rw [List.take_append_of_le_length (by omega)]
  have e2 : (xs ++ tail).drop (i + (xs.drop (i + 1)).length) = xs.drop (n - 1) ++ tail := by
    rw [List.length_drop, show i + (xs.length - (i + 1)) = n - 1 by omega, List.drop_append_of_le_length (by omega)]
  rw [e1, e2, over_eq _ _ _ (by simp [hn]; omega)]
  generalize xs.take i ++ xs.drop (i + 1) = A at *
  have hD : (xs.drop (n - 1)).length = 1 := by simp [hn]; omega
  generalize xs.drop (n - 1) = D at *
  have e3 : (A ++ (D ++ tail)).take (n - 1) = A := by rw [List.take_append_of_le_length (by omega), List.take_of_length_le (by omega)]
  have e4 : (A ++ (D ++ tail)).drop (n - 1 + [z].length) = tail := by
    rw [← List.append_assoc, List.drop_append_of_le_length (by simp; omega)]
    rw [List.drop_of_length_le (by simp; omega)]; rfl
  rw [e3, e4]

/-- what slices.Delete leaves of a row -/
def delL (xs : List Value) (i : Nat) (z : Value) : List Value := xs.take i ++ xs.drop (i + 1) ++ [z]

set_option maxHeartbeats 1000000 in
set_option maxRecDepth 100000 in
theorem del30_any (g n cap i : Nat) (xs tail : List Value) (w : World) (hb : Blk w g 30 (xs ++ tail)) (hn : xs.length = n) (hcap : n + tail.length = cap) (hm : cap ≤ 9223372036854775807) (hi : i < n) (h1 : ∀ u ∈ xs, u.oneCell' = true) :
    Calls Yba.prog 12 #[.slice (some ⟨g, 0, none⟩) n cap, .int .i64 i, .int .i64 (i + 1 : Nat)] w fun e w' =>
      e = .returned (.slice (some ⟨g, 0, none⟩) (n - 1) cap) ∧ Blk w' g 30 (delL xs i (.pointer none) ++ tail) ∧ Fr (· = g) w w' := by
  obtain ⟨i0, hi0, hz0, hz1, hz2⟩ := info_parts Yba.info30
  obtain ⟨news, hnews⟩ : ∃ news, news = xs.drop (i + 1) := ⟨_, rfl⟩
  have hlen : news.length = n - (i + 1) := by rw [hnews]; simp [hn]
  obtain ⟨A, hA, hsrc⟩ : ∃ A : Addr, (if cap = i + 1 then some (⟨g, 0, none⟩ : Addr) else some ⟨g, i + 1, none⟩) = some A ∧ Hid (∀ t u, news[t]? = some u → w.drew.cell? (A.add t) = some u) := by
    by_cases h : cap = i + 1
    · refine ⟨⟨g, 0, none⟩, by simp [h], fun t u hu => ?_⟩
      have h0 : news.length = 0 := by rw [hlen]; omega
      rw [List.length_eq_zero_iff.1 h0] at hu
      simp at hu
    · refine ⟨⟨g, i + 1, none⟩, by simp [h], fun t u hu => ?_⟩
      rw [Addr.add_lit, World.cell?_drew, hb.cell, ← hu, hnews, List.getElem?_drop, List.getElem?_append_left]
      have := (List.getElem?_eq_some_iff.1 hu).1
      rw [hlen] at this; omega
  have s1 : Hid (news.length = (n - (i + 1)) * 1) := by rw [Nat.mul_one]; exact hlen
  have s2 : Hid (∀ u ∈ news, u.oneCell' = true) := by
    intro u hu; rw [hnews] at hu; exact h1 u (List.mem_of_mem_drop hu)
  have s3 : Hid (∀ t, t < news.length → (w.drew.cell? ⟨g, 0 + i * 1 + t, none⟩).isSome = true ∧ w.drew.frozen? ⟨g, 0 + i * 1 + t, none⟩ = false) := by
    intro t ht
    rw [hlen] at ht
    refine ⟨?_, hb.frozen _⟩
    rw [World.cell?_drew, hb.cell, List.getElem?_eq_getElem (by simp; omega)]; rfl
  obtain ⟨W1, hW1⟩ : ∃ W1, W1 = w.drew.setCells g (0 + i * 1) news := ⟨_, rfl⟩
  have hB1 : Blk W1 g 30 (over (xs ++ tail) (0 + i * 1) news) := by rw [hW1]; exact Blk.setCells _ _ hb
  have hF1 : Fr (· = g) w W1 := by rw [hW1]; exact Fr.setCells (S := (· = g)) (.inl rfl) _ _ (Fr.refl _ _).drew
  have hL1 : (over (xs ++ tail) (0 + i * 1) news).length = cap := by rw [over_length]; simp [hn]; omega
  have hcl : ∀ ty, (Builtin.clear_ #[25] ty #[.slice (some ⟨g, i + (n - (i + 1)), none⟩) (n - (i + (n - (i + 1)))) (cap - (i + (n - (i + 1))))]).run Yba.prog W1 = .ok (.tuple #[]) (W1.setCells g (i + (n - (i + 1))) (List.replicate (n - (i + (n - (i + 1)))) (.pointer none))) :=
    fun ty => Lib.run_clear_slice W1 _ _ ty _ Yba.underlying25 Yba.zeroValue30 rfl rfl g (i + (n - (i + 1))) _ _ (by omega)
      (fun t ht => by rw [hB1.cell, List.getElem?_eq_getElem (by rw [hL1]; omega)]; rfl) (fun t ht => hB1.frozen _)
  have hfin : delL xs i (.pointer none) ++ tail = over (over (xs ++ tail) (0 + i * 1) news) (i + (n - (i + 1))) (List.replicate (n - (i + (n - (i + 1)))) (.pointer none)) := by
    have e1 : n - (i + (n - (i + 1))) = 1 := by omega
    rw [e1, hnews, show i + (n - (i + 1)) = n - 1 by omega, show 0 + i * 1 = i by omega]
    exact (over_del xs tail _ n i hn hi).symm
  have X : Hid (W1 = w.drew.setCells g (0 + i * 1) news) := hW1
  have XB : Hid (Blk W1 g 30 (over (xs ++ tail) (0 + i * 1) news)) := hB1
  have XF : Hid (Fr (· = g) w W1) := hF1
  have XE : Hid (delL xs i (.pointer none) ++ tail = over (over (xs ++ tail) (0 + i * 1) news) (i + (n - (i + 1))) (List.replicate (n - (i + (n - (i + 1)))) (.pointer none))) := hfin
  have hic : i ≤ cap := by omega
  have hjc : i + 1 ≤ cap := by omega
  have hq0 : (0 : Int) ≤ (i : Int) + 1 := by omega
  have hq1 : (i : Int) + 1 ≤ (n : Int) := by omega
  clear hW1 hB1 hF1 hL1 hb hfin hnews hlen h1
  go_enter Yba.func12, Yba.ntmps12
  go_wp2_with fail
  go_region_law (refine step_append_room rfl (.tmp 22) (.tmp 25) 25 rfl 30 i0 1 Yba.underlying25 hi0 hz1 g 0 i cap (by simp [Act.eval, Act.put]) A (n - (i + 1)) (cap - (i + 1)) news (by simp [Act.eval, Act.put]) s1.out hsrc.out s2.out (by omega) s3.out ?_; rw [← X.out])
  go_wp2
  go_ret
  refine ⟨?_, ?_, ?_⟩
  · show Ending.returned (.slice _ (i + (n - (i + 1))) cap) = _
    rw [show i + (n - (i + 1)) = n - 1 by omega]
  · rw [XE.out]; exact Blk.setCells _ _ XB.out
  · exact Fr.setCells (S := (· = g)) (.inl rfl) _ _ XF.out
set_option maxHeartbeats 1000000 in
set_option maxRecDepth 100000 in
theorem del25_any (g n cap i : Nat) (xs tail : List Value) (w : World) (hb : Blk w g 25 (xs ++ tail)) (hn : xs.length = n) (hcap : n + tail.length = cap) (hm : cap ≤ 9223372036854775807) (hi : i < n) (h1 : ∀ u ∈ xs, u.oneCell' = true) :
    Calls Yba.prog 13 #[.slice (some ⟨g, 0, none⟩) n cap, .int .i64 i, .int .i64 (i + 1 : Nat)] w fun e w' =>
      e = .returned (.slice (some ⟨g, 0, none⟩) (n - 1) cap) ∧ Blk w' g 25 (delL xs i (.slice none 0 0) ++ tail) ∧ Fr (· = g) w w' := by
  obtain ⟨i0, hi0, hz0, hz1, hz2⟩ := info_parts Yba.info25
  obtain ⟨news, hnews⟩ : ∃ news, news = xs.drop (i + 1) := ⟨_, rfl⟩
  have hlen : news.length = n - (i + 1) := by rw [hnews]; simp [hn]
  obtain ⟨A, hA, hsrc⟩ : ∃ A : Addr, (if cap = i + 1 then some (⟨g, 0, none⟩ : Addr) else some ⟨g, i + 1, none⟩) = some A ∧ Hid (∀ t u, news[t]? = some u → w.drew.cell? (A.add t) = some u) := by
    by_cases h : cap = i + 1
    · refine ⟨⟨g, 0, none⟩, by simp [h], fun t u hu => ?_⟩
      have h0 : news.length = 0 := by rw [hlen]; omega
      rw [List.length_eq_zero_iff.1 h0] at hu
      simp at hu
    · refine ⟨⟨g, i + 1, none⟩, by simp [h], fun t u hu => ?_⟩
      rw [Addr.add_lit, World.cell?_drew, hb.cell, ← hu, hnews, List.getElem?_drop, List.getElem?_append_left]
      have := (List.getElem?_eq_some_iff.1 hu).1
      rw [hlen] at this; omega
  have s1 : Hid (news.length = (n - (i + 1)) * 1) := by rw [Nat.mul_one]; exact hlen
  have s2 : Hid (∀ u ∈ news, u.oneCell' = true) := by
    intro u hu; rw [hnews] at hu; exact h1 u (List.mem_of_mem_drop hu)
  have s3 : Hid (∀ t, t < news.length → (w.drew.cell? ⟨g, 0 + i * 1 + t, none⟩).isSome = true ∧ w.drew.frozen? ⟨g, 0 + i * 1 + t, none⟩ = false) := by
    intro t ht
    rw [hlen] at ht
    refine ⟨?_, hb.frozen _⟩
    rw [World.cell?_drew, hb.cell, List.getElem?_eq_getElem (by simp; omega)]; rfl
  obtain ⟨W1, hW1⟩ : ∃ W1, W1 = w.drew.setCells g (0 + i * 1) news := ⟨_, rfl⟩
  have hB1 : Blk W1 g 25 (over (xs ++ tail) (0 + i * 1) news) := by rw [hW1]; exact Blk.setCells _ _ hb
  have hF1 : Fr (· = g) w W1 := by rw [hW1]; exact Fr.setCells (S := (· = g)) (.inl rfl) _ _ (Fr.refl _ _).drew
  have hL1 : (over (xs ++ tail) (0 + i * 1) news).length = cap := by rw [over_length]; simp [hn]; omega
  have hcl : ∀ ty, (Builtin.clear_ #[42] ty #[.slice (some ⟨g, i + (n - (i + 1)), none⟩) (n - (i + (n - (i + 1)))) (cap - (i + (n - (i + 1))))]).run Yba.prog W1 = .ok (.tuple #[]) (W1.setCells g (i + (n - (i + 1))) (List.replicate (n - (i + (n - (i + 1)))) (.slice none 0 0))) :=
    fun ty => Lib.run_clear_slice W1 _ _ ty _ Yba.underlying42 Yba.zeroValue25 rfl rfl g (i + (n - (i + 1))) _ _ (by omega)
      (fun t ht => by rw [hB1.cell, List.getElem?_eq_getElem (by rw [hL1]; omega)]; rfl) (fun t ht => hB1.frozen _)
  have hfin : delL xs i (.slice none 0 0) ++ tail = over (over (xs ++ tail) (0 + i * 1) news) (i + (n - (i + 1))) (List.replicate (n - (i + (n - (i + 1)))) (.slice none 0 0)) := by
    have e1 : n - (i + (n - (i + 1))) = 1 := by omega
    rw [e1, hnews, show i + (n - (i + 1)) = n - 1 by omega, show 0 + i * 1 = i by omega]
    exact (over_del xs tail _ n i hn hi).symm
  have X : Hid (W1 = w.drew.setCells g (0 + i * 1) news) := hW1
  have XB : Hid (Blk W1 g 25 (over (xs ++ tail) (0 + i * 1) news)) := hB1
  have XF : Hid (Fr (· = g) w W1) := hF1
  have XE : Hid (delL xs i (.slice none 0 0) ++ tail = over (over (xs ++ tail) (0 + i * 1) news) (i + (n - (i + 1))) (List.replicate (n - (i + (n - (i + 1)))) (.slice none 0 0))) := hfin
  have hic : i ≤ cap := by omega
  have hjc : i + 1 ≤ cap := by omega
  have hq0 : (0 : Int) ≤ (i : Int) + 1 := by omega
  have hq1 : (i : Int) + 1 ≤ (n : Int) := by omega
  clear hW1 hB1 hF1 hL1 hb hfin hnews hlen h1
  go_enter Yba.func13, Yba.ntmps13
  go_wp2_with fail
  go_region_law (refine step_append_room rfl (.tmp 22) (.tmp 25) 42 rfl 25 i0 1 Yba.underlying42 hi0 hz1 g 0 i cap (by simp [Act.eval, Act.put]) A (n - (i + 1)) (cap - (i + 1)) news (by simp [Act.eval, Act.put]) s1.out hsrc.out s2.out (by omega) s3.out ?_; rw [← X.out])
  go_wp2
  go_ret
  refine ⟨?_, ?_, ?_⟩
  · show Ending.returned (.slice _ (i + (n - (i + 1))) cap) = _
    rw [show i + (n - (i + 1)) = n - 1 by omega]
  · rw [XE.out]; exact Blk.setCells _ _ XB.out
  · exact Fr.setCells (S := (· = g)) (.inl rfl) _ _ XF.out
end Go.Proofs.Ybulkbrdi
