/-
  b3388a: (*queue).find.
-/
import Derived.Test.YbulkbrdiRep
import Derived.Handy
namespace Go.Proofs.Ybulkbrdi
open Go.RowKit
set_option linter.unusedVariables false
set_option linter.unusedSimpArgs false

def lastKey (t : Nat → Nat) (X : List (List Nat)) (j : Nat) : Nat := t ((X.getD j []).getLastD 0)

theorem Srt.in {t : Nat → Nat} {X : List (List Nat)} (h : Srt t X) {x : List Nat} (hx : x ∈ X) : x.Pairwise (fun a b => t a < t b) := (List.pairwise_flatten.1 h.2).1 x hx
theorem Srt.across {t : Nat → Nat} {X : List (List Nat)} (h : Srt t X) {i j : Nat} {x x' : List Nat} (hi : X[i]? = some x) (hj : X[j]? = some x') (hij : i < j) : ∀ a ∈ x, ∀ b ∈ x', t a < t b := by
  have h2 := (List.pairwise_flatten.1 h.2).2
  obtain ⟨h1, rfl⟩ := List.getElem?_eq_some_iff.1 hi
  obtain ⟨h1', rfl⟩ := List.getElem?_eq_some_iff.1 hj
  exact List.pairwise_iff_getElem.1 h2 i j h1 h1' hij

theorem lastKey_eq {t : Nat → Nat} {X : List (List Nat)} {j : Nat} {x : List Nat} (hj : X[j]? = some x) (hx : x ≠ []) : lastKey t X j = t (x.getLast hx) := by
  unfold lastKey
  rw [List.getD_eq_getElem?_getD, hj, Option.getD_some, List.getLastD_eq_getLast?, List.getLast?_eq_some_getLast hx, Option.getD_some]

theorem le_last {t : Nat → Nat} {x : List Nat} (hp : x.Pairwise (fun a b => t a < t b)) (hx : x ≠ []) : ∀ m ∈ x, t m ≤ t (x.getLast hx) := by
  intro m hm
  obtain ⟨k, hk, rfl⟩ := List.getElem_of_mem hm
  rw [List.getLast_eq_getElem]
  by_cases h : k = x.length - 1
  · subst h; exact Nat.le_refl _
  · exact Nat.le_of_lt (List.pairwise_iff_getElem.1 hp k (x.length - 1) hk (by omega) (by omega))

theorem lastKey_mono {t : Nat → Nat} {X : List (List Nat)} (h : Srt t X) : ∀ a b, a < b → b < X.length → lastKey t X a ≤ lastKey t X b := by
  intro a b hab hb
  have ha' : X[a]? = some X[a] := List.getElem?_eq_getElem (by omega)
  have hb' : X[b]? = some X[b] := List.getElem?_eq_getElem hb
  have na := h.1 X[a] (List.getElem_mem _)
  have nb := h.1 X[b] (List.getElem_mem _)
  rw [lastKey_eq ha' na, lastKey_eq hb' nb]
  exact Nat.le_of_lt (h.across ha' hb' hab _ (List.getLast_mem na) _ (List.getLast_mem nb))

theorem found_end {t : Nat → Nat} {X : List (List Nat)} {y : Nat} (h : Srt t X) (hlo : ∀ j, j < X.length → lastKey t X j < y) : Found t X y X.length 0 false := by
  refine ⟨Nat.le_refl _, ?_, fun _ => ⟨rfl, rfl⟩, fun x hx => by simp at hx⟩
  intro x hx m hm
  rw [List.take_length] at hx
  obtain ⟨k, hk, rfl⟩ := List.getElem_of_mem hx
  have hne := h.1 _ hx
  have := hlo k hk
  rw [lastKey_eq (List.getElem?_eq_getElem hk) hne] at this
  have := le_last (h.in hx) hne m hm
  omega

theorem found_mid {t : Nat → Nat} {X : List (List Nat)} {y b i : Nat} {x : List Nat} (h : Srt t X) (hx : X[b]? = some x) (hlo : ∀ j, j < b → lastKey t X j < y) (hhi : ∀ j, b ≤ j → j < X.length → y ≤ lastKey t X j)
    (hi : i ≤ x.length) (hl : ∀ j, j < i → t (x.getD j 0) < y) (hh : ∀ j, i ≤ j → j < x.length → y ≤ t (x.getD j 0)) : Found t X y b i (decide (i < x.length ∧ ((t (x.getD i 0) : Nat) : Int) = (y : Int))) := by
  obtain ⟨hb, hxe⟩ := List.getElem?_eq_some_iff.1 hx
  have hne : x ≠ [] := hxe ▸ h.1 X[b] (List.getElem_mem _)
  have hil : i < x.length := by
    rcases Nat.lt_or_ge i x.length with h1 | h1
    · exact h1
    · exfalso
      have h2 := hhi b (Nat.le_refl _) hb
      rw [lastKey_eq hx hne] at h2
      have h3 := hl (x.length - 1) (by have := List.length_pos_iff.2 hne; omega)
      rw [List.getLast_eq_getElem] at h2
      have hlt : x.length - 1 < x.length := by have := List.length_pos_iff.2 hne; omega
      rw [List.getD_eq_getElem?_getD, List.getElem?_eq_getElem hlt, Option.getD_some] at h3
      omega
  refine ⟨by omega, ?_, fun e => by omega, ?_⟩
  · intro x' hx' m hm
    obtain ⟨k, hk, rfl⟩ := List.getElem_of_mem hx'
    rw [List.length_take] at hk
    rw [List.getElem_take] at hm
    have hk' : k < X.length := by omega
    have hne' := h.1 X[k] (List.getElem_mem _)
    have h1 := hlo k (by omega)
    rw [lastKey_eq (List.getElem?_eq_getElem hk') hne'] at h1
    have := le_last (h.in (List.getElem_mem hk')) hne' m hm
    omega
  · intro x' hx'
    rw [hx] at hx'; cases hx'
    refine ⟨hil, ?_, ?_, ?_, ?_⟩
    · intro m hm
      obtain ⟨k, hk, rfl⟩ := List.getElem_of_mem hm
      rw [List.length_take] at hk
      have := hl k (by omega)
      rw [List.getD_eq_getElem?_getD, List.getElem?_eq_getElem (by omega), Option.getD_some] at this
      rw [List.getElem_take]; exact this
    · intro m hm
      obtain ⟨k, hk, rfl⟩ := List.getElem_of_mem hm
      rw [List.length_drop] at hk
      have := hh (i + k) (by omega) (by omega)
      rw [List.getD_eq_getElem?_getD, List.getElem?_eq_getElem (by omega), Option.getD_some] at this
      rw [List.getElem_drop]; exact this
    · intro x' hx' m hm
      obtain ⟨k, hk, rfl⟩ := List.getElem_of_mem hx'
      rw [List.length_drop] at hk
      rw [List.getElem_drop] at hm
      have h1 := h.across hx (List.getElem?_eq_getElem (by omega : b + 1 + k < X.length)) (by omega) _ (List.getLast_mem hne) m hm
      have h2 := hhi b (Nat.le_refl _) hb
      rw [lastKey_eq hx hne] at h2
      omega
    · rw [decide_eq_true_iff]
      constructor
      · rintro ⟨_, h2⟩
        refine ⟨x[i], List.getElem?_eq_getElem hil, ?_⟩
        rw [List.getD_eq_getElem?_getD, List.getElem?_eq_getElem hil, Option.getD_some] at h2
        omega
      · rintro ⟨m, hm, h2⟩
        rw [List.getD_eq_getElem?_getD, hm, Option.getD_some]
        exact ⟨hil, by omega⟩

/-- Small enough for every count to stay within its kind. -/
def Small (X : List (List Nat)) : Prop := X.length ≤ 100000 ∧ ∀ x ∈ X, x.length ≤ 100000

set_option maxHeartbeats 400000 in
theorem find_nil (Q m : Nat) (w : World) (hq : w.cell? ⟨Q, 0, none⟩ = some (.slice none 0 0)) :
    Calls Yba.prog 11 #[.pointer (some ⟨Q, 0, none⟩), .pointer (some ⟨m, 0, none⟩)] w fun e w' =>
      e = .returned (.tuple #[.int .i64 0, .int .i64 0, .bool false]) ∧ Below w.heap.size w w' := by
  have hbs : Calls Yba.prog 18 #[.slice none 0 0, .pointer (some ⟨m, 0, none⟩), .func (.func 19) #[] #[]] w fun e w' => e = .returned (.tuple #[.int .i64 0, .bool false]) ∧ w' = w := by
    go_enter Yba.func18, Yba.ntmps18
    go_wp2
    go_rounds 1
    go_ret2
    exact ⟨rfl, rfl⟩
  have HB : Hid (Calls Yba.prog 18 #[.slice none 0 0, .pointer (some ⟨m, 0, none⟩), .func (.func 19) #[] #[]] w fun e w' => e = .returned (.tuple #[.int .i64 0, .bool false]) ∧ w' = w) := hbs
  clear hbs
  go_enter Yba.func11, Yba.ntmps11
  go_wp2_with (go_at_call 18; refine HB.out.mono ?_; rintro e w' ⟨rfl, rfl⟩)
  go_ret3
  exact ⟨rfl, Below.refl _ _⟩

set_option maxHeartbeats 1000000 in
theorem find_some (B Q og oc m : Nat) (y : Nat) (L : List Bk) (X : List (List Nat)) (t : Nat → Nat) (w : World) (hq : Blk w Q 44 [.slice (some ⟨og, 0, none⟩) L.length oc]) (hr : Rows' w B og oc L) (hX : L.map Bk.ms = X)
    (hms : ∀ x ∈ X, ∀ m ∈ x, MsgB w m (t m)) (hs : Srt t X) (hsm : Small X) (hm : MsgB w m y) :
    Calls Yba.prog 11 #[.pointer (some ⟨Q, 0, none⟩), .pointer (some ⟨m, 0, none⟩)] w fun e w' =>
      ∃ (b i : Nat) (f : Bool), e = .returned (.tuple #[.int .i64 b, .int .i64 i, .bool f]) ∧ Found t X y b i f ∧ Below w.heap.size w w' := by
  have hlen : L.length = X.length := by rw [← hX]; simp
  obtain ⟨r, hrn, hlo, hhi⟩ := cut_row (lastKey t X) y X.length (lastKey_mono hs)
  have hXL : ∀ (j : Nat) (b : Bk), L[j]? = some b → X[j]? = some b.ms := fun j b hj => by rw [← hX, List.getElem?_map, hj]; rfl
  have hqc : w.cell? ⟨Q, 0, none⟩ = some (.slice (some ⟨og, 0, none⟩) L.length oc) := by rw [hq.cell]; rfl
  have hbs := bs18_any og L.length oc m r y (fun j => (L.getD j ⟨0, 0, []⟩).sv) (fun j => (lastKey t X j : Int)) w (by rw [hlen]; exact Nat.le_trans hsm.1 (by omega)) (by omega)
    (fun j hj => by rw [hr.cell (List.getElem?_eq_getElem hj), List.getD_eq_getElem?_getD, List.getElem?_eq_getElem hj, Option.getD_some])
    (fun w' hw j hj => by
      have hLj : L[j]? = some L[j] := List.getElem?_eq_getElem hj
      have hXj := hXL j _ hLj
      have hmem : L[j].ms ∈ X := List.mem_of_getElem? hXj
      have hne := hs.1 _ hmem
      rw [List.getD_eq_getElem?_getD, hLj, Option.getD_some, lastKey_eq hXj hne]
      have hpos := List.length_pos_iff.2 hne
      have hin := (hr.inner L[j] (List.getElem_mem _)).below hw
      refine find1_any _ _ _ (L[j].ms.getLast hne) m _ y w' hpos (Nat.le_trans (hsm.2 _ hmem) (by omega)) (hin.cell ?_) ((hms _ hmem _ (List.getLast_mem hne)).below hw).is (hm.below hw).is
      rw [List.getLast_eq_getElem]; exact List.getElem?_eq_getElem _)
    (fun j hj => by have := hlo j hj; show (lastKey t X j : Int) < (y : Int); omega) (fun j hj hjn => by have := hhi j hj (by omega); show (y : Int) ≤ (lastKey t X j : Int); omega)
  by_cases hre : r = X.length
  · subst hre
    have hf : decide (X.length < L.length ∧ ((lastKey t X X.length : Nat) : Int) = (y : Int)) = false := by rw [hlen]; simp
    rw [hf] at hbs
    have hfd := found_end hs hlo
    have HB := hide hbs
    have HF := hide hfd
    have HL := hide hlen
    have hb1 : (L.length : Int) ≤ 1000000 := by have := hsm.1; omega
    have hbb : ((X.length : Int) == (L.length : Int)) = true := by rw [hlen]; simp
    clear hbs hfd hlo hhi hXL hX hms hs hsm hm hq hlen hf hrn
    go_enter Yba.func11, Yba.ntmps11
    go_wp2_with fail
    refine (unhide HB).mono ?_
    rintro e w' ⟨rfl, hb⟩
    have hqc' : w'.cell? ⟨Q, 0, none⟩ = some (.slice (some ⟨og, 0, none⟩) L.length oc) := (hb.cell (World.block_lt_of_cell? w _ hqc)).trans hqc
    go_wp2
    go_ret3
    exact ⟨_, _, _, rfl, unhide HF, hb⟩
  · have hrl : r < L.length := by omega
    have hLr : L[r]? = some L[r] := List.getElem?_eq_getElem hrl
    have hXr := hXL r _ hLr
    have hmem : L[r].ms ∈ X := List.mem_of_getElem? hXr
    obtain ⟨b, hb⟩ : ∃ b, b = L[r] := ⟨_, rfl⟩
    rw [← hb] at hLr hXr hmem
    have hbL : b ∈ L := List.mem_of_getElem? hLr
    obtain ⟨i, hin, hl2, hh2⟩ := cut_row (fun j => t (b.ms.getD j 0)) y b.ms.length (fun a c hac hc => by
      have := List.pairwise_iff_getElem.1 (hs.in hmem) a c (by omega) hc hac
      show t (b.ms.getD a 0) ≤ t (b.ms.getD c 0)
      rw [List.getD_eq_getElem?_getD, List.getElem?_eq_getElem (by omega), Option.getD_some, List.getD_eq_getElem?_getD, List.getElem?_eq_getElem hc, Option.getD_some]
      omega)
    have hfd := found_mid hs hXr hlo hhi hin hl2 hh2
    have hbs2 : ∀ w1, Below w.heap.size w w1 → _ := fun w1 hw1 => bs21_any b.g b.ms.length b.cap m i y (fun j => ptr (b.ms.getD j 0)) (fun j => (t (b.ms.getD j 0) : Int)) w1 (Nat.le_trans (hsm.2 _ hmem) (by omega)) hin
      (fun j hj => by
        rw [((hr.inner b hbL).below hw1).cell (List.getElem?_eq_getElem hj), List.getD_eq_getElem?_getD, List.getElem?_eq_getElem hj, Option.getD_some]; rfl)
      (fun w' hw j hj => by
        have hmj : MsgB w (b.ms.getD j 0) (t (b.ms.getD j 0)) := hms _ hmem _ (by rw [List.getD_eq_getElem?_getD, List.getElem?_eq_getElem hj, Option.getD_some]; exact List.getElem_mem _)
        have h1 := ((hmj.below hw1).below hw).is
        have h2 := ((hm.below hw1).below hw).is
        exact compare_any _ _ _ _ w' h1.id h1.ts h2.id h2.ts)
      (fun j hj => by have := hl2 j hj; show (t (b.ms.getD j 0) : Int) < (y : Int); omega) (fun j hj hjn => by have := hh2 j hj hjn; show (y : Int) ≤ (t (b.ms.getD j 0) : Int); omega)
    have hcr : w.cell? ⟨og, r, none⟩ = some b.sv := hr.cell hLr
    have HB := hide hbs
    have HB2 := hide hbs2
    have HF := hide hfd
    have hb1 : (L.length : Int) ≤ 1000000 := by have := hsm.1; omega
    have hbb : ((r : Int) == (L.length : Int)) = false := by simp; omega
    have hogl : og < w.heap.size := by obtain ⟨t', hB, _⟩ := hr.outer; exact hB.lt
    clear hbs hbs2 hfd hlo hhi hl2 hh2 hXL hX hms hs hsm hm hq hlen hr hb hLr hXr hmem hbL hrn hre
    unfold Bk.sv at hcr
    go_enter Yba.func11, Yba.ntmps11
    go_wp2_with fail
    refine (unhide HB).mono ?_
    rintro e w' ⟨rfl, hb⟩
    have hqc' : w'.cell? ⟨Q, 0, none⟩ = some (.slice (some ⟨og, 0, none⟩) L.length oc) := (hb.cell (World.block_lt_of_cell? w _ hqc)).trans hqc
    have hcr' : w'.cell? ⟨og, r, none⟩ = some (.slice (some ⟨b.g, 0, none⟩) b.ms.length b.cap) := (hb.cell hogl).trans hcr
    go_wp2_with fail
    refine (unhide HB2 _ hb).mono ?_
    rintro e w2 ⟨rfl, hb2⟩
    go_wp2
    go_ret3
    exact ⟨_, _, _, rfl, by have h := unhide HF; simp only [Bool.decide_and, List.getD_eq_getElem?_getD] at h; exact h, hb.trans (hb2.mono hb.size)⟩

theorem find_any (B Q m : Nat) (y : Nat) (X : List (List Nat)) (t : Nat → Nat) (w : World) (hR : Rep w B Q t X) (hs : Srt t X) (hsm : Small X) (hm : MsgB w m y) :
    Calls Yba.prog 11 #[.pointer (some ⟨Q, 0, none⟩), .pointer (some ⟨m, 0, none⟩)] w fun e w' =>
      ∃ (b i : Nat) (f : Bool), e = .returned (.tuple #[.int .i64 b, .int .i64 i, .bool f]) ∧ Found t X y b i f ∧ Below w.heap.size w w' := by
  obtain ⟨hB, hms, ⟨rfl, hq⟩ | ⟨og, oc, L, hq, hr, hX⟩⟩ := hR
  · refine (find_nil Q m w (by rw [hq.cell]; rfl)).mono ?_
    rintro e w' ⟨rfl, hb⟩
    exact ⟨0, 0, false, rfl, ⟨Nat.le_refl _, by simp, fun _ => ⟨rfl, rfl⟩, by simp⟩, hb⟩
  · exact find_some B Q og oc m y L X t w hq hr hX hms hs hsm hm
end Go.Proofs.Ybulkbrdi
