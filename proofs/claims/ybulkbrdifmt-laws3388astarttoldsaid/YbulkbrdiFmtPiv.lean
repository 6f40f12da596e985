/-
  b3388aF: slices.choosePivotOrdered at uint32: the pivot lies in the range.
-/
import Derived.Test.YbulkbrdiFmtRev
namespace Go.Proofs.YbulkbrdiFmt
open Go.RowKit
set_option linter.unusedVariables false
set_option linter.unusedSimpArgs false

/-- a row and the count of swaps -/
structure Sw (g n S : Nat) (d : Array Nat) (s : Nat) (w : World) : Prop where
  row : Blk w g 53 (rowV d)
  size : d.size = n
  cnt : Blk w S 3 [.int .i64 (s : Int)]
  ne : g ≠ S
theorem Sw.get {g n S s i : Nat} {d : Array Nat} {w : World} (h : Sw g n S d s w) (hi : i < n) : w.cell? ⟨g, i, none⟩ = some (.int .u32 ((d[i]! : Nat) : Int)) := h.row.get (by rw [h.size]; exact hi)
theorem Sw.drewN {g n S s : Nat} {d : Array Nat} {w : World} (h : Sw g n S d s w) (q : Nat) : Sw g n S d s (w.drewN q) := ⟨h.row, h.size, h.cnt, h.ne⟩
theorem Sw.inc {g n S s : Nat} {d : Array Nat} {w : World} (h : Sw g n S d s w) (s' : Nat) : Sw g n S d s' (w.setCell ⟨S, 0, none⟩ (.int .i64 (s' : Int))) :=
  ⟨h.row.setCell_other (fun e => h.ne e.symm) _, h.size, h.cnt.setCell 0 _, h.ne⟩

set_option maxHeartbeats 1000000 in
set_option maxRecDepth 100000 in
theorem order2_any (g n S a b s : Nat) (d : Array Nat) (w : World) (h : Sw g n S d s w) (ha : a < n) (hb : b < n) (hs : s ≤ 1000) :
    Calls Ybaf.prog 55 #[.slice (some ⟨g, 0, none⟩) n n, .int .i64 a, .int .i64 b, .pointer (some ⟨S, 0, none⟩)] w fun e w' => ∃ c q s' : Nat, e = .returned (.tuple #[.int .i64 c, .int .i64 q]) ∧ ((c = a ∧ q = b) ∨ (c = b ∧ q = a)) ∧ s' ≤ s + 1 ∧ Sw g n S d s' w' ∧ Fr (· = S) w w' := by
  obtain ⟨x, hx⟩ : ∃ x, x = d[a]! := ⟨_, rfl⟩
  obtain ⟨y, hy⟩ : ∃ y, y = d[b]! := ⟨_, rfl⟩
  have c0 : w.cell? ⟨g, a, none⟩ = some (.int .u32 (x : Int)) := by rw [hx]; exact h.get ha
  have c1 : w.cell? ⟨g, b, none⟩ = some (.int .u32 (y : Int)) := by rw [hy]; exact h.get hb
  have c2 : w.cell? ⟨S, 0, none⟩ = some (.int .i64 (s : Int)) := h.cnt.cell 0
  have f2 : w.frozen? ⟨S, 0, none⟩ = false := h.cnt.frozen 0
  have z1 : (a : Int) < (n : Int) := by omega
  have z2 : (b : Int) < (n : Int) := by omega
  have H := hide h
  have HI : Hid (∀ q, Sw g n S d (s + 1) ((w.drewN q).setCell ⟨S, 0, none⟩ (.int .i64 ((s : Int) + 1))) ∧ Fr (· = S) w ((w.drewN q).setCell ⟨S, 0, none⟩ (.int .i64 ((s : Int) + 1)))) := fun q =>
    ⟨(h.drewN q).inc (s + 1), ((Fr.refl (· = S) w).drewN q).setCell (p := ⟨S, 0, none⟩) (.inl rfl) _⟩
  clear h hx hy
  go_enter Ybaf.func55, Ybaf.ntmps55
  go_wp2_with fail
  go_quiet (first | (go_at_call 27; refine (less_any _ _ _).mono ?_; rintro e w2 ⟨rfl, rfl⟩; exact ⟨rfl, _, rfl⟩))
  by_cases hl : ltN y x = true
  · rw [hl]
    go_wp2_with fail
    go_returns
    exact ⟨b, a, s + 1, rfl, .inr ⟨rfl, rfl⟩, by omega, HI.out _⟩
  · have hl' : ltN y x = false := by simpa using hl
    rw [hl']
    go_wp2_with fail
    go_returns
    exact ⟨a, b, s, rfl, .inl ⟨rfl, rfl⟩, by omega, H.out.drewN _, (Fr.refl (· = S) w).drewN _⟩

set_option maxHeartbeats 1000000 in
set_option maxRecDepth 100000 in
theorem median_any (g n S a b c s : Nat) (d : Array Nat) (w : World) (h : Sw g n S d s w) (ha : a < n) (hb : b < n) (hc : c < n) (hs : s ≤ 900) :
    Calls Ybaf.prog 44 #[.slice (some ⟨g, 0, none⟩) n n, .int .i64 a, .int .i64 b, .int .i64 c, .pointer (some ⟨S, 0, none⟩)] w fun e w' => ∃ m s' : Nat, e = .returned (.int .i64 m) ∧ (m = a ∨ m = b ∨ m = c) ∧ s' ≤ s + 3 ∧ Sw g n S d s' w' ∧ Fr (· = S) w w' := by
  have H := hide (order2_any g n S a b s d w h ha hb (by omega))
  clear h
  go_enter Ybaf.func44, Ybaf.ntmps44
  go_wp2_with fail
  refine (unhide H).mono ?_
  rintro e w1 ⟨a1, b1, s1, rfl, ho1, hs1, hw1, hF1⟩
  have ha1 : a1 < n := by omega
  have hb1 : b1 < n := by omega
  have H1 := hide (order2_any g n S b1 c s1 d w1 hw1 hb1 hc (by omega))
  have HF1 := hide hF1
  clear hF1 hw1 H
  go_wp2_with fail
  refine (unhide H1).mono ?_
  rintro e w2 ⟨b2, c2, s2, rfl, ho2, hs2, hw2, hF2⟩
  have hb2 : b2 < n := by omega
  have H2 := hide (order2_any g n S a1 b2 s2 d w2 hw2 ha1 hb2 (by omega))
  have HF2 := hide ((unhide HF1).trans hF2)
  clear hF2 hw2 H1 HF1
  go_wp2_with fail
  refine (unhide H2).mono ?_
  rintro e w3 ⟨a3, b3, s3, rfl, ho3, hs3, hw3, hF3⟩
  have HF3 := hide ((unhide HF2).trans hF3)
  have HW3 := hide hw3
  have hm : b3 = a ∨ b3 = b ∨ b3 = c := by omega
  clear hF3 hw3 H2 HF2
  go_wp2_with fail
  go_ret
  exact ⟨b3, s3, rfl, hm, by omega, HW3.out, HF3.out⟩

set_option maxHeartbeats 1000000 in
set_option maxRecDepth 100000 in
theorem medadj_any (g n S a s : Nat) (d : Array Nat) (w : World) (h : Sw g n S d s w) (ha : a + 1 < n) (ha0 : 0 < a) (hn : n ≤ 1024) (hs : s ≤ 900) :
    Calls Ybaf.prog 43 #[.slice (some ⟨g, 0, none⟩) n n, .int .i64 a, .pointer (some ⟨S, 0, none⟩)] w fun e w' => ∃ m s' : Nat, e = .returned (.int .i64 m) ∧ (a ≤ m + 1 ∧ m ≤ a + 1) ∧ s' ≤ s + 3 ∧ Sw g n S d s' w' ∧ Fr (· = S) w w' := by
  obtain ⟨p, hp⟩ : ∃ p, p = a - 1 := ⟨_, rfl⟩
  obtain ⟨q, hq⟩ : ∃ q, q = a + 1 := ⟨_, rfl⟩
  have e1 : (a : Int) - 1 = (p : Int) := by omega
  have e2 : (a : Int) + 1 = (q : Int) := by omega
  have H := hide (median_any g n S p a q s d w h (by omega) (by omega) (by omega) hs)
  have b1 : a ≤ p + 1 := by omega
  have b2 : p ≤ a := by omega
  have b3 : q ≤ a + 1 := by omega
  have b4 : a ≤ q := by omega
  clear h hp hq
  go_enter Ybaf.func43, Ybaf.ntmps43
  go_wp2_with fail
  refine (unhide H).mono ?_
  rintro e w1 ⟨m, s1, rfl, hm, hs1, hw1, hF1⟩
  have HF1 := hide hF1
  have HW1 := hide hw1
  clear hF1 hw1 H
  go_wp2_with fail
  go_ret
  exact ⟨m, s1, rfl, by omega, hs1, HW1.out, HF1.out⟩

set_option maxHeartbeats 1000000 in
set_option maxRecDepth 100000 in
theorem piv_any (g n a b : Nat) (d : Array Nat) (w : World) (h : Blk w g 53 (rowV d)) (hd : d.size = n) (hn : n ≤ 1024) (hab : a + 12 < b) (hb : b ≤ n) :
    Calls Ybaf.prog 24 #[.slice (some ⟨g, 0, none⟩) n n, .int .i64 a, .int .i64 b] w fun e w' => ∃ p t : Nat, e = .returned (.tuple #[.int .i64 p, .int .i64 t]) ∧ a ≤ p ∧ p < b ∧ t ≤ 2 ∧ Rw w g n d w' := by
  obtain ⟨m, hm⟩ : ∃ m, m = b - a := ⟨_, rfl⟩
  have e1 : (b : Int) - (a : Int) = (m : Int) := by omega
  have hm8 : 12 < m := by omega
  obtain ⟨q, hq⟩ : ∃ q, q = m / 4 := ⟨_, rfl⟩
  have e2 : (m : Int).tdiv 4 = (q : Int) := by rw [hq]; rfl
  obtain ⟨i, hi⟩ : ∃ i, i = a + q * 1 := ⟨_, rfl⟩
  obtain ⟨j, hj⟩ : ∃ j, j = a + q * 2 := ⟨_, rfl⟩
  obtain ⟨k, hk⟩ : ∃ k, k = a + q * 3 := ⟨_, rfl⟩
  have e3 : (a : Int) + (q : Int) = (i : Int) := by omega
  have e4 : (a : Int) + (q : Int) * 2 = (j : Int) := by omega
  have e5 : (a : Int) + (q : Int) * 3 = (k : Int) := by omega
  have d1 : decide ((8 : Int) ≤ (m : Int)) = true := by simp; omega
  have i1 : a + 3 ≤ i := by omega
  have i2 : i + 3 ≤ j := by omega
  have i3 : j + 3 ≤ k := by omega
  have i4 : k + 3 ≤ b := by omega
  have H0 : Hid (Sw g n w.heap.size d 0 (w.alloc (.cells #[.int .i64 0] 3))) := ⟨h.alloc _, hd, Blk.new w 3 [.int .i64 0], by have := h.lt; omega⟩
  have HR : Hid (∀ s w', Sw g n w.heap.size d s w' → Fr (· = w.heap.size) (w.alloc (.cells #[.int .i64 0] 3)) w' → Rw w g n d w') := fun s w' h1 h2 =>
    Rw.beside (R := w.heap.size) (⟨h.alloc _, hd, (Fr.refl _ w).alloc _⟩ : Rw w g n d (w.alloc (.cells #[.int .i64 0] 3))) h2 (Nat.le_refl _) (by have := h.lt; omega)
  have hqm : q * 3 ≤ 1024 := by omega
  clear h hd hm hq hi hj hk
  go_enter Ybaf.func24, Ybaf.ntmps24
  by_cases h50 : 50 ≤ m
  · have d2 : decide ((50 : Int) ≤ (m : Int)) = true := by simp; omega
    have HA := hide (medadj_any g n w.heap.size i 0 d _ (unhide H0) (by omega) (by omega) hn (by omega))
    go_wp2_with fail
    refine (unhide HA).mono ?_
    rintro e w1 ⟨p1, s1, rfl, hp1, hs1, hw1, hF1⟩
    have HB := hide (medadj_any g n w.heap.size j s1 d _ hw1 (by omega) (by omega) hn (by omega))
    have HF1 := hide hF1
    clear hw1 hF1 HA H0
    go_wp2_with fail
    refine (unhide HB).mono ?_
    rintro e w2 ⟨p2, s2, rfl, hp2, hs2, hw2, hF2⟩
    have HC := hide (medadj_any g n w.heap.size k s2 d _ hw2 (by omega) (by omega) hn (by omega))
    have HF2 := hide ((unhide HF1).trans hF2)
    clear hw2 hF2 HB HF1
    go_wp2_with fail
    refine (unhide HC).mono ?_
    rintro e w3 ⟨p3, s3, rfl, hp3, hs3, hw3, hF3⟩
    have HD := hide (median_any g n w.heap.size p1 p2 p3 s3 d _ hw3 (by omega) (by omega) (by omega) (by omega))
    have HF3 := hide ((unhide HF2).trans hF3)
    clear hw3 hF3 HC HF2
    go_wp2_with fail
    refine (unhide HD).mono ?_
    rintro e w4 ⟨p4, s4, rfl, hp4, hs4, hw4, hF4⟩
    have c0 : w4.cell? ⟨w.heap.size, 0, none⟩ = some (.int .i64 (s4 : Int)) := hw4.cnt.cell 0
    have HE := hide (unhide HR _ _ hw4 ((unhide HF3).trans hF4))
    clear hw4 hF4 HD HF3
    by_cases hs0 : s4 = 0
    · have t1 : ((s4 : Int) == 0) = true := by simp; omega
      go_wp2_with fail
      go_returns
      exact ⟨p4, 1, rfl, by omega, by omega, by omega, HE.out⟩
    · have t1 : ((s4 : Int) == 0) = false := by simp; omega
      by_cases hs12 : s4 = 12
      · have t2 : ((s4 : Int) == 12) = true := by simp; omega
        go_wp2_with fail
        go_returns
        exact ⟨p4, 2, rfl, by omega, by omega, by omega, HE.out⟩
      · have t2 : ((s4 : Int) == 12) = false := by simp; omega
        go_wp2_with fail
        go_returns
        exact ⟨p4, 0, rfl, by omega, by omega, by omega, HE.out⟩
  · have d2 : decide ((50 : Int) ≤ (m : Int)) = false := by simp; omega
    have HD := hide (median_any g n w.heap.size i j k 0 d _ (unhide H0) (by omega) (by omega) (by omega) (by omega))
    clear H0
    go_wp2_with fail
    refine (unhide HD).mono ?_
    rintro e w4 ⟨p4, s4, rfl, hp4, hs4, hw4, hF4⟩
    have c0 : w4.cell? ⟨w.heap.size, 0, none⟩ = some (.int .i64 (s4 : Int)) := hw4.cnt.cell 0
    have HE := hide (unhide HR _ _ hw4 hF4)
    clear hw4 hF4 HD
    by_cases hs0 : s4 = 0
    · have t1 : ((s4 : Int) == 0) = true := by simp; omega
      go_wp2_with fail
      go_returns
      exact ⟨p4, 1, rfl, by omega, by omega, by omega, HE.out⟩
    · have t1 : ((s4 : Int) == 0) = false := by simp; omega
      by_cases hs12 : s4 = 12
      · have t2 : ((s4 : Int) == 12) = true := by simp; omega
        go_wp2_with fail
        go_returns
        exact ⟨p4, 2, rfl, by omega, by omega, by omega, HE.out⟩
      · have t2 : ((s4 : Int) == 12) = false := by simp; omega
        go_wp2_with fail
        go_returns
        exact ⟨p4, 0, rfl, by omega, by omega, by omega, HE.out⟩
end Go.Proofs.YbulkbrdiFmt
