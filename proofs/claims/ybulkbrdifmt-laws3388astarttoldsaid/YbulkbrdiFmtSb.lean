/-
  b3388aF: slices.Sort of a short []uint32 that has room behind it.
-/
import Derived.Test.YbulkbrdiFmtSort
namespace Go.Proofs.YbulkbrdiFmt
open Go.RowKit
set_option linter.unusedVariables false
set_option linter.unusedSimpArgs false

/-- the row in the run of a sort, and what lies behind it -/
structure RwT (w : World) (g n : Nat) (d : Array Nat) (r : List Value) (wr : World) : Prop where
  row : Blk wr g 53 (rowV d ++ r)
  size : d.size = n
  fr : Fr (· = g) w wr
section
variable {w wr : World} {g n : Nat} {d : Array Nat} {r : List Value}
theorem RwT.start (h : Blk w g 53 (rowV d ++ r)) (hs : d.size = n) : RwT w g n d r w := ⟨h, hs, Fr.refl _ _⟩
theorem RwT.drewN (h : RwT w g n d r wr) (q : Nat) : RwT w g n d r (wr.drewN q) := ⟨h.row, h.size, h.fr.drewN q⟩
theorem RwT.drew (h : RwT w g n d r wr) : RwT w g n d r wr.drew := ⟨h.row, h.size, h.fr.drew⟩
theorem rowT_set (d : Array Nat) (r : List Value) {i : Nat} (x : Nat) (hi : i < d.size) : (rowV d ++ r).set i (.int .u32 (x : Int)) = rowV (d.setIfInBounds i x) ++ r := by
  rw [List.set_append_left _ _ (by rw [rowV_length]; exact hi), rowV_set]
theorem RwT.swp (h : RwT w g n d r wr) {i j x y : Nat} (hx : x = d[i]!) (hy : y = d[j]!) (hi : i < n) (hj : j < n) : RwT w g n (Sort.swp d i j) r ((wr.setCell ⟨g, i, none⟩ (.int .u32 (y : Int))).setCell ⟨g, j, none⟩ (.int .u32 (x : Int))) := by
  subst hx; subst hy
  refine ⟨?_, by rw [swp_size]; exact h.size, (h.fr.setCell (.inl rfl) _).setCell (.inl rfl) _⟩
  have := (h.row.setCell i (.int .u32 ((d[j]! : Nat) : Int))).setCell j (.int .u32 ((d[i]! : Nat) : Int))
  rw [rowT_set _ _ _ (by rw [h.size]; exact hi), rowT_set _ _ _ (by rw [Array.size_setIfInBounds, h.size]; exact hj)] at this
  exact this
theorem RwT.swp' (h : RwT w g n d r wr) {i j x y : Nat} (hx : x = d[i]!) (hy : y = d[j]!) (hi : i < n) (hj : j < n) : RwT w g n (Sort.swp d i j) r ((wr.setCell ⟨g, j, none⟩ (.int .u32 (x : Int))).setCell ⟨g, i, none⟩ (.int .u32 (y : Int))) := by
  rw [swp_comm]; exact h.swp hy hx hj hi
theorem RwT.get (h : RwT w g n d r wr) {i : Nat} (hi : i < n) : wr.cell? ⟨g, i, none⟩ = some (.int .u32 ((d[i]! : Nat) : Int)) := by
  rw [h.row.cell, List.getElem?_append_left (by rw [rowV_length, h.size]; exact hi), rowV_get d (by rw [h.size]; exact hi)]
theorem RwT.frozen (h : RwT w g n d r wr) (i : Nat) : wr.frozen? ⟨g, i, none⟩ = false := h.row.frozen i
end
set_option maxHeartbeats 1000000 in
set_option maxRecDepth 100000 in
theorem insT_any (g n c a b : Nat) (d : Array Nat) (r : List Value) (w : World) (h : Blk w g 53 (rowV d ++ r)) (hd : d.size = n) (hn : n ≤ 1024) (hab : a ≤ b) (hb : b ≤ n) (hnc : n ≤ c) :
    Calls Ybaf.prog 21 #[.slice (some ⟨g, 0, none⟩) n c, .int .i64 a, .int .i64 b] w fun e w' => e = .returned (.tuple #[]) ∧ RwT w g n (Sort.insertionSort ltN d a b) r w' := by
  have H := hide (RwT.start h hd)
  clear h hd
  go_enter Ybaf.func21, Ybaf.ntmps21
  go_wp2
  go_loopw [6] (fun s6 wr => ∃ (i : Nat) (dc : Array Nat), s6 = .int .i64 i ∧ i ≤ n + 1 ∧ a + 1 ≤ i ∧ Hid (Sort.insOuter ltN a b i dc = Sort.insertionSort ltN d a b ∧ RwT w g n dc r wr)) (fun s6 _ => b - (intOf s6).toNat)
  case atStart => exact ⟨a + 1, d, by go_num, by omega, by omega, rfl, H⟩
  case round =>
    obtain ⟨i, dc, rfl, hi, hai, hst⟩ := hrel
    by_cases hib : i < b
    · have z1 : (i : Int) < (b : Int) := by omega
      go_wp2_with fail
      go_loopw [7] (fun s7 wr => ∃ (j : Nat) (dj : Array Nat), s7 = .int .i64 j ∧ j ≤ i ∧ Hid (Sort.insOuter ltN a b (i + 1) (Sort.insInner ltN a j dj) = Sort.insertionSort ltN d a b ∧ RwT w g n dj r wr)) (fun s7 _ => (intOf s7).toNat)
      case atStart =>
        obtain ⟨h1, h2⟩ := unhide hst
        exact ⟨i, dc, rfl, by omega, by rw [← insOuter_step hib]; exact h1, h2⟩
      case round =>
        clear hst
        obtain ⟨j, dj, rfl, hj, hst⟩ := hrel
        obtain ⟨h1, h2⟩ := unhide hst
        by_cases haj : a < j
        · obtain ⟨q, hq⟩ : ∃ q, j = q + 1 := ⟨j - 1, by omega⟩
          have zq : IntKind.i64.wrap ((j : Int) - 1) = (q : Int) := by rw [IntKind.wrap_i64] <;> omega
          obtain ⟨x, hx⟩ : ∃ x, x = dj[j]! := ⟨_, rfl⟩
          obtain ⟨y, hy⟩ : ∃ y, y = dj[q]! := ⟨_, rfl⟩
          have c0 : wr.cell? ⟨g, j, none⟩ = some (.int .u32 (x : Int)) := by rw [hx]; exact h2.get (by omega)
          have c1 : wr.cell? ⟨g, q, none⟩ = some (.int .u32 (y : Int)) := by rw [hy]; exact h2.get (by omega)
          have f0 : wr.frozen? ⟨g, j, none⟩ = false := h2.frozen _
          have f1 : wr.frozen? ⟨g, q, none⟩ = false := h2.frozen _
          have d1 : decide ((a : Int) < (j : Int)) = true := by simp; omega
          have z2 : (j : Int) < (n : Int) := by omega
          have z3 : (q : Int) < (n : Int) := by omega
          have hqj : q ≠ j := by omega
          have hq1 : q < j := by omega
          have hq2 : j ≤ q + 1 := by omega
          have HX := hide hx
          have HY := hide hy
          have H1 := hide h1
          have H2 := hide h2
          have HQ := hide hq
          clear hx hy h1 h2 hst hq
          by_cases hl : ltN x y = true
          · have Hn : Hid (Sort.insOuter ltN a b (i + 1) (Sort.insInner ltN a q (Sort.swp dj j q)) = Sort.insertionSort ltN d a b) := by
              rw [← unhide H1, unhide HQ, insInner_step (by have := unhide HQ; omega) (by rw [← unhide HQ, ← unhide HX, ← unhide HY]; exact hl)]
              exact rfl
            go_wp2_with fail
            go_quiet (first | (go_at_call 27; refine (less_any _ _ _).mono ?_; rintro e w2 ⟨rfl, rfl⟩; exact ⟨rfl, _, rfl⟩))
            rw [hl]
            go_wp2_with fail
            go_region
            all_goals
              go_wp2_with fail
              go_roundw
              case rel => exact ⟨q, Sort.swp dj j q, by go_num, by omega, Hn, by first | exact ((unhide H2).drewN _).swp (unhide HX) (unhide HY) (by omega) (by omega) | exact ((unhide H2).drewN _).swp' (unhide HX) (unhide HY) (by omega) (by omega)⟩
              case measure => simp [intOf]; omega
          · have hl' : ltN x y = false := by simpa using hl
            have Hn : Hid (Sort.insOuter ltN a b (i + 1) dj = Sort.insertionSort ltN d a b) := by
              rw [← unhide H1, unhide HQ, insInner_stop (by rw [← unhide HQ, ← unhide HX, ← unhide HY]; exact hl')]
              exact rfl
            go_wp2_with fail
            go_quiet (first | (go_at_call 27; refine (less_any _ _ _).mono ?_; rintro e w2 ⟨rfl, rfl⟩; exact ⟨rfl, _, rfl⟩))
            rw [hl']
            go_wp2_with fail
            go_roundw
            case rel => exact ⟨i + 1, dj, by go_num, by omega, by omega, Hn, (unhide H2).drewN _⟩
            case measure => simp [intOf]; omega
        · have d1 : decide ((a : Int) < (j : Int)) = false := by simp; omega
          have Hn : Hid (Sort.insOuter ltN a b (i + 1) dj = Sort.insertionSort ltN d a b) := by
            rw [← h1, insInner_end haj]; exact rfl
          have H2 := hide h2
          clear h1 h2 hst
          go_wp2_with fail
          go_quiet (fail)
          go_wp2_with fail
          go_roundw
          case rel => exact ⟨i + 1, dj, by go_num, by omega, by omega, Hn, (unhide H2).drewN _⟩
          case measure => simp [intOf]; omega
    · have z1 : decide ((i : Int) < (b : Int)) = false := by simp; omega
      go_wp2_with fail
      go_returns
      obtain ⟨h1, h2⟩ := unhide hst
      rw [insOuter_end hib] at h1
      rw [← h1]
      exact ⟨rfl, h2⟩


set_option maxHeartbeats 1000000 in
set_option maxRecDepth 100000 in
theorem pdqT_any (g n c l : Nat) (d : Array Nat) (r : List Value) (w : World) (h : Blk w g 53 (rowV d ++ r)) (hd : d.size = n) (hn : n ≤ 12) (hnc : n ≤ c) :
    Calls Ybaf.prog 11 #[.slice (some ⟨g, 0, none⟩) n c, .int .i64 0, .int .i64 n, .int .i64 l] w fun e w' => e = .returned (.tuple #[]) ∧ RwT w g n (Sort.insertionSort ltN d 0 n) r w' := by
  have HI := hide (insT_any g n c 0 n d r w h hd (by omega) (by omega) (Nat.le_refl _) hnc)
  have d1 : decide ((n : Int) ≤ 12) = true := by simp; omega
  clear h hd
  go_enter Ybaf.func11, Ybaf.ntmps11
  go_wp2_with fail
  refine wp_loop_rounds 1 ?_
  rw [rounds_succ]
  go_wp2_with fail
  refine (unhide HI).mono ?_
  rintro e w2 ⟨rfl, hR⟩
  have HE := hide hR
  clear hR
  go_wp2_with fail
  go_returns
  exact ⟨rfl, HE.out⟩
/-- slices.Sort of at most twelve, with room behind them -/
theorem sortT_any (g n c : Nat) (d : Array Nat) (r : List Value) (w : World) (h : Blk w g 53 (rowV d ++ r)) (hd : d.size = n) (hn : n ≤ 12) (hnc : n ≤ c) :
    Calls Ybaf.prog 5 #[.slice (some ⟨g, 0, none⟩) n c] w fun e w' => e = .returned (.tuple #[]) ∧ ∃ d', RwT w g n d' r w' ∧ Sort.PermIn 0 n d d' ∧ Sort.SortedIn ltN 0 n d' := by
  have hl : Lib.bitLen n ≤ 64 := Lib.bitLen_le n 64 (by omega) (by omega)
  have HP := hide (pdqT_any g n c (Lib.bitLen n) d r w h hd hn hnc)
  obtain ⟨p1, p2⟩ := Sort.insertionSort_holds swo d 0 n (by omega) (by omega)
  have H1 := hide p1
  have H2 := hide p2
  clear h hd p1 p2
  go_enter Ybaf.func5, Ybaf.ntmps5
  go_wp2_with fail
  refine (len_any n _ (by omega)).mono ?_
  rintro e w2 ⟨rfl, rfl⟩
  go_wp2_with fail
  refine (unhide HP).mono ?_
  rintro e w3 ⟨rfl, h1⟩
  have HE : Hid (∃ d', RwT w2 g n d' r w3 ∧ Sort.PermIn 0 n d d' ∧ Sort.SortedIn ltN 0 n d') := ⟨_, h1, unhide H1, unhide H2⟩
  clear h1 HP
  go_wp2_with fail
  go_returns
  exact ⟨rfl, HE.out⟩
theorem insT_nil (w : World) : Calls Ybaf.prog 21 #[.slice none 0 0, .int .i64 0, .int .i64 0] w fun e w' => e = .returned (.tuple #[]) ∧ Fr (fun _ => False) w w' := by
  go_enter Ybaf.func21, Ybaf.ntmps21
  go_wp2_with fail
  refine wp_loop_rounds 1 ?_
  rw [rounds_succ]
  go_wp2_with fail
  go_returns
  exact ⟨rfl, Fr.refl _ _⟩
theorem pdqT_nil (l : Nat) (w : World) : Calls Ybaf.prog 11 #[.slice none 0 0, .int .i64 0, .int .i64 0, .int .i64 (l : Int)] w fun e w' => e = .returned (.tuple #[]) ∧ Fr (fun _ => False) w w' := by
  have HI := hide (insT_nil w)
  go_enter Ybaf.func11, Ybaf.ntmps11
  go_wp2_with fail
  refine wp_loop_rounds 1 ?_
  rw [rounds_succ]
  go_wp2_with fail
  refine (unhide HI).mono ?_
  rintro e w2 ⟨rfl, hf⟩
  have HF := hide hf
  clear hf HI
  go_wp2_with fail
  go_returns
  exact ⟨rfl, HF.out⟩
/-- slices.Sort of nil -/
theorem sortT_nil (w : World) : Calls Ybaf.prog 5 #[.slice none 0 0] w fun e w' => e = .returned (.tuple #[]) ∧ Fr (fun _ => False) w w' := by
  have HL := hide (len_any 0 w (by omega))
  go_enter Ybaf.func5, Ybaf.ntmps5
  go_wp2_with fail
  refine (unhide HL).mono ?_
  rintro e w2 ⟨rfl, rfl⟩
  clear HL
  go_wp2_with fail
  refine (pdqT_nil _ _).mono ?_
  rintro e w3 ⟨rfl, hf⟩
  have HF := hide hf
  clear hf
  go_wp2_with fail
  go_returns
  exact ⟨rfl, HF.out⟩
end Go.Proofs.YbulkbrdiFmt
