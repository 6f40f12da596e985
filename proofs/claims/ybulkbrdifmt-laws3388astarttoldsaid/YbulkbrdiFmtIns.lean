/-
  b3388aF: slices.insertionSortOrdered at uint32.
-/
import Derived.Test.YbulkbrdiFmtRow
namespace Go.Proofs.YbulkbrdiFmt
open Go.RowKit
set_option linter.unusedVariables false
set_option linter.unusedSimpArgs false

/-- the row in the run of a sort -/
structure Rw (w : World) (g n : Nat) (d : Array Nat) (wr : World) : Prop where
  row : Blk wr g 53 (rowV d)
  size : d.size = n
  fr : Fr (· = g) w wr
theorem Rw.start {w : World} {g n : Nat} {d : Array Nat} (h : Blk w g 53 (rowV d)) (hs : d.size = n) : Rw w g n d w := ⟨h, hs, Fr.refl _ _⟩
theorem Rw.drewN {w : World} {g n : Nat} {d : Array Nat} {wr : World} (h : Rw w g n d wr) (q : Nat) : Rw w g n d (wr.drewN q) := ⟨h.row, h.size, h.fr.drewN q⟩
theorem Rw.drew {w : World} {g n : Nat} {d : Array Nat} {wr : World} (h : Rw w g n d wr) : Rw w g n d wr.drew := ⟨h.row, h.size, h.fr.drew⟩
theorem Rw.swp {w : World} {g n : Nat} {d : Array Nat} {wr : World} (h : Rw w g n d wr) {i j x y : Nat} (hx : x = d[i]!) (hy : y = d[j]!) : Rw w g n (Sort.swp d i j) ((wr.setCell ⟨g, i, none⟩ (.int .u32 (y : Int))).setCell ⟨g, j, none⟩ (.int .u32 (x : Int))) := by
  subst hx; subst hy
  exact ⟨h.row.swp i j, by rw [swp_size]; exact h.size, (h.fr.setCell (.inl rfl) _).setCell (.inl rfl) _⟩
theorem Rw.swp' {w : World} {g n : Nat} {d : Array Nat} {wr : World} (h : Rw w g n d wr) {i j x y : Nat} (hx : x = d[i]!) (hy : y = d[j]!) : Rw w g n (Sort.swp d i j) ((wr.setCell ⟨g, j, none⟩ (.int .u32 (x : Int))).setCell ⟨g, i, none⟩ (.int .u32 (y : Int))) := by
  rw [swp_comm]; exact h.swp hy hx
theorem Rw.get {w : World} {g n : Nat} {d : Array Nat} {wr : World} (h : Rw w g n d wr) {i : Nat} (hi : i < n) : wr.cell? ⟨g, i, none⟩ = some (.int .u32 ((d[i]! : Nat) : Int)) := h.row.get (by rw [h.size]; exact hi)
theorem Rw.frozen {w : World} {g n : Nat} {d : Array Nat} {wr : World} (h : Rw w g n d wr) (i : Nat) : wr.frozen? ⟨g, i, none⟩ = false := h.row.frozen i

theorem insOuter_step {a b i : Nat} {d : Array Nat} (h : i < b) : Sort.insOuter ltN a b i d = Sort.insOuter ltN a b (i + 1) (Sort.insInner ltN a i d) := by
  rw [Sort.insOuter, if_pos h]
theorem insOuter_end {a b i : Nat} {d : Array Nat} (h : ¬ i < b) : Sort.insOuter ltN a b i d = d := by
  rw [Sort.insOuter, if_neg h]
theorem insInner_step {a j : Nat} {d : Array Nat} (h : a < j + 1) (hl : ltN d[j + 1]! d[j]! = true) : Sort.insInner ltN a (j + 1) d = Sort.insInner ltN a j (Sort.swp d (j + 1) j) := by
  rw [Sort.insInner, if_pos (by simp [hl]; omega)]
theorem insInner_end {a j : Nat} {d : Array Nat} (h : ¬ a < j) : Sort.insInner ltN a j d = d := by
  cases j with
  | zero => rfl
  | succ j => rw [Sort.insInner, if_neg (by simp; omega)]
theorem insInner_stop {a j : Nat} {d : Array Nat} (hl : ltN d[j + 1]! d[j]! = false) : Sort.insInner ltN a (j + 1) d = d := by
  rw [Sort.insInner, if_neg (by simp [hl])]

set_option maxHeartbeats 1000000 in
set_option maxRecDepth 100000 in
theorem ins_any (g n a b : Nat) (d : Array Nat) (w : World) (h : Blk w g 53 (rowV d)) (hd : d.size = n) (hn : n ≤ 1024) (hab : a ≤ b) (hb : b ≤ n) :
    Calls Ybaf.prog 21 #[.slice (some ⟨g, 0, none⟩) n n, .int .i64 a, .int .i64 b] w fun e w' => e = .returned (.tuple #[]) ∧ Rw w g n (Sort.insertionSort ltN d a b) w' := by
  have H := hide (Rw.start h hd)
  clear h hd
  go_enter Ybaf.func21, Ybaf.ntmps21
  go_wp2
  go_loopw [6] (fun s6 wr => ∃ (i : Nat) (dc : Array Nat), s6 = .int .i64 i ∧ i ≤ n + 1 ∧ a + 1 ≤ i ∧ Hid (Sort.insOuter ltN a b i dc = Sort.insertionSort ltN d a b ∧ Rw w g n dc wr)) (fun s6 _ => b - (intOf s6).toNat)
  case atStart => exact ⟨a + 1, d, by go_num, by omega, by omega, rfl, H⟩
  case round =>
    obtain ⟨i, dc, rfl, hi, hai, hst⟩ := hrel
    by_cases hib : i < b
    · have z1 : (i : Int) < (b : Int) := by omega
      go_wp2_with fail
      go_loopw [7] (fun s7 wr => ∃ (j : Nat) (dj : Array Nat), s7 = .int .i64 j ∧ j ≤ i ∧ Hid (Sort.insOuter ltN a b (i + 1) (Sort.insInner ltN a j dj) = Sort.insertionSort ltN d a b ∧ Rw w g n dj wr)) (fun s7 _ => (intOf s7).toNat)
      case atStart =>
        obtain ⟨h1, h2⟩ := unhide hst
        exact ⟨i, dc, rfl, by omega, by rw [← insOuter_step hib]; exact h1, h2⟩
      case round =>
        clear hst
        obtain ⟨j, dj, rfl, hj, hst⟩ := hrel
        obtain ⟨h1, h2⟩ := unhide hst
        by_cases haj : a < j
        · obtain ⟨q, hq⟩ : ∃ q, j = q + 1 := ⟨j - 1, by omega⟩
          have zq : IntKind.i64.wrap ((j : Int) - 1) = (q : Int) := by rw [IntKind.wrap_i64] <;> omega
          obtain ⟨x, hx⟩ : ∃ x, x = dj[j]! := ⟨_, rfl⟩
          obtain ⟨y, hy⟩ : ∃ y, y = dj[q]! := ⟨_, rfl⟩
          have c0 : wr.cell? ⟨g, j, none⟩ = some (.int .u32 (x : Int)) := by rw [hx]; exact h2.get (by omega)
          have c1 : wr.cell? ⟨g, q, none⟩ = some (.int .u32 (y : Int)) := by rw [hy]; exact h2.get (by omega)
          have f0 : wr.frozen? ⟨g, j, none⟩ = false := h2.frozen _
          have f1 : wr.frozen? ⟨g, q, none⟩ = false := h2.frozen _
          have d1 : decide ((a : Int) < (j : Int)) = true := by simp; omega
          have z2 : (j : Int) < (n : Int) := by omega
          have z3 : (q : Int) < (n : Int) := by omega
          have hqj : q ≠ j := by omega
          have hq1 : q < j := by omega
          have hq2 : j ≤ q + 1 := by omega
          have HX := hide hx
          have HY := hide hy
          have H1 := hide h1
          have H2 := hide h2
          have HQ := hide hq
          clear hx hy h1 h2 hst hq
          by_cases hl : ltN x y = true
          · have Hn : Hid (Sort.insOuter ltN a b (i + 1) (Sort.insInner ltN a q (Sort.swp dj j q)) = Sort.insertionSort ltN d a b) := by
              rw [← unhide H1, unhide HQ, insInner_step (by have := unhide HQ; omega) (by rw [← unhide HQ, ← unhide HX, ← unhide HY]; exact hl)]
              exact rfl
            go_wp2_with fail
            go_quiet (first | (go_at_call 27; refine (less_any _ _ _).mono ?_; rintro e w2 ⟨rfl, rfl⟩; exact ⟨rfl, _, rfl⟩))
            rw [hl]
            go_wp2_with fail
            go_region
            all_goals
              go_wp2_with fail
              go_roundw
              case rel => exact ⟨q, Sort.swp dj j q, by go_num, by omega, Hn, by first | exact ((unhide H2).drewN _).swp (unhide HX) (unhide HY) | exact ((unhide H2).drewN _).swp' (unhide HX) (unhide HY)⟩
              case measure => simp [intOf]; omega
          · have hl' : ltN x y = false := by simpa using hl
            have Hn : Hid (Sort.insOuter ltN a b (i + 1) dj = Sort.insertionSort ltN d a b) := by
              rw [← unhide H1, unhide HQ, insInner_stop (by rw [← unhide HQ, ← unhide HX, ← unhide HY]; exact hl')]
              exact rfl
            go_wp2_with fail
            go_quiet (first | (go_at_call 27; refine (less_any _ _ _).mono ?_; rintro e w2 ⟨rfl, rfl⟩; exact ⟨rfl, _, rfl⟩))
            rw [hl']
            go_wp2_with fail
            go_roundw
            case rel => exact ⟨i + 1, dj, by go_num, by omega, by omega, Hn, (unhide H2).drewN _⟩
            case measure => simp [intOf]; omega
        · have d1 : decide ((a : Int) < (j : Int)) = false := by simp; omega
          have Hn : Hid (Sort.insOuter ltN a b (i + 1) dj = Sort.insertionSort ltN d a b) := by
            rw [← h1, insInner_end haj]; exact rfl
          have H2 := hide h2
          clear h1 h2 hst
          go_wp2_with fail
          go_quiet (fail)
          go_wp2_with fail
          go_roundw
          case rel => exact ⟨i + 1, dj, by go_num, by omega, by omega, Hn, (unhide H2).drewN _⟩
          case measure => simp [intOf]; omega
    · have z1 : decide ((i : Int) < (b : Int)) = false := by simp; omega
      go_wp2_with fail
      go_returns
      obtain ⟨h1, h2⟩ := unhide hst
      rw [insOuter_end hib] at h1
      rw [← h1]
      exact ⟨rfl, h2⟩
end Go.Proofs.YbulkbrdiFmt
