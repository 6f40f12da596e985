/-
  b3388aF: slices.siftDownOrdered, slices.heapSortOrdered at uint32.
-/
import Derived.Test.YbulkbrdiFmtIns
namespace Go.Proofs.YbulkbrdiFmt
open Go.RowKit
set_option linter.unusedVariables false
set_option linter.unusedSimpArgs false

theorem Rw.trans {w w1 w2 : World} {g n : Nat} {d d' : Array Nat} (h : Rw w g n d w1) (h2 : Rw w1 g n d' w2) : Rw w g n d' w2 := ⟨h2.row, h2.size, h.fr.trans h2.fr⟩

theorem sift_end {hi first r : Nat} {d : Array Nat} (h : hi ≤ 2 * r + 1) : Sort.siftDown ltN hi first r d = d := by
  rw [Sort.siftDown, dif_pos h]
/-- the greater child of r -/
def kid (hi first r : Nat) (d : Array Nat) : Nat := if 2 * r + 1 + 1 < hi && ltN d[first + (2 * r + 1)]! d[first + (2 * r + 1) + 1]! then 2 * r + 2 else 2 * r + 1
theorem sift_stop {hi first r : Nat} {d : Array Nat} (h : ¬ hi ≤ 2 * r + 1) (hl : ltN d[first + r]! d[first + kid hi first r d]! = false) : Sort.siftDown ltN hi first r d = d := by
  rw [Sort.siftDown, dif_neg h]
  unfold kid at hl
  by_cases hk : (2 * r + 1 + 1 < hi && ltN d[first + (2 * r + 1)]! d[first + (2 * r + 1) + 1]!) = true
  · rw [if_pos hk] at hl ⊢; rw [hl]; rfl
  · rw [if_neg hk] at hl ⊢; rw [hl]; rfl
theorem sift_step {hi first r : Nat} {d : Array Nat} (h : ¬ hi ≤ 2 * r + 1) (hl : ltN d[first + r]! d[first + kid hi first r d]! = true) : Sort.siftDown ltN hi first r d = Sort.siftDown ltN hi first (kid hi first r d) (Sort.swp d (first + r) (first + kid hi first r d)) := by
  rw [Sort.siftDown, dif_neg h]
  unfold kid at hl ⊢
  by_cases hk : (2 * r + 1 + 1 < hi && ltN d[first + (2 * r + 1)]! d[first + (2 * r + 1) + 1]!) = true
  · rw [if_pos hk] at hl ⊢; rw [hl, if_neg (by simp), dif_pos (by simp at hk; omega), if_pos hk]
  · rw [if_neg hk] at hl ⊢; rw [hl, if_neg (by simp), if_neg hk]
theorem kid_yes {hi first r : Nat} {d : Array Nat} (h1 : 2 * r + 1 + 1 < hi) (h2 : ltN d[first + (2 * r + 1)]! d[first + (2 * r + 1) + 1]! = true) : kid hi first r d = 2 * r + 2 := by
  unfold kid; rw [if_pos (by simp [h2]; omega)]
theorem kid_no {hi first r : Nat} {d : Array Nat} (h2 : ltN d[first + (2 * r + 1)]! d[first + (2 * r + 1) + 1]! = false) : kid hi first r d = 2 * r + 1 := by
  unfold kid; rw [if_neg (by simp [h2])]
theorem kid_none {hi first r : Nat} {d : Array Nat} (h1 : ¬ 2 * r + 1 + 1 < hi) : kid hi first r d = 2 * r + 1 := by
  unfold kid; rw [if_neg (by simp; omega)]

theorem sift_go {hi first r kd pr pk x y : Nat} {d : Array Nat} (h : ¬ hi ≤ 2 * r + 1) (hk : kd = kid hi first r d) (hpr : pr = first + r) (hpk : pk = first + kd) (hx : x = d[pr]!) (hy : y = d[pk]!) (hl : ltN x y = true) :
    Sort.siftDown ltN hi first kd (Sort.swp d pr pk) = Sort.siftDown ltN hi first r d := by
  subst hx; subst hy; subst hpr; subst hpk; subst hk
  exact (sift_step h hl).symm
theorem sift_halt {hi first r kd pr pk x y : Nat} {d : Array Nat} (h : ¬ hi ≤ 2 * r + 1) (hk : kd = kid hi first r d) (hpr : pr = first + r) (hpk : pk = first + kd) (hx : x = d[pr]!) (hy : y = d[pk]!) (hl : ltN x y = false) :
    Sort.siftDown ltN hi first r d = d := by
  subst hx; subst hy; subst hpr; subst hpk; subst hk
  exact sift_stop h hl

set_option maxHeartbeats 1000000 in
set_option maxRecDepth 100000 in
theorem sift_any (g n lo hi first : Nat) (d : Array Nat) (w : World) (h : Blk w g 53 (rowV d)) (hd : d.size = n) (hn : n ≤ 1024) (hb : first + hi ≤ n) (hlo : lo ≤ 1024) :
    Calls Ybaf.prog 40 #[.slice (some ⟨g, 0, none⟩) n n, .int .i64 lo, .int .i64 hi, .int .i64 first] w fun e w' => e = .returned (.tuple #[]) ∧ Rw w g n (Sort.siftDown ltN hi first lo d) w' := by
  have H := hide (Rw.start h hd)
  clear h hd
  go_enter Ybaf.func40, Ybaf.ntmps40
  go_wp2
  go_loopw [8] (fun s8 wr => ∃ (r : Nat) (dc : Array Nat), s8 = .int .i64 r ∧ r ≤ 1024 ∧ Hid (Sort.siftDown ltN hi first r dc = Sort.siftDown ltN hi first lo d ∧ Rw w g n dc wr)) (fun s8 _ => hi - (intOf s8).toNat)
  case atStart => exact ⟨lo, d, rfl, hlo, rfl, H⟩
  case round =>
    obtain ⟨r, dc, rfl, hr, hst⟩ := hrel
    obtain ⟨h1, h2⟩ := unhide hst
    obtain ⟨c, hc⟩ : ∃ c, c = 2 * r + 1 := ⟨_, rfl⟩
    have ec : 2 * (r : Int) + 1 = (c : Int) := by omega
    have hcr : r < c := by omega
    have hcl : c ≤ 2049 := by omega
    have HC := hide hc
    by_cases hch : hi ≤ c
    · have d1 : decide ((hi : Int) ≤ (c : Int)) = true := by simp; omega
      have HE : Hid (Rw w g n (Sort.siftDown ltN hi first lo d) wr) := by
        rw [← h1, sift_end (by omega)]; exact h2
      clear h1 h2 hst hc
      go_wp2_with fail
      go_returns
      exact ⟨rfl, HE.out⟩
    · have d1 : decide ((hi : Int) ≤ (c : Int)) = false := by simp; omega
      obtain ⟨pr, hpr⟩ : ∃ pr, pr = first + r := ⟨_, rfl⟩
      obtain ⟨pc, hpc⟩ : ∃ pc, pc = first + c := ⟨_, rfl⟩
      have e1 : IntKind.i64.wrap ((first : Int) + (r : Int)) = (pr : Int) := by rw [IntKind.wrap_i64] <;> omega
      have e2 : IntKind.i64.wrap ((first : Int) + (c : Int)) = (pc : Int) := by rw [IntKind.wrap_i64] <;> omega
      obtain ⟨x, hx⟩ : ∃ x, x = dc[pr]! := ⟨_, rfl⟩
      have x0 : wr.cell? ⟨g, pr, none⟩ = some (.int .u32 (x : Int)) := by rw [hx]; exact h2.get (by omega)
      have f0 : wr.frozen? ⟨g, pr, none⟩ = false := h2.frozen _
      have v1 : (pr : Int) < (n : Int) := by omega
      have v2 : (pc : Int) < (n : Int) := by omega
      obtain ⟨u, hu⟩ : ∃ u, u = dc[pc]! := ⟨_, rfl⟩
      have u0 : wr.cell? ⟨g, pc, none⟩ = some (.int .u32 (u : Int)) := by rw [hu]; exact h2.get (by omega)
      have fu : wr.frozen? ⟨g, pc, none⟩ = false := h2.frozen _
      have hpp : pr < pc := by omega
      have hprn : pr ≤ 1024 := by omega
      have H1 := hide h1
      have H2 := hide h2
      have HX := hide hx
      have HPR := hide hpr
      have HPC := hide hpc
      have HU := hide hu
      clear h1 h2 hst hx hpr hpc hu hc
      by_cases hc1 : c + 1 < hi
      · obtain ⟨k1, hk1⟩ : ∃ k1, k1 = c + 1 := ⟨_, rfl⟩
        obtain ⟨p1, hp1⟩ : ∃ p1, p1 = pc + 1 := ⟨_, rfl⟩
        have e3 : IntKind.i64.wrap ((c : Int) + 1) = (k1 : Int) := by rw [IntKind.wrap_i64] <;> omega
        have e4 : IntKind.i64.wrap ((pc : Int) + 1) = (p1 : Int) := by rw [IntKind.wrap_i64] <;> omega
        have e5 : (c : Int) + 1 = (k1 : Int) := by omega
        have e6 : IntKind.i64.wrap ((first : Int) + (k1 : Int)) = (p1 : Int) := by have := unhide HPC; rw [IntKind.wrap_i64] <;> omega
        have d2 : decide ((k1 : Int) < (hi : Int)) = true := by simp; omega
        have v3 : (p1 : Int) < (n : Int) := by have := unhide HPC; omega
        obtain ⟨v, hv⟩ : ∃ v, v = dc[p1]! := ⟨_, rfl⟩
        have v0 : wr.cell? ⟨g, p1, none⟩ = some (.int .u32 (v : Int)) := by rw [hv]; exact (unhide H2).get (by omega)
        have fv : wr.frozen? ⟨g, p1, none⟩ = false := (unhide H2).frozen _
        have hk1l : r < k1 := by omega
        have hk1h : k1 < hi := by omega
        have hpp1 : pr < p1 := by omega
        by_cases hl2 : ltN u v = true
        · have HK : Hid (k1 = kid hi first r dc) := by
            show k1 = _
            have e := unhide HC
            rw [kid_yes (by omega) (by rw [← e, ← unhide HPC, ← hp1, ← unhide HU, ← hv]; exact hl2)]; omega
          have HPK : Hid (p1 = first + k1) := by have := unhide HPC; show p1 = _; omega
          have HY := hide hv
          clear hk1 hp1 hv
          go_wp2_with fail
          go_quiet (first | (go_at_call 27; refine (less_any _ _ _).mono ?_; rintro e w2 ⟨rfl, rfl⟩; exact ⟨rfl, _, rfl⟩))
          rw [hl2]
          go_wp2_with fail
          by_cases hl : ltN x v = true
          · have Hn : Hid (Sort.siftDown ltN hi first k1 (Sort.swp dc pr p1) = Sort.siftDown ltN hi first lo d) := by
              exact (sift_go (by have := unhide HC; omega) (unhide HK) (unhide HPR) (unhide HPK) (unhide HX) (unhide HY) hl).trans (unhide H1)
            go_quiet (first | (go_at_call 27; refine (less_any _ _ _).mono ?_; rintro e w2 ⟨rfl, rfl⟩; exact ⟨rfl, _, rfl⟩))
            rw [hl]
            go_wp2_with fail
            go_region
            all_goals
              go_wp2_with fail
              go_roundw
              case rel => exact ⟨k1, Sort.swp dc pr p1, by first | rfl | go_num, by omega, Hn, by first | exact ((unhide H2).drewN _).swp (unhide HX) (unhide HY) | exact ((unhide H2).drewN _).swp' (unhide HX) (unhide HY)⟩
              case measure => (try simp [intOf]) <;> (try omega)
          · have hl' : ltN x v = false := by simpa using hl
            have HE : Hid (Rw w g n (Sort.siftDown ltN hi first lo d) wr) := by
              rw [← unhide H1, sift_halt (by have := unhide HC; omega) (unhide HK) (unhide HPR) (unhide HPK) (unhide HX) (unhide HY) hl']; exact unhide H2
            go_quiet (first | (go_at_call 27; refine (less_any _ _ _).mono ?_; rintro e w2 ⟨rfl, rfl⟩; exact ⟨rfl, _, rfl⟩))
            rw [hl']
            go_wp2_with fail
            go_returns
            exact ⟨rfl, (HE.out.drewN _).drewN _⟩
        · have hl2' : ltN u v = false := by simpa using hl2
          have HK : Hid (c = kid hi first r dc) := by
            show c = _
            have e := unhide HC
            rw [kid_no (by rw [← e, ← unhide HPC, ← hp1, ← unhide HU, ← hv]; exact hl2')]; omega
          clear hk1 hp1 hv
          go_wp2_with fail
          go_quiet (first | (go_at_call 27; refine (less_any _ _ _).mono ?_; rintro e w2 ⟨rfl, rfl⟩; exact ⟨rfl, _, rfl⟩))
          rw [hl2']
          go_wp2_with fail
          by_cases hl : ltN x u = true
          · have Hn : Hid (Sort.siftDown ltN hi first c (Sort.swp dc pr pc) = Sort.siftDown ltN hi first lo d) := by
              exact (sift_go (by have := unhide HC; omega) (unhide HK) (unhide HPR) (unhide HPC) (unhide HX) (unhide HU) hl).trans (unhide H1)
            go_quiet (first | (go_at_call 27; refine (less_any _ _ _).mono ?_; rintro e w2 ⟨rfl, rfl⟩; exact ⟨rfl, _, rfl⟩))
            rw [hl]
            go_wp2_with fail
            go_region
            all_goals
              go_wp2_with fail
              go_roundw
              case rel => exact ⟨c, Sort.swp dc pr pc, by first | rfl | go_num, by omega, Hn, by first | exact ((unhide H2).drewN _).swp (unhide HX) (unhide HU) | exact ((unhide H2).drewN _).swp' (unhide HX) (unhide HU)⟩
              case measure => (try simp [intOf]) <;> (try omega)
          · have hl' : ltN x u = false := by simpa using hl
            have HE : Hid (Rw w g n (Sort.siftDown ltN hi first lo d) wr) := by
              rw [← unhide H1, sift_halt (by have := unhide HC; omega) (unhide HK) (unhide HPR) (unhide HPC) (unhide HX) (unhide HU) hl']; exact unhide H2
            go_quiet (first | (go_at_call 27; refine (less_any _ _ _).mono ?_; rintro e w2 ⟨rfl, rfl⟩; exact ⟨rfl, _, rfl⟩))
            rw [hl']
            go_wp2_with fail
            go_returns
            exact ⟨rfl, (HE.out.drewN _).drewN _⟩
      · have e3 : IntKind.i64.wrap ((c : Int) + 1) = (c : Int) + 1 := by rw [IntKind.wrap_i64] <;> omega
        have d2 : decide ((c : Int) + 1 < (hi : Int)) = false := by simp; omega
        have HK : Hid (c = kid hi first r dc) := by
          show c = _
          have e := unhide HC
          rw [kid_none (by omega)]; omega
        go_wp2_with fail
        go_quiet (fail)
        go_wp2_with fail
        by_cases hl : ltN x u = true
        · have Hn : Hid (Sort.siftDown ltN hi first c (Sort.swp dc pr pc) = Sort.siftDown ltN hi first lo d) := by
            exact (sift_go (by have := unhide HC; omega) (unhide HK) (unhide HPR) (unhide HPC) (unhide HX) (unhide HU) hl).trans (unhide H1)
          go_quiet (first | (go_at_call 27; refine (less_any _ _ _).mono ?_; rintro e w2 ⟨rfl, rfl⟩; exact ⟨rfl, _, rfl⟩))
          rw [hl]
          go_wp2_with fail
          go_region
          all_goals
            go_wp2_with fail
            go_roundw
            case rel => exact ⟨c, Sort.swp dc pr pc, by first | rfl | go_num, by omega, Hn, by first | exact ((unhide H2).drewN _).swp (unhide HX) (unhide HU) | exact ((unhide H2).drewN _).swp' (unhide HX) (unhide HU)⟩
            case measure => (try simp [intOf]) <;> (try omega)
        · have hl' : ltN x u = false := by simpa using hl
          have HE : Hid (Rw w g n (Sort.siftDown ltN hi first lo d) wr) := by
            rw [← unhide H1, sift_halt (by have := unhide HC; omega) (unhide HK) (unhide HPR) (unhide HPC) (unhide HX) (unhide HU) hl']; exact unhide H2
          go_quiet (first | (go_at_call 27; refine (less_any _ _ _).mono ?_; rintro e w2 ⟨rfl, rfl⟩; exact ⟨rfl, _, rfl⟩))
          rw [hl']
          go_wp2_with fail
          go_returns
          exact ⟨rfl, (HE.out.drewN _).drewN _⟩

set_option maxHeartbeats 1000000 in
set_option maxRecDepth 100000 in
theorem heap_any (g n a b : Nat) (d : Array Nat) (w : World) (h : Blk w g 53 (rowV d)) (hd : d.size = n) (hn : n ≤ 1024) (hab : a < b) (hb : b ≤ n) :
    Calls Ybaf.prog 22 #[.slice (some ⟨g, 0, none⟩) n n, .int .i64 a, .int .i64 b] w fun e w' => e = .returned (.tuple #[]) ∧ Rw w g n (Sort.heapSort ltN d a b) w' := by
  have H := hide (Rw.start h hd)
  obtain ⟨m, hm⟩ : ∃ m, m = b - a := ⟨_, rfl⟩
  have e1 : (b : Int) - (a : Int) = (m : Int) := by omega
  obtain ⟨k0, hk0⟩ : ∃ k0, k0 = (m - 1) / 2 := ⟨_, rfl⟩
  have e2 : ((m : Int) - 1).tdiv 2 = (k0 : Int) := by
    have : (m : Int) - 1 = ((m - 1 : Nat) : Int) := by omega
    rw [this]; exact (by rw [hk0]; rfl)
  have hk1 : k0 ≤ 1024 := by omega
  have hm1 : m ≤ 1024 := by omega
  have hm2 : a + m ≤ n := by omega
  have hm0 : 1 ≤ m := by omega
  have hT : Sort.heapSort ltN d a b = Sort.heapPop ltN a m (Sort.heapBuild ltN m a (k0 + 1) d) := by rw [hk0, hm]; rfl
  have HT := hide hT
  clear h hd hT hk0 hm
  go_enter Ybaf.func22, Ybaf.ntmps22
  go_wp2_with fail
  go_loopw [9] (fun s9 wr => ∃ (k : Nat) (dc : Array Nat), s9 = .int .i64 ((k : Int) - 1) ∧ k ≤ 1025 ∧ Hid (Sort.heapBuild ltN m a k dc = Sort.heapBuild ltN m a (k0 + 1) d ∧ Rw w g n dc wr)) (fun s9 _ => (intOf s9 + 1).toNat)
  case atStart => exact ⟨k0 + 1, d, by go_num, by omega, rfl, H⟩
  case round =>
    obtain ⟨k, dc, rfl, hk, hst⟩ := hrel
    obtain ⟨h1, h2⟩ := unhide hst
    by_cases hk0 : k = 0
    · subst hk0
      have h1 : dc = Sort.heapBuild ltN m a (k0 + 1) d := h1
      have H2 := hide h2
      rw [← h1] at HT
      clear h1 h2 hst
      rw [show ((0 : Nat) : Int) - 1 = -1 from rfl]
      go_wp2_with fail
      go_loopw [10] (fun s10 wr => ∃ (k : Nat) (dk : Array Nat), s10 = .int .i64 ((k : Int) - 1) ∧ k ≤ m ∧ Hid (Sort.heapPop ltN a k dk = Sort.heapPop ltN a m dc ∧ Rw w g n dk wr)) (fun s10 _ => (intOf s10 + 1).toNat)
      case atStart => exact ⟨m, dc, rfl, by omega, rfl, H2⟩
      case round =>
        clear H2
        obtain ⟨k, dk, rfl, hk, hst⟩ := hrel
        obtain ⟨h1, h2⟩ := unhide hst
        by_cases hk0 : k = 0
        · subst hk0
          have HE : Hid (Rw w g n (Sort.heapSort ltN d a b) wr) := by
            rw [unhide HT, ← h1]; exact h2
          clear h1 h2 hst
          go_wp2_with fail
          go_returns
          exact ⟨rfl, HE.out⟩
        · obtain ⟨q, rfl⟩ : ∃ q, k = q + 1 := ⟨k - 1, by omega⟩
          have eq1 : ((q + 1 : Nat) : Int) - 1 = (q : Int) := by omega
          rw [eq1]
          have d1 : decide ((0 : Int) ≤ (q : Int)) = true := by simp
          obtain ⟨p, hp⟩ : ∃ p, p = a + q := ⟨_, rfl⟩
          have e3 : IntKind.i64.wrap ((a : Int) + (q : Int)) = (p : Int) := by rw [IntKind.wrap_i64] <;> omega
          obtain ⟨x, hx⟩ : ∃ x, x = dk[a]! := ⟨_, rfl⟩
          obtain ⟨y, hy⟩ : ∃ y, y = dk[p]! := ⟨_, rfl⟩
          have c0 : wr.cell? ⟨g, a, none⟩ = some (.int .u32 (x : Int)) := by rw [hx]; exact h2.get (by omega)
          have c1 : wr.cell? ⟨g, p, none⟩ = some (.int .u32 (y : Int)) := by rw [hy]; exact h2.get (by omega)
          have f0 : wr.frozen? ⟨g, a, none⟩ = false := h2.frozen _
          have f1 : wr.frozen? ⟨g, p, none⟩ = false := h2.frozen _
          have z0 : (a : Int) < (n : Int) := by omega
          have z3 : (p : Int) < (n : Int) := by omega
          have HS : Hid (∀ W, Rw w g n (Sort.swp dk a p) W → Calls Ybaf.prog 40 #[.slice (some ⟨g, 0, none⟩) n n, .int .i64 0, .int .i64 q, .int .i64 a] W fun e w' => e = .returned (.tuple #[]) ∧ Rw w g n (Sort.siftDown ltN q a 0 (Sort.swp dk a p)) w') := fun W hW =>
            (sift_any g n 0 q a (Sort.swp dk a p) W hW.row hW.size hn (by omega) (by omega)).mono fun e w' ⟨h1, h2⟩ => ⟨h1, hW.trans h2⟩
          have H1 := hide h1
          have H2 := hide h2
          have HX := hide hx
          have HY := hide hy
          have HP := hide hp
          have hqm : q < m := by omega
          clear h1 h2 hst eq1 hx hy
          have HH : Hid (Sort.heapPop ltN a q (Sort.siftDown ltN q a 0 (Sort.swp dk a p)) = Sort.heapPop ltN a m dc) := by
            rw [← unhide H1, unhide HP]; exact rfl
          by_cases hpa : a = p
          · subst hpa
            obtain rfl : x = y := by rw [unhide HX, unhide HY]
            clear hp
            go_wp2_with fail
            go_region
            all_goals
              go_wp2_with fail
              refine (unhide HS _ (by first | exact ((unhide H2).swp (unhide HX) (unhide HY)).drew | exact ((unhide H2).swp' (unhide HX) (unhide HY)).drew)).mono ?_
              rintro e w2 ⟨rfl, hR⟩
              have HR := hide hR
              clear hR
              go_wp2_with fail
              go_roundw
              case rel => exact ⟨q, _, by go_num, by omega, HH, HR⟩
              case measure => (try simp [intOf]) <;> (try omega)
          · clear hp
            go_wp2_with fail
            go_region
            all_goals
              go_wp2_with fail
              refine (unhide HS _ (by first | exact ((unhide H2).swp (unhide HX) (unhide HY)).drew | exact ((unhide H2).swp' (unhide HX) (unhide HY)).drew)).mono ?_
              rintro e w2 ⟨rfl, hR⟩
              have HR := hide hR
              clear hR
              go_wp2_with fail
              go_roundw
              case rel => exact ⟨q, _, by go_num, by omega, HH, HR⟩
              case measure => (try simp [intOf]) <;> (try omega)
    · obtain ⟨q, rfl⟩ : ∃ q, k = q + 1 := ⟨k - 1, by omega⟩
      have eq1 : ((q + 1 : Nat) : Int) - 1 = (q : Int) := by omega
      rw [eq1]
      have d1 : decide ((0 : Int) ≤ (q : Int)) = true := by simp
      have HS := hide (sift_any g n q m a dc wr h2.row h2.size hn hm2 (by omega))
      have H1 := hide h1
      have H2 := hide h2
      clear h1 h2 hst eq1
      go_wp2_with fail
      refine (unhide HS).mono ?_
      rintro e w2 ⟨rfl, hR⟩
      have HR := hide (Rw.trans (unhide H2) hR)
      clear hR HS
      go_wp2_with fail
      go_roundw
      case rel => exact ⟨q, _, by go_num, by omega, unhide H1, HR⟩
      case measure => (try simp [intOf]) <;> (try omega)
end Go.Proofs.YbulkbrdiFmt
