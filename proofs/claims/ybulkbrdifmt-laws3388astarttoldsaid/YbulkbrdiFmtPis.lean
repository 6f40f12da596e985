/-
  b3388aF: slices.partialInsertionSortOrdered at uint32.
-/
import Derived.Test.YbulkbrdiFmtPar
namespace Go.Proofs.YbulkbrdiFmt
open Go.RowKit
set_option linter.unusedVariables false
set_option linter.unusedSimpArgs false

theorem swo : Sort.SWO ltN where
  irrefl x := by unfold ltN; simp
  trans x y z := by unfold ltN; simp; omega
  ntrans x y z := by unfold ltN; simp; omega

/-- the row permuted, sorted up to i -/
structure Ps (w : World) (g n a b : Nat) (d dc : Array Nat) (i : Nat) (wr : World) : Prop where
  pm : Pm w g n a b d dc wr
  sorted : Sort.SortedIn ltN a i dc
theorem Ps.drewN {w wr : World} {g n a b i : Nat} {d dc : Array Nat} (h : Ps w g n a b d dc i wr) (q : Nat) : Ps w g n a b d dc i (wr.drewN q) := ⟨h.pm.drewN q, h.sorted⟩
/-- the row permuted, one element on its way down -/
structure Pj (w : World) (g n a b : Nat) (d dc : Array Nat) (j q : Nat) (wr : World) : Prop where
  pm : Pm w g n a b d dc wr
  ins : Sort.Ins ltN a j q dc
theorem Pj.drewN {w wr : World} {g n a b j q : Nat} {d dc : Array Nat} (h : Pj w g n a b d dc j q wr) (r : Nat) : Pj w g n a b d dc j q (wr.drewN r) := ⟨h.pm.drewN r, h.ins⟩
theorem Ps.enter {w wr W : World} {g n a b i q : Nat} {d dc : Array Nat} (h : Ps w g n a b d dc i wr) (hq : i = q + 1) (hW : Pm w g n a b d (Sort.swp dc i q) W) : Pj w g n a b d (Sort.swp dc i q) q q W := by
  refine ⟨hW, ⟨fun p r h1 h2 h3 h4 h5 => ?_, fun r h1 h2 => by omega⟩⟩
  rw [Sort.swp_other _ _ _ _ (by omega) (by omega), Sort.swp_other _ _ _ _ (by omega) (by omega)]
  exact h.sorted p r h1 h2 (by omega)
theorem Pj.stop {w wr : World} {g n a b j q i : Nat} {d dc : Array Nat} (h : Pj w g n a b d dc j q wr) (hs : j ≤ a ∨ ltN dc[j]! dc[j - 1]! = false) (hi : i = q + 1) : Ps w g n a b d dc i wr := by
  subst hi; exact ⟨h.pm, Sort.Ins.stop swo h.ins hs⟩
theorem Ps.above {w wr W : World} {g n a b i j q : Nat} {d dc : Array Nat} (h : Ps w g n a b d dc i wr) (h1 : i ≤ j) (h2 : i ≤ q) (hW : Pm w g n a b d (Sort.swp dc j q) W) : Ps w g n a b d (Sort.swp dc j q) i W :=
  ⟨hW, Sort.SortedIn.congrA h.sorted fun p hp => Sort.swp_other _ _ _ _ (by omega) (by omega)⟩

set_option maxHeartbeats 2000000 in
set_option maxRecDepth 100000 in
theorem pis_any (g n a b : Nat) (d : Array Nat) (w : World) (h : Blk w g 53 (rowV d)) (hd : d.size = n) (hn : n ≤ 1024) (hab : a < b) (hb : b ≤ n) (hB : Sort.Below ltN a b d) :
    Calls Ybaf.prog 26 #[.slice (some ⟨g, 0, none⟩) n n, .int .i64 a, .int .i64 b] w fun e w' => ∃ (r : Bool) (d' : Array Nat), e = .returned (.bool r) ∧ Rw w g n d' w' ∧ Sort.PermIn a b d d' ∧ (r = true → Sort.SortedIn ltN a b d') := by
  have HS : Hid (Ps w g n a b d d (a + 1) w) := ⟨Pm.mk (Rw.start h hd) (Sort.permIn_refl d a b), fun i j h1 h2 h3 => by omega⟩
  have HBel : Hid (∀ dc, Sort.PermIn a b d dc → 0 < a → ltN dc[a]! dc[a - 1]! = false) := fun dc hp h0 => by
    rcases hB.perm (by rw [hd]; exact hb) hp with h | h
    · omega
    · exact h a (Nat.le_refl _) hab
  clear h hd hB
  go_enter Ybaf.func26, Ybaf.ntmps26
  go_wp2_with fail
  go_loopw [7, 8] (fun s7 s8 wr => ∃ (i s : Nat) (dc : Array Nat), s7 = .int .i64 i ∧ s8 = .int .i64 s ∧ a + 1 ≤ i ∧ i ≤ b ∧ s ≤ 5 ∧ Hid (Ps w g n a b d dc i wr)) (fun _ s8 _ => 5 - (intOf s8).toNat)
  case atStart => exact ⟨a + 1, 0, d, by go_num, rfl, by omega, by omega, by omega, HS⟩
  case round =>
    clear HS
    obtain ⟨i0, s, dc, rfl, rfl, hai, hib, hs5, hst⟩ := hrel
    by_cases hs : s < 5
    · have ds : decide ((s : Int) < 5) = true := by simp; omega
      go_upto_block 2 with fail
      go_cut [7] (fun s7 wd => ∃ i : Nat, s7 = .int .i64 i ∧ i0 ≤ i ∧ i ≤ b ∧ Hid (Ps w g n a b d dc i wd) ∧ Hid (i < b → ltN dc[i]! dc[i - 1]! = true))
      case first =>
        go_wp2_with fail
        go_loopw [7] (fun s7 wr => ∃ i : Nat, s7 = .int .i64 i ∧ i0 ≤ i ∧ i ≤ b ∧ Hid (Ps w g n a b d dc i wr)) (fun s7 _ => b - (intOf s7).toNat)
        case atStart => exact ⟨i0, rfl, by omega, by omega, hst⟩
        case round =>
          clear hst
          obtain ⟨i, rfl, hii, hib2, hst⟩ := hrel
          by_cases hle : i < b
          · have d1 : decide ((i : Int) < (b : Int)) = true := by simp; omega
            obtain ⟨q, hq⟩ : ∃ q, q = i - 1 := ⟨_, rfl⟩
            have zq : IntKind.i64.wrap ((i : Int) - 1) = (q : Int) := by rw [IntKind.wrap_i64] <;> omega
            obtain ⟨x, hx⟩ : ∃ x, x = dc[i]! := ⟨_, rfl⟩
            obtain ⟨y, hy⟩ : ∃ y, y = dc[q]! := ⟨_, rfl⟩
            have c0 : wr.cell? ⟨g, i, none⟩ = some (.int .u32 (x : Int)) := by rw [hx]; exact (unhide hst).pm.rw.get (by omega)
            have c1 : wr.cell? ⟨g, q, none⟩ = some (.int .u32 (y : Int)) := by rw [hy]; exact (unhide hst).pm.rw.get (by omega)
            have z1 : (i : Int) < (n : Int) := by omega
            have z2 : (q : Int) < (n : Int) := by omega
            have HE : Hid (x = dc[i]! ∧ y = dc[i - 1]!) := ⟨hx, by rw [hy, hq]⟩
            clear hx hy hq
            by_cases hl : ltN x y = false
            · have Hn : Hid (∀ r, Ps w g n a b d dc (i + 1) (wr.drewN r)) := fun r => ⟨(unhide hst).pm.drewN r, Sort.SortedIn.snoc swo (unhide hst).sorted (by rw [← (unhide HE).1, ← (unhide HE).2]; exact hl)⟩
              go_wp2_with fail
              go_quiet (first | (go_at_call 27; refine (less_any _ _ _).mono ?_; rintro e w2 ⟨rfl, rfl⟩; exact ⟨rfl, _, rfl⟩))
              rw [hl]
              go_wp2_with fail
              go_roundw
              case rel => exact ⟨i + 1, by go_num, by omega, by omega, unhide Hn _⟩
              case measure => (try simp [intOf]) <;> (try omega)
            · have hl' : ltN x y = true := by simpa using hl
              have HT : Hid (i < b → ltN dc[i]! dc[i - 1]! = true) := fun _ => by rw [← (unhide HE).1, ← (unhide HE).2]; exact hl'
              go_wp2_with fail
              go_quiet (first | (go_at_call 27; refine (less_any _ _ _).mono ?_; rintro e w2 ⟨rfl, rfl⟩; exact ⟨rfl, _, rfl⟩))
              rw [hl']
              go_wp2_with fail
              go_meet
              case rel => exact ⟨i, rfl, by omega, by omega, (unhide hst).drewN _, HT⟩
          · have d1 : decide ((i : Int) < (b : Int)) = false := by simp; omega
            go_wp2_with fail
            go_quiet (fail)
            go_wp2_with fail
            go_meet
            case rel => exact ⟨i, rfl, by omega, by omega, (unhide hst).drewN _, fun h => absurd h hle⟩
      case rest =>
        clear hst
        obtain ⟨i, rfl, hii, hib2, hst, HT⟩ := hcut
        by_cases hieb : i = b
        · have d1 : ((i : Int) == (b : Int)) = true := by simp; omega
          have HO : Hid (Rw w g n dc wc ∧ Sort.PermIn a b d dc ∧ Sort.SortedIn ltN a b dc) := ⟨(unhide hst).pm.rw, (unhide hst).pm.perm, by have := (unhide hst).sorted; rw [hieb] at this; exact this⟩
          clear hst hieb
          go_wp2_with fail
          go_ret
          exact ⟨true, dc, rfl, HO.out.1, HO.out.2.1, fun _ => HO.out.2.2⟩
        · have d1 : ((i : Int) == (b : Int)) = false := by simp; omega
          have hib3 : i < b := by omega
          obtain ⟨m, hm⟩ : ∃ m, m = b - a := ⟨_, rfl⟩
          have em : (b : Int) - (a : Int) = (m : Int) := by omega
          have hma : a + m ≤ n := by omega
          clear hm
          by_cases h50 : m < 50
          · have d2 : decide ((m : Int) < 50) = true := by simp; omega
            go_wp2_with fail
            go_ret
            exact ⟨false, dc, rfl, (unhide hst).pm.rw, (unhide hst).pm.perm, fun h => by cases h⟩
          · have d2 : decide ((m : Int) < 50) = false := by simp; omega
            obtain ⟨q, hq⟩ : ∃ q, q = i - 1 := ⟨_, rfl⟩
            have zq : IntKind.i64.wrap ((i : Int) - 1) = (q : Int) := by rw [IntKind.wrap_i64] <;> omega
            have zq2 : (i : Int) - 1 = (q : Int) := by omega
            obtain ⟨x, hx⟩ : ∃ x, x = dc[i]! := ⟨_, rfl⟩
            obtain ⟨y, hy⟩ : ∃ y, y = dc[q]! := ⟨_, rfl⟩
            have c0 : wc.cell? ⟨g, i, none⟩ = some (.int .u32 (x : Int)) := by rw [hx]; exact (unhide hst).pm.rw.get (by omega)
            have c1 : wc.cell? ⟨g, q, none⟩ = some (.int .u32 (y : Int)) := by rw [hy]; exact (unhide hst).pm.rw.get (by omega)
            have f0 : wc.frozen? ⟨g, i, none⟩ = false := (unhide hst).pm.rw.frozen _
            have f1 : wc.frozen? ⟨g, q, none⟩ = false := (unhide hst).pm.rw.frozen _
            have z1 : (i : Int) < (n : Int) := by omega
            have z2 : (q : Int) < (n : Int) := by omega
            have hqi : q < i := by omega
            have hqi2 : i ≤ q + 1 := by omega
            have hne : i ≠ q := by omega
            have HX := hide hx
            have HY := hide hy
            have HQ : Hid (i = q + 1) := by show i = q + 1; omega
            clear hx hy hq
            go_wp2_with fail
            go_cut [] (fun wd => Hid (Pm w g n a b d (Sort.swp dc i q) wd))
            case first =>
              go_region
              all_goals
                go_wp2_with fail
                go_meet
                case rel => first | exact ((unhide hst).pm.swp ⟨by omega, by omega⟩ ⟨by omega, by omega⟩ hb (unhide HX) (unhide HY)).drew | exact ((unhide hst).pm.swp' ⟨by omega, by omega⟩ ⟨by omega, by omega⟩ hb (unhide HX) (unhide HY)).drew
            case rest =>
              have HJ := hide ((unhide hst).enter (unhide HQ) (unhide hcut))
              clear hcut hst HT HX HY c0 c1 f0 f1
              obtain ⟨t, ht⟩ : ∃ t, t = i - a := ⟨_, rfl⟩
              have et : (i : Int) - (a : Int) = (t : Int) := by omega
              have ht1 : a + t = i := by omega
              clear ht
              go_upto_if 61 with fail
              go_cut [] (fun wd => ∃ d2, Hid (Ps w g n a b d d2 i wd))
              case first =>
                by_cases ht2 : 2 ≤ t
                · have dt : decide ((2 : Int) ≤ (t : Int)) = true := by simp; omega
                  go_wp2_with fail
                  go_loopw [9] (fun s9 wr => ∃ (j : Nat) (dj : Array Nat), s9 = .int .i64 j ∧ a ≤ j ∧ j ≤ q ∧ Hid (Pj w g n a b d dj j q wr)) (fun s9 _ => (intOf s9).toNat)
                  case atStart => exact ⟨q, _, rfl, by omega, by omega, HJ⟩
                  case round =>
                    clear HJ
                    obtain ⟨j, dj, rfl, haj, hjq, hst⟩ := hrel
                    by_cases hj1 : 1 ≤ j
                    · have dj1 : decide ((1 : Int) ≤ (j : Int)) = true := by simp; omega
                      obtain ⟨r, hr⟩ : ∃ r, r = j - 1 := ⟨_, rfl⟩
                      have zr : IntKind.i64.wrap ((j : Int) - 1) = (r : Int) := by rw [IntKind.wrap_i64] <;> omega
                      obtain ⟨x, hx⟩ : ∃ x, x = dj[j]! := ⟨_, rfl⟩
                      obtain ⟨y, hy⟩ : ∃ y, y = dj[r]! := ⟨_, rfl⟩
                      have c0 : wr.cell? ⟨g, j, none⟩ = some (.int .u32 (x : Int)) := by rw [hx]; exact (unhide hst).pm.rw.get (by omega)
                      have c1 : wr.cell? ⟨g, r, none⟩ = some (.int .u32 (y : Int)) := by rw [hy]; exact (unhide hst).pm.rw.get (by omega)
                      have f0 : wr.frozen? ⟨g, j, none⟩ = false := (unhide hst).pm.rw.frozen _
                      have f1 : wr.frozen? ⟨g, r, none⟩ = false := (unhide hst).pm.rw.frozen _
                      have z1 : (j : Int) < (n : Int) := by omega
                      have z2 : (r : Int) < (n : Int) := by omega
                      have hne : j ≠ r := by omega
                      have hrj : r < j := by omega
                      have hrj2 : j ≤ r + 1 := by omega
                      have HX := hide hx
                      have HY := hide hy
                      have HR : Hid (r = j - 1) := hr
                      clear hx hy hr
                      by_cases hl : ltN x y = true
                      · have haj2 : a < j := by
                          rcases Nat.lt_or_ge a j with h | h
                          · exact h
                          · exfalso
                            have e : j = a := by omega
                            have := unhide HBel dj (unhide hst).pm.perm (by omega)
                            rw [← e, ← unhide HR, ← unhide HX, ← unhide HY, hl] at this
                            cases this
                        have Hn : Hid (∀ W, Pm w g n a b d (Sort.swp dj j r) W → Pj w g n a b d (Sort.swp dj j r) r q W) := fun W hW => ⟨hW, by
                          have e : j = r + 1 := by omega
                          have h1 := (unhide hst).ins
                          rw [e] at h1 ⊢
                          exact Sort.Ins.step h1 (by rw [← e, ← unhide HX, ← unhide HY]; exact hl) (by omega) (by rw [(unhide hst).pm.rw.size]; omega)⟩
                        go_wp2_with fail
                        go_quiet (first | (go_at_call 27; refine (less_any _ _ _).mono ?_; rintro e w2 ⟨rfl, rfl⟩; exact ⟨rfl, _, rfl⟩))
                        rw [hl]
                        go_wp2_with fail
                        go_region
                        all_goals
                          go_wp2_with fail
                          go_roundw
                          case rel => exact ⟨r, _, by go_num, by omega, by omega, unhide Hn _ (by first | exact ((unhide hst).pm.drewN _).swp ⟨by omega, by omega⟩ ⟨by omega, by omega⟩ hb (unhide HX) (unhide HY) | exact ((unhide hst).pm.drewN _).swp' ⟨by omega, by omega⟩ ⟨by omega, by omega⟩ hb (unhide HX) (unhide HY))⟩
                          case measure => (try simp [intOf]) <;> (try omega)
                      · have hl' : ltN x y = false := by simpa using hl
                        have HO := hide ((unhide hst).stop (.inr (by rw [← unhide HR, ← unhide HX, ← unhide HY]; exact hl')) (unhide HQ))
                        go_wp2_with fail
                        go_quiet (first | (go_at_call 27; refine (less_any _ _ _).mono ?_; rintro e w2 ⟨rfl, rfl⟩; exact ⟨rfl, _, rfl⟩))
                        rw [hl']
                        go_wp2_with fail
                        go_meet
                        case rel => exact ⟨_, (unhide HO).drewN _⟩
                    · have dj1 : decide ((1 : Int) ≤ (j : Int)) = false := by simp; omega
                      have HO := hide ((unhide hst).stop (.inl (by omega)) (unhide HQ))
                      go_wp2_with fail
                      go_meet
                      case rel => exact ⟨_, HO⟩
                · have dt : decide ((2 : Int) ≤ (t : Int)) = false := by simp; omega
                  have HO := hide ((unhide HJ).stop (.inl (by omega)) (unhide HQ))
                  go_wp2_with fail
                  go_meet
                  case rel => exact ⟨_, HO⟩
              case rest =>
                clear HJ
                obtain ⟨d2, hst⟩ := hcut
                obtain ⟨t2, ht2⟩ : ∃ t2, t2 = b - i := ⟨_, rfl⟩
                have et2 : (b : Int) - (i : Int) = (t2 : Int) := by omega
                have ht3 : i + t2 = b := by omega
                clear ht2
                by_cases htt : 2 ≤ t2
                · have dt : decide ((2 : Int) ≤ (t2 : Int)) = true := by simp; omega
                  go_wp2_with fail
                  go_loopw [10] (fun s10 wr => ∃ (j : Nat) (dj : Array Nat), s10 = .int .i64 j ∧ i + 1 ≤ j ∧ j ≤ b ∧ Hid (Ps w g n a b d dj i wr)) (fun s10 _ => b - (intOf s10).toNat)
                  case atStart => exact ⟨i + 1, _, by go_num, by omega, by omega, hst⟩
                  case round =>
                    clear hst
                    obtain ⟨j, dj, rfl, hij, hjb, hst⟩ := hrel
                    by_cases hjb2 : j < b
                    · have dj1 : decide ((j : Int) < (b : Int)) = true := by simp; omega
                      obtain ⟨r, hr⟩ : ∃ r, r = j - 1 := ⟨_, rfl⟩
                      have zr : IntKind.i64.wrap ((j : Int) - 1) = (r : Int) := by rw [IntKind.wrap_i64] <;> omega
                      obtain ⟨x, hx⟩ : ∃ x, x = dj[j]! := ⟨_, rfl⟩
                      obtain ⟨y, hy⟩ : ∃ y, y = dj[r]! := ⟨_, rfl⟩
                      have c0 : wr.cell? ⟨g, j, none⟩ = some (.int .u32 (x : Int)) := by rw [hx]; exact (unhide hst).pm.rw.get (by omega)
                      have c1 : wr.cell? ⟨g, r, none⟩ = some (.int .u32 (y : Int)) := by rw [hy]; exact (unhide hst).pm.rw.get (by omega)
                      have f0 : wr.frozen? ⟨g, j, none⟩ = false := (unhide hst).pm.rw.frozen _
                      have f1 : wr.frozen? ⟨g, r, none⟩ = false := (unhide hst).pm.rw.frozen _
                      have z1 : (j : Int) < (n : Int) := by omega
                      have z2 : (r : Int) < (n : Int) := by omega
                      have hne : j ≠ r := by omega
                      have hrj : r < j := by omega
                      have hrj2 : j ≤ r + 1 := by omega
                      have HX := hide hx
                      have HY := hide hy
                      clear hx hy hr
                      by_cases hl : ltN x y = true
                      · have Hn : Hid (∀ W, Pm w g n a b d (Sort.swp dj j r) W → Ps w g n a b d (Sort.swp dj j r) i W) := fun W hW => (unhide hst).above (by omega) (by omega) hW
                        go_wp2_with fail
                        go_quiet (first | (go_at_call 27; refine (less_any _ _ _).mono ?_; rintro e w2 ⟨rfl, rfl⟩; exact ⟨rfl, _, rfl⟩))
                        rw [hl]
                        go_wp2_with fail
                        go_region
                        all_goals
                          go_wp2_with fail
                          go_roundw
                          case rel => exact ⟨j + 1, _, by go_num, by omega, by omega, unhide Hn _ (by first | exact ((unhide hst).pm.drewN _).swp ⟨by omega, by omega⟩ ⟨by omega, by omega⟩ hb (unhide HX) (unhide HY) | exact ((unhide hst).pm.drewN _).swp' ⟨by omega, by omega⟩ ⟨by omega, by omega⟩ hb (unhide HX) (unhide HY))⟩
                          case measure => (try simp [intOf]) <;> (try omega)
                      · have hl' : ltN x y = false := by simpa using hl
                        go_wp2_with fail
                        go_quiet (first | (go_at_call 27; refine (less_any _ _ _).mono ?_; rintro e w2 ⟨rfl, rfl⟩; exact ⟨rfl, _, rfl⟩))
                        rw [hl']
                        go_wp2_with fail
                        go_roundw
                        case rel => exact ⟨i, s + 1, dj, rfl, by go_num, by omega, by omega, by omega, (unhide hst).drewN _⟩
                        case measure => (try simp [intOf]) <;> (try omega)
                    · have dj1 : decide ((j : Int) < (b : Int)) = false := by simp; omega
                      go_wp2_with fail
                      go_roundw
                      case rel => exact ⟨i, s + 1, dj, rfl, by go_num, by omega, by omega, by omega, hst⟩
                      case measure => (try simp [intOf]) <;> (try omega)
                · have dt : decide ((2 : Int) ≤ (t2 : Int)) = false := by simp; omega
                  go_wp2_with fail
                  go_roundw
                  case rel => exact ⟨i, s + 1, d2, rfl, by go_num, by omega, by omega, by omega, hst⟩
                  case measure => (try simp [intOf]) <;> (try omega)
    · have ds : decide ((s : Int) < 5) = false := by simp; omega
      go_wp2_with fail
      go_ret
      exact ⟨false, dc, rfl, (unhide hst).pm.rw, (unhide hst).pm.perm, fun h => by cases h⟩
end Go.Proofs.YbulkbrdiFmt
