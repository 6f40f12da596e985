/-
  b3388aF: slices.partitionOrdered at uint32.
-/
import Derived.Test.YbulkbrdiFmtPar
namespace Go.Proofs.YbulkbrdiFmt
open Go.RowKit
set_option linter.unusedVariables false
set_option linter.unusedSimpArgs false

/-- behind partition -/
structure PaOk (a b mid : Nat) (d d' : Array Nat) : Prop where
  lo : a ≤ mid
  hi : mid < b
  perm : Sort.PermIn a b d d'
  left : ∀ i, a ≤ i → i < mid → ltN d'[i]! d'[mid]! = true
  right : ∀ i, mid < i → i < b → ltN d'[i]! d'[mid]! = false
theorem Pt.done {w wr : World} {g n a b v i j : Nat} {d dc : Array Nat} (h : Pt w g n a b d v (fun x => ltN x v) dc i j wr) (hji : j < i) (haj : a ≤ j) (hjb : j < b) (hb : b ≤ n) : PaOk a b j d (Sort.swp dc j a) := by
  have hsz := h.pm.rw.size
  have hv : (Sort.swp dc j a)[j]! = v := by
    by_cases e : j = a
    · subst e; rw [Sort.swp_right _ _ _ (by omega)]; exact h.piv
    · rw [Sort.swp_left _ _ _ (by omega) e]; exact h.piv
  refine ⟨haj, hjb, Sort.permIn_trans _ _ _ _ _ h.pm.perm (Sort.swp_permIn _ _ _ _ _ haj hjb (Nat.le_refl _) (by omega) (by omega)), fun k h1 h2 => ?_, fun k h1 h2 => ?_⟩
  · rw [hv]
    by_cases e : k = a
    · rw [e, Sort.swp_right _ _ _ (by omega)]; exact h.lo j (by omega) hji
    · rw [Sort.swp_other _ _ _ _ (by omega) e]; exact h.lo k (by omega) (by omega)
  · rw [hv, Sort.swp_other _ _ _ _ (by omega) (by omega)]; exact h.hi k h1 h2

set_option maxHeartbeats 2000000 in
set_option maxRecDepth 100000 in
theorem pa_any (g n a b p : Nat) (d : Array Nat) (w : World) (h : Blk w g 53 (rowV d)) (hd : d.size = n) (hn : n ≤ 1024) (hab : a < b) (hb : b ≤ n) (hp : a ≤ p ∧ p < b) :
    Calls Ybaf.prog 29 #[.slice (some ⟨g, 0, none⟩) n n, .int .i64 a, .int .i64 b, .int .i64 p] w fun e w' => ∃ (mid : Nat) (ap : Bool) (d' : Array Nat), e = .returned (.tuple #[.int .i64 mid, .bool ap]) ∧ Rw w g n d' w' ∧ PaOk a b mid d d' := by
  have HS := hide (Pm.mk (Rw.start h hd) (Sort.permIn_refl d a b))
  obtain ⟨x, hx⟩ : ∃ x, x = d[a]! := ⟨_, rfl⟩
  obtain ⟨v, hv⟩ : ∃ v, v = d[p]! := ⟨_, rfl⟩
  have c0 : w.cell? ⟨g, a, none⟩ = some (.int .u32 (x : Int)) := by rw [hx]; exact h.get (by omega)
  have c1 : w.cell? ⟨g, p, none⟩ = some (.int .u32 (v : Int)) := by rw [hv]; exact h.get (by omega)
  have f0 : w.frozen? ⟨g, a, none⟩ = false := h.frozen _
  have f1 : w.frozen? ⟨g, p, none⟩ = false := h.frozen _
  have z1 : (a : Int) < (n : Int) := by omega
  have z2 : (p : Int) < (n : Int) := by omega
  have HX := hide hx
  have HV := hide hv
  have HD := hide hd
  clear h hd hx hv
  go_enter Ybaf.func29, Ybaf.ntmps29
  go_wp2_with fail
  go_cut [] (fun wd => Hid (Pm w g n a b d (Sort.swp d a p) wd))
  case first =>
    by_cases hap : a = p
    · subst hap
      obtain rfl : x = v := by rw [unhide HX, unhide HV]
      go_region
      all_goals
        go_wp2_with fail
        go_meet
        case rel => first | exact ((unhide HS).swp ⟨by omega, by omega⟩ ⟨by omega, by omega⟩ hb (unhide HX) (unhide HV)).drew | exact ((unhide HS).swp' ⟨by omega, by omega⟩ ⟨by omega, by omega⟩ hb (unhide HX) (unhide HV)).drew
    · go_region
      all_goals
        go_wp2_with fail
        go_meet
        case rel => first | exact ((unhide HS).swp ⟨by omega, by omega⟩ ⟨by omega, by omega⟩ hb (unhide HX) (unhide HV)).drew | exact ((unhide HS).swp' ⟨by omega, by omega⟩ ⟨by omega, by omega⟩ hb (unhide HX) (unhide HV)).drew
  case rest =>
    obtain ⟨i, hi⟩ : ∃ i, i = a + 1 := ⟨_, rfl⟩
    obtain ⟨j, hj⟩ : ∃ j, j = b - 1 := ⟨_, rfl⟩
    obtain ⟨dc, hdc⟩ : ∃ dc, dc = Sort.swp d a p := ⟨_, rfl⟩
    have q1 : (a : Int) + 1 = (i : Int) := by omega
    have q2 : (b : Int) - 1 = (j : Int) := by omega
    have hst : Hid (Pt w g n a b d v (fun x => ltN x v) dc i j wc) := by
      have := Pt.start (P := (fun x => ltN x v)) (unhide hcut) hab hp hb (unhide HD)
      rw [← unhide HV] at this
      rw [hdc, hi, hj]; exact this
    have hai : a + 1 ≤ i := by omega
    have hjb : j + 1 ≤ b := by omega
    have hij0 : i ≤ j + 1 := by omega
    clear hcut c0 c1 f0 f1 HS HX HD hdc hi hj z1 z2
    go_upto_block 0 with fail
    go_cut [10] (fun s wd => ∃ i' : Nat, s = .int .i64 i' ∧ i ≤ i' ∧ i' ≤ j + 1 ∧ Hid (Pt w g n a b d v (fun x => ltN x v) dc i' j wd) ∧ Hid (i' ≤ j → (fun x => ltN x v) dc[i']! = false))
    case first =>
      go_wp2_with fail
      go_loopw [10] (fun s wr => ∃ i' : Nat, s = .int .i64 i' ∧ i ≤ i' ∧ i' ≤ j + 1 ∧ Hid (Pt w g n a b d v (fun x => ltN x v) dc i' j wr)) (fun s _ => j + 1 - (intOf s).toNat)
      case atStart => exact ⟨i, rfl, by omega, by omega, hst⟩
      case round =>
        clear hst
        obtain ⟨i', rfl, hii, hij, hst⟩ := hrel
        by_cases hle : i' ≤ j
        · have d1 : decide ((i' : Int) ≤ (j : Int)) = true := by simp; omega
          obtain ⟨x, hx⟩ : ∃ x, x = dc[i']! := ⟨_, rfl⟩
          have c0 : wr.cell? ⟨g, i', none⟩ = some (.int .u32 (x : Int)) := by rw [hx]; exact (unhide hst).pm.rw.get (by omega)
          have c1 : wr.cell? ⟨g, a, none⟩ = some (.int .u32 (v : Int)) := by rw [← (unhide hst).piv]; exact (unhide hst).pm.rw.get (by omega)
          have z1 : (a : Int) < (n : Int) := by omega
          have z2 : (i' : Int) < (n : Int) := by omega
          have HX := hide hx
          clear hx
          by_cases hl : ltN x v = true
          · have Hn : Hid (∀ q, Pt w g n a b d v (fun x => ltN x v) dc (i' + 1) j (wr.drewN q)) := fun q => ((unhide hst).up (by show (fun x => ltN x v) dc[i']! = true; rw [← unhide HX]; simp [hl])).drewN q
            go_wp2_with fail
            go_quiet (first | (go_at_call 27; refine (less_any _ _ _).mono ?_; rintro e w2 ⟨rfl, rfl⟩; exact ⟨rfl, _, rfl⟩))
            rw [hl]
            go_wp2_with fail
            go_roundw
            case rel => exact ⟨i' + 1, by go_num, by omega, by omega, unhide Hn _⟩
            case measure => (try simp [intOf]) <;> (try omega)
          · have hl' : ltN x v = false := by simpa using hl
            have HE : Hid (i' ≤ j → (fun x => ltN x v) dc[i']! = false) := fun _ => by show (fun x => ltN x v) dc[i']! = false; rw [← unhide HX]; simp [hl']
            go_wp2_with fail
            go_quiet (first | (go_at_call 27; refine (less_any _ _ _).mono ?_; rintro e w2 ⟨rfl, rfl⟩; exact ⟨rfl, _, rfl⟩))
            rw [hl']
            go_wp2_with fail
            go_meet
            case rel => exact ⟨i', rfl, by omega, by omega, (unhide hst).drewN _, HE⟩
        · have d1 : decide ((i' : Int) ≤ (j : Int)) = false := by simp; omega
          go_wp2_with fail
          go_quiet (fail)
          go_wp2_with fail
          go_meet
          case rel => exact ⟨i', rfl, by omega, by omega, (unhide hst).drewN _, fun h => absurd h hle⟩
    case rest =>
      clear hst q1 q2
      obtain ⟨i', rfl, hii, hij, hst, HE1⟩ := hcut
      go_upto_block 2 with fail
      go_cut [11] (fun s wd => ∃ j' : Nat, s = .int .i64 j' ∧ j' ≤ j ∧ i' ≤ j' + 1 ∧ Hid (Pt w g n a b d v (fun x => ltN x v) dc i' j' wd) ∧ Hid (i' ≤ j' → (fun x => ltN x v) dc[j']! = true))
      case first =>
        go_wp2_with fail
        go_loopw [11] (fun s wr => ∃ j' : Nat, s = .int .i64 j' ∧ j' ≤ j ∧ i' ≤ j' + 1 ∧ Hid (Pt w g n a b d v (fun x => ltN x v) dc i' j' wr)) (fun s _ => (intOf s).toNat)
        case atStart => exact ⟨j, rfl, by omega, by omega, hst⟩
        case round =>
          clear hst
          obtain ⟨j', rfl, hjj, hij, hst⟩ := hrel
          by_cases hle : i' ≤ j'
          · have d1 : decide ((i' : Int) ≤ (j' : Int)) = true := by simp; omega
            obtain ⟨x, hx⟩ : ∃ x, x = dc[j']! := ⟨_, rfl⟩
            have c0 : wr.cell? ⟨g, j', none⟩ = some (.int .u32 (x : Int)) := by rw [hx]; exact (unhide hst).pm.rw.get (by omega)
            have c1 : wr.cell? ⟨g, a, none⟩ = some (.int .u32 (v : Int)) := by rw [← (unhide hst).piv]; exact (unhide hst).pm.rw.get (by omega)
            have z1 : (a : Int) < (n : Int) := by omega
            have z2 : (j' : Int) < (n : Int) := by omega
            have HX := hide hx
            clear hx
            by_cases hl : ltN x v = false
            · have Hn : Hid (∀ q, Pt w g n a b d v (fun x => ltN x v) dc i' (j' - 1) (wr.drewN q)) := fun q => ((unhide hst).down (by show (fun x => ltN x v) dc[j']! = false; rw [← unhide HX]; simp [hl]) (by omega)).drewN q
              go_wp2_with fail
              go_quiet (first | (go_at_call 27; refine (less_any _ _ _).mono ?_; rintro e w2 ⟨rfl, rfl⟩; exact ⟨rfl, _, rfl⟩))
              rw [hl]
              go_wp2_with fail
              go_roundw
              case rel => exact ⟨j' - 1, by go_num, by omega, by omega, unhide Hn _⟩
              case measure => (try simp [intOf]) <;> (try omega)
            · have hl' : ltN x v = true := by simpa using hl
              have HE : Hid (i' ≤ j' → (fun x => ltN x v) dc[j']! = true) := fun _ => by show (fun x => ltN x v) dc[j']! = true; rw [← unhide HX]; simp [hl']
              go_wp2_with fail
              go_quiet (first | (go_at_call 27; refine (less_any _ _ _).mono ?_; rintro e w2 ⟨rfl, rfl⟩; exact ⟨rfl, _, rfl⟩))
              rw [hl']
              go_wp2_with fail
              go_meet
              case rel => exact ⟨j', rfl, by omega, by omega, (unhide hst).drewN _, HE⟩
          · have d1 : decide ((i' : Int) ≤ (j' : Int)) = false := by simp; omega
            go_wp2_with fail
            go_quiet (fail)
            go_wp2_with fail
            go_meet
            case rel => exact ⟨j', rfl, by omega, by omega, (unhide hst).drewN _, fun h => absurd h hle⟩
      case rest =>
        clear hst
        obtain ⟨j', rfl, hjj, hij, hst, HE2⟩ := hcut
        by_cases hgt : j' < i'
        · have y1 : (j' : Int) < (i' : Int) := by omega
          obtain ⟨x, hx⟩ : ∃ x, x = dc[j']! := ⟨_, rfl⟩
          have c0 : wc.cell? ⟨g, j', none⟩ = some (.int .u32 (x : Int)) := by rw [hx]; exact (unhide hst).pm.rw.get (by omega)
          have c1 : wc.cell? ⟨g, a, none⟩ = some (.int .u32 (v : Int)) := by rw [← (unhide hst).piv]; exact (unhide hst).pm.rw.get (by omega)
          have f0 : wc.frozen? ⟨g, j', none⟩ = false := (unhide hst).pm.rw.frozen _
          have f1 : wc.frozen? ⟨g, a, none⟩ = false := (unhide hst).pm.rw.frozen _
          have z3 : (j' : Int) < (n : Int) := by omega
          have z4 : (a : Int) < (n : Int) := by omega
          have HX := hide hx
          have HA : Hid (v = dc[a]!) := (unhide hst).piv.symm
          have HO := hide ((unhide hst).done hgt (by omega) (by omega) hb)
          clear hx
          by_cases hja : j' = a
          · subst hja
            obtain rfl : x = v := by rw [unhide HX, unhide HA]
            go_wp2_with fail
            go_region
            all_goals
              go_wp2_with fail
              go_returns
              exact ⟨_, _, _, rfl, by first | exact ((unhide hst).pm.rw.swp (unhide HX) (unhide HA)).drew | exact ((unhide hst).pm.rw.swp' (unhide HX) (unhide HA)).drew, HO.out⟩
          · go_wp2_with fail
            go_region
            all_goals
              go_wp2_with fail
              go_returns
              exact ⟨_, _, _, rfl, by first | exact ((unhide hst).pm.rw.swp (unhide HX) (unhide HA)).drew | exact ((unhide hst).pm.rw.swp' (unhide HX) (unhide HA)).drew, HO.out⟩
        · have d1 : decide ((j' : Int) < (i' : Int)) = false := by simp; omega
          have e1 := unhide HE1 (by omega)
          have e2 := unhide HE2 (by omega)
          have hne : i' ≠ j' := fun e => by rw [e, e2] at e1; cases e1
          obtain ⟨x, hx⟩ : ∃ x, x = dc[i']! := ⟨_, rfl⟩
          obtain ⟨y, hy⟩ : ∃ y, y = dc[j']! := ⟨_, rfl⟩
          have c0 : wc.cell? ⟨g, i', none⟩ = some (.int .u32 (x : Int)) := by rw [hx]; exact (unhide hst).pm.rw.get (by omega)
          have c1 : wc.cell? ⟨g, j', none⟩ = some (.int .u32 (y : Int)) := by rw [hy]; exact (unhide hst).pm.rw.get (by omega)
          have f0 : wc.frozen? ⟨g, i', none⟩ = false := (unhide hst).pm.rw.frozen _
          have f1 : wc.frozen? ⟨g, j', none⟩ = false := (unhide hst).pm.rw.frozen _
          have z2 : (i' : Int) < (n : Int) := by omega
          have z3 : (j' : Int) < (n : Int) := by omega
          have HX := hide hx
          have HY := hide hy
          have HN : Hid (∀ W, Pm w g n a b d (Sort.swp dc i' j') W → Pt w g n a b d v (fun x => ltN x v) (Sort.swp dc i' j') (i' + 1) (j' - 1) W) := fun W hW => (unhide hst).swp e1 e2 (by omega) (by omega) (by omega) hb hW
          clear hx hy e1 e2 HE1 HE2
          go_wp2_with fail
          go_cut [] (fun wd => Hid (Pm w g n a b d (Sort.swp dc i' j') wd))
          case first =>
            go_region
            all_goals
              go_wp2_with fail
              go_meet
              case rel => first | exact ((unhide hst).pm.swp ⟨by omega, by omega⟩ ⟨by omega, by omega⟩ hb (unhide HX) (unhide HY)).drew | exact ((unhide hst).pm.swp' ⟨by omega, by omega⟩ ⟨by omega, by omega⟩ hb (unhide HX) (unhide HY)).drew
          case rest =>
            have H0 := hide (unhide HN _ (unhide hcut))
            clear hcut hst c0 c1 f0 f1 HX HY HN z2 z3
            go_wp2_with fail
            go_loopw [10, 11] (fun s10 s11 wr => ∃ (i j : Nat) (dc : Array Nat), s10 = .int .i64 i ∧ s11 = .int .i64 j ∧ a + 1 ≤ i ∧ i ≤ j + 1 ∧ j + 1 ≤ b ∧ Hid (Pt w g n a b d v (fun x => ltN x v) dc i j wr)) (fun s10 s11 _ => (intOf s11 + 1 - intOf s10).toNat)
            case atStart => exact ⟨i' + 1, j' - 1, _, by go_num, by go_num, by omega, by omega, by omega, H0⟩
            case round =>
              clear H0 d1
              obtain ⟨i, j, dc, rfl, rfl, hai, hij0, hjb, hst⟩ := hrel
              go_upto_block 6 with fail
              go_cut [10] (fun s wd => ∃ i' : Nat, s = .int .i64 i' ∧ i ≤ i' ∧ i' ≤ j + 1 ∧ Hid (Pt w g n a b d v (fun x => ltN x v) dc i' j wd) ∧ Hid (i' ≤ j → (fun x => ltN x v) dc[i']! = false))
              case first =>
                go_wp2_with fail
                go_loopw [10] (fun s wr => ∃ i' : Nat, s = .int .i64 i' ∧ i ≤ i' ∧ i' ≤ j + 1 ∧ Hid (Pt w g n a b d v (fun x => ltN x v) dc i' j wr)) (fun s _ => j + 1 - (intOf s).toNat)
                case atStart => exact ⟨i, rfl, by omega, by omega, hst⟩
                case round =>
                  clear hst
                  obtain ⟨i', rfl, hii, hij, hst⟩ := hrel
                  by_cases hle : i' ≤ j
                  · have d1 : decide ((i' : Int) ≤ (j : Int)) = true := by simp; omega
                    obtain ⟨x, hx⟩ : ∃ x, x = dc[i']! := ⟨_, rfl⟩
                    have c0 : wr.cell? ⟨g, i', none⟩ = some (.int .u32 (x : Int)) := by rw [hx]; exact (unhide hst).pm.rw.get (by omega)
                    have c1 : wr.cell? ⟨g, a, none⟩ = some (.int .u32 (v : Int)) := by rw [← (unhide hst).piv]; exact (unhide hst).pm.rw.get (by omega)
                    have z1 : (a : Int) < (n : Int) := by omega
                    have z2 : (i' : Int) < (n : Int) := by omega
                    have HX := hide hx
                    clear hx
                    by_cases hl : ltN x v = true
                    · have Hn : Hid (∀ q, Pt w g n a b d v (fun x => ltN x v) dc (i' + 1) j (wr.drewN q)) := fun q => ((unhide hst).up (by show (fun x => ltN x v) dc[i']! = true; rw [← unhide HX]; simp [hl])).drewN q
                      go_wp2_with fail
                      go_quiet (first | (go_at_call 27; refine (less_any _ _ _).mono ?_; rintro e w2 ⟨rfl, rfl⟩; exact ⟨rfl, _, rfl⟩))
                      rw [hl]
                      go_wp2_with fail
                      go_roundw
                      case rel => exact ⟨i' + 1, by go_num, by omega, by omega, unhide Hn _⟩
                      case measure => (try simp [intOf]) <;> (try omega)
                    · have hl' : ltN x v = false := by simpa using hl
                      have HE : Hid (i' ≤ j → (fun x => ltN x v) dc[i']! = false) := fun _ => by show (fun x => ltN x v) dc[i']! = false; rw [← unhide HX]; simp [hl']
                      go_wp2_with fail
                      go_quiet (first | (go_at_call 27; refine (less_any _ _ _).mono ?_; rintro e w2 ⟨rfl, rfl⟩; exact ⟨rfl, _, rfl⟩))
                      rw [hl']
                      go_wp2_with fail
                      go_meet
                      case rel => exact ⟨i', rfl, by omega, by omega, (unhide hst).drewN _, HE⟩
                  · have d1 : decide ((i' : Int) ≤ (j : Int)) = false := by simp; omega
                    go_wp2_with fail
                    go_quiet (fail)
                    go_wp2_with fail
                    go_meet
                    case rel => exact ⟨i', rfl, by omega, by omega, (unhide hst).drewN _, fun h => absurd h hle⟩
              case rest =>
                clear hst
                obtain ⟨i', rfl, hii, hij, hst, HE1⟩ := hcut
                go_upto_block 8 with fail
                go_cut [11] (fun s wd => ∃ j' : Nat, s = .int .i64 j' ∧ j' ≤ j ∧ i' ≤ j' + 1 ∧ Hid (Pt w g n a b d v (fun x => ltN x v) dc i' j' wd) ∧ Hid (i' ≤ j' → (fun x => ltN x v) dc[j']! = true))
                case first =>
                  go_wp2_with fail
                  go_loopw [11] (fun s wr => ∃ j' : Nat, s = .int .i64 j' ∧ j' ≤ j ∧ i' ≤ j' + 1 ∧ Hid (Pt w g n a b d v (fun x => ltN x v) dc i' j' wr)) (fun s _ => (intOf s).toNat)
                  case atStart => exact ⟨j, rfl, by omega, by omega, hst⟩
                  case round =>
                    clear hst
                    obtain ⟨j', rfl, hjj, hij, hst⟩ := hrel
                    by_cases hle : i' ≤ j'
                    · have d1 : decide ((i' : Int) ≤ (j' : Int)) = true := by simp; omega
                      obtain ⟨x, hx⟩ : ∃ x, x = dc[j']! := ⟨_, rfl⟩
                      have c0 : wr.cell? ⟨g, j', none⟩ = some (.int .u32 (x : Int)) := by rw [hx]; exact (unhide hst).pm.rw.get (by omega)
                      have c1 : wr.cell? ⟨g, a, none⟩ = some (.int .u32 (v : Int)) := by rw [← (unhide hst).piv]; exact (unhide hst).pm.rw.get (by omega)
                      have z1 : (a : Int) < (n : Int) := by omega
                      have z2 : (j' : Int) < (n : Int) := by omega
                      have HX := hide hx
                      clear hx
                      by_cases hl : ltN x v = false
                      · have Hn : Hid (∀ q, Pt w g n a b d v (fun x => ltN x v) dc i' (j' - 1) (wr.drewN q)) := fun q => ((unhide hst).down (by show (fun x => ltN x v) dc[j']! = false; rw [← unhide HX]; simp [hl]) (by omega)).drewN q
                        go_wp2_with fail
                        go_quiet (first | (go_at_call 27; refine (less_any _ _ _).mono ?_; rintro e w2 ⟨rfl, rfl⟩; exact ⟨rfl, _, rfl⟩))
                        rw [hl]
                        go_wp2_with fail
                        go_roundw
                        case rel => exact ⟨j' - 1, by go_num, by omega, by omega, unhide Hn _⟩
                        case measure => (try simp [intOf]) <;> (try omega)
                      · have hl' : ltN x v = true := by simpa using hl
                        have HE : Hid (i' ≤ j' → (fun x => ltN x v) dc[j']! = true) := fun _ => by show (fun x => ltN x v) dc[j']! = true; rw [← unhide HX]; simp [hl']
                        go_wp2_with fail
                        go_quiet (first | (go_at_call 27; refine (less_any _ _ _).mono ?_; rintro e w2 ⟨rfl, rfl⟩; exact ⟨rfl, _, rfl⟩))
                        rw [hl']
                        go_wp2_with fail
                        go_meet
                        case rel => exact ⟨j', rfl, by omega, by omega, (unhide hst).drewN _, HE⟩
                    · have d1 : decide ((i' : Int) ≤ (j' : Int)) = false := by simp; omega
                      go_wp2_with fail
                      go_quiet (fail)
                      go_wp2_with fail
                      go_meet
                      case rel => exact ⟨j', rfl, by omega, by omega, (unhide hst).drewN _, fun h => absurd h hle⟩
                case rest =>
                  clear hst
                  obtain ⟨j', rfl, hjj, hij, hst, HE2⟩ := hcut
                  by_cases hgt : j' < i'
                  · have y1 : (j' : Int) < (i' : Int) := by omega
                    obtain ⟨x, hx⟩ : ∃ x, x = dc[j']! := ⟨_, rfl⟩
                    have c0 : wc.cell? ⟨g, j', none⟩ = some (.int .u32 (x : Int)) := by rw [hx]; exact (unhide hst).pm.rw.get (by omega)
                    have c1 : wc.cell? ⟨g, a, none⟩ = some (.int .u32 (v : Int)) := by rw [← (unhide hst).piv]; exact (unhide hst).pm.rw.get (by omega)
                    have f0 : wc.frozen? ⟨g, j', none⟩ = false := (unhide hst).pm.rw.frozen _
                    have f1 : wc.frozen? ⟨g, a, none⟩ = false := (unhide hst).pm.rw.frozen _
                    have z3 : (j' : Int) < (n : Int) := by omega
                    have z4 : (a : Int) < (n : Int) := by omega
                    have HX := hide hx
                    have HA : Hid (v = dc[a]!) := (unhide hst).piv.symm
                    have HO := hide ((unhide hst).done hgt (by omega) (by omega) hb)
                    clear hx
                    by_cases hja : j' = a
                    · subst hja
                      obtain rfl : x = v := by rw [unhide HX, unhide HA]
                      go_wp2_with fail
                      go_region
                      all_goals
                        go_wp2_with fail
                        go_returns
                        exact ⟨_, _, _, rfl, by first | exact ((unhide hst).pm.rw.swp (unhide HX) (unhide HA)).drew | exact ((unhide hst).pm.rw.swp' (unhide HX) (unhide HA)).drew, HO.out⟩
                    · go_wp2_with fail
                      go_region
                      all_goals
                        go_wp2_with fail
                        go_returns
                        exact ⟨_, _, _, rfl, by first | exact ((unhide hst).pm.rw.swp (unhide HX) (unhide HA)).drew | exact ((unhide hst).pm.rw.swp' (unhide HX) (unhide HA)).drew, HO.out⟩
                  · have d1 : decide ((j' : Int) < (i' : Int)) = false := by simp; omega
                    have e1 := unhide HE1 (by omega)
                    have e2 := unhide HE2 (by omega)
                    have hne : i' ≠ j' := fun e => by rw [e, e2] at e1; cases e1
                    obtain ⟨x, hx⟩ : ∃ x, x = dc[i']! := ⟨_, rfl⟩
                    obtain ⟨y, hy⟩ : ∃ y, y = dc[j']! := ⟨_, rfl⟩
                    have c0 : wc.cell? ⟨g, i', none⟩ = some (.int .u32 (x : Int)) := by rw [hx]; exact (unhide hst).pm.rw.get (by omega)
                    have c1 : wc.cell? ⟨g, j', none⟩ = some (.int .u32 (y : Int)) := by rw [hy]; exact (unhide hst).pm.rw.get (by omega)
                    have f0 : wc.frozen? ⟨g, i', none⟩ = false := (unhide hst).pm.rw.frozen _
                    have f1 : wc.frozen? ⟨g, j', none⟩ = false := (unhide hst).pm.rw.frozen _
                    have z2 : (i' : Int) < (n : Int) := by omega
                    have z3 : (j' : Int) < (n : Int) := by omega
                    have HX := hide hx
                    have HY := hide hy
                    have HN : Hid (∀ W, Pm w g n a b d (Sort.swp dc i' j') W → Pt w g n a b d v (fun x => ltN x v) (Sort.swp dc i' j') (i' + 1) (j' - 1) W) := fun W hW => (unhide hst).swp e1 e2 (by omega) (by omega) (by omega) hb hW
                    clear hx hy e1 e2 HE1 HE2
                    go_wp2_with fail
                    go_region
                    all_goals
                      go_wp2_with fail
                      go_roundw
                      case rel => exact ⟨i' + 1, j' - 1, _, by go_num, by go_num, by omega, by omega, by omega, unhide HN _ (by first | exact ((unhide hst).pm.swp ⟨by omega, by omega⟩ ⟨by omega, by omega⟩ hb (unhide HX) (unhide HY)).drew | exact ((unhide hst).pm.swp' ⟨by omega, by omega⟩ ⟨by omega, by omega⟩ hb (unhide HX) (unhide HY)).drew)⟩
                      case measure => (try simp [intOf]) <;> (try omega)

end Go.Proofs.YbulkbrdiFmt
