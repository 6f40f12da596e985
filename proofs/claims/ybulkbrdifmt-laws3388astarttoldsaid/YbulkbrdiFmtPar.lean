/-
  b3388aF: slices.partitionEqualOrdered, slices.partitionOrdered at uint32.
-/
import Derived.Test.YbulkbrdiFmtRev
import Derived.Deep.CutBlock
namespace Go.Proofs.YbulkbrdiFmt
open Go.RowKit
set_option linter.unusedVariables false
set_option linter.unusedSimpArgs false

/-- a partition under way: P says what belongs to the left -/
structure Pt (w : World) (g n a b : Nat) (d : Array Nat) (v : Nat) (P : Nat → Bool) (dc : Array Nat) (i j : Nat) (wr : World) : Prop where
  pm : Pm w g n a b d dc wr
  piv : dc[a]! = v
  lo : ∀ k, a < k → k < i → P dc[k]! = true
  hi : ∀ k, j < k → k < b → P dc[k]! = false
section
variable {w wr : World} {g n a b v i j : Nat} {d dc : Array Nat} {P : Nat → Bool}
theorem Pt.up (h : Pt w g n a b d v P dc i j wr) (hP : P dc[i]! = true) : Pt w g n a b d v P dc (i + 1) j wr :=
  ⟨h.pm, h.piv, fun k h1 h2 => by
    by_cases e : k = i
    · rw [e]; exact hP
    · exact h.lo k h1 (by omega), h.hi⟩
theorem Pt.down (h : Pt w g n a b d v P dc i j wr) (hP : P dc[j]! = false) (hj : 1 ≤ j) : Pt w g n a b d v P dc i (j - 1) wr :=
  ⟨h.pm, h.piv, h.lo, fun k h1 h2 => by
    by_cases e : k = j
    · rw [e]; exact hP
    · exact h.hi k (by omega) h2⟩
theorem Pt.drewN (h : Pt w g n a b d v P dc i j wr) (q : Nat) : Pt w g n a b d v P dc i j (wr.drewN q) := ⟨h.pm.drewN q, h.piv, h.lo, h.hi⟩
theorem Pt.drew (h : Pt w g n a b d v P dc i j wr) : Pt w g n a b d v P dc i j wr.drew := ⟨h.pm.drew, h.piv, h.lo, h.hi⟩
theorem Pt.swp {W : World} (h : Pt w g n a b d v P dc i j wr) (hi : P dc[i]! = false) (hj : P dc[j]! = true) (ha : a < i) (hij : i < j) (hjb : j < b) (hb : b ≤ n) (hW : Pm w g n a b d (Sort.swp dc i j) W) : Pt w g n a b d v P (Sort.swp dc i j) (i + 1) (j - 1) W := by
  have hsz := h.pm.rw.size
  refine ⟨hW, ?_, fun k h1 h2 => ?_, fun k h1 h2 => ?_⟩
  · rw [Sort.swp_other _ _ _ _ (by omega) (by omega)]; exact h.piv
  · by_cases e : k = i
    · rw [e, Sort.swp_left _ _ _ (by omega) (by omega)]; exact hj
    · rw [Sort.swp_other _ _ _ _ e (by omega)]; exact h.lo k h1 (by omega)
  · by_cases e : k = j
    · rw [e, Sort.swp_right _ _ _ (by omega)]; exact hi
    · rw [Sort.swp_other _ _ _ _ (by omega) e]; exact h.hi k (by omega) h2
theorem Pt.start {W : World} {p : Nat} (hW : Pm w g n a b d (Sort.swp d a p) W) (ha : a < b) (hp : a ≤ p ∧ p < b) (hb : b ≤ n) (hd : d.size = n) : Pt w g n a b d d[p]! P (Sort.swp d a p) (a + 1) (b - 1) W := by
  refine ⟨hW, ?_, fun k h1 h2 => by omega, fun k h1 h2 => by omega⟩
  by_cases e : a = p
  · subst e
    exact Sort.swp_right _ _ _ (by omega)
  · exact Sort.swp_left _ _ _ (by omega) e
end

/-- behind partitionEqual -/
structure PeOk (a b mid v : Nat) (d d' : Array Nat) : Prop where
  lo : a < mid
  hi : mid ≤ b
  perm : Sort.PermIn a b d d'
  left : ∀ i, a ≤ i → i < mid → ltN v d'[i]! = false
  right : ∀ i, mid ≤ i → i < b → ltN v d'[i]! = true

set_option maxHeartbeats 1000000 in
set_option maxRecDepth 100000 in
theorem pe_any (g n a b p : Nat) (d : Array Nat) (w : World) (h : Blk w g 53 (rowV d)) (hd : d.size = n) (hn : n ≤ 1024) (hab : a < b) (hb : b ≤ n) (hp : a ≤ p ∧ p < b) :
    Calls Ybaf.prog 28 #[.slice (some ⟨g, 0, none⟩) n n, .int .i64 a, .int .i64 b, .int .i64 p] w fun e w' => ∃ (mid : Nat) (d' : Array Nat), e = .returned (.int .i64 mid) ∧ Rw w g n d' w' ∧ PeOk a b mid d[p]! d d' := by
  have HS := hide (Pm.mk (Rw.start h hd) (Sort.permIn_refl d a b))
  obtain ⟨x, hx⟩ : ∃ x, x = d[a]! := ⟨_, rfl⟩
  obtain ⟨v, hv⟩ : ∃ v, v = d[p]! := ⟨_, rfl⟩
  have c0 : w.cell? ⟨g, a, none⟩ = some (.int .u32 (x : Int)) := by rw [hx]; exact h.get (by omega)
  have c1 : w.cell? ⟨g, p, none⟩ = some (.int .u32 (v : Int)) := by rw [hv]; exact h.get (by omega)
  have f0 : w.frozen? ⟨g, a, none⟩ = false := h.frozen _
  have f1 : w.frozen? ⟨g, p, none⟩ = false := h.frozen _
  have z1 : (a : Int) < (n : Int) := by omega
  have z2 : (p : Int) < (n : Int) := by omega
  have HX := hide hx
  have HV := hide hv
  have HD := hide hd
  rw [← hv]
  clear h hd hx hv
  go_enter Ybaf.func28, Ybaf.ntmps28
  go_wp2_with fail
  go_cut [] (fun wd => Hid (Pm w g n a b d (Sort.swp d a p) wd))
  case first =>
    by_cases hap : a = p
    · subst hap
      obtain rfl : x = v := by rw [unhide HX, unhide HV]
      go_region
      all_goals
        go_wp2_with fail
        go_meet
        case rel => first | exact ((unhide HS).swp ⟨by omega, by omega⟩ ⟨by omega, by omega⟩ hb (unhide HX) (unhide HV)).drew | exact ((unhide HS).swp' ⟨by omega, by omega⟩ ⟨by omega, by omega⟩ hb (unhide HX) (unhide HV)).drew
    · go_region
      all_goals
        go_wp2_with fail
        go_meet
        case rel => first | exact ((unhide HS).swp ⟨by omega, by omega⟩ ⟨by omega, by omega⟩ hb (unhide HX) (unhide HV)).drew | exact ((unhide HS).swp' ⟨by omega, by omega⟩ ⟨by omega, by omega⟩ hb (unhide HX) (unhide HV)).drew
  case rest =>
    have H0 : Hid (Pt w g n a b d v (fun x => !ltN v x) (Sort.swp d a p) (a + 1) (b - 1) wc) := by
      have := Pt.start (P := (fun x => !ltN v x)) (unhide hcut) hab hp hb (unhide HD)
      rw [← unhide HV] at this; exact this
    clear hcut c0 c1 f0 f1 HS HX HD
    go_wp2_with fail
    go_loopw [9, 10] (fun s9 s10 wr => ∃ (i j : Nat) (dc : Array Nat), s9 = .int .i64 i ∧ s10 = .int .i64 j ∧ a + 1 ≤ i ∧ i ≤ j + 1 ∧ j + 1 ≤ b ∧ Hid (Pt w g n a b d v (fun x => !ltN v x) dc i j wr)) (fun s9 s10 _ => (intOf s10 + 1 - intOf s9).toNat)
    case atStart => exact ⟨a + 1, b - 1, _, by go_num, by go_num, by omega, by omega, by omega, H0⟩
    case round =>
      clear H0 z1 z2
      obtain ⟨i, j, dc, rfl, rfl, hai, hij0, hjb, hst⟩ := hrel
      go_upto_block 2 with fail
      go_cut [9] (fun s wd => ∃ i' : Nat, s = .int .i64 i' ∧ i ≤ i' ∧ i' ≤ j + 1 ∧ Hid (Pt w g n a b d v (fun x => !ltN v x) dc i' j wd) ∧ Hid (i' ≤ j → (fun x => !ltN v x) dc[i']! = false))
      case first =>
        go_wp2_with fail
        go_loopw [9] (fun s wr => ∃ i' : Nat, s = .int .i64 i' ∧ i ≤ i' ∧ i' ≤ j + 1 ∧ Hid (Pt w g n a b d v (fun x => !ltN v x) dc i' j wr)) (fun s _ => j + 1 - (intOf s).toNat)
        case atStart => exact ⟨i, rfl, by omega, by omega, hst⟩
        case round =>
          clear hst
          obtain ⟨i', rfl, hii, hij, hst⟩ := hrel
          by_cases hle : i' ≤ j
          · have d1 : decide ((i' : Int) ≤ (j : Int)) = true := by simp; omega
            obtain ⟨x, hx⟩ : ∃ x, x = dc[i']! := ⟨_, rfl⟩
            have c0 : wr.cell? ⟨g, i', none⟩ = some (.int .u32 (x : Int)) := by rw [hx]; exact (unhide hst).pm.rw.get (by omega)
            have c1 : wr.cell? ⟨g, a, none⟩ = some (.int .u32 (v : Int)) := by rw [← (unhide hst).piv]; exact (unhide hst).pm.rw.get (by omega)
            have z1 : (a : Int) < (n : Int) := by omega
            have z2 : (i' : Int) < (n : Int) := by omega
            have HX := hide hx
            clear hx
            by_cases hl : ltN v x = false
            · have Hn : Hid (∀ q, Pt w g n a b d v (fun x => !ltN v x) dc (i' + 1) j (wr.drewN q)) := fun q => ((unhide hst).up (by show (fun x => !ltN v x) dc[i']! = true; rw [← unhide HX]; simp [hl])).drewN q
              go_wp2_with fail
              go_quiet (first | (go_at_call 27; refine (less_any _ _ _).mono ?_; rintro e w2 ⟨rfl, rfl⟩; exact ⟨rfl, _, rfl⟩))
              rw [hl]
              go_wp2_with fail
              go_roundw
              case rel => exact ⟨i' + 1, by go_num, by omega, by omega, unhide Hn _⟩
              case measure => (try simp [intOf]) <;> (try omega)
            · have hl' : ltN v x = true := by simpa using hl
              have HE : Hid (i' ≤ j → (fun x => !ltN v x) dc[i']! = false) := fun _ => by show (fun x => !ltN v x) dc[i']! = false; rw [← unhide HX]; simp [hl']
              go_wp2_with fail
              go_quiet (first | (go_at_call 27; refine (less_any _ _ _).mono ?_; rintro e w2 ⟨rfl, rfl⟩; exact ⟨rfl, _, rfl⟩))
              rw [hl']
              go_wp2_with fail
              go_meet
              case rel => exact ⟨i', rfl, by omega, by omega, (unhide hst).drewN _, HE⟩
          · have d1 : decide ((i' : Int) ≤ (j : Int)) = false := by simp; omega
            go_wp2_with fail
            go_quiet (fail)
            go_wp2_with fail
            go_meet
            case rel => exact ⟨i', rfl, by omega, by omega, (unhide hst).drewN _, fun h => absurd h hle⟩
      case rest =>
        clear hst
        obtain ⟨i', rfl, hii, hij, hst, HE1⟩ := hcut
        go_upto_block 4 with fail
        go_cut [10] (fun s wd => ∃ j' : Nat, s = .int .i64 j' ∧ j' ≤ j ∧ i' ≤ j' + 1 ∧ Hid (Pt w g n a b d v (fun x => !ltN v x) dc i' j' wd) ∧ Hid (i' ≤ j' → (fun x => !ltN v x) dc[j']! = true))
        case first =>
          go_wp2_with fail
          go_loopw [10] (fun s wr => ∃ j' : Nat, s = .int .i64 j' ∧ j' ≤ j ∧ i' ≤ j' + 1 ∧ Hid (Pt w g n a b d v (fun x => !ltN v x) dc i' j' wr)) (fun s _ => (intOf s).toNat)
          case atStart => exact ⟨j, rfl, by omega, by omega, hst⟩
          case round =>
            clear hst
            obtain ⟨j', rfl, hjj, hij, hst⟩ := hrel
            by_cases hle : i' ≤ j'
            · have d1 : decide ((i' : Int) ≤ (j' : Int)) = true := by simp; omega
              obtain ⟨x, hx⟩ : ∃ x, x = dc[j']! := ⟨_, rfl⟩
              have c0 : wr.cell? ⟨g, j', none⟩ = some (.int .u32 (x : Int)) := by rw [hx]; exact (unhide hst).pm.rw.get (by omega)
              have c1 : wr.cell? ⟨g, a, none⟩ = some (.int .u32 (v : Int)) := by rw [← (unhide hst).piv]; exact (unhide hst).pm.rw.get (by omega)
              have z1 : (a : Int) < (n : Int) := by omega
              have z2 : (j' : Int) < (n : Int) := by omega
              have HX := hide hx
              clear hx
              by_cases hl : ltN v x = true
              · have Hn : Hid (∀ q, Pt w g n a b d v (fun x => !ltN v x) dc i' (j' - 1) (wr.drewN q)) := fun q => ((unhide hst).down (by show (fun x => !ltN v x) dc[j']! = false; rw [← unhide HX]; simp [hl]) (by omega)).drewN q
                go_wp2_with fail
                go_quiet (first | (go_at_call 27; refine (less_any _ _ _).mono ?_; rintro e w2 ⟨rfl, rfl⟩; exact ⟨rfl, _, rfl⟩))
                rw [hl]
                go_wp2_with fail
                go_roundw
                case rel => exact ⟨j' - 1, by go_num, by omega, by omega, unhide Hn _⟩
                case measure => (try simp [intOf]) <;> (try omega)
              · have hl' : ltN v x = false := by simpa using hl
                have HE : Hid (i' ≤ j' → (fun x => !ltN v x) dc[j']! = true) := fun _ => by show (fun x => !ltN v x) dc[j']! = true; rw [← unhide HX]; simp [hl']
                go_wp2_with fail
                go_quiet (first | (go_at_call 27; refine (less_any _ _ _).mono ?_; rintro e w2 ⟨rfl, rfl⟩; exact ⟨rfl, _, rfl⟩))
                rw [hl']
                go_wp2_with fail
                go_meet
                case rel => exact ⟨j', rfl, by omega, by omega, (unhide hst).drewN _, HE⟩
            · have d1 : decide ((i' : Int) ≤ (j' : Int)) = false := by simp; omega
              go_wp2_with fail
              go_quiet (fail)
              go_wp2_with fail
              go_meet
              case rel => exact ⟨j', rfl, by omega, by omega, (unhide hst).drewN _, fun h => absurd h hle⟩
        case rest =>
          clear hst
          obtain ⟨j', rfl, hjj, hij, hst, HE2⟩ := hcut
          by_cases hgt : j' < i'
          · have z1 : (j' : Int) < (i' : Int) := by omega
            have HO : Hid (Rw w g n dc wc ∧ PeOk a b i' v d dc) := by
              have h := unhide hst
              refine ⟨h.pm.rw, by omega, by omega, h.pm.perm, fun k h1 h2 => ?_, fun k h1 h2 => ?_⟩
              · by_cases e : k = a
                · rw [e, h.piv]; unfold ltN; simp
                · have := h.lo k (by omega) h2
                  simpa using this
              · have := h.hi k (by omega) h2
                simpa using this
            clear hst
            go_wp2_with fail
            go_ret
            exact ⟨i', rfl, dc, HO.out.1, HO.out.2⟩
          · have d1 : decide ((j' : Int) < (i' : Int)) = false := by simp; omega
            have e1 := unhide HE1 (by omega)
            have e2 := unhide HE2 (by omega)
            have hne : i' ≠ j' := fun e => by rw [e, e2] at e1; cases e1
            obtain ⟨x, hx⟩ : ∃ x, x = dc[i']! := ⟨_, rfl⟩
            obtain ⟨y, hy⟩ : ∃ y, y = dc[j']! := ⟨_, rfl⟩
            have c0 : wc.cell? ⟨g, i', none⟩ = some (.int .u32 (x : Int)) := by rw [hx]; exact (unhide hst).pm.rw.get (by omega)
            have c1 : wc.cell? ⟨g, j', none⟩ = some (.int .u32 (y : Int)) := by rw [hy]; exact (unhide hst).pm.rw.get (by omega)
            have f0 : wc.frozen? ⟨g, i', none⟩ = false := (unhide hst).pm.rw.frozen _
            have f1 : wc.frozen? ⟨g, j', none⟩ = false := (unhide hst).pm.rw.frozen _
            have z2 : (i' : Int) < (n : Int) := by omega
            have z3 : (j' : Int) < (n : Int) := by omega
            have HX := hide hx
            have HY := hide hy
            have HN : Hid (∀ W, Pm w g n a b d (Sort.swp dc i' j') W → Pt w g n a b d v (fun x => !ltN v x) (Sort.swp dc i' j') (i' + 1) (j' - 1) W) := fun W hW => (unhide hst).swp e1 e2 (by omega) (by omega) (by omega) hb hW
            clear hx hy e1 e2 HE1 HE2
            go_wp2_with fail
            go_region
            all_goals
              go_wp2_with fail
              go_roundw
              case rel => exact ⟨i' + 1, j' - 1, _, by go_num, by go_num, by omega, by omega, by omega, unhide HN _ (by first | exact ((unhide hst).pm.swp ⟨by omega, by omega⟩ ⟨by omega, by omega⟩ hb (unhide HX) (unhide HY)).drew | exact ((unhide hst).pm.swp' ⟨by omega, by omega⟩ ⟨by omega, by omega⟩ hb (unhide HX) (unhide HY)).drew)⟩
              case measure => (try simp [intOf]) <;> (try omega)
end Go.Proofs.YbulkbrdiFmt
