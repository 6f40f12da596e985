/-
  b3388a: zzs3388bgcd; a multiplier coprime to the count goes through every number.
-/
import Derived.Test.YbulkbrdiSync
namespace Go.Proofs.Ybulkbrdi
open Go.RowKit
set_option linter.unusedVariables false
set_option linter.unusedSimpArgs false

set_option maxHeartbeats 400000 in
theorem gcd_any (a b : Nat) (w : World) (ha : a ≤ 100000) (hb : b ≤ 100000) :
    Calls Yba.prog 8 #[.int .i64 a, .int .i64 b] w fun e w' => e = .returned (.int .i64 (Nat.gcd a b : Nat)) ∧ ∃ n, w' = w.drewN n := by
  go_enter Yba.func8, Yba.ntmps8
  go_wp2
  go_loopw [0, 1] (fun s0 s1 wr => ∃ (x y n : Nat), s0 = .int .i64 x ∧ s1 = .int .i64 y ∧ x ≤ 100000 ∧ y ≤ 100000 ∧ Hid (Nat.gcd x y = Nat.gcd a b) ∧ Hid (wr = w.drewN n)) (fun _ s1 _ => (intOf s1).toNat)
  case atStart => exact ⟨a, b, 0, rfl, rfl, ha, hb, rfl, rfl⟩
  case round =>
    obtain ⟨x, y, n, rfl, rfl, hx, hy, hg, hw⟩ := hrel
    by_cases h0 : y = 0
    · subst h0
      go_wp2
      go_ret
      have e := unhide hg
      rw [Nat.gcd_zero_right] at e
      exact ⟨by rw [← e]; rfl, n, unhide hw⟩
    · have hne : ((y : Int) != 0) = true := by simp; exact h0
      have hp : (1 : Int) ≤ (y : Int) := by omega
      have hp0 : ¬ ((y : Int) = 0) := by omega
      obtain ⟨m, hm⟩ : ∃ m : Nat, (x : Int) % (y : Int) = (m : Int) := ⟨x % y, by simp⟩
      have hmy : m < y := by have := Int.emod_lt_of_pos (x : Int) (by omega : (0 : Int) < (y : Int)); omega
      have hmx : m = x % y := by have : ((x % y : Nat) : Int) = (m : Int) := by rw [← hm]; simp
                                 omega
      have hg2 : Hid (Nat.gcd y m = Nat.gcd a b) := by
        have e1 := unhide hg
        have e2 : Nat.gcd y (x % y) = Nat.gcd x y := by rw [Nat.gcd_comm y (x % y), ← Nat.gcd_rec, Nat.gcd_comm]
        show Nat.gcd y m = Nat.gcd a b
        rw [hmx, e2, e1]
      have HMX := hide hmx
      clear hmx hg
      go_wp2
      go_quiet (fail)
      go_wp2
      go_roundw
      case rel => exact ⟨y, m, n + nq, rfl, by rw [hm], hy, by omega, hg2, by show wr.drewN nq = _; rw [unhide hw, World.drewN_drewN]⟩
      case measure => simp [intOf]; omega

theorem nodup_le : ∀ (n : Nat) (l : List Nat), l.Nodup → (∀ a ∈ l, a < n) → l.length ≤ n
  | 0, l, _, h => by
    cases l with
    | nil => simp
    | cons a r => have := h a List.mem_cons_self; omega
  | n + 1, l, hd, h => by
    by_cases hn : n ∈ l
    · have h1 := nodup_le n (l.erase n) (hd.erase n) (fun a ha => by
        have h2 := h a (List.mem_of_mem_erase ha)
        have h3 : a ≠ n := ((hd.mem_erase_iff).1 ha).1
        omega)
      rw [List.length_erase_of_mem hn] at h1
      omega
    · have := nodup_le n l hd (fun a ha => by
        have h2 := h a ha
        have h3 : a ≠ n := fun e => hn (e ▸ ha)
        omega)
      omega

/-- j -> j*a mod c goes through every number below c where a is coprime to c -/
theorem onto {a c : Nat} (hc : 0 < c) (hg : Nat.gcd a c = 1) : ∀ k, k < c → ∃ j, j < c ∧ (j * a) % c = k := by
  intro k hk
  have inj : ∀ i j, i < j → j < c → (i * a) % c ≠ (j * a) % c := by
    intro i j hij hj e
    have h1 : c ∣ j * a - i * a := Nat.dvd_of_mod_eq_zero (Nat.sub_mod_eq_zero_of_mod_eq e.symm)
    rw [← Nat.sub_mul] at h1
    have h2 : c ∣ j - i := Nat.Coprime.dvd_of_dvd_mul_right (by rw [Nat.Coprime, Nat.gcd_comm]; exact hg) h1
    have := Nat.le_of_dvd (by omega) h2
    omega
  apply Classical.byContradiction
  intro hno
  have hnd : (k :: (List.range c).map (fun j => (j * a) % c)).Nodup := by
    rw [List.nodup_cons]
    refine ⟨fun hm => ?_, ?_⟩
    · obtain ⟨j, hj, e⟩ := List.mem_map.1 hm
      exact hno ⟨j, List.mem_range.1 hj, e⟩
    · show List.Pairwise (· ≠ ·) _
      rw [List.pairwise_map]
      refine (List.pairwise_lt_range (n := c)).imp_of_mem ?_
      intro x y hx hy hxy
      exact inj x y hxy (List.mem_range.1 hy)
  have := nodup_le c _ hnd (fun x hx => by
    rcases List.mem_cons.1 hx with rfl | hx
    · exact hk
    · obtain ⟨j, _, rfl⟩ := List.mem_map.1 hx
      exact Nat.mod_lt _ hc)
  simp at this
  omega
end Go.Proofs.Ybulkbrdi
