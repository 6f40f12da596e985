import Derived.Test.YbulkbrdiCmp
import Derived.Test.YbulkbrdiBase
namespace Go.Proofs.Ybulkbrdi
open Go.RowKit
set_option linter.unusedVariables false
set_option linter.unusedSimpArgs false

def ptr (m : Nat) : Value := .pointer (some ⟨m, 0, none⟩)

structure IsMsg (w : World) (m : Nat) (t : Int) : Prop where
  id : w.cell? ⟨m, 0, none⟩ = some (.string ⟨#[]⟩)
  ts : w.cell? ⟨m, 4, none⟩ = some (.int .u64 t)
theorem IsMsg.below {w w' : World} {m : Nat} {t : Int} (h : IsMsg w m t) (hb : Below w.heap.size w w') : IsMsg w' m t :=
  ⟨(hb.cell (World.block_lt_of_cell? w _ h.id)).trans h.id, (hb.cell (World.block_lt_of_cell? w _ h.ts)).trans h.ts⟩

set_option maxHeartbeats 400000 in
theorem find1_any (g len cap a m : Nat) (x y : Int) (w : World) (h0 : 0 < len) (hcap : len ≤ 1000000) (hc : w.cell? ⟨g, len - 1, none⟩ = some (.pointer (some ⟨a, 0, none⟩))) (ha : IsMsg w a x) (hm : IsMsg w m y) :
    Calls Yba.prog 19 #[.slice (some ⟨g, 0, none⟩) len cap, .pointer (some ⟨m, 0, none⟩)] w fun e w' => e = .returned (.int .i64 (cmp3 x y)) ∧ Below w.heap.size w w' := by
  go_enter Yba.func19, Yba.ntmps19
  go_wp2_with (go_at_call 20; refine (compare_any _ _ _ _ _ ha.id ha.ts hm.id hm.ts).mono ?_; rintro e w' ⟨rfl, hb⟩)
  go_ret
  exact ⟨rfl, hb⟩

set_option maxHeartbeats 400000 in
theorem bs18_any (og n oc m r : Nat) (y : Int) (V : Nat → Value) (key : Nat → Int) (w : World) (hn : n ≤ 1000000) (hr : r ≤ n)
    (hV : ∀ j, j < n → w.cell? ⟨og, j, none⟩ = some (V j))
    (hcall : ∀ w', Below w.heap.size w w' → ∀ j, j < n → Calls Yba.prog 19 #[V j, .pointer (some ⟨m, 0, none⟩)] w' fun e w'' => e = .returned (.int .i64 (cmp3 (key j) y)) ∧ Below w'.heap.size w' w'')
    (hlo : ∀ j, j < r → key j < y) (hhi : ∀ j, r ≤ j → j < n → y ≤ key j) :
    Calls Yba.prog 18 #[.slice (some ⟨og, 0, none⟩) n oc, .pointer (some ⟨m, 0, none⟩), .func (.func 19) #[] #[]] w fun e w' =>
      e = .returned (.tuple #[.int .i64 r, .bool (decide (r < n ∧ key r = y))]) ∧ Below w.heap.size w w' := by
  have H : Hid (∀ w', Below w.heap.size w w' → ∀ j, j < n → Calls Yba.prog 19 #[V j, .pointer (some ⟨m, 0, none⟩)] w' fun e w'' => e = .returned (.int .i64 (cmp3 (key j) y)) ∧ Below w'.heap.size w' w'') := hcall
  have H1 : Hid (∀ j, j < r → key j < y) := hlo
  have H2 : Hid (∀ j, r ≤ j → j < n → y ≤ key j) := hhi
  have H3 : Hid (∀ j, j < n → w.cell? ⟨og, j, none⟩ = some (V j)) := hV
  clear hcall hlo hhi hV
  go_enter Yba.func18, Yba.ntmps18
  go_wp2
  go_loopw [9, 10] (fun a b wr => ∃ i j : Nat, a = .int .i64 i ∧ b = .int .i64 j ∧ i ≤ r ∧ r ≤ j ∧ j ≤ n ∧ Below w.heap.size w wr) (fun a b _ => (intOf b - intOf a).toNat)
  case atStart => exact ⟨0, n, rfl, rfl, by omega, hr, Nat.le_refl _, Below.refl _ _⟩
  case round =>
    obtain ⟨i, j, rfl, rfl, hi, hj, hjn, hb⟩ := hrel
    by_cases hij : i < j
    · have hk : (i + j) / 2 < n := by omega
      have hc : wr.cell? ⟨og, (i + j) / 2, none⟩ = some (V ((i + j) / 2)) := (hb.cell (World.block_lt_of_cell? w _ (H3.out _ hk))).trans (H3.out _ hk)
      by_cases hlt : (i + j) / 2 < r
      · have hneg : cmp3 (key ((i + j) / 2)) y < 0 := by
          have := H1.out _ hlt
          unfold cmp3; rw [if_pos this]; decide
        go_wp2_with (go_at_call 19; refine (H.out _ hb _ hk).mono ?_; rintro e w' ⟨rfl, hb'⟩)
        go_roundw
        case rel => exact ⟨(i + j) / 2 + 1, j, by go_num, rfl, by omega, hj, hjn, hb.trans (hb'.mono hb.size)⟩
        case measure => simp [intOf]; omega
      · have hneg : ¬ cmp3 (key ((i + j) / 2)) y < 0 := by
          have := H2.out _ (by omega) hk
          unfold cmp3; rw [if_neg (by omega)]; split <;> decide
        go_wp2_with (go_at_call 19; refine (H.out _ hb _ hk).mono ?_; rintro e w' ⟨rfl, hb'⟩)
        go_roundw
        case rel => exact ⟨i, (i + j) / 2, rfl, by go_num, hi, by omega, by omega, hb.trans (hb'.mono hb.size)⟩
        case measure => simp [intOf]; omega
    · obtain rfl : i = r := by omega
      obtain rfl : i = j := by omega
      clear hij
      by_cases hin : i < n
      · have hc : wr.cell? ⟨og, i, none⟩ = some (V i) := (hb.cell (World.block_lt_of_cell? w _ (H3.out _ hin))).trans (H3.out _ hin)
        have hge := H2.out i (Nat.le_refl _) hin
        have hd : (decide (i < n ∧ key i = y)) = (cmp3 (key i) y == 0) := by
          unfold cmp3
          rw [if_neg (by omega)]
          by_cases h : key i = y
          · rw [if_neg (by omega)]; simp [h, hin]
          · rw [if_pos (by omega)]; simp [h]
        have HD : Hid ((decide (i < n ∧ key i = y)) = (cmp3 (key i) y == 0)) := hd
        clear hd hge
        go_wp2_with (go_at_call 19; refine (H.out _ hb _ hin).mono ?_; rintro e w' ⟨rfl, hb'⟩)
        go_ret2
        exact ⟨by rw [HD.out]; rfl, hb.trans (hb'.mono hb.size)⟩
      · have hd : (decide (i < n ∧ key i = y)) = false := by simp [hin]
        have HD : Hid ((decide (i < n ∧ key i = y)) = false) := hd
        clear hd
        go_wp2
        go_ret2
        exact ⟨by rw [HD.out]; rfl, hb⟩
set_option maxHeartbeats 400000 in
theorem bs21_any (og n oc m r : Nat) (y : Int) (V : Nat → Value) (key : Nat → Int) (w : World) (hn : n ≤ 1000000) (hr : r ≤ n)
    (hV : ∀ j, j < n → w.cell? ⟨og, j, none⟩ = some (V j))
    (hcall : ∀ w', Below w.heap.size w w' → ∀ j, j < n → Calls Yba.prog 20 #[V j, .pointer (some ⟨m, 0, none⟩)] w' fun e w'' => e = .returned (.int .i64 (cmp3 (key j) y)) ∧ Below w'.heap.size w' w'')
    (hlo : ∀ j, j < r → key j < y) (hhi : ∀ j, r ≤ j → j < n → y ≤ key j) :
    Calls Yba.prog 21 #[.slice (some ⟨og, 0, none⟩) n oc, .pointer (some ⟨m, 0, none⟩), .func (.func 20) #[] #[]] w fun e w' =>
      e = .returned (.tuple #[.int .i64 r, .bool (decide (r < n ∧ key r = y))]) ∧ Below w.heap.size w w' := by
  have H : Hid (∀ w', Below w.heap.size w w' → ∀ j, j < n → Calls Yba.prog 20 #[V j, .pointer (some ⟨m, 0, none⟩)] w' fun e w'' => e = .returned (.int .i64 (cmp3 (key j) y)) ∧ Below w'.heap.size w' w'') := hcall
  have H1 : Hid (∀ j, j < r → key j < y) := hlo
  have H2 : Hid (∀ j, r ≤ j → j < n → y ≤ key j) := hhi
  have H3 : Hid (∀ j, j < n → w.cell? ⟨og, j, none⟩ = some (V j)) := hV
  clear hcall hlo hhi hV
  go_enter Yba.func21, Yba.ntmps21
  go_wp2
  go_loopw [9, 10] (fun a b wr => ∃ i j : Nat, a = .int .i64 i ∧ b = .int .i64 j ∧ i ≤ r ∧ r ≤ j ∧ j ≤ n ∧ Below w.heap.size w wr) (fun a b _ => (intOf b - intOf a).toNat)
  case atStart => exact ⟨0, n, rfl, rfl, by omega, hr, Nat.le_refl _, Below.refl _ _⟩
  case round =>
    obtain ⟨i, j, rfl, rfl, hi, hj, hjn, hb⟩ := hrel
    by_cases hij : i < j
    · have hk : (i + j) / 2 < n := by omega
      have hc : wr.cell? ⟨og, (i + j) / 2, none⟩ = some (V ((i + j) / 2)) := (hb.cell (World.block_lt_of_cell? w _ (H3.out _ hk))).trans (H3.out _ hk)
      by_cases hlt : (i + j) / 2 < r
      · have hneg : cmp3 (key ((i + j) / 2)) y < 0 := by
          have := H1.out _ hlt
          unfold cmp3; rw [if_pos this]; decide
        go_wp2_with (go_at_call 20; refine (H.out _ hb _ hk).mono ?_; rintro e w' ⟨rfl, hb'⟩)
        go_roundw
        case rel => exact ⟨(i + j) / 2 + 1, j, by go_num, rfl, by omega, hj, hjn, hb.trans (hb'.mono hb.size)⟩
        case measure => simp [intOf]; omega
      · have hneg : ¬ cmp3 (key ((i + j) / 2)) y < 0 := by
          have := H2.out _ (by omega) hk
          unfold cmp3; rw [if_neg (by omega)]; split <;> decide
        go_wp2_with (go_at_call 20; refine (H.out _ hb _ hk).mono ?_; rintro e w' ⟨rfl, hb'⟩)
        go_roundw
        case rel => exact ⟨i, (i + j) / 2, rfl, by go_num, hi, by omega, by omega, hb.trans (hb'.mono hb.size)⟩
        case measure => simp [intOf]; omega
    · obtain rfl : i = r := by omega
      obtain rfl : i = j := by omega
      clear hij
      by_cases hin : i < n
      · have hc : wr.cell? ⟨og, i, none⟩ = some (V i) := (hb.cell (World.block_lt_of_cell? w _ (H3.out _ hin))).trans (H3.out _ hin)
        have hge := H2.out i (Nat.le_refl _) hin
        have hd : (decide (i < n ∧ key i = y)) = (cmp3 (key i) y == 0) := by
          unfold cmp3
          rw [if_neg (by omega)]
          by_cases h : key i = y
          · rw [if_neg (by omega)]; simp [h, hin]
          · rw [if_pos (by omega)]; simp [h]
        have HD : Hid ((decide (i < n ∧ key i = y)) = (cmp3 (key i) y == 0)) := hd
        clear hd hge
        go_wp2_with (go_at_call 20; refine (H.out _ hb _ hin).mono ?_; rintro e w' ⟨rfl, hb'⟩)
        go_ret2
        exact ⟨by rw [HD.out]; rfl, hb.trans (hb'.mono hb.size)⟩
      · have hd : (decide (i < n ∧ key i = y)) = false := by simp [hin]
        have HD : Hid ((decide (i < n ∧ key i = y)) = false) := hd
        clear hd
        go_wp2
        go_ret2
        exact ⟨by rw [HD.out]; rfl, hb⟩
end Go.Proofs.Ybulkbrdi
