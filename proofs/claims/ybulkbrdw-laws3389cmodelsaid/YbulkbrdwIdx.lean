/-
  b3389a: Topology.Index, Topology.Outputs' tests.
-/
import Derived.Test.YbulkbrdwMax
import Derived.Test.YbulkbrdwRep
import Derived.Handy
namespace Go.Proofs.Ybulkbrdw
open Go.RowKit
set_option linter.unusedVariables false
set_option linter.unusedSimpArgs false

/-- an operator's cells -/
def opc (L : Nat → Nat) (jn : Nat → Bool) (rv : Nat → Value) (k : Nat) : List Value :=
  [.string (nameOf (k + 1)), .int .i64 (L k), .slice none 0 0, .string ⟨#[]⟩, .bool (jn k), rv k, .map none]

/-- Index$1 -/
theorem idx1_any (nm nm2 : ByteArray) (t j k i r p : Value) (N : Nat) (w : World) (hN : w.cell? ⟨N, 0, none⟩ = some (.string nm2)) :
    Calls Yba.prog 28 #[.agg #[.string nm, t, i, k, j, r, p], .pointer (some ⟨N, 0, none⟩)] w fun e w' => e = .returned (.bool (nm.toList == nm2.toList)) ∧ Fr (fun _ => False) w w' := by
  have hlt := World.block_lt_of_cell? w _ hN
  go_enter Yba.func28, Yba.ntmps28
  go_wp2
  go_ret
  exact ⟨rfl, (Fr.refl _ w).alloc _⟩

theorem name_eq (a b : Nat) : ((nameOf a).toList == (nameOf b).toList) = decide (a = b) := by
  rw [ByteArray.toList_eq, ByteArray.toList_eq]
  show (List.replicate a (97 : UInt8) == List.replicate b 97) = decide (a = b)
  rw [Bool.eq_iff_iff, beq_iff_eq, decide_eq_true_iff]
  exact ⟨fun h => by have := congrArg List.length h; simpa using this, fun h => by rw [h]⟩

/-- the operators' row -/
def OpsAt (w : World) (O n : Nat) (L : Nat → Nat) (jn : Nat → Bool) (rv : Nat → Value) : Prop := Blk w O 47 ((List.range n).flatMap (opc L jn rv))
theorem flat_get (f : Nat → List Value) (hf : ∀ k, (f k).length = 7) : ∀ (n k j : Nat), k < n → j < 7 → ((List.range n).flatMap f)[k * 7 + j]? = (f k)[j]?
  | 0, k, j, hk, _ => by omega
  | n + 1, k, j, hk, hj => by
    have hl : ∀ n, ((List.range n).flatMap f).length = n * 7 := fun n => by
      induction n with
      | zero => rfl
      | succ n ih => rw [List.range_succ, List.flatMap_append, List.length_append, ih]; simp [hf]; omega
    rw [List.range_succ, List.flatMap_append]
    by_cases h : k < n
    · rw [List.getElem?_append_left (by rw [hl]; omega)]
      exact flat_get f hf n k j h hj
    · obtain rfl : k = n := by omega
      rw [List.getElem?_append_right (by rw [hl]; omega), hl, Nat.add_sub_cancel_left]
      simp
theorem OpsAt.cell {w : World} {O n : Nat} {L : Nat → Nat} {jn : Nat → Bool} {rv : Nat → Value} (h : OpsAt w O n L jn rv) {k : Nat} (hk : k < n) (j : Nat) (hj : j < 7) : w.cell? ⟨O, k * 7 + j, none⟩ = (opc L jn rv k)[j]? := by
  rw [Blk.cell h]; exact flat_get _ (fun _ => rfl) n k j hk hj

set_option maxHeartbeats 400000 in
theorem idxf_any (O n c N q : Nat) (L : Nat → Nat) (jn : Nat → Bool) (rv : Nat → Value) (w : World) (h : OpsAt w O n L jn rv) (hn : n ≤ 300) (hc : n ≤ c) (hq : q < n) (hN : w.cell? ⟨N, 0, none⟩ = some (.string (nameOf (q + 1)))) :
    Calls Yba.prog 27 #[.slice (some ⟨O, 0, none⟩) n c, .func (.func 28) #[] #[.pointer (some ⟨N, 0, none⟩)]] w fun e w' => e = .returned (.int .i64 q) ∧ Fr (fun _ => False) w w' := by
  have hlt := World.block_lt_of_cell? w _ hN
  have H := hide h
  have hO := Blk.lt h
  clear h
  go_enter Yba.func27, Yba.ntmps27
  go_wp2
  go_loopw [8] (fun s wr => ∃ k : Nat, s = .int .i64 k ∧ k ≤ q ∧ Hid (Fr (fun _ => False) w wr)) (fun s _ => q + 1 - (intOf s).toNat)
  case atStart => exact ⟨0, rfl, by omega, Fr.refl _ _⟩
  case round =>
    obtain ⟨k, rfl, hk, hF⟩ := hrel
    have h1 : OpsAt wr O n L jn rv := Blk.kept (unhide H) (unhide hF) id
    have c0 : wr.cell? ⟨O, k * 7, none⟩ = some (.string (nameOf (k + 1))) := h1.cell (by omega) 0 (by omega)
    have c1 : wr.cell? ⟨O, k * 7 + 1, none⟩ = some (.int .i64 (L k)) := h1.cell (by omega) 1 (by omega)
    have c2 : wr.cell? ⟨O, k * 7 + 2, none⟩ = some (.slice none 0 0) := h1.cell (by omega) 2 (by omega)
    have c3 : wr.cell? ⟨O, k * 7 + 3, none⟩ = some (.string ⟨#[]⟩) := h1.cell (by omega) 3 (by omega)
    have c4 : wr.cell? ⟨O, k * 7 + 4, none⟩ = some (.bool (jn k)) := h1.cell (by omega) 4 (by omega)
    have c5 : wr.cell? ⟨O, k * 7 + 5, none⟩ = some (rv k) := h1.cell (by omega) 5 (by omega)
    have c6 : wr.cell? ⟨O, k * 7 + 6, none⟩ = some (.map none) := h1.cell (by omega) 6 (by omega)
    have hN2 : wr.cell? ⟨N, 0, none⟩ = some (.string (nameOf (q + 1))) := (World.cell?_of_block ((unhide hF).block N hlt id)).trans hN
    have HI := hide (fun t i kk j r p => idx1_any (nameOf (k + 1)) (nameOf (q + 1)) t i kk j r p N wr hN2)
    have z1 : (k : Int) < (n : Int) := by omega
    clear h1 hN hN2
    go_wp2_with fail
    refine (unhide HI _ _ _ _ _ _).mono ?_
    rintro e w2 ⟨rfl, hF2⟩
    rw [name_eq]
    have HF2 := hide ((unhide hF).trans hF2)
    clear hF2 HI c0 c1 c2 c3 c4 c5 c6
    by_cases hkq : k = q
    · subst hkq
      have d : decide (k + 1 = k + 1) = true := by simp
      go_wp2
      go_ret
      exact ⟨rfl, unhide HF2⟩
    · have d : decide (k + 1 = q + 1) = false := by simp; omega
      rw [d]
      go_wp2
      go_roundw
      case rel => exact ⟨k + 1, by go_num, by omega, HF2⟩
      case measure => simp [intOf]; omega

/-- Topology.Index at a name that is there -/
theorem index_any (T O n c q : Nat) (L : Nat → Nat) (jn : Nat → Bool) (rv : Nat → Value) (w : World) (hT : w.cell? ⟨T, 1, none⟩ = some (.slice (some ⟨O, 0, none⟩) n c)) (h : OpsAt w O n L jn rv) (hn : n ≤ 300) (hc : n ≤ c) (hq : q < n) :
    Calls Yba.prog 18 #[.pointer (some ⟨T, 0, none⟩), .string (nameOf (q + 1))] w fun e w' => e = .returned (.int .i64 q) ∧ Fr (fun _ => False) w w' := by
  have hlt := World.block_lt_of_cell? w _ hT
  have HX := hide (idxf_any O n c w.heap.size q L jn rv (w.alloc (.cells #[.string (nameOf (q + 1))] 9)) (Blk.alloc h _) hn hc hq ((Blk.new w 9 [.string (nameOf (q + 1))]).cell 0))
  clear h
  go_enter Yba.func18, Yba.ntmps18
  go_wp2_with fail
  refine (unhide HX).mono ?_
  rintro e w2 ⟨rfl, hF⟩
  have HF := hide (((Fr.refl (fun _ => False) w).alloc _).trans hF)
  clear hF HX
  go_wp2
  go_ret
  exact ⟨rfl, unhide HF⟩

/-- IndexFunc over no input -/
theorem idx0_any (f : Value) (w : World) : Calls Yba.prog 35 #[.slice none 0 0, f] w fun e w' => e = .returned (.int .i64 (-1)) ∧ w = w' := by
  go_enter Yba.func35, Yba.ntmps35
  go_wp2
  refine wp_loop_rounds 1 ?_
  rw [rounds_succ]
  go_wp2_with fail
  go_ret
  exact ⟨rfl, rfl⟩
theorem con0_any (f : Value) (w : World) : Calls Yba.prog 31 #[.slice none 0 0, f] w fun e w' => e = .returned (.bool false) ∧ w = w' := by
  go_enter Yba.func31, Yba.ntmps31
  go_wp2_with fail
  refine (idx0_any _ _).mono ?_
  rintro e w2 ⟨rfl, rfl⟩
  go_wp2_with fail
  go_ret
  exact ⟨rfl, rfl⟩
/-- Outputs$1 at an operator without inputs -/
theorem out1_any (nm t j k r p : Value) (N : Nat) (w : World) :
    Calls Yba.prog 30 #[.agg #[nm, t, .slice none 0 0, k, j, r, p], .pointer (some ⟨N, 0, none⟩)] w fun e w' => e = .returned (.bool false) ∧ Fr (fun _ => False) w w' := by
  go_enter Yba.func30, Yba.ntmps30
  go_wp2_with fail
  refine (con0_any _ _).mono ?_
  rintro e w2 ⟨rfl, rfl⟩
  go_wp2_with fail
  go_ret
  exact ⟨rfl, (Fr.refl _ w).alloc _⟩

set_option maxHeartbeats 400000 in
/-- IndexFunc by Outputs$1 over the operators behind i -/
theorem idxo_any (O n c N i : Nat) (L : Nat → Nat) (jn : Nat → Bool) (rv : Nat → Value) (w : World) (h : OpsAt w O n L jn rv) (hn : n ≤ 300) (hc : n - i ≤ c) (hi : i ≤ n) :
    Calls Yba.prog 27 #[.slice (some ⟨O, i * 7, none⟩) (n - i) c, .func (.func 30) #[] #[.pointer (some ⟨N, 0, none⟩)]] w fun e w' => e = .returned (.int .i64 (-1)) ∧ Fr (fun _ => False) w w' := by
  have H := hide h
  obtain ⟨r, hr⟩ : ∃ r, n - i = r := ⟨_, rfl⟩
  rw [hr] at hc ⊢
  have HR := hide hr
  clear h hr
  go_enter Yba.func27, Yba.ntmps27
  go_wp2
  go_loopw [8] (fun s wr => ∃ k : Nat, s = .int .i64 k ∧ k ≤ r ∧ Hid (Fr (fun _ => False) w wr)) (fun s _ => r + 1 - (intOf s).toNat)
  case atStart => exact ⟨0, rfl, by omega, Fr.refl _ _⟩
  case round =>
    obtain ⟨k, rfl, hk, hF⟩ := hrel
    have hr := unhide HR
    have hrn : r ≤ 300 := by omega
    by_cases hkr : k < r
    · have h1 : OpsAt wr O n L jn rv := Blk.kept (unhide H) (unhide hF) id
      have e7 : (i + k) * 7 = i * 7 + k * 7 := Nat.add_mul _ _ _
      have cc := fun j hj => h1.cell (k := i + k) (by omega) j hj
      rw [e7] at cc
      have c0 : wr.cell? ⟨O, i * 7 + k * 7, none⟩ = some (.string (nameOf (i + k + 1))) := cc 0 (by omega)
      have c1 : wr.cell? ⟨O, i * 7 + k * 7 + 1, none⟩ = some (.int .i64 (L (i + k))) := cc 1 (by omega)
      have c2 : wr.cell? ⟨O, i * 7 + k * 7 + 2, none⟩ = some (.slice none 0 0) := cc 2 (by omega)
      have c3 : wr.cell? ⟨O, i * 7 + k * 7 + 3, none⟩ = some (.string ⟨#[]⟩) := cc 3 (by omega)
      have c4 : wr.cell? ⟨O, i * 7 + k * 7 + 4, none⟩ = some (.bool (jn (i + k))) := cc 4 (by omega)
      have c5 : wr.cell? ⟨O, i * 7 + k * 7 + 5, none⟩ = some (rv (i + k)) := cc 5 (by omega)
      have c6 : wr.cell? ⟨O, i * 7 + k * 7 + 6, none⟩ = some (.map none) := cc 6 (by omega)
      have z1 : (k : Int) < (r : Int) := by omega
      clear h1 cc e7 hr
      go_wp2_with fail
      refine (out1_any _ _ _ _ _ _ _ _).mono ?_
      rintro e w2 ⟨rfl, hF2⟩
      have HF2 := hide ((unhide hF).trans hF2)
      clear hF2 c0 c1 c2 c3 c4 c5 c6
      go_wp2
      go_roundw
      case rel => exact ⟨k + 1, by go_num, by omega, HF2⟩
      case measure => simp [intOf]; omega
    · obtain rfl : r = k := by omega
      clear hr hkr
      go_wp2
      go_ret
      exact ⟨rfl, unhide hF⟩
theorem cono_any (O n c N i : Nat) (L : Nat → Nat) (jn : Nat → Bool) (rv : Nat → Value) (w : World) (h : OpsAt w O n L jn rv) (hn : n ≤ 300) (hc : n - i ≤ c) (hi : i ≤ n) :
    Calls Yba.prog 29 #[.slice (some ⟨O, i * 7, none⟩) (n - i) c, .func (.func 30) #[] #[.pointer (some ⟨N, 0, none⟩)]] w fun e w' => e = .returned (.bool false) ∧ Fr (fun _ => False) w w' := by
  have H := hide (idxo_any O n c N i L jn rv w h hn hc hi)
  clear h
  go_enter Yba.func29, Yba.ntmps29
  go_wp2_with fail
  refine (unhide H).mono ?_
  rintro e w2 ⟨rfl, hF⟩
  have HF := hide hF
  clear hF H
  go_wp2_with fail
  go_ret
  exact ⟨rfl, unhide HF⟩
end Go.Proofs.Ybulkbrdw
