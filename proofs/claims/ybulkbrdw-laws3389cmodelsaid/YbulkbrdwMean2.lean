/-
  b3389a: (*input).mean.
-/
import Derived.Test.YbulkbrdwMean
import Derived.Deep.DeepCutAuto
namespace Go.Proofs.Ybulkbrdw
open Go.RowKit
set_option linter.unusedVariables false
set_option linter.unusedSimpArgs false
attribute [local go_sem] run_store_float

theorem made_one (z : Value) (n : Nat) : madeCells #[z] n = (List.replicate n z).toArray := by
  apply Array.ext
  · simp [madeCells]
  · intro i h1 h2
    simp [madeCells, Nat.mod_one]

/-- f 0 + .. + f (k - 1) -/
def sumTo (f : Nat → Int) : Nat → Int
  | 0 => 0
  | k + 1 => sumTo f k + f k
theorem sumTo_le {f : Nat → Int} {c : Nat} : ∀ {k : Nat}, (∀ i, i < k → (f i).natAbs ≤ c) → (sumTo f k).natAbs ≤ c * k
  | 0, _ => by simp [sumTo]
  | k + 1, h => by
    have h1 := sumTo_le (k := k) (fun i hi => h i (by omega))
    have h2 := h k (by omega)
    rw [sumTo, Nat.mul_succ]
    omega

/-- an input as mean reads it -/
structure InOk (w : World) (I O W V n m tot : Nat) (vs : Nat → Int) (os : Nat → Nat) (ws : Nat → Int) : Prop where
  inp : Blk w I 32 [.slice (some ⟨O, 0, none⟩) n n, .slice (some ⟨W, 0, none⟩) n n, .float .f64 tot]
  outs : Blk w O 3 ((List.range n).map fun i => .int .i64 (os i))
  wts : Blk w W 27 ((List.range n).map fun i => .float .f64 (fi (ws i)))
  vals : Blk w V 27 ((List.range m).map fun i => .float .f64 (fi (vs i)))
  ix : ∀ i, i < n → os i < m
  vb : ∀ i, i < m → (vs i).natAbs ≤ 128
  wb : ∀ i, i < n → 0 ≤ ws i ∧ ws i ≤ 255
theorem InOk.kept {w w' : World} {I O W V n m tot : Nat} {vs : Nat → Int} {os : Nat → Nat} {ws : Nat → Int} (h : InOk w I O W V n m tot vs os ws) (hf : Fr (fun _ => False) w w') : InOk w' I O W V n m tot vs os ws :=
  ⟨h.inp.kept hf id, h.outs.kept hf id, h.wts.kept hf id, h.vals.kept hf id, h.ix, h.vb, h.wb⟩

def sW (vs : Nat → Int) (os : Nat → Nat) (ws : Nat → Int) (k : Nat) : Int := sumTo (fun i => vs (os i) * ws i) k
def sS (ws : Nat → Int) (k : Nat) : Int := sumTo ws k
def sP (vs : Nat → Int) (os : Nat → Nat) (k : Nat) : Int := sumTo (fun i => vs (os i)) k

section
variable {w : World} {I O W V n m tot : Nat} {vs : Nat → Int} {os : Nat → Nat} {ws : Nat → Int}
theorem prod_le {a b : Int} {x y : Nat} (h1 : a.natAbs ≤ x) (h2 : b.natAbs ≤ y) : (a * b).natAbs ≤ x * y := by rw [Int.natAbs_mul]; exact Nat.mul_le_mul h1 h2
theorem InOk.sW_le (h : InOk w I O W V n m tot vs os ws) {k : Nat} (hk : k ≤ n) : (sW vs os ws k).natAbs ≤ 32640 * k :=
  sumTo_le fun i hi => prod_le (x := 128) (y := 255) (h.vb _ (h.ix i (by omega))) (by have := h.wb i (by omega); omega)
theorem InOk.sS_le (h : InOk w I O W V n m tot vs os ws) {k : Nat} (hk : k ≤ n) : (sS ws k).natAbs ≤ 255 * k :=
  sumTo_le fun i hi => by have := h.wb i (by omega); omega
theorem InOk.sP_le (h : InOk w I O W V n m tot vs os ws) {k : Nat} (hk : k ≤ n) : (sP vs os k).natAbs ≤ 128 * k :=
  sumTo_le fun i hi => h.vb _ (h.ix i (by omega))

/-- the mean's four cells behind k rounds -/
def mcells (vs : Nat → Int) (os : Nat → Nat) (ws : Nat → Int) (k : Nat) : List Value := [.float .f64 (fi (sW vs os ws k)), .float .f64 (fi (sS ws k)), .float .f64 (fi (sP vs os k)), .int .i64 (k : Nat)]

theorem fi_zero : fi 0 = 0 := rfl

/-- one round's call of add -/
theorem add_round (h : InOk w I O W V n m tot vs os ws) (hn : n ≤ 1024) {k : Nat} (hk : k < n) (B : Nat) (wr : World) (hB : Blk wr B 65 (mcells vs os ws k)) (w1 : World) (hw : w1.heap = wr.heap ∧ w1.os = wr.os ∧ w1.tape = wr.tape ∧ w1.output = wr.output) :
    Calls Yba.prog 9 #[.pointer (some ⟨B, 0, none⟩), .float .f64 (fi (vs (os k))), .float .f64 (fi (ws k))] w1 fun e w' => e = .returned (.tuple #[]) ∧ Blk w' B 65 (mcells vs os ws (k + 1)) ∧ Fr (· = B) wr w' := by
  have b1 := h.sW_le (k := k) (by omega)
  have b2 := h.sS_le (k := k) (by omega)
  have b3 := h.sP_le (k := k) (by omega)
  have b1' := h.sW_le (k := k + 1) (by omega)
  have b2' := h.sS_le (k := k + 1) (by omega)
  have b3' := h.sP_le (k := k + 1) (by omega)
  have hv := h.vb _ (h.ix k hk)
  have hw1 := h.wb k hk
  have hwn : (ws k).natAbs ≤ 255 := by omega
  have hp := prod_le hv hwn
  obtain ⟨p, e1, i1⟩ := mul_is (fi_is (z := vs (os k)) (by omega)) (fi_is (z := ws k) (by omega)) (by omega)
  have e2 := add_fi (x := sW vs os ws k) (by omega) i1 (by have : sW vs os ws (k + 1) = sW vs os ws k + vs (os k) * ws k := rfl; omega)
  have e3 := add_fi (x := sS ws k) (by omega) (fi_is (z := ws k) (by omega)) (by have : sS ws (k + 1) = sS ws k + ws k := rfl; omega)
  have e4 := add_fi (x := sP vs os k) (by omega) (fi_is (z := vs (os k)) (by omega)) (by have : sP vs os (k + 1) = sP vs os k + vs (os k) := rfl; omega)
  have hB1 : Blk w1 B 65 [.float .f64 (fi (sW vs os ws k)), .float .f64 (fi (sS ws k)), .float .f64 (fi (sP vs os k)), .int .i64 k] := by show w1.heap[B]? = _; rw [hw.1]; exact hB
  refine (add_any B _ _ p _ _ _ _ _ _ k w1 hB1 (by omega) e1 e2 e3 e4).mono ?_
  rintro e w' ⟨rfl, h1, h2⟩
  refine ⟨rfl, h1, ?_⟩
  obtain ⟨q1, q2, q3, q4⟩ := hw
  exact ⟨h2.os.trans q2, h2.tape.trans q3, h2.output.trans q4, by have := h2.size; rw [q1] at this; exact this, fun k hk hn => by rw [h2.block k (by rw [q1]; exact hk) hn, q1]⟩

/-- what value gives behind all rounds -/
def MeanOut (vs : Nat → Int) (os : Nat → Nat) (ws : Nat → Int) (n r : Nat) : Prop :=
  (0 < sS ws n → floatBits .quo .f64 (fi (sW vs os ws n)) (fi (sS ws n)) = some r) ∧ (¬ 0 < sS ws n → 0 < n → floatBits .quo .f64 (fi (sP vs os n)) (fi n) = some r) ∧ (n = 0 → Ieee.double.order r r = none)

theorem value_end (h : InOk w I O W V n m tot vs os ws) (hn : n ≤ 1024) (B : Nat) (wr : World) (hB : Blk wr B 65 (mcells vs os ws n)) :
    Calls Yba.prog 10 #[.pointer (some ⟨B, 0, none⟩)] wr fun e w' => ∃ r, e = .returned (.float .f64 r) ∧ MeanOut vs os ws n r ∧ Fr (fun _ => False) wr w' := by
  have b1 := h.sW_le (Nat.le_refl n)
  have b2 := h.sS_le (Nat.le_refl n)
  have b3 := h.sP_le (Nat.le_refl n)
  by_cases hs : 0 < sS ws n
  · obtain ⟨r, hr, _⟩ := div_fi (x := sW vs os ws n) (y := sS ws n) (by omega) (by omega) (by omega)
    refine (value_w B _ _ _ n r wr hB (by have := order_zero (z := sS ws n) (by omega); rw [decide_eq_true hs] at this; exact this) hr).mono ?_
    rintro e w' ⟨rfl, hF⟩
    refine ⟨r, rfl, ⟨fun _ => hr, fun h _ => absurd hs h, fun h0 => ?_⟩, hF⟩
    subst h0; exact absurd hs (by show ¬ (0 : Int) < 0; decide)
  · have hd : (FloatKind.f64.format.order (fi (sS ws n)) 0 == some .gt) = false := by have := order_zero (z := sS ws n) (by omega); rw [decide_eq_false hs] at this; exact this
    by_cases h0 : n = 0
    · subst h0
      refine (value_n B _ _ _ 0 wr hB hd (show floatBits .quo .f64 (fi 0) (fi 0) = none by decide +kernel)).mono ?_
      rintro e w' ⟨r, rfl, ho, hF⟩
      exact ⟨r, rfl, ⟨fun h => absurd h hs, fun _ h => absurd h (by omega), fun _ => ho⟩, hF⟩
    · obtain ⟨r, hr, _⟩ := div_fi (x := sP vs os n) (y := (n : Int)) (by omega) (by omega) (by omega)
      refine (value_p B _ _ _ n r wr hB hd hr).mono ?_
      rintro e w' ⟨rfl, hF⟩
      exact ⟨r, rfl, ⟨fun h => absurd h hs, fun _ _ => hr, fun h => absurd h h0⟩, hF⟩
end

def MeanSt (w : World) (vs : Nat → Int) (os : Nat → Nat) (ws : Nat → Int) (k : Nat) (wr : World) : Prop := Blk wr w.heap.size 65 (mcells vs os ws k) ∧ Fr (fun _ => False) w wr
theorem MeanSt.next {w : World} {vs : Nat → Int} {os : Nat → Nat} {ws : Nat → Int} {k : Nat} {wr w2 : World} (h : MeanSt w vs os ws k wr) (hB : Blk w2 w.heap.size 65 (mcells vs os ws (k + 1))) (hF : Fr (· = w.heap.size) wr w2) : MeanSt w vs os ws (k + 1) w2 :=
  ⟨hB, hF.os.trans h.2.os, hF.tape.trans h.2.tape, hF.output.trans h.2.output, Nat.le_trans h.2.size hF.size, fun i hi hn => (hF.block i (Nat.lt_of_lt_of_le hi h.2.size) (fun e => by subst e; exact Nat.lt_irrefl _ hi)).trans (h.2.block i hi hn)⟩

set_option maxHeartbeats 1000000 in
set_option maxRecDepth 100000 in
theorem mean_any (w : World) (I O W V n m tot : Nat) (vs : Nat → Int) (os : Nat → Nat) (ws : Nat → Int) (h : InOk w I O W V n m tot vs os ws) (hn : n ≤ 1024) (hm : m ≤ 1024) :
    Calls Yba.prog 6 #[.pointer (some ⟨I, 0, none⟩), .slice (some ⟨V, 0, none⟩) m m] w fun e w' => ∃ r, e = .returned (.float .f64 r) ∧ MeanOut vs os ws n r ∧ Fr (fun _ => False) w w' := by
  have hnil : ∀ w, (binOp .eql 25 (.slice (some ⟨V, 0, none⟩) m m) (.slice none 0 0)).run Yba.prog w = .ok (.bool false) w := fun w => Lib.run_eql_slice_nil w 25 27 (some ⟨V, 0, none⟩) m m 0 0 Yba.underlying25
  have c0 : w.cell? ⟨I, 0, none⟩ = some (.slice (some ⟨O, 0, none⟩) n n) := by rw [h.inp.cell]; rfl
  have hI := h.inp.lt
  have H := hide h
  clear h
  go_enter Yba.func6, Yba.ntmps6
  go_wp2
  go_loopw [15] (fun s wr => ∃ k : Nat, s = .int .i64 k ∧ k ≤ n ∧ Hid (MeanSt w vs os ws k wr)) (fun s _ => n - (intOf s).toNat)
  case atStart =>
    refine ⟨0, rfl, by omega, ?_⟩
    exact ⟨Blk.new w 65 (mcells vs os ws 0), (Fr.refl _ w).alloc _⟩
  case round =>
    obtain ⟨k, rfl, hk, hst⟩ := hrel
    by_cases hkn : k < n
    · have hin := (unhide H).kept (unhide hst).2
      have c1 : wr.cell? ⟨I, 1, none⟩ = some (.slice (some ⟨W, 0, none⟩) n n) := by rw [hin.inp.cell]; rfl
      have c2 : wr.cell? ⟨O, k, none⟩ = some (.int .i64 (os k)) := by rw [hin.outs.cell]; simp [hkn]
      have hos := hin.ix k hkn
      have c3 : wr.cell? ⟨V, os k, none⟩ = some (.float .f64 (fi (vs (os k)))) := by rw [hin.vals.cell]; simp [hos]
      have c4 : wr.cell? ⟨W, k, none⟩ = some (.float .f64 (fi (ws k))) := by rw [hin.wts.cell]; simp [hkn]
      have HC := hide (fun w1 hw => add_round hin hn hkn w.heap.size wr (unhide hst).1 w1 hw)
      have z1 : (k : Int) < (n : Int) := by omega
      have z2 : ((os k : Nat) : Int) < (m : Int) := by omega
      clear hin
      go_wp2_with fail
      go_region_with (first
        | (go_at_call 9; refine (unhide HC _ (by exact ⟨rfl, rfl, rfl, rfl⟩)).mono ?_; rintro e w2 ⟨rfl, hB2, hF2⟩; have Hn : Hid (MeanSt w vs os ws (k + 1) w2) := (by exact (unhide hst).next hB2 hF2); clear hB2 hF2))
      all_goals
        clear HC c1 c2 c3 c4
        go_wp2
        go_roundw
        case rel => exact ⟨k + 1, by go_num, by omega, Hn⟩
        case measure => simp [intOf]; omega
    · obtain rfl : k = n := by omega
      have hv := hide (value_end (unhide H) hn w.heap.size wr (unhide hst).1)
      go_wp2_with fail
      refine (unhide hv).mono ?_
      rintro e w' ⟨r, rfl, hr, hF⟩
      have Hr := hide hr
      have HF := hide hF
      clear hr hF
      go_wp2
      go_ret
      exact ⟨r, rfl, unhide Hr, (unhide hst).2.trans (unhide HF)⟩
end Go.Proofs.Ybulkbrdw
