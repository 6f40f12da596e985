/-
  b3388aF: the encodings of an item.
-/
import Derived.Test.YbulkbrdiFmtS0
namespace Go.Proofs.YbulkbrdiFmt
open Go.RowKit
set_option linter.unusedVariables false
set_option linter.unusedSimpArgs false
set_option maxRecDepth 100000
set_option maxHeartbeats 2000000

/-- encoding/binary.AppendVarint of a small number that is not negative -/
theorem var_pos (B n j : Nat) (v : Value) (l : List Nat) (w : World) (hj : j < 64) (h : OwB w B v n l) (hB : B ≤ w.heap.size) (hl : n ≤ 1000) :
    Calls Ybaf.prog 36 #[v, .int .i64 (j : Int)] w fun e w' => ∃ v', e = .returned v' ∧ OwB w' B v' (n + 1) (l ++ [2 * j]) ∧ FrB B w w' := by
  obtain ⟨x, hx⟩ : ∃ x, x = 2 * j := ⟨_, rfl⟩
  have HC := hide (uv_any B n x v l w (by omega) h hB hl)
  have e1 : IntKind.u64.wrap (j : Int) = (j : Int) := by rw [IntKind.wrap_u64]; omega
  have e2 : (j : Int) * 2 = (x : Int) := by omega
  have e3 : IntKind.u64.wrap (x : Int) = (x : Int) := by rw [IntKind.wrap_u64]; omega
  have d1 : decide ((j : Int) < 0) = false := by simp
  rw [← hx]
  obtain ⟨a, c, rfl⟩ := h.form
  clear h hx
  go_enter Ybaf.func36, Ybaf.ntmps36
  go_wp2_with fail
  refine (unhide HC).mono ?_
  rintro e w2 ⟨v', rfl, h1, h2⟩
  have HE := hide (show OwB w2 B v' (n + 1) (l ++ [x]) ∧ FrB B w w2 from ⟨h1, h2⟩)
  obtain ⟨a', c', rfl⟩ := h1.form
  clear h1 h2 HC
  go_wp2_with fail
  go_ret
  exact ⟨_, rfl, HE.out⟩
/-- encoding/binary.AppendVarint of -1 -/
theorem var_neg (B n : Nat) (v : Value) (l : List Nat) (w : World) (h : OwB w B v n l) (hB : B ≤ w.heap.size) (hl : n ≤ 1000) :
    Calls Ybaf.prog 36 #[v, .int .i64 (-1)] w fun e w' => ∃ v', e = .returned v' ∧ OwB w' B v' (n + 1) (l ++ [1]) ∧ FrB B w w' := by
  have HC := hide (uv_any B n 1 v l w (by omega) h hB hl)
  obtain ⟨a, c, rfl⟩ := h.form
  clear h
  go_enter Ybaf.func36, Ybaf.ntmps36
  go_wp2_with fail
  refine (unhide HC).mono ?_
  rintro e w2 ⟨v', rfl, h1, h2⟩
  have HE := hide (show OwB w2 B v' (n + 1) (l ++ [1]) ∧ FrB B w w2 from ⟨h1, h2⟩)
  obtain ⟨a', c', rfl⟩ := h1.form
  clear h1 h2 HC
  go_wp2_with fail
  go_ret
  exact ⟨_, rfl, HE.out⟩

theorem str_put {w w2 w3 : World} {B n k : Nat} {v v2 : Value} {l m : List Nat} {s : ByteArray} (hs : Lib.strCells s = bV m) (hk : s.size = k) (ho : OwB w2 B v (n + 1) (l ++ [k])) (h : w3.ownsRow B 5 1 v2 (n + 1 + s.size) (bV (l ++ [k]) ++ Lib.strCells s)) (hg : w2.grownBy w3 v.ownBlock) (hf : FrB B w w2) :
    OwB w3 B v2 (n + 1 + k) (l ++ [k] ++ m) ∧ FrB B w w3 := by
  refine ⟨?_, hf.trans (FrB.grown ho hg)⟩
  unfold OwB
  rw [bV_app _ m, ← hs, ← hk]
  rw [← hk] at h
  exact h
/-- protocol.appendString of a short string -/
theorem str_any (B n k : Nat) (v : Value) (l m : List Nat) (s : ByteArray) (w : World) (hs : Lib.strCells s = bV m) (hk : s.size = k) (hk2 : k ≤ 1) (h : OwB w B v n l) (hB : B ≤ w.heap.size) (hl : n ≤ 900) :
    Calls Ybaf.prog 51 #[v, .string s] w fun e w' => ∃ v', e = .returned v' ∧ OwB w' B v' (n + 1 + k) (l ++ [k] ++ m) ∧ FrB B w w' := by
  obtain ⟨i5, hi5, hz5, hs5, hb5⟩ := info5
  have HC := hide (uv_any B n k v l w (by omega) h hB (by omega))
  have e1 : IntKind.u64.wrap (k : Int) = (k : Int) := by rw [IntKind.wrap_u64]; omega
  have e0 : s.size = k := hk
  have HS := hide hs
  have HK := hide hk
  have HB := hide hB
  obtain ⟨a, c, rfl⟩ := h.form
  clear h hs hk
  go_enter Ybaf.func51, Ybaf.ntmps51
  go_wp2_with fail
  refine (unhide HC).mono ?_
  rintro e w2 ⟨v', rfl, h1, h2⟩
  have HO := hide h1
  have HF := hide h2
  obtain ⟨a', c', rfl⟩ := h1.form
  have hB2 : B ≤ w2.heap.size := Nat.le_trans hB h2.size
  clear h1 h2 HC
  go_wp2_with (at_builtin; refine Lib.wpList_append_own_string _ (by rfl) _ _ _ _ (by rfl) B 5 i5 Ybaf.underlying23 Ybaf.underlying9 hi5 hz5 hs5 hb5 (.slice a' (n + 1) c') (n + 1) (bV (l ++ [k])) (by rfl) HO.out s (by rfl) (by rw [e0]; unfold maxLen; omega) (by rw [e0]; omega) hB2 ?_; intro v2 w3 hown1 hgrow hnil; have HE : Hid (OwB w3 B v2 (n + 1 + k) (l ++ [k] ++ m) ∧ FrB B w w3) := str_put (unhide HS) (unhide HK) (unhide HO) hown1 hgrow (unhide HF); obtain ⟨a2, c2, rfl⟩ := owns_slice hown1; rw [e0] at HE; clear hown1 hgrow hnil)
  go_ret
  exact ⟨_, rfl, HE.out⟩
end Go.Proofs.YbulkbrdiFmt
