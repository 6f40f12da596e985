/-
  b3389aF: zzs3389bdraft, (*draft).edge.
-/
import Derived.Test.YbulkbrdwFmtFits
import Derived.Laws.MakeOwn
import Derived.Deep.OwnRows
import Derived.BigQuiet
import Derived.Deep.RegionHeld3
namespace Go.Proofs.YbulkbrdwFmt
open Go.RowKit
set_option linter.unusedVariables false
set_option linter.unusedSimpArgs false

theorem make29 (m : Nat) (hm : m ≤ 1000) : ∃ C : Array Value, ∀ w : World, (Instr.makeSlice 29 (.int .i64 (m : Int)) (.int .i64 (m : Int))).run Ybaf.prog w = .ok (.slice (some ⟨w.heap.size, 0, none⟩) m m) (w.alloc (.cells C 79)) := by
  have h : (Ybaf.prog.info? 79).map (fun i => i.zero.isSome && decide (i.bytes ≤ 4096)) = some true := by kernel_rfl
  obtain ⟨i, hi, hb⟩ := Option.map_eq_some_iff.1 h
  simp only [Bool.and_eq_true, decide_eq_true_eq] at hb
  obtain ⟨z, hz⟩ := Option.isSome_iff_exists.1 hb.1
  refine ⟨madeCells z.cells (m * i.size), fun w => ?_⟩
  have hle : i.bytes * m ≤ 4096 * 1000 := Nat.mul_le_mul hb.2 hm
  have hr := run_make (P := Ybaf.prog) w 29 79 i z Ybaf.underlying29 hi hz .i64 .i64 m m (by omega) (Int.le_refl _) (by have h2 : ((i.bytes * m : Nat) : Int) ≤ 281474976710656 := (by omega); rwa [Int.natCast_mul] at h2) (by omega)
  simp only [Int.toNat_natCast] at hr
  exact hr
theorem make30 (m : Nat) (hm : m ≤ 1000) : ∃ C : Array Value, ∀ w : World, (Instr.makeSlice 30 (.int .i64 (m : Int)) (.int .i64 (m : Int))).run Ybaf.prog w = .ok (.slice (some ⟨w.heap.size, 0, none⟩) m m) (w.alloc (.cells C 4)) := by
  have h : (Ybaf.prog.info? 4).map (fun i => i.zero.isSome && decide (i.bytes ≤ 4096)) = some true := by kernel_rfl
  obtain ⟨i, hi, hb⟩ := Option.map_eq_some_iff.1 h
  simp only [Bool.and_eq_true, decide_eq_true_eq] at hb
  obtain ⟨z, hz⟩ := Option.isSome_iff_exists.1 hb.1
  refine ⟨madeCells z.cells (m * i.size), fun w => ?_⟩
  have hle : i.bytes * m ≤ 4096 * 1000 := Nat.mul_le_mul hb.2 hm
  have hr := run_make (P := Ybaf.prog) w 30 4 i z Ybaf.underlying30 hi hz .i64 .i64 m m (by omega) (Int.le_refl _) (by have h2 : ((i.bytes * m : Nat) : Int) ≤ 281474976710656 := (by omega); rwa [Int.natCast_mul] at h2) (by omega)
  simp only [Int.toNat_natCast] at hr
  exact hr

/-- a draft of m operators; full: its family's shape is Full -/
def DraftOk (w : World) (D m : Nat) (full : Bool) : Prop := ∃ G o r str, D < w.heap.size ∧ G < w.heap.size ∧ w.cell? ⟨D, 0, none⟩ = some (.pointer (some ⟨G, 0, none⟩)) ∧ w.cell? ⟨D, 1, none⟩ = some (.slice o m m) ∧ w.cell? ⟨D, 2, none⟩ = some (.slice r m m) ∧ w.cell? ⟨G, 6, none⟩ = some (.string str) ∧ (str.toList == [102, 117, 108, 108]) = full

def genC (str : ByteArray) : List Value := [.int .i64 0, .int .i64 0, .int .i64 0, .int .i64 0, .string ⟨#[]⟩, .float .f64 0, .string str, .float .f64 0, .pointer none]
theorem draft_fin {X w : World} {D G G' m : Nat} {a b : Option Addr} {str : ByteArray} {full : Bool} (hD : D = X.heap.size) (hX : Below w.heap.size w X) (hGe : G = G') (hG : Blk X G' 45 (genC str)) (hf : (str.toList == [102, 117, 108, 108]) = full) :
    DraftOk (X.alloc (.cells #[.pointer (some ⟨G, 0, none⟩), .slice a m m, .slice b m m] 32)).drew D m full ∧ Below w.heap.size w (X.alloc (.cells #[.pointer (some ⟨G, 0, none⟩), .slice a m m, .slice b m m] 32)).drew := by
  subst hD; subst hGe
  have hB := (Blk.new X 32 [.pointer (some ⟨G, 0, none⟩), .slice a m m, .slice b m m]).drew
  have hG2 := (hG.alloc (.cells #[.pointer (some ⟨G, 0, none⟩), .slice a m m, .slice b m m] 32)).drew
  refine ⟨⟨G, a, b, str, hB.lt, hG2.lt, ?_, ?_, ?_, ?_, hf⟩, (hX.alloc hX.size _).drew⟩
  · exact (hB.cell 0).trans rfl
  · exact (hB.cell 1).trans rfl
  · exact (hB.cell 2).trans rfl
  · exact (hG2.cell 6).trans rfl
theorem str0 : ((⟨#[115, 116, 114, 117, 99, 116, 117, 114, 101, 100]⟩ : ByteArray).toList == [102, 117, 108, 108]) = false := by decide +kernel
theorem str1 : ((⟨#[102, 117, 108, 108]⟩ : ByteArray).toList == [102, 117, 108, 108]) = true := by decide +kernel
theorem str2 : ((⟨#[111, 116, 104, 101, 114]⟩ : ByteArray).toList == [102, 117, 108, 108]) = false := by decide +kernel
theorem bel3 (w : World) (a b c : Obj) : Below w.heap.size w (((w.alloc a).alloc b).alloc c) := ((((Fr.refl (fun _ => False) w).alloc a).alloc b).alloc c).below (Nat.le_refl _) (fun _ h => h.elim)

set_option maxHeartbeats 4000000 in
theorem draft_any (s m : Nat) (hs : s ≤ 255) (hm : m ≤ 20) (w : World) :
    Calls Ybaf.prog 5 #[.int .u8 s, .int .i64 m] w fun e w' => ∃ D, e = .returned (.pointer (some ⟨D, 0, none⟩)) ∧ DraftOk w' D m (decide (s % 3 = 1)) ∧ Below w.heap.size w w' := by
  obtain ⟨C1, mk1⟩ := make29 m (by omega)
  obtain ⟨C2, mk2⟩ := make30 m (by omega)
  have h3 : (s : Int) % 3 = 0 ∨ (s : Int) % 3 = 1 ∨ (s : Int) % 3 = 2 := by omega
  obtain ⟨full, hfull⟩ : ∃ full, full = decide (s % 3 = 1) := ⟨_, rfl⟩
  rw [← hfull]
  rcases h3 with h3 | h3 | h3
  · obtain rfl : full = false := by rw [hfull]; simp; omega
    clear hfull
    go_enter Ybaf.func5, Ybaf.ntmps5
    go_wp2_with fail
    go_region
    all_goals
      go_wp2_with fail
      go_ret
      first
        | exact ⟨_, rfl, draft_fin (by simp) (bel3 _ _ _ _) rfl (((Blk.new w 45 (genC ⟨#[115, 116, 114, 117, 99, 116, 117, 114, 101, 100]⟩)).alloc _).alloc _) str0⟩
        | exact ⟨_, rfl, draft_fin (by simp) (bel3 _ _ _ _) (by simp) ((Blk.new (w.alloc _) 45 (genC ⟨#[115, 116, 114, 117, 99, 116, 117, 114, 101, 100]⟩)).alloc _) str0⟩
        | exact ⟨_, rfl, draft_fin (by simp) (bel3 _ _ _ _) (by simp) (Blk.new ((w.alloc _).alloc _) 45 (genC ⟨#[115, 116, 114, 117, 99, 116, 117, 114, 101, 100]⟩)) str0⟩
  · obtain rfl : full = true := by rw [hfull]; simp; omega
    clear hfull
    go_enter Ybaf.func5, Ybaf.ntmps5
    go_wp2_with fail
    go_region
    all_goals
      go_wp2_with fail
      go_ret
      first
        | exact ⟨_, rfl, draft_fin (by simp) (bel3 _ _ _ _) rfl (((Blk.new w 45 (genC ⟨#[102, 117, 108, 108]⟩)).alloc _).alloc _) str1⟩
        | exact ⟨_, rfl, draft_fin (by simp) (bel3 _ _ _ _) (by simp) ((Blk.new (w.alloc _) 45 (genC ⟨#[102, 117, 108, 108]⟩)).alloc _) str1⟩
        | exact ⟨_, rfl, draft_fin (by simp) (bel3 _ _ _ _) (by simp) (Blk.new ((w.alloc _).alloc _) 45 (genC ⟨#[102, 117, 108, 108]⟩)) str1⟩
  · obtain rfl : full = false := by rw [hfull]; simp; omega
    clear hfull
    go_enter Ybaf.func5, Ybaf.ntmps5
    go_wp2_with fail
    go_region
    all_goals
      go_wp2_with fail
      go_ret
      first
        | exact ⟨_, rfl, draft_fin (by simp) (bel3 _ _ _ _) rfl (((Blk.new w 45 (genC ⟨#[111, 116, 104, 101, 114]⟩)).alloc _).alloc _) str2⟩
        | exact ⟨_, rfl, draft_fin (by simp) (bel3 _ _ _ _) (by simp) ((Blk.new (w.alloc _) 45 (genC ⟨#[111, 116, 104, 101, 114]⟩)).alloc _) str2⟩
        | exact ⟨_, rfl, draft_fin (by simp) (bel3 _ _ _ _) (by simp) (Blk.new ((w.alloc _).alloc _) 45 (genC ⟨#[111, 116, 104, 101, 114]⟩)) str2⟩

/-- edge(k) of a draft: the rule's function -/
theorem edge_full (D m : Nat) (k : Int) (full : Bool) (w : World) (hm : m ≤ 20) (h : DraftOk w D m full) (hk : (full || k == (m : Int) - 1) = true) :
    Calls Ybaf.prog 6 #[.pointer (some ⟨D, 0, none⟩), .int .i64 k] w fun e w' => e = .returned (.func (.func 8) #[] #[]) ∧ w = w' := by
  obtain ⟨G, o, r, str, b1, b2, c0, c1, c2, c3, hf⟩ := h
  cases full with
  | true =>
    have hl : str.toList = [102, 117, 108, 108] := by simpa using hf
    clear hk hf
    go_enter Ybaf.func6, Ybaf.ntmps6
    go_wp2
    go_ret
    exact ⟨rfl, rfl⟩
  | false =>
    have hl : ¬ str.toList = [102, 117, 108, 108] := by simpa using hf
    have hk' : (k == (m : Int) - 1) = true := by simpa using hk
    clear hk
    go_enter Ybaf.func6, Ybaf.ntmps6
    go_wp2
    go_ret
    exact ⟨rfl, rfl⟩
theorem edge_rule (D m : Nat) (k : Int) (full : Bool) (w : World) (hm : m ≤ 20) (h : DraftOk w D m full) (hk : (full || k == (m : Int) - 1) = false) :
    Calls Ybaf.prog 6 #[.pointer (some ⟨D, 0, none⟩), .int .i64 k] w fun e w' => e = .returned (.func (.func 9) #[] #[]) ∧ w = w' := by
  obtain ⟨G, o, r, str, b1, b2, c0, c1, c2, c3, hf⟩ := h
  rw [Bool.or_eq_false_iff] at hk
  obtain ⟨rfl, hk'⟩ := hk
  have hl : ¬ str.toList = [102, 117, 108, 108] := by simpa using hf
  go_enter Ybaf.func6, Ybaf.ntmps6
  go_wp2
  go_ret
  exact ⟨rfl, rfl⟩
theorem DraftOk.below {w w' : World} {D m : Nat} {full : Bool} (h : DraftOk w D m full) (hb : Below w.heap.size w w') : DraftOk w' D m full := by
  obtain ⟨G, o, r, str, b1, b2, c0, c1, c2, c3, hf⟩ := h
  exact ⟨G, o, r, str, Nat.lt_of_lt_of_le b1 hb.size, Nat.lt_of_lt_of_le b2 hb.size, (hb.cell b1).trans c0, (hb.cell b1).trans c1, (hb.cell b1).trans c2, (hb.cell b2).trans c3, hf⟩
end Go.Proofs.YbulkbrdwFmt
