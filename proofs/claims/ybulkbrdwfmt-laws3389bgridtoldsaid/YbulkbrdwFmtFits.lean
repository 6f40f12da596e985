/-
  b3389aF: Partitioning.Fits, zzs3389bmodel, edge$1, edge$2.
-/
import Derived.Test.YbulkbrdwFmtFmt
import Derived.Test.YbulkbrdwFmtBase
import Derived.WalkKit
import Derived.WalkSpells
import Derived.Handy
namespace Go.Proofs.YbulkbrdwFmt
open Go.RowKit Go.Extern.Stop Go.Stop Go.Extern
set_option linter.unusedVariables false
set_option linter.unusedSimpArgs false

/-- split, and merge with the two turned -/
def Sp (n1 n2 : Int) : Prop := 2 ≤ n1 ∧ wrap64 (2 * n1) ≤ n2 ∧ n2.tmod n1 = 0
/-- what Fits gives: nil where c holds, else a new error -/
def FitsOut (c : Prop) (w : World) (e : Ending) (w' : World) : Prop := Below w.heap.size w w' ∧ ((c ∧ e = .returned .nilIface) ∨ (¬ c ∧ ∃ a, e = .returned (.iface 54 (.pointer (some a)))))

theorem below_two (w : World) (o o' : Obj) : Below w.heap.size w ((w.alloc o).alloc o').drew := (((Fr.refl (fun _ => False) w).alloc o).alloc o').drew.below (Nat.le_refl _) (fun _ h => h.elim)

theorem one_any (n1 n2 : Int) (w : World) :
    Calls Ybaf.prog 10 #[.string ⟨#[111, 110, 101, 45, 116, 111, 45, 111, 110, 101]⟩, .int .i64 n1, .int .i64 n2] w (FitsOut (n1 = n2) w) := by
  by_cases h : n1 = n2
  · subst h
    go_enter Ybaf.func10, Ybaf.ntmps10
    go_wp2
    go_ret
    exact ⟨Below.refl _ _, .inl ⟨trivial, rfl⟩⟩
  · have d : (n1 == n2) = false := by simpa using h
    have H := hide h
    clear h
    go_enter Ybaf.func10, Ybaf.ntmps10
    go_wp2
    go_ret
    exact ⟨below_two _ _ _, .inr ⟨unhide H, _, rfl⟩⟩
theorem split_any (n1 n2 : Int) (w : World) :
    Calls Ybaf.prog 10 #[.string ⟨#[115, 112, 108, 105, 116]⟩, .int .i64 n1, .int .i64 n2] w (FitsOut (Sp n1 n2) w) := by
  by_cases h1 : 2 ≤ n1
  · by_cases h2 : wrap64 (2 * n1) ≤ n2
    · by_cases h3 : n2.tmod n1 = 0
      · have HS : Hid (Sp n1 n2) := ⟨h1, h2, h3⟩
        go_enter Ybaf.func10, Ybaf.ntmps10
        go_wp2
        go_ret
        exact ⟨Below.refl _ _, .inl ⟨unhide HS, rfl⟩⟩
      · have d3 : (n2.tmod n1 == 0) = false := by simpa using h3
        have HS : Hid (¬ Sp n1 n2) := fun h => h3 h.2.2
        clear h3
        go_enter Ybaf.func10, Ybaf.ntmps10
        go_wp2
        go_ret
        exact ⟨below_two _ _ _, .inr ⟨unhide HS, _, rfl⟩⟩
    · have HS : Hid (¬ Sp n1 n2) := fun h => h2 h.2.1
      go_enter Ybaf.func10, Ybaf.ntmps10
      go_wp2
      go_ret
      exact ⟨below_two _ _ _, .inr ⟨unhide HS, _, rfl⟩⟩
  · have HS : Hid (¬ Sp n1 n2) := fun h => h1 h.1
    go_enter Ybaf.func10, Ybaf.ntmps10
    go_wp2
    go_ret
    exact ⟨below_two _ _ _, .inr ⟨unhide HS, _, rfl⟩⟩
theorem merge_any (n1 n2 : Int) (w : World) :
    Calls Ybaf.prog 10 #[.string ⟨#[109, 101, 114, 103, 101]⟩, .int .i64 n1, .int .i64 n2] w (FitsOut (Sp n2 n1) w) := by
  by_cases h1 : 2 ≤ n2
  · by_cases h2 : wrap64 (2 * n2) ≤ n1
    · by_cases h3 : n1.tmod n2 = 0
      · have HS : Hid (Sp n2 n1) := ⟨h1, h2, h3⟩
        go_enter Ybaf.func10, Ybaf.ntmps10
        go_wp2
        go_ret
        exact ⟨Below.refl _ _, .inl ⟨unhide HS, rfl⟩⟩
      · have d3 : (n1.tmod n2 == 0) = false := by simpa using h3
        have HS : Hid (¬ Sp n2 n1) := fun h => h3 h.2.2
        clear h3
        go_enter Ybaf.func10, Ybaf.ntmps10
        go_wp2
        go_ret
        exact ⟨below_two _ _ _, .inr ⟨unhide HS, _, rfl⟩⟩
    · have HS : Hid (¬ Sp n2 n1) := fun h => h2 h.2.1
      go_enter Ybaf.func10, Ybaf.ntmps10
      go_wp2
      go_ret
      exact ⟨below_two _ _ _, .inr ⟨unhide HS, _, rfl⟩⟩
  · have HS : Hid (¬ Sp n2 n1) := fun h => h1 h.1
    go_enter Ybaf.func10, Ybaf.ntmps10
    go_wp2
    go_ret
    exact ⟨below_two _ _ _, .inr ⟨unhide HS, _, rfl⟩⟩

open Classical in
/-- what the rule gives -/
noncomputable def edgeR (n1 n2 : Int) : ByteArray :=
  if n1 = n2 then ⟨#[111, 110, 101, 45, 116, 111, 45, 111, 110, 101]⟩ else if Sp n1 n2 then ⟨#[115, 112, 108, 105, 116]⟩ else if Sp n2 n1 then ⟨#[109, 101, 114, 103, 101]⟩ else ⟨#[]⟩
noncomputable def modelR (full : Bool) (n1 n2 : Int) : ByteArray := if full then ⟨#[102, 117, 108, 108]⟩ else edgeR n1 n2

theorem nsp {a b : Int} (h : ¬ Sp a b) : a < 2 ∨ (2 ≤ a ∧ b < wrap64 (2 * a)) ∨ (2 ≤ a ∧ wrap64 (2 * a) ≤ b ∧ (b.tmod a == 0) = false) := by
  by_cases h1 : 2 ≤ a
  · by_cases h2 : wrap64 (2 * a) ≤ b
    · exact .inr (.inr ⟨h1, h2, by simpa using fun h3 => h ⟨h1, h2, h3⟩⟩)
    · exact .inr (.inl ⟨h1, by omega⟩)
  · exact .inl (by omega)

theorem tm {a b : Int} (h : (b.tmod a == 0) = false) (hb : 0 ≤ b) : (b % a == 0) = false := by rw [Int.tmod_eq_emod_of_nonneg hb] at h; exact h

theorem model_any (full : Bool) (n1 n2 : Int) (w : World) :
    Calls Ybaf.prog 7 #[.bool full, .int .i64 n1, .int .i64 n2] w fun e w' => e = .returned (.string (modelR full n1 n2)) ∧ w = w' := by
  cases full with
  | true =>
    go_enter Ybaf.func7, Ybaf.ntmps7
    go_wp2
    go_ret
    exact ⟨rfl, rfl⟩
  | false =>
    have em : modelR false n1 n2 = edgeR n1 n2 := rfl
    rw [em]
    by_cases h : n1 = n2
    · have er : Hid (edgeR n1 n2 = ⟨#[111, 110, 101, 45, 116, 111, 45, 111, 110, 101]⟩) := by unfold edgeR; rw [if_pos h]; exact hide rfl
      have d : (n1 == n2) = true := by simpa using h
      clear h em
      go_enter Ybaf.func7, Ybaf.ntmps7
      go_wp2
      go_ret
      exact ⟨by rw [unhide er]; rfl, rfl⟩
    · have d : (n1 == n2) = false := by simpa using h
      by_cases hs : Sp n1 n2
      · have er : Hid (edgeR n1 n2 = ⟨#[115, 112, 108, 105, 116]⟩) := by unfold edgeR; rw [if_neg h, if_pos hs]; exact hide rfl
        obtain ⟨h1, h2, h3⟩ := hs
        clear h em
        go_enter Ybaf.func7, Ybaf.ntmps7
        go_wp2
        go_ret
        exact ⟨by rw [unhide er]; rfl, rfl⟩
      · by_cases hm : Sp n2 n1
        · have er : Hid (edgeR n1 n2 = ⟨#[109, 101, 114, 103, 101]⟩) := by unfold edgeR; rw [if_neg h, if_neg hs, if_pos hm]; exact hide rfl
          have hs' := nsp hs
          obtain ⟨m1, m2, m3⟩ := hm
          clear h em hs
          rcases hs' with h1 | ⟨h1, h2⟩ | ⟨h1, h2, h3⟩
          all_goals
            try (have e3 := tm h3 (by omega))
            try (have e4 := tm m3 (by omega))
            go_enter Ybaf.func7, Ybaf.ntmps7
            go_wp2
            go_ret
            exact ⟨by rw [unhide er]; rfl, rfl⟩
        · have er : Hid (edgeR n1 n2 = ⟨#[]⟩) := by unfold edgeR; rw [if_neg h, if_neg hs, if_neg hm]; exact hide rfl
          have hs' := nsp hs
          have hm' := nsp hm
          clear h em hs hm
          rcases hs' with h1 | ⟨h1, h2⟩ | ⟨h1, h2, h3⟩ <;> rcases hm' with m1 | ⟨m1, m2⟩ | ⟨m1, m2, m3⟩
          all_goals
            try (have e3 := tm h3 (by omega))
            try (have e4 := tm m3 (by omega))
            go_enter Ybaf.func7, Ybaf.ntmps7
            go_wp2
            go_ret
            exact ⟨by rw [unhide er]; rfl, rfl⟩

theorem edge1_any (n1 n2 : Int) (w : World) : Calls Ybaf.prog 8 #[.int .i64 n1, .int .i64 n2] w fun e w' => e = .returned (.string (modelR true n1 n2)) ∧ w = w' := by
  go_enter Ybaf.func8, Ybaf.ntmps8
  go_wp2
  go_ret
  exact ⟨rfl, rfl⟩

def three : List Value := [.string ⟨#[111, 110, 101, 45, 116, 111, 45, 111, 110, 101]⟩, .string ⟨#[115, 112, 108, 105, 116]⟩, .string ⟨#[109, 101, 114, 103, 101]⟩]
/-- the three names' block stands, nothing old turned -/
def St (w w1 : World) : Prop := Blk w1 w.heap.size 24 three ∧ Below w.heap.size w w1
theorem st_first {w w1 : World} (h : Below (w.alloc (.cells three.toArray 24)).heap.size (w.alloc (.cells three.toArray 24)) w1) : St w w1 :=
  ⟨(Blk.new w 24 three).below h (by simp), (((Fr.refl (fun _ => False) w).alloc _).below (Nat.le_refl _) (fun _ h => h.elim)).trans (h.mono (by simp))⟩
theorem St.next {w w1 w2 : World} (h : St w w1) (hb : Below w1.heap.size w1 w2) : St w w2 := ⟨h.1.below hb h.1.lt, h.2.trans (hb.mono h.2.size)⟩

set_option maxHeartbeats 400000 in
theorem edge2_any (n1 n2 : Int) (w : World) : Calls Ybaf.prog 9 #[.int .i64 n1, .int .i64 n2] w fun e w' => e = .returned (.string (modelR false n1 n2)) ∧ Below w.heap.size w w' := by
  have em : Hid (modelR false n1 n2 = edgeR n1 n2) := rfl
  go_enter Ybaf.func9, Ybaf.ntmps9
  go_wp2_with fail
  refine wp_loop_rounds 4 ?_
  rw [rounds_succ]
  go_wp2_with fail
  refine (one_any n1 n2 _).mono ?_
  rintro e w1 ⟨hb1, ⟨h, rfl⟩ | ⟨h, a, rfl⟩⟩
  · have er : Hid (edgeR n1 n2 = ⟨#[111, 110, 101, 45, 116, 111, 45, 111, 110, 101]⟩) := by unfold edgeR; rw [if_pos h]; exact hide rfl
    have Hb := hide (st_first hb1)
    clear h hb1
    go_wp2_with fail
    go_ret
    exact ⟨by rw [unhide em, unhide er]; rfl, (unhide Hb).2⟩
  · have Hb := hide (st_first hb1)
    have c1 : w1.cell? ⟨w.heap.size, 1, none⟩ = some (.string ⟨#[115, 112, 108, 105, 116]⟩) := by rw [(unhide Hb).1.cell]; rfl
    have Hne := hide h
    clear hb1 h
    go_wp2_with fail
    rw [rounds_succ]
    go_wp2_with fail
    refine (split_any n1 n2 _).mono ?_
    rintro e w2 ⟨hb2, ⟨hs, rfl⟩ | ⟨hs, a2, rfl⟩⟩
    · have er : Hid (edgeR n1 n2 = ⟨#[115, 112, 108, 105, 116]⟩) := by unfold edgeR; rw [if_neg (unhide Hne), if_pos hs]; exact hide rfl
      have Hb2 := hide ((unhide Hb).next hb2)
      clear hs hb2 c1
      go_wp2_with fail
      go_ret
      exact ⟨by rw [unhide em, unhide er]; rfl, (unhide Hb2).2⟩
    · have Hb2 := hide ((unhide Hb).next hb2)
      have c2 : w2.cell? ⟨w.heap.size, 2, none⟩ = some (.string ⟨#[109, 101, 114, 103, 101]⟩) := by rw [(unhide Hb2).1.cell]; rfl
      have Hns := hide hs
      clear hs hb2 c1
      go_wp2_with fail
      rw [rounds_succ]
      go_wp2_with fail
      refine (merge_any n1 n2 _).mono ?_
      rintro e w3 ⟨hb3, ⟨hm, rfl⟩ | ⟨hm, a3, rfl⟩⟩
      · have er : Hid (edgeR n1 n2 = ⟨#[109, 101, 114, 103, 101]⟩) := by unfold edgeR; rw [if_neg (unhide Hne), if_neg (unhide Hns), if_pos hm]; exact hide rfl
        have Hb3 := hide ((unhide Hb2).next hb3)
        clear hm hb3 c2
        go_wp2_with fail
        go_ret
        exact ⟨by rw [unhide em, unhide er]; rfl, (unhide Hb3).2⟩
      · have er : Hid (edgeR n1 n2 = ⟨#[]⟩) := by unfold edgeR; rw [if_neg (unhide Hne), if_neg (unhide Hns), if_neg hm]; exact hide rfl
        have Hb3 := hide ((unhide Hb2).next hb3)
        clear hm hb3 c2
        go_wp2_with fail
        rw [rounds_succ]
        go_wp2_with fail
        go_ret
        exact ⟨by rw [unhide em, unhide er]; rfl, (unhide Hb3).2⟩
end Go.Proofs.YbulkbrdwFmt
