/-
  b3388aF: the encodings of an item: rename, the flags, a proposal, an item.
-/
import Derived.Test.YbulkbrdiFmtSm
namespace Go.Proofs.YbulkbrdiFmt
open Go.RowKit
set_option linter.unusedVariables false
set_option linter.unusedSimpArgs false
set_option maxRecDepth 100000
set_option maxHeartbeats 2000000

theorem zero9 (w : World) : (zeroValue 9).run Ybaf.prog w = .ok (.string ⟨#[]⟩) w := by kernel_rfl
/-- what the groups' map gives -/
def ren (gl : List (ByteArray × Value)) (s r : ByteArray) : Prop := slook gl s = some (.string r) ∨ (slook gl s = none ∧ r = ⟨#[]⟩)
theorem ren_run {w : World} {GM : Nat} {gl : List (ByteArray × Value)} {s r : ByteArray} (h : SMap w GM gl) (hr : ren gl s r) : (Instr.lookup 72 (.map (some GM)) (.string s) false).run Ybaf.prog w = .ok (.string r) w := by
  rcases hr with h1 | ⟨h1, rfl⟩
  · exact slook_run Ybaf.underlying72 h h1 false
  · exact slook_miss Ybaf.underlying72 zero9 h h1 false
/-- permutation.rename -/
theorem ren_any (GM : Nat) (a : Option Addr) (n c : Nat) (gl : List (ByteArray × Value)) (s r : ByteArray) (w : World) (h : SMap w GM gl) (hr : ren gl s r) :
    Calls Ybaf.prog 38 #[.agg #[.slice a n c, .map (some GM)], .string s] w fun e w' => e = .returned (.string r) ∧ Fr (fun _ => False) w w' := by
  have hlk := ren_run (h.kept ((Fr.refl (fun _ => False) w).alloc (.cells #[.slice a n c, .map (some GM)] 75)) id) hr
  clear h hr
  go_enter Ybaf.func38, Ybaf.ntmps38
  go_wp2_with fail
  go_ret
  exact ⟨rfl, (Fr.refl _ w).alloc _⟩
theorem run_func_nil (f : Fn) (a b : Array Value) (w : World) : (binOp .eql 140 (.func f a b) .nilFunc).run Ybaf.prog w = .ok (.bool false) w := by
  first | kernel_rfl | rfl | (simp [binOp, run_underlying Ybaf.underlying140]; done) | (simp [binOp, run_underlying Ybaf.underlying140])
/-- Rename.of -/
theorem of_any (GM : Nat) (a : Option Addr) (n c : Nat) (gl : List (ByteArray × Value)) (s r : ByteArray) (w : World) (h : SMap w GM gl) (hr : ren gl s r) :
    Calls Ybaf.prog 52 #[.func (.func 38) #[.agg #[.slice a n c, .map (some GM)]] #[], .string s] w fun e w' => e = .returned (.string r) ∧ Fr (fun _ => False) w w' := by
  have HC := hide (ren_any GM a n c gl s r w h hr)
  have hnf := run_func_nil (.func 38) #[.agg #[.slice a n c, .map (some GM)]] #[]
  clear h hr
  go_enter Ybaf.func52, Ybaf.ntmps52
  go_wp2_with fail
  refine (unhide HC).mono ?_
  rintro e w2 ⟨rfl, h2⟩
  have HF := hide h2
  clear h2 HC
  go_wp2_with fail
  go_ret
  exact ⟨rfl, HF.out⟩
/-- protocol.appendBools of three false ones -/
theorem bools_any (B n g : Nat) (v : Value) (l : List Nat) (w : World) (h : OwB w B v n l) (hB : B ≤ w.heap.size) (hl : n ≤ 1000) (hg : Blk w g 4 [.bool false, .bool false, .bool false]) :
    Calls Ybaf.prog 53 #[v, .slice (some ⟨g, 0, none⟩) 3 3] w fun e w' => ∃ v', e = .returned v' ∧ OwB w' B v' (n + 1) (l ++ [0]) ∧ FrB B w w' := by
  obtain ⟨i5, hi5, hz5, hs5, hb5⟩ := info5
  obtain ⟨a, c, rfl⟩ := h.form
  have hown := hide (h.kept ((Fr.refl (fun _ => False) w).alloc (.cells #[.int .u8 0] 5)))
  have HB := hide hB
  have H := hide h
  have k0 : w.cell? ⟨g, 0, none⟩ = some (.bool false) := hg.cell 0
  have k1 : w.cell? ⟨g, 1, none⟩ = some (.bool false) := hg.cell 1
  have k2 : w.cell? ⟨g, 2, none⟩ = some (.bool false) := hg.cell 2
  clear h hg
  go_enter Ybaf.func53, Ybaf.ntmps53
  go_wp2_with fail
  refine wp_loop_rounds 4 ?_
  rw [rounds_succ]
  go_wp2_with fail
  rw [rounds_succ]
  go_wp2_with fail
  rw [rounds_succ]
  go_wp2_with fail
  rw [rounds_succ]
  go_wp2_with (at_builtin; refine wpList_append_own_at _ (by rfl) _ _ _ (by rfl) B 5 i5 (.int .u8 0) 1 1 Ybaf.underlying23 hi5 hz5 hs5 hb5 rfl (by omega) (.slice a n c) n (bV l) (by rfl) hown.out ⟨w.heap.size, 0, none⟩ 1 1 [.int .u8 0] (by rfl) (by rfl) (cell_one_new _ _ _) (by simp [Value.oneCell']) (by unfold maxLen; omega) (by omega) (by rw [World.size_alloc]; omega) ?_; intro v' w1 hown1 hgrow hnil hat; have HO := hide ((unhide H).put (x := 0) hown1 hgrow); obtain ⟨a', c', rfl⟩ := owns_slice hown1; clear hown1 hgrow hnil hat)
  go_ret
  exact ⟨_, rfl, HO.out⟩

/-- Proposal.AppendTo of a proposal of two names -/
theorem prop_any (B n k1 k2 GM : Nat) (a : Option Addr) (tn tc : Nat) (gl : List (ByteArray × Value)) (s1 s2 r : ByteArray) (m1 m2 : List Nat) (v : Value) (l : List Nat) (w : World)
    (h1 : Lib.strCells s1 = bV m1) (hk1 : s1.size = k1) (hl1 : k1 ≤ 1) (h2 : Lib.strCells r = bV m2) (hk2 : r.size = k2) (hl2 : k2 ≤ 1) (hm : SMap w GM gl) (hr : ren gl s2 r)
    (h : OwB w B v n l) (hB : B ≤ w.heap.size) (hl : n ≤ 100) :
    Calls Ybaf.prog 37 #[.agg #[.string s1, .string s2, .int .u64 0, .bool false, .bool false, .int .u64 0, .pointer none], v, .func (.func 38) #[.agg #[.slice a tn tc, .map (some GM)]] #[]] w fun e w' => ∃ v', e = .returned v' ∧ OwB w' B v' (n + 1 + k1 + 1 + k2 + 3) (l ++ [k1] ++ m1 ++ [k2] ++ m2 ++ [0] ++ [0] ++ [0]) ∧ FrB B w w' := by
  have F0 := hide ((Fr.refl (fun _ => False) w).alloc (.cells #[.string s1, .string s2, .int .u64 0, .bool false, .bool false, .int .u64 0, .pointer none] 46))
  have B0 := hide (Blk.new w 46 [.string s1, .string s2, .int .u64 0, .bool false, .bool false, .int .u64 0, .pointer none])
  have M0 := hide (hm.kept (unhide F0) id)
  have HR := hide hr
  have H2 := hide h2
  have HK2 := hide hk2
  have HB := hide hB
  have C1 := hide (str_any B n k1 v l m1 s1 (w.alloc (.cells #[.string s1, .string s2, .int .u64 0, .bool false, .bool false, .int .u64 0, .pointer none] 46)) h1 hk1 hl1 (h.kept (unhide F0)) (Nat.le_trans hB (unhide F0).size) (by omega))
  obtain ⟨va, vc, rfl⟩ := h.form
  clear h hm hr h1 h2 hk1 hk2 hB
  go_enter Ybaf.func37, Ybaf.ntmps37
  go_wp2_with fail
  refine (unhide C1).mono ?_
  rintro e w2 ⟨v', rfl, ho, hf⟩
  have O2 := hide ho
  have F2 : Hid (FrB B w w2) := (FrB.of_fr (unhide F0)).trans hf
  have B2 := hide (hf.blk (unhide B0) (by decide))
  have M2 := hide ((unhide M0).keptB hf)
  have g1 : w2.cell? ⟨w.heap.size, 1, none⟩ = some (.string s2) := (unhide B2).cell 1
  obtain ⟨va2, vc2, rfl⟩ := ho.form
  have C2 := hide (of_any GM a tn tc gl s2 r w2 (unhide M2) (unhide HR))
  clear ho hf C1 B0 M0 HR
  go_wp2_with fail
  refine (unhide C2).mono ?_
  rintro e w3 ⟨rfl, hf⟩
  have O3 := hide ((unhide O2).kept hf)
  have F3 : Hid (FrB B w w3) := (unhide F2).trans (.of_fr hf)
  have B3 := hide ((unhide B2).kept hf id)
  have C3 := hide (str_any B _ k2 _ _ m2 r w3 (unhide H2) (unhide HK2) hl2 (unhide O3) (Nat.le_trans (unhide HB) (unhide F3).size) (by omega))
  clear hf C2 O2 B2 M2 F2 g1
  go_wp2_with fail
  refine (unhide C3).mono ?_
  rintro e w4 ⟨v', rfl, ho, hf⟩
  have O4 := hide ho
  have F4 : Hid (FrB B w w4) := (unhide F3).trans hf
  have B4 := hide (hf.blk (unhide B3) (by decide))
  have g2 : w4.cell? ⟨w.heap.size, 2, none⟩ = some (.int .u64 0) := (unhide B4).cell 2
  obtain ⟨va3, vc3, rfl⟩ := ho.form
  have C4 := hide (uv_any B _ 0 _ _ w4 (by omega) (unhide O4) (Nat.le_trans (unhide HB) (unhide F4).size) (by omega))
  clear ho hf C3 O3 B3 F3
  go_wp2_with fail
  refine (unhide C4).mono ?_
  rintro e w5 ⟨v', rfl, ho, hf⟩
  have O5 := hide ho
  have F5 : Hid (FrB B w w5) := (unhide F4).trans hf
  have B5 := hide (hf.blk (unhide B4) (by decide))
  have g5 : w5.cell? ⟨w.heap.size, 5, none⟩ = some (.int .u64 0) := (unhide B5).cell 5
  obtain ⟨va4, vc4, rfl⟩ := ho.form
  have C5 := hide (uv_any B _ 0 _ _ w5 (by omega) (unhide O5) (Nat.le_trans (unhide HB) (unhide F5).size) (by omega))
  clear ho hf C4 O4 B4 F4 g2
  go_wp2_with fail
  refine (unhide C5).mono ?_
  rintro e w6 ⟨v', rfl, ho, hf⟩
  have O6 := hide ho
  have F6 : Hid (FrB B w w6) := (unhide F5).trans hf
  have B6 := hide (hf.blk (unhide B5) (by decide))
  have g3 : w6.cell? ⟨w.heap.size, 3, none⟩ = some (.bool false) := (unhide B6).cell 3
  have g4 : w6.cell? ⟨w.heap.size, 4, none⟩ = some (.bool false) := (unhide B6).cell 4
  have g6 : w6.cell? ⟨w.heap.size, 6, none⟩ = some (.pointer none) := (unhide B6).cell 6
  obtain ⟨va5, vc5, rfl⟩ := ho.form
  have hf6 := (Fr.refl (fun _ => False) w6).alloc (.cells #[.bool false, .bool false, .bool false] 4)
  have B7 := hide ((unhide B6).alloc (.cells #[.bool false, .bool false, .bool false] 4))
  have C6 := hide (bools_any B _ w6.heap.size _ _ (w6.alloc (.cells #[.bool false, .bool false, .bool false] 4)) ((unhide O6).kept hf6) (Nat.le_trans (Nat.le_trans (unhide HB) (unhide F6).size) hf6.size) (by omega) (Blk.new w6 4 [.bool false, .bool false, .bool false]))
  clear ho hf C5 O5 B5 F5 g5 hf6
  go_wp2_with fail
  refine (unhide C6).mono ?_
  rintro e w7 ⟨v', rfl, ho, hf⟩
  have HE : Hid (OwB w7 B v' (n + 1 + k1 + 1 + k2 + 3) (l ++ [k1] ++ m1 ++ [k2] ++ m2 ++ [0] ++ [0] ++ [0]) ∧ FrB B w w7) := ⟨ho, ((unhide F6).alloc _).trans hf⟩
  have g6 : w7.cell? ⟨w.heap.size, 6, none⟩ = some (.pointer none) := (hf.blk (unhide B7) (by decide)).cell 6
  obtain ⟨va6, vc6, rfl⟩ := ho.form
  clear ho hf C6 O6 B6 F6 B7
  go_wp2_with fail
  go_ret
  exact ⟨_, rfl, HE.out⟩

/-- what is known of the permutation in hand -/
structure PermOk (w : World) (PT np GM : Nat) (gl : List (ByteArray × Value)) : Prop where
  np8 : np ≤ 8
  tos : Blk w PT 3 ((List.range np).map fun (i : Nat) => .int .i64 (i : Int))
  groups : SMap w GM gl
theorem PermOk.kept {w w' : World} {PT np GM : Nat} {gl : List (ByteArray × Value)} (h : PermOk w PT np GM gl) {S : Nat → Prop} (hf : Fr S w w') (h1 : ¬ S PT) (h2 : ¬ S GM) : PermOk w' PT np GM gl := ⟨h.np8, h.tos.kept hf h1, h.groups.kept hf h2⟩
theorem PermOk.keptB {w w' : World} {PT np GM B : Nat} {gl : List (ByteArray × Value)} (h : PermOk w PT np GM gl) (hf : FrB B w w') : PermOk w' PT np GM gl := ⟨h.np8, hf.blk h.tos (by decide), h.groups.keptB hf⟩
theorem PermOk.cell {w : World} {PT np GM : Nat} {gl : List (ByteArray × Value)} (h : PermOk w PT np GM gl) {i : Nat} (hi : i < np) : w.cell? ⟨PT, i, none⟩ = some (.int .i64 (i : Int)) := by
  rw [h.tos.cell, List.getElem?_map, List.getElem?_range hi]; rfl
/-- the byte of a submit index -/
def subB (sb : Int) : Nat := if sb < 0 then 1 else 2 * sb.toNat
/-- encoding/binary.AppendVarint at an item's index -/
theorem var_any (B n : Nat) (sb : Int) (v : Value) (l : List Nat) (w : World) (hs : sb = -1 ∨ ∃ j : Nat, sb = j ∧ j < 64) (h : OwB w B v n l) (hB : B ≤ w.heap.size) (hl : n ≤ 1000) :
    Calls Ybaf.prog 36 #[v, .int .i64 sb] w fun e w' => ∃ v', e = .returned v' ∧ OwB w' B v' (n + 1) (l ++ [subB sb]) ∧ FrB B w w' := by
  rcases hs with rfl | ⟨j, rfl, hj⟩
  · exact var_neg B n v l w h hB hl
  · have : subB (j : Int) = 2 * j := by unfold subB; rw [if_neg (by omega)]; simp
    rw [this]
    exact var_pos B n j v l w hj h hB hl
/-- explore.appendItem onto nil -/
theorem itenc_any (k1 k2 PT np GM td : Nat) (sb : Int) (gl : List (ByteArray × Value)) (s1 s2 r : ByteArray) (m1 m2 : List Nat) (w : World)
    (h1 : Lib.strCells s1 = bV m1) (hk1 : s1.size = k1) (hl1 : k1 ≤ 1) (h2 : Lib.strCells r = bV m2) (hk2 : r.size = k2) (hl2 : k2 ≤ 1) (hm : PermOk w PT np GM gl) (hr : ren gl s2 r)
    (hto : td < np) (hs : sb = -1 ∨ ∃ j : Nat, sb = j ∧ j < 64) :
    Calls Ybaf.prog 16 #[.slice none 0 0, .agg #[.int .i64 (td : Int), .int .i64 sb, .string s1, .string s2, .int .u64 0, .bool false, .bool false, .int .u64 0, .pointer none], .agg #[.slice (some ⟨PT, 0, none⟩) np np, .map (some GM)]] w fun e w' => ∃ v', e = .returned v' ∧ OwB w' w.heap.size v' (2 + 1 + k1 + 1 + k2 + 3) ([td] ++ [subB sb] ++ [k1] ++ m1 ++ [k2] ++ m2 ++ [0] ++ [0] ++ [0]) ∧ Fr (fun _ => False) w w' := by
  have F0 := hide (((Fr.refl (fun _ => False) w).alloc (.cells #[.int .i64 (td : Int), .int .i64 sb, .string s1, .string s2, .int .u64 0, .bool false, .bool false, .int .u64 0, .pointer none] 48)).alloc (.cells #[.slice (some ⟨PT, 0, none⟩) np np, .map (some GM)] 75))
  have BI := hide ((Blk.new w 48 [.int .i64 (td : Int), .int .i64 sb, .string s1, .string s2, .int .u64 0, .bool false, .bool false, .int .u64 0, .pointer none]).alloc (.cells #[.slice (some ⟨PT, 0, none⟩) np np, .map (some GM)] 75))
  have BP : Hid (Blk ((w.alloc (.cells #[.int .i64 (td : Int), .int .i64 sb, .string s1, .string s2, .int .u64 0, .bool false, .bool false, .int .u64 0, .pointer none] 48)).alloc (.cells #[.slice (some ⟨PT, 0, none⟩) np np, .map (some GM)] 75)) (w.heap.size + 1) 75 [.slice (some ⟨PT, 0, none⟩) np np, .map (some GM)]) := by
    have := Blk.new (w.alloc (.cells #[.int .i64 (td : Int), .int .i64 sb, .string s1, .string s2, .int .u64 0, .bool false, .bool false, .int .u64 0, .pointer none] 48)) 75 [.slice (some ⟨PT, 0, none⟩) np np, .map (some GM)]
    rw [World.size_alloc] at this; exact this
  have P0 := hide (hm.kept (unhide F0) id id)
  have p0 : ((w.alloc (.cells #[.int .i64 (td : Int), .int .i64 sb, .string s1, .string s2, .int .u64 0, .bool false, .bool false, .int .u64 0, .pointer none] 48)).alloc (.cells #[.slice (some ⟨PT, 0, none⟩) np np, .map (some GM)] 75)).cell? ⟨PT, td, none⟩ = some (.int .i64 (td : Int)) := (unhide P0).cell hto
  have hsz : ((w.alloc (.cells #[.int .i64 (td : Int), .int .i64 sb, .string s1, .string s2, .int .u64 0, .bool false, .bool false, .int .u64 0, .pointer none] 48)).alloc (.cells #[.slice (some ⟨PT, 0, none⟩) np np, .map (some GM)] 75)).heap.size = w.heap.size + 2 := by simp
  have C1 := hide (uv_any (w.heap.size + 2) 0 td (.slice none 0 0) [] ((w.alloc (.cells #[.int .i64 (td : Int), .int .i64 sb, .string s1, .string s2, .int .u64 0, .bool false, .bool false, .int .u64 0, .pointer none] 48)).alloc (.cells #[.slice (some ⟨PT, 0, none⟩) np np, .map (some GM)] 75)) (by have := hm.np8; omega) (OwB.nil _ _) (by rw [hsz]; omega) (by omega))
  have ew : IntKind.u64.wrap (td : Int) = (td : Int) := by have := hm.np8; rw [IntKind.wrap_u64]; omega
  have zt : (td : Int) < (np : Int) := by omega
  have hpt : PT < w.heap.size := hm.tos.lt
  have HR := hide hr
  have H1 := hide h1
  have HK1 := hide hk1
  have H2 := hide h2
  have HK2 := hide hk2
  have HS := hide hs
  have HZ := hide hsz
  clear hm hr h1 h2 hk1 hk2 hs hsz
  go_enter Ybaf.func16, Ybaf.ntmps16
  go_wp2_with fail
  refine (unhide C1).mono ?_
  rintro e w2 ⟨v', rfl, ho, hf⟩
  have O2 := hide ho
  have F2 := hide hf
  have I2 := hide (hf.blk (unhide BI) (by decide))
  have Q2 := hide (hf.blk (unhide BP) (by decide))
  have P2 := hide ((unhide P0).keptB hf)
  have g1 : w2.cell? ⟨w.heap.size, 1, none⟩ = some (.int .i64 sb) := (unhide I2).cell 1
  obtain ⟨va2, vc2, rfl⟩ := ho.form
  have C2 := hide (var_any (w.heap.size + 2) _ sb _ _ w2 (unhide HS) (unhide O2) (by have := hf.size; rw [unhide HZ] at this; omega) (by omega))
  clear ho hf C1 BI BP P0 p0
  go_wp2_with fail
  refine (unhide C2).mono ?_
  rintro e w3 ⟨v', rfl, ho, hf⟩
  have O3 := hide ho
  have F3 := hide ((unhide F2).trans hf)
  have I3 := hide (hf.blk (unhide I2) (by decide))
  have Q3 := hide (hf.blk (unhide Q2) (by decide))
  have P3 := hide ((unhide P2).keptB hf)
  have g2 : w3.cell? ⟨w.heap.size, 2, none⟩ = some (.string s1) := (unhide I3).cell 2
  have g3 : w3.cell? ⟨w.heap.size, 3, none⟩ = some (.string s2) := (unhide I3).cell 3
  have g4 : w3.cell? ⟨w.heap.size, 4, none⟩ = some (.int .u64 0) := (unhide I3).cell 4
  have g5 : w3.cell? ⟨w.heap.size, 5, none⟩ = some (.bool false) := (unhide I3).cell 5
  have g6 : w3.cell? ⟨w.heap.size, 6, none⟩ = some (.bool false) := (unhide I3).cell 6
  have g7 : w3.cell? ⟨w.heap.size, 7, none⟩ = some (.int .u64 0) := (unhide I3).cell 7
  have g8 : w3.cell? ⟨w.heap.size, 8, none⟩ = some (.pointer none) := (unhide I3).cell 8
  have q0 : w3.cell? ⟨w.heap.size + 1, 0, none⟩ = some (.slice (some ⟨PT, 0, none⟩) np np) := (unhide Q3).cell 0
  have q1 : w3.cell? ⟨w.heap.size + 1, 1, none⟩ = some (.map (some GM)) := (unhide Q3).cell 1
  obtain ⟨va3, vc3, rfl⟩ := ho.form
  have C3 := hide (prop_any (w.heap.size + 2) _ k1 k2 GM (some ⟨PT, 0, none⟩) np np gl s1 s2 r m1 m2 _ _ w3 (unhide H1) (unhide HK1) hl1 (unhide H2) (unhide HK2) hl2 (unhide P3).groups (unhide HR) (unhide O3) (by have := (unhide F3).size; rw [unhide HZ] at this; omega) (by omega))
  clear ho hf C2 O2 I2 Q2 P2 g1 F2
  go_wp2_with fail
  refine (unhide C3).mono ?_
  rintro e w4 ⟨v', rfl, ho, hf⟩
  have HE : Hid (OwB w4 w.heap.size v' (2 + 1 + k1 + 1 + k2 + 3) ([td] ++ [subB sb] ++ [k1] ++ m1 ++ [k2] ++ m2 ++ [0] ++ [0] ++ [0]) ∧ Fr (fun _ => False) w w4) :=
    ⟨owns_weaken ho (by omega), (unhide F0).trans (((unhide F3).trans hf).fr (by rw [unhide HZ]; omega))⟩
  obtain ⟨va4, vc4, rfl⟩ := ho.form
  clear ho hf C3 O3 I3 Q3 P3
  go_wp2_with fail
  go_ret
  exact ⟨_, rfl, HE.out⟩
end Go.Proofs.YbulkbrdiFmt
