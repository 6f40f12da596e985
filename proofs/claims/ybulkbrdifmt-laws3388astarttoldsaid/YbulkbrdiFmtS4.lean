/-
  b3388aF: intern as one contract; (*space).item.
-/
import Derived.Test.YbulkbrdiFmtS3
import Derived.Deep.RegionHeld3
namespace Go.Proofs.YbulkbrdiFmt
open Go.RowKit
set_option linter.unusedVariables false
set_option linter.unusedSimpArgs false
set_option maxRecDepth 100000
set_option maxHeartbeats 2000000

/-- what a call of intern has done: nothing, or one row is longer -/
def Res (e size off SP IM n : Nat) (vs : Value) (l : List (ByteArray × Value)) (key : ByteArray) (spc xs news : List Value) (no : Nat) (w w' : World) : Prop :=
  (slook l key = some (.int .u32 (no : Int)) ∧ Fr (fun _ => False) w w') ∨
  (slook l key = none ∧ no = n ∧ ∃ g cap, SMap w' IM (l ++ [(key, .int .u32 (n : Int))]) ∧ Blk w' SP 42 (spc.set off (.slice (some ⟨g, 0, none⟩) (n + 1) cap)) ∧ w'.ownsRow 0 e size (.slice (some ⟨g, 0, none⟩) (n + 1) cap) (n + 1) (xs ++ news) ∧ (vs.ownBlock = some g ∨ w.heap.size ≤ g) ∧ Fr (fun k => k = IM ∨ k = SP ∨ vs.ownBlock = some k) w w')
section
variable {e size off SP IM n no : Nat} {vs : Value} {l : List (ByteArray × Value)} {key : ByteArray} {spc xs news : List Value} {w w' w'' : World}
theorem Res.fr (h : Res e size off SP IM n vs l key spc xs news no w w') : Fr (fun k => k = IM ∨ k = SP ∨ vs.ownBlock = some k) w w' := by
  rcases h with ⟨_, h⟩ | ⟨_, _, g, cap, _, _, _, _, h⟩
  · exact h.mono (fun _ _ h => h.elim)
  · exact h
theorem Res.pre (h : Res e size off SP IM n vs l key spc xs news no w' w'') (hf : Fr (fun _ => False) w w') : Res e size off SP IM n vs l key spc xs news no w w'' := by
  rcases h with ⟨h1, h⟩ | ⟨h1, h2, g, cap, h3, h4, h5, h6, h⟩
  · exact .inl ⟨h1, hf.trans h⟩
  · refine .inr ⟨h1, h2, g, cap, h3, h4, h5, ?_, (hf.mono (fun _ _ h => h.elim)).trans h⟩
    rcases h6 with h6 | h6
    · exact .inl h6
    · exact .inr (Nat.le_trans hf.size h6)
theorem Res.post (h : Res e size off SP IM n vs l key spc xs news no w w') (hf : Fr (fun _ => False) w' w'') : Res e size off SP IM n vs l key spc xs news no w w'' := by
  rcases h with ⟨h1, h⟩ | ⟨h1, h2, g, cap, h3, h4, h5, h6, h⟩
  · exact .inl ⟨h1, h.trans hf⟩
  · exact .inr ⟨h1, h2, g, cap, h3.kept hf id, h4.kept hf id, owns_kept h5 hf (fun _ _ => id), h6, h.trans (hf.mono (fun _ _ h => h.elim))⟩
theorem Res.sp (h : Res e size off SP IM n vs l key spc xs news no w w') (hsp : Blk w SP 42 spc) {j : Nat} (hj : j ≠ off) : w'.cell? ⟨SP, j, none⟩ = spc[j]? := by
  rcases h with ⟨_, h⟩ | ⟨_, _, g, cap, _, hb, _, _, h⟩
  · exact (hsp.kept h id).cell j
  · rw [hb.cell, List.getElem?_set_ne (fun e => hj e.symm)]
theorem Res.blk (h : Res e size off SP IM n vs l key spc xs news no w w') {g e' : Nat} {c : List Value} (hb : Blk w g e' c) (h1 : g ≠ IM) (h2 : g ≠ SP) (h3 : vs.ownBlock ≠ some g) : Blk w' g e' c :=
  hb.kept h.fr (fun h4 => by rcases h4 with h4 | h4 | h4; exact h1 h4; exact h2 h4; exact h3 h4)
end
/-- every value of the table is a number -/
def NumV (l : List (ByteArray × Value)) : Prop := ∀ k v, slook l k = some v → ∃ no : Nat, v = .int .u32 (no : Int)
theorem intern_it (SP IM B nk n : Nat) (vk vs : Value) (kl : List Nat) (l : List (ByteArray × Value)) (spc xs : List Value) (td : Nat) (sb : Int) (s1 s2 : ByteArray) (w : World)
    (hm : SMap w IM l) (hnum : NumV l) (ho : OwB w B vk nk kl) (hsp : Blk w SP 42 spc) (hvs : spc[8]? = some vs) (hrow : w.ownsRow 0 48 9 vs n xs) (hn : n ≤ 1000000) :
    Calls Ybaf.prog 15 #[.pointer (some ⟨SP, 8, none⟩), .map (some IM), vk, .agg #[.int .i64 (td : Int), .int .i64 sb, .string s1, .string s2, .int .u64 0, .bool false, .bool false, .int .u64 0, .pointer none]] w fun e w' => ∃ no : Nat, e = .returned (.int .u32 (no : Int)) ∧ Res 48 9 8 SP IM n vs l (kS kl) spc xs [.int .i64 (td : Int), .int .i64 sb, .string s1, .string s2, .int .u64 0, .bool false, .bool false, .int .u64 0, .pointer none] no w w' := by
  cases hk : slook l (kS kl) with
  | some v =>
    obtain ⟨no, rfl⟩ := hnum _ _ hk
    exact (intern_hit_it SP IM B nk no vk kl l td sb s1 s2 w hm hk ho).mono fun e w' ⟨h1, h2⟩ => ⟨no, h1, .inl ⟨hk, h2⟩⟩
  | none => exact (intern_new_it SP IM B nk n vk vs kl l spc xs td sb s1 s2 w hm hk ho hsp hvs hrow hn).mono fun e w' ⟨h1, h2⟩ => ⟨n, h1, .inr ⟨hk, rfl, h2⟩⟩
theorem intern_lo (SP IM B nk n : Nat) (vk vs : Value) (kl : List Nat) (l : List (ByteArray × Value)) (spc xs : List Value) (i : Nat) (w : World)
    (hm : SMap w IM l) (hnum : NumV l) (ho : OwB w B vk nk kl) (hsp : Blk w SP 42 spc) (hvs : spc[6]? = some vs) (hrow : w.ownsRow 0 62 4 vs n xs) (hn : n ≤ 1000000) :
    Calls Ybaf.prog 19 #[.pointer (some ⟨SP, 6, none⟩), .map (some IM), vk, .agg #[.int .i64 (i : Int), .iface 82 (.agg #[]), .slice none 0 0, .slice none 0 0]] w fun e w' => ∃ no : Nat, e = .returned (.int .u32 (no : Int)) ∧ Res 62 4 6 SP IM n vs l (kS kl) spc xs [.int .i64 (i : Int), .iface 82 (.agg #[]), .slice none 0 0, .slice none 0 0] no w w' := by
  cases hk : slook l (kS kl) with
  | some v =>
    obtain ⟨no, rfl⟩ := hnum _ _ hk
    exact (intern_hit_lo SP IM B nk no vk kl l i w hm hk ho).mono fun e w' ⟨h1, h2⟩ => ⟨no, h1, .inl ⟨hk, h2⟩⟩
  | none => exact (intern_new_lo SP IM B nk n vk vs kl l spc xs i w hm hk ho hsp hvs hrow hn).mono fun e w' ⟨h1, h2⟩ => ⟨n, h1, .inr ⟨hk, rfl, h2⟩⟩
theorem intern_co (SP IM B nk n : Nat) (vk vs : Value) (kl : List Nat) (l : List (ByteArray × Value)) (spc xs : List Value) (lo bn bc : Nat) (ba : Option Addr) (w : World)
    (hm : SMap w IM l) (hnum : NumV l) (ho : OwB w B vk nk kl) (hsp : Blk w SP 42 spc) (hvs : spc[10]? = some vs) (hrow : w.ownsRow 0 64 6 vs n xs) (hn : n ≤ 1000000) :
    Calls Ybaf.prog 18 #[.pointer (some ⟨SP, 10, none⟩), .map (some IM), vk, .agg #[.int .u32 (lo : Int), .slice ba bn bc, .int .u64 0, .int .i32 0, .int .i32 0, .bool false]] w fun e w' => ∃ no : Nat, e = .returned (.int .u32 (no : Int)) ∧ Res 64 6 10 SP IM n vs l (kS kl) spc xs [.int .u32 (lo : Int), .slice ba bn bc, .int .u64 0, .int .i32 0, .int .i32 0, .bool false] no w w' := by
  cases hk : slook l (kS kl) with
  | some v =>
    obtain ⟨no, rfl⟩ := hnum _ _ hk
    exact (intern_hit_co SP IM B nk no vk kl l lo bn bc ba w hm hk ho).mono fun e w' ⟨h1, h2⟩ => ⟨no, h1, .inl ⟨hk, h2⟩⟩
  | none => exact (intern_new_co SP IM B nk n vk vs kl l spc xs lo bn bc ba w hm hk ho hsp hvs hrow hn).mono fun e w' ⟨h1, h2⟩ => ⟨n, h1, .inr ⟨hk, rfl, h2⟩⟩
/-- an item's bytes -/
def itKey (td : Nat) (sb : Int) (k1 : Nat) (m1 : List Nat) (k2 : Nat) (m2 : List Nat) : List Nat := [td] ++ [subB sb] ++ [k1] ++ m1 ++ [k2] ++ m2 ++ [0] ++ [0] ++ [0]
/-- what the space's own object and its one permutation hold -/
structure SpAt (w : World) (SP PB PT np GM : Nat) (gl : List (ByteArray × Value)) (spc : List Value) : Prop where
  sp : Blk w SP 42 spc
  c17 : spc[17]? = some (.slice (some ⟨PB, 0, none⟩) 1 1)
  pb : Blk w PB 75 [.slice (some ⟨PT, 0, none⟩) np np, .map (some GM)]
  perm : PermOk w PT np GM gl
theorem cell_keptA {w w' : World} {g j : Nat} {v : Value} (hf : Fr (fun _ => False) w w') (hc : w.cell? ⟨g, j, none⟩ = some v) : w'.cell? ⟨g, j, none⟩ = some v := by
  have hg : g < w.heap.size := by
    rcases Nat.lt_or_ge g w.heap.size with h | h
    · exact h
    · simp [World.cell?, Array.getElem?_eq_none h] at hc
  exact cell_kept hg hf id hc
/-- (*space).item -/
theorem item_any (SP IM PB PT np GM n k1 k2 td : Nat) (sb : Int) (gl l : List (ByteArray × Value)) (s1 s2 r : ByteArray) (m1 m2 : List Nat) (vs : Value) (spc xs : List Value) (w : World)
    (h1 : Lib.strCells s1 = bV m1) (hk1 : s1.size = k1) (hl1 : k1 ≤ 1) (h2 : Lib.strCells r = bV m2) (hk2 : r.size = k2) (hl2 : k2 ≤ 1) (hr : ren gl s2 r) (hto : td < np) (hs : sb = -1 ∨ ∃ j : Nat, sb = j ∧ j < 64)
    (hS : SpAt w SP PB PT np GM gl spc) (c9 : spc[9]? = some (.map (some IM))) (hm : SMap w IM l) (hnum : NumV l) (hvs : spc[8]? = some vs) (hrow : w.ownsRow 0 48 9 vs n xs) (hn : n ≤ 1000000) :
    Calls Ybaf.prog 8 #[.pointer (some ⟨SP, 0, none⟩), .agg #[.int .i64 (td : Int), .int .i64 sb, .string s1, .string s2, .int .u64 0, .bool false, .bool false, .int .u64 0, .pointer none]] w fun e w' => ∃ no : Nat, e = .returned (.int .u32 (no : Int)) ∧ Res 48 9 8 SP IM n vs l (kS (itKey td sb k1 m1 k2 m2)) spc xs [.int .i64 (td : Int), .int .i64 sb, .string s1, .string s2, .int .u64 0, .bool false, .bool false, .int .u64 0, .pointer none] no w w' := by
  have hF := (Fr.refl (fun _ => False) w).alloc (.cells #[.int .i64 (td : Int), .int .i64 sb, .string s1, .string s2, .int .u64 0, .bool false, .bool false, .int .u64 0, .pointer none] 48)
  have hFd := hF.drew
  have hsp1 := hS.sp.kept hF id
  have hpb1 := hS.pb.kept hF id
  have hbx := Blk.new w 48 [.int .i64 (td : Int), .int .i64 sb, .string s1, .string s2, .int .u64 0, .bool false, .bool false, .int .u64 0, .pointer none]
  obtain ⟨w1, hw1⟩ : ∃ w1, w1 = w.alloc (.cells #[.int .i64 (td : Int), .int .i64 sb, .string s1, .string s2, .int .u64 0, .bool false, .bool false, .int .u64 0, .pointer none] 48) := ⟨_, rfl⟩
  have C1 := hide (itenc_any k1 k2 PT np GM td sb gl s1 s2 r m1 m2 w1.drew h1 hk1 hl1 h2 hk2 hl2 (by rw [hw1]; exact hS.perm.kept hFd id id) hr hto hs)
  have C2 : Hid (∀ (W : World) (v' : Value), Fr (fun _ => False) w1.drew W → OwB W w1.drew.heap.size v' (2 + 1 + k1 + 1 + k2 + 3) (itKey td sb k1 m1 k2 m2) → Calls Ybaf.prog 15 #[.pointer (some ⟨SP, 8, none⟩), .map (some IM), v', .agg #[.int .i64 (td : Int), .int .i64 sb, .string s1, .string s2, .int .u64 0, .bool false, .bool false, .int .u64 0, .pointer none]] W fun e w' => ∃ no : Nat, e = .returned (.int .u32 (no : Int)) ∧ Hid (Res 48 9 8 SP IM n vs l (kS (itKey td sb k1 m1 k2 m2)) spc xs [.int .i64 (td : Int), .int .i64 sb, .string s1, .string s2, .int .u64 0, .bool false, .bool false, .int .u64 0, .pointer none] no w w') ∧ w'.cell? ⟨SP, 9, none⟩ = some (.map (some IM)) ∧ w'.cell? ⟨SP, 17, none⟩ = some (.slice (some ⟨PB, 0, none⟩) 1 1) ∧ Blk w' PB 75 [.slice (some ⟨PT, 0, none⟩) np np, .map (some GM)] ∧ Blk w' w.heap.size 48 [.int .i64 (td : Int), .int .i64 sb, .string s1, .string s2, .int .u64 0, .bool false, .bool false, .int .u64 0, .pointer none]) := fun W v' hf ho => by
    have hf1 : Fr (fun _ => False) w W := by rw [hw1] at hf; exact hFd.trans hf
    have hspW := hS.sp.kept hf1 id
    have hmW := hm.kept hf1 id
    have hrW := owns_kept hrow hf1 (fun _ _ => id)
    have hpbW := hS.pb.kept hf1 id
    have hbxW : Blk W w.heap.size 48 [.int .i64 (td : Int), .int .i64 sb, .string s1, .string s2, .int .u64 0, .bool false, .bool false, .int .u64 0, .pointer none] := by
      rw [hw1] at hf; exact (hbx.drew).kept hf id
    refine (intern_it SP IM w1.drew.heap.size _ n v' vs (itKey td sb k1 m1 k2 m2) l spc xs td sb s1 s2 W hmW hnum ho hspW hvs hrW hn).mono fun e w' ⟨no, he, hR⟩ => ⟨no, he, hR.pre hf1, ?_, ?_, ?_, ?_⟩
    · rw [hR.sp hspW (by omega), c9]
    · rw [hR.sp hspW (by omega), hS.c17]
    · exact hR.blk hpbW (hmW.ne hpbW).symm (fun e => by subst e; have := hspW.symm.trans hpbW; injection this with this; injection this with _ h2 _; cases h2) (owns_neB hrW hpbW (by decide))
    · exact hR.blk hbxW (by have := hm.lt; omega) (by have := hS.sp.lt; omega) (fun e => by have := owns_lt hrow e; omega)
  have s9 : w1.cell? ⟨SP, 9, none⟩ = some (.map (some IM)) := by rw [hw1, hsp1.cell]; exact c9
  have s17 : w1.cell? ⟨SP, 17, none⟩ = some (.slice (some ⟨PB, 0, none⟩) 1 1) := by rw [hw1, hsp1.cell]; exact hS.c17
  have p0 : w1.cell? ⟨PB, 0, none⟩ = some (.slice (some ⟨PT, 0, none⟩) np np) := by rw [hw1, hpb1.cell]; rfl
  have p1 : w1.cell? ⟨PB, 1, none⟩ = some (.map (some GM)) := by rw [hw1, hpb1.cell]; rfl
  have b0 : w1.cell? ⟨w.heap.size, 0, none⟩ = some (.int .i64 (td : Int)) := by rw [hw1, hbx.cell]; rfl
  have b1 : w1.cell? ⟨w.heap.size, 1, none⟩ = some (.int .i64 sb) := by rw [hw1, hbx.cell]; rfl
  have b2 : w1.cell? ⟨w.heap.size, 2, none⟩ = some (.string s1) := by rw [hw1, hbx.cell]; rfl
  have b3 : w1.cell? ⟨w.heap.size, 3, none⟩ = some (.string s2) := by rw [hw1, hbx.cell]; rfl
  have b4 : w1.cell? ⟨w.heap.size, 4, none⟩ = some (.int .u64 0) := by rw [hw1, hbx.cell]; rfl
  have b5 : w1.cell? ⟨w.heap.size, 5, none⟩ = some (.bool false) := by rw [hw1, hbx.cell]; rfl
  have b6 : w1.cell? ⟨w.heap.size, 6, none⟩ = some (.bool false) := by rw [hw1, hbx.cell]; rfl
  have b7 : w1.cell? ⟨w.heap.size, 7, none⟩ = some (.int .u64 0) := by rw [hw1, hbx.cell]; rfl
  have b8 : w1.cell? ⟨w.heap.size, 8, none⟩ = some (.pointer none) := by rw [hw1, hbx.cell]; rfl
  have HW := hide hw1
  clear hF hFd hsp1 hpb1 hbx hS c9 hm hnum hvs hrow hs hr h1 h2 hk1 hk2 hw1
  go_enter Ybaf.func8, Ybaf.ntmps8
  go_wp2_with fail
  rw [← unhide HW]
  go_region_held3 (fun w' => w'.cell? ⟨SP, 9, none⟩ = some (.map (some IM)) ∧ w'.cell? ⟨SP, 17, none⟩ = some (.slice (some ⟨PB, 0, none⟩) 1 1) ∧ w'.cell? ⟨PB, 0, none⟩ = some (.slice (some ⟨PT, 0, none⟩) np np) ∧ w'.cell? ⟨PB, 1, none⟩ = some (.map (some GM)) ∧ w'.cell? ⟨w.heap.size, 0, none⟩ = some (.int .i64 (td : Int)) ∧ w'.cell? ⟨w.heap.size, 1, none⟩ = some (.int .i64 sb) ∧ w'.cell? ⟨w.heap.size, 2, none⟩ = some (.string s1) ∧ w'.cell? ⟨w.heap.size, 3, none⟩ = some (.string s2) ∧ w'.cell? ⟨w.heap.size, 4, none⟩ = some (.int .u64 0) ∧ w'.cell? ⟨w.heap.size, 5, none⟩ = some (.bool false) ∧ w'.cell? ⟨w.heap.size, 6, none⟩ = some (.bool false) ∧ w'.cell? ⟨w.heap.size, 7, none⟩ = some (.int .u64 0) ∧ w'.cell? ⟨w.heap.size, 8, none⟩ = some (.pointer none)) (go_keep)
    (first
      | (go_at_call 16; refine (unhide C1).mono ?_; rintro e w2 ⟨v2, rfl, ho, hf⟩; have HO := hide ho; have HF := hide hf; have q9 := cell_keptA hf s9; have q17 := cell_keptA hf s17; have q0 := cell_keptA hf p0; have q1 := cell_keptA hf p1; have r0 := cell_keptA hf b0; have r1 := cell_keptA hf b1; have r2 := cell_keptA hf b2; have r3 := cell_keptA hf b3; have r4 := cell_keptA hf b4; have r5 := cell_keptA hf b5; have r6 := cell_keptA hf b6; have r7 := cell_keptA hf b7; have r8 := cell_keptA hf b8; obtain ⟨va, vc, rfl⟩ := ho.form; clear ho hf)
      | (go_at_call 15; refine (unhide C2 _ _ (unhide HF) (unhide HO)).mono ?_; rintro e w3 ⟨no, rfl, HR, q9, q17, hpb, hbx⟩; have q0 := hpb.cell 0; have q1 := hpb.cell 1; have r0 := hbx.cell 0; have r1 := hbx.cell 1; have r2 := hbx.cell 2; have r3 := hbx.cell 3; have r4 := hbx.cell 4; have r5 := hbx.cell 5; have r6 := hbx.cell 6; have r7 := hbx.cell 7; have r8 := hbx.cell 8; clear hpb hbx))
  all_goals
    go_wp2_with fail
    go_ret
    exact ⟨no, rfl, HR.out⟩
end Go.Proofs.YbulkbrdiFmt
