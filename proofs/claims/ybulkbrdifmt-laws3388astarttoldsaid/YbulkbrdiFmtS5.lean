/-
  b3388aF: (*space).local.
-/
import Derived.Test.YbulkbrdiFmtS4
namespace Go.Proofs.YbulkbrdiFmt
open Go.RowKit
set_option linter.unusedVariables false
set_option linter.unusedSimpArgs false
set_option maxRecDepth 100000
set_option maxHeartbeats 2000000

/-- the stand-in core's AppendState -/
theorem appst_any (a : Option Addr) (n c : Nat) (f : Fn) (x y : Array Value) (w : World) :
    Calls Ybaf.prog 91 #[.agg #[], .slice a n c, .func f x y] w fun e w' => e = .returned (.slice a n c) ∧ Fr (fun _ => False) w w' := by
  have HF := hide ((Fr.refl (fun _ => False) w).alloc (.cells #[] 82))
  go_enter Ybaf.func91, Ybaf.ntmps91
  go_wp2_with fail
  go_ret
  exact ⟨rfl, HF.out⟩
theorem OwB.cap {w : World} {B n c : Nat} {a : Option Addr} {l : List Nat} (h : OwB w B (.slice a n c) n l) : n ≤ c := by
  rcases h.2 with ⟨e, h0⟩ | ⟨g, cap, cur, e, hb, hg, hn, _⟩
  · injection e with _ _ e; omega
  · injection e with _ _ e; omega
theorem OwB.some {w : World} {B n c : Nat} {a : Option Addr} {l : List Nat} (h : OwB w B (.slice a n c) n l) (hn : 0 < n) : ∃ g, a = some ⟨g, 0, none⟩ := by
  rcases h.2 with ⟨e, h0⟩ | ⟨g, cap, cur, e, _⟩
  · omega
  · injection e with e _ _; exact ⟨g, e⟩
/-- explore.appendLocal onto nil -/
theorem locenc_any (PT np GM i : Nat) (gl : List (ByteArray × Value)) (w : World) (hm : PermOk w PT np GM gl) (hi : i < np) :
    Calls Ybaf.prog 20 #[.slice none 0 0, .agg #[.int .i64 (i : Int), .iface 82 (.agg #[]), .slice none 0 0, .slice none 0 0], .agg #[.slice (some ⟨PT, 0, none⟩) np np, .map (some GM)]] w fun e w' => ∃ v', e = .returned v' ∧ OwB w' w.heap.size v' 3 [i, 0, 0] ∧ Fr (fun _ => False) w w' := by
  have F0 := hide (((Fr.refl (fun _ => False) w).alloc (.cells #[.int .i64 (i : Int), .iface 82 (.agg #[]), .slice none 0 0, .slice none 0 0] 62)).alloc (.cells #[.slice (some ⟨PT, 0, none⟩) np np, .map (some GM)] 75))
  have BI := hide ((Blk.new w 62 [.int .i64 (i : Int), .iface 82 (.agg #[]), .slice none 0 0, .slice none 0 0]).alloc (.cells #[.slice (some ⟨PT, 0, none⟩) np np, .map (some GM)] 75))
  have BP : Hid (Blk ((w.alloc (.cells #[.int .i64 (i : Int), .iface 82 (.agg #[]), .slice none 0 0, .slice none 0 0] 62)).alloc (.cells #[.slice (some ⟨PT, 0, none⟩) np np, .map (some GM)] 75)) (w.heap.size + 1) 75 [.slice (some ⟨PT, 0, none⟩) np np, .map (some GM)]) := by
    have := Blk.new (w.alloc (.cells #[.int .i64 (i : Int), .iface 82 (.agg #[]), .slice none 0 0, .slice none 0 0] 62)) 75 [.slice (some ⟨PT, 0, none⟩) np np, .map (some GM)]
    rw [World.size_alloc] at this; exact this
  have p0 : ((w.alloc (.cells #[.int .i64 (i : Int), .iface 82 (.agg #[]), .slice none 0 0, .slice none 0 0] 62)).alloc (.cells #[.slice (some ⟨PT, 0, none⟩) np np, .map (some GM)] 75)).cell? ⟨PT, i, none⟩ = some (.int .i64 (i : Int)) := (hm.kept (unhide F0) id id).cell hi
  have hsz : ((w.alloc (.cells #[.int .i64 (i : Int), .iface 82 (.agg #[]), .slice none 0 0, .slice none 0 0] 62)).alloc (.cells #[.slice (some ⟨PT, 0, none⟩) np np, .map (some GM)] 75)).heap.size = w.heap.size + 2 := by simp
  have C1 := hide (uv_any (w.heap.size + 2) 0 i (.slice none 0 0) [] ((w.alloc (.cells #[.int .i64 (i : Int), .iface 82 (.agg #[]), .slice none 0 0, .slice none 0 0] 62)).alloc (.cells #[.slice (some ⟨PT, 0, none⟩) np np, .map (some GM)] 75)) (by have := hm.np8; omega) (OwB.nil _ _) (by rw [hsz]; omega) (by omega))
  have ew : IntKind.u64.wrap (i : Int) = (i : Int) := by have := hm.np8; rw [IntKind.wrap_u64]; omega
  have zt : (i : Int) < (np : Int) := by omega
  have hpt : PT < w.heap.size := hm.tos.lt
  have HZ := hide hsz
  clear hm hsz
  go_enter Ybaf.func20, Ybaf.ntmps20
  go_wp2_with fail
  refine (unhide C1).mono ?_
  rintro e w2 ⟨v', rfl, ho, hf⟩
  have O2 := hide ho
  have F2 := hide hf
  have I2 := hide (hf.blk (unhide BI) (by decide))
  have Q2 := hide (hf.blk (unhide BP) (by decide))
  have g1 : w2.cell? ⟨w.heap.size, 1, none⟩ = some (.iface 82 (.agg #[])) := (unhide I2).cell 1
  have q0 : w2.cell? ⟨w.heap.size + 1, 0, none⟩ = some (.slice (some ⟨PT, 0, none⟩) np np) := (unhide Q2).cell 0
  have q1 : w2.cell? ⟨w.heap.size + 1, 1, none⟩ = some (.map (some GM)) := (unhide Q2).cell 1
  obtain ⟨va2, vc2, rfl⟩ := ho.form
  clear ho hf C1 BI BP p0
  go_wp2_with fail
  refine (appst_any _ _ _ _ _ _ _).mono ?_
  rintro e w3 ⟨rfl, hf⟩
  have O3 := hide ((unhide O2).kept hf)
  have F3 := hide ((unhide F2).trans (.of_fr hf))
  have I3 := hide ((unhide I2).kept hf id)
  have g2 : w3.cell? ⟨w.heap.size, 2, none⟩ = some (.slice none 0 0) := (unhide I3).cell 2
  have C3 := hide (uv_any (w.heap.size + 2) _ 0 _ _ w3 (by omega) (unhide O3) (by have := (unhide F3).size; rw [unhide HZ] at this; omega) (by omega))
  clear hf g1 q0 q1 O2 F2 I2 Q2
  go_wp2_with fail
  refine (unhide C3).mono ?_
  rintro e w4 ⟨v', rfl, ho, hf⟩
  have O4 := hide ho
  have F4 := hide ((unhide F3).trans hf)
  have I4 := hide (hf.blk (unhide I3) (by decide))
  have g2 : w4.cell? ⟨w.heap.size, 2, none⟩ = some (.slice none 0 0) := (unhide I4).cell 2
  have g3 : w4.cell? ⟨w.heap.size, 3, none⟩ = some (.slice none 0 0) := (unhide I4).cell 3
  obtain ⟨va4, vc4, rfl⟩ := ho.form
  have C4 := hide (uv_any (w.heap.size + 2) _ 0 _ _ w4 (by omega) (unhide O4) (by have := (unhide F4).size; rw [unhide HZ] at this; omega) (by omega))
  clear ho hf C3 O3 F3 I3
  go_wp2_with fail
  refine wp_loop_rounds 1 ?_
  rw [rounds_succ]
  go_wp2_with fail
  refine (unhide C4).mono ?_
  rintro e w5 ⟨v', rfl, ho, hf⟩
  have I5 := hide (hf.blk (unhide I4) (by decide))
  have g3 : w5.cell? ⟨w.heap.size, 3, none⟩ = some (.slice none 0 0) := (unhide I5).cell 3
  have HE : Hid (OwB w5 w.heap.size v' 3 [i, 0, 0] ∧ Fr (fun _ => False) w w5) :=
    ⟨owns_weaken ho (by omega), (unhide F0).trans (((unhide F4).trans hf).fr (by rw [unhide HZ]; omega))⟩
  obtain ⟨va5, vc5, rfl⟩ := ho.form
  obtain ⟨g5, rfl⟩ := ho.some (by omega)
  have hcap := ho.cap
  clear ho hf C4 O4 F4 I4
  go_wp2_with fail
  go_ret
  exact ⟨_, rfl, HE.out⟩
/-- (*space).local -/
theorem local_any (SP IM PB PT np GM n i : Nat) (gl l : List (ByteArray × Value)) (vs : Value) (spc xs : List Value) (w : World)
    (hto : i < np)
    (hS : SpAt w SP PB PT np GM gl spc) (c7 : spc[7]? = some (.map (some IM))) (hm : SMap w IM l) (hnum : NumV l) (hvs : spc[6]? = some vs) (hrow : w.ownsRow 0 62 4 vs n xs) (hn : n ≤ 1000000) :
    Calls Ybaf.prog 10 #[.pointer (some ⟨SP, 0, none⟩), .agg #[.int .i64 (i : Int), .iface 82 (.agg #[]), .slice none 0 0, .slice none 0 0]] w fun e w' => ∃ no : Nat, e = .returned (.int .u32 (no : Int)) ∧ Res 62 4 6 SP IM n vs l (kS [i, 0, 0]) spc xs [.int .i64 (i : Int), .iface 82 (.agg #[]), .slice none 0 0, .slice none 0 0] no w w' := by
  have hF := (Fr.refl (fun _ => False) w).alloc (.cells #[.int .i64 (i : Int), .iface 82 (.agg #[]), .slice none 0 0, .slice none 0 0] 62)
  have hFd := hF.drew
  have hsp1 := hS.sp.kept hF id
  have hpb1 := hS.pb.kept hF id
  have hbx := Blk.new w 62 [.int .i64 (i : Int), .iface 82 (.agg #[]), .slice none 0 0, .slice none 0 0]
  obtain ⟨w1, hw1⟩ : ∃ w1, w1 = w.alloc (.cells #[.int .i64 (i : Int), .iface 82 (.agg #[]), .slice none 0 0, .slice none 0 0] 62) := ⟨_, rfl⟩
  have C1 := hide (locenc_any PT np GM i gl w1.drew (by rw [hw1]; exact hS.perm.kept hFd id id) hto)
  have C2 : Hid (∀ (W : World) (v' : Value), Fr (fun _ => False) w1.drew W → OwB W w1.drew.heap.size v' 3 [i, 0, 0] → Calls Ybaf.prog 19 #[.pointer (some ⟨SP, 6, none⟩), .map (some IM), v', .agg #[.int .i64 (i : Int), .iface 82 (.agg #[]), .slice none 0 0, .slice none 0 0]] W fun e w' => ∃ no : Nat, e = .returned (.int .u32 (no : Int)) ∧ Hid (Res 62 4 6 SP IM n vs l (kS [i, 0, 0]) spc xs [.int .i64 (i : Int), .iface 82 (.agg #[]), .slice none 0 0, .slice none 0 0] no w w') ∧ w'.cell? ⟨SP, 7, none⟩ = some (.map (some IM)) ∧ w'.cell? ⟨SP, 17, none⟩ = some (.slice (some ⟨PB, 0, none⟩) 1 1) ∧ Blk w' PB 75 [.slice (some ⟨PT, 0, none⟩) np np, .map (some GM)] ∧ Blk w' w.heap.size 62 [.int .i64 (i : Int), .iface 82 (.agg #[]), .slice none 0 0, .slice none 0 0]) := fun W v' hf ho => by
    have hf1 : Fr (fun _ => False) w W := by rw [hw1] at hf; exact hFd.trans hf
    have hspW := hS.sp.kept hf1 id
    have hmW := hm.kept hf1 id
    have hrW := owns_kept hrow hf1 (fun _ _ => id)
    have hpbW := hS.pb.kept hf1 id
    have hbxW : Blk W w.heap.size 62 [.int .i64 (i : Int), .iface 82 (.agg #[]), .slice none 0 0, .slice none 0 0] := by
      rw [hw1] at hf; exact (hbx.drew).kept hf id
    refine (intern_lo SP IM w1.drew.heap.size _ n v' vs [i, 0, 0] l spc xs i W hmW hnum ho hspW hvs hrW hn).mono fun e w' ⟨no, he, hR⟩ => ⟨no, he, hR.pre hf1, ?_, ?_, ?_, ?_⟩
    · rw [hR.sp hspW (by omega), c7]
    · rw [hR.sp hspW (by omega), hS.c17]
    · exact hR.blk hpbW (hmW.ne hpbW).symm (fun e => by subst e; have := hspW.symm.trans hpbW; injection this with this; injection this with _ h2 _; cases h2) (owns_neB hrW hpbW (by decide))
    · exact hR.blk hbxW (by have := hm.lt; omega) (by have := hS.sp.lt; omega) (fun e => by have := owns_lt hrow e; omega)
  have s9 : w1.cell? ⟨SP, 7, none⟩ = some (.map (some IM)) := by rw [hw1, hsp1.cell]; exact c7
  have s17 : w1.cell? ⟨SP, 17, none⟩ = some (.slice (some ⟨PB, 0, none⟩) 1 1) := by rw [hw1, hsp1.cell]; exact hS.c17
  have p0 : w1.cell? ⟨PB, 0, none⟩ = some (.slice (some ⟨PT, 0, none⟩) np np) := by rw [hw1, hpb1.cell]; rfl
  have p1 : w1.cell? ⟨PB, 1, none⟩ = some (.map (some GM)) := by rw [hw1, hpb1.cell]; rfl
  have b0 : w1.cell? ⟨w.heap.size, 0, none⟩ = some (.int .i64 (i : Int)) := by rw [hw1, hbx.cell]; rfl
  have b1 : w1.cell? ⟨w.heap.size, 1, none⟩ = some (.iface 82 (.agg #[])) := by rw [hw1, hbx.cell]; rfl
  have b2 : w1.cell? ⟨w.heap.size, 2, none⟩ = some (.slice none 0 0) := by rw [hw1, hbx.cell]; rfl
  have b3 : w1.cell? ⟨w.heap.size, 3, none⟩ = some (.slice none 0 0) := by rw [hw1, hbx.cell]; rfl
  have HW := hide hw1
  clear hF hFd hsp1 hpb1 hbx hS c7 hm hnum hvs hrow hw1
  go_enter Ybaf.func10, Ybaf.ntmps10
  go_wp2_with fail
  rw [← unhide HW]
  go_region_held3 (fun w' => w'.cell? ⟨SP, 7, none⟩ = some (.map (some IM)) ∧ w'.cell? ⟨SP, 17, none⟩ = some (.slice (some ⟨PB, 0, none⟩) 1 1) ∧ w'.cell? ⟨PB, 0, none⟩ = some (.slice (some ⟨PT, 0, none⟩) np np) ∧ w'.cell? ⟨PB, 1, none⟩ = some (.map (some GM)) ∧ w'.cell? ⟨w.heap.size, 0, none⟩ = some (.int .i64 (i : Int)) ∧ w'.cell? ⟨w.heap.size, 1, none⟩ = some (.iface 82 (.agg #[])) ∧ w'.cell? ⟨w.heap.size, 2, none⟩ = some (.slice none 0 0) ∧ w'.cell? ⟨w.heap.size, 3, none⟩ = some (.slice none 0 0)) (go_keep)
    (first
      | (go_at_call 20; refine (unhide C1).mono ?_; rintro e w2 ⟨v2, rfl, ho, hf⟩; have HO := hide ho; have HF := hide hf; have q9 := cell_keptA hf s9; have q17 := cell_keptA hf s17; have q0 := cell_keptA hf p0; have q1 := cell_keptA hf p1; have r0 := cell_keptA hf b0; have r1 := cell_keptA hf b1; have r2 := cell_keptA hf b2; have r3 := cell_keptA hf b3; obtain ⟨va, vc, rfl⟩ := ho.form; clear ho hf)
      | (go_at_call 19; refine (unhide C2 _ _ (unhide HF) (unhide HO)).mono ?_; rintro e w3 ⟨no, rfl, HR, q9, q17, hpb, hbx⟩; have q0 := hpb.cell 0; have q1 := hpb.cell 1; have r0 := hbx.cell 0; have r1 := hbx.cell 1; have r2 := hbx.cell 2; have r3 := hbx.cell 3; clear hpb hbx))
  all_goals
    go_wp2_with fail
    go_ret
    exact ⟨no, rfl, HR.out⟩
end Go.Proofs.YbulkbrdiFmt
