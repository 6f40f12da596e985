/-
  b3389a: LawS3389CModel walked.
-/
import Derived.Test.YbulkbrdwCL0
import Derived.Test.YbulkbrdwNew1
import Derived.Test.YbulkbrdwNewBad
import Derived.BigQuiet
import Derived.Deep.RegionHeld3
namespace Go.Proofs.Ybulkbrdw
open Go.RowKit
set_option linter.unusedVariables false
set_option linter.unusedSimpArgs false
attribute [local go_sem] run_store_float

/-- the first operator without rates -/
def BadOk (nr : Nat → Bool) (k : Nat) (z : Int) : Prop := (z = -1 ∧ ∀ j, j < k → nr j = false) ∨ ∃ b : Nat, z = b ∧ b < k ∧ nr b = true ∧ ∀ j, j < b → nr j = false

theorem BadOk.kept {nr : Nat → Bool} {k : Nat} {z : Int} (h : BadOk nr k z) (hk : nr k = false) : BadOk nr (k + 1) z := by
  rcases h with ⟨h1, h2⟩ | ⟨b, h1, h2, h3, h4⟩
  · refine .inl ⟨h1, fun j hj => ?_⟩
    by_cases e : j = k
    · rw [e]; exact hk
    · exact h2 j (by omega)
  · exact .inr ⟨b, h1, by omega, h3, h4⟩
theorem C2.drew {w : World} {n : Nat} {L : Nat → Nat} {jn nr : Nat → Bool} {rt : Nat → Nat → Nat} {k : Nat} {rb : Nat → Nat} {wr : World} (h : C2 w n L jn nr rt k rb wr) : C2 w n L jn nr rt k rb wr.drew :=
  ⟨h.top, h.ops, h.rts, h.fr.drew⟩
theorem r19a {wr w2 : World} {x op : List Value} (hb : Below (wr.alloc (.cells x.toArray 38)).heap.size (wr.alloc (.cells x.toArray 38)) w2) :
    Blk (w2.alloc (.cells op.toArray 47)) wr.heap.size 38 x ∧ Blk (w2.alloc (.cells op.toArray 47)) w2.heap.size 47 op ∧ Fr (fun _ => False) wr (w2.alloc (.cells op.toArray 47)) := by
  have hx := Blk.new wr 38 x
  exact ⟨(hx.below hb hx.lt).alloc _, Blk.new w2 47 op, (((Fr.refl _ wr).alloc _).trans (Fr.of_below hb)).alloc _⟩
theorem r19b {wr w2 : World} {x op : List Value} {o : Obj} (hb : Below ((wr.alloc (.cells x.toArray 38)).alloc o).heap.size ((wr.alloc (.cells x.toArray 38)).alloc o) w2) (hG : Blk w2 (wr.heap.size + 1) 47 zop) (ho : over zop 0 op = op) :
    Blk (w2.setCells (wr.heap.size + 1) 0 op) wr.heap.size 38 x ∧ Blk (w2.setCells (wr.heap.size + 1) 0 op) (wr.heap.size + 1) 47 op ∧ Fr (fun _ => False) wr (w2.setCells (wr.heap.size + 1) 0 op) := by
  have hx := (Blk.new wr 38 x).alloc o
  refine ⟨Blk.setCells_other (by omega) _ _ (hx.below hb hx.lt), ?_, Fr.setCells (.inr (by omega)) _ _ ((((Fr.refl _ wr).alloc _).alloc _).trans (Fr.of_below hb))⟩
  have := hG.setCells op 0
  rw [ho] at this; exact this
theorem below_drew {n : Nat} {a b : World} (h : Below n a.drew b) : Below n a b := ⟨h.os, h.tape, h.output, h.size, h.block⟩
/-- the rates of one operator, i of them laid -/
def rowL (rt : Nat → Nat) (l i : Nat) : List Value := (List.range i).map (fun j => .float .f64 (fi (rt j : Nat))) ++ List.replicate (l - i) (.float .f64 0)
theorem rowL_full (rt : Nat → Nat) (l : Nat) : rowL rt l l = fl ((List.range l).map rt) := by unfold rowL fl; simp

theorem flatV_length {α : Type} (f : Nat → List α) (L : Nat → Nat) (hf : ∀ k, (f k).length = L k) : ∀ n, ((List.range n).flatMap f).length = sL L n
  | 0 => rfl
  | n + 1 => by rw [List.range_succ, List.flatMap_append, List.length_append, flatV_length f L hf n]; simp [hf]; rfl
theorem flatV_get {α : Type} (f : Nat → List α) (L : Nat → Nat) (hf : ∀ k, (f k).length = L k) : ∀ (n k i : Nat), k < n → i < L k → ((List.range n).flatMap f)[sL L k + i]? = (f k)[i]?
  | 0, k, i, hk, _ => by omega
  | n + 1, k, i, hk, hi => by
    have hl := flatV_length f L hf n
    rw [List.range_succ, List.flatMap_append]
    by_cases h : k < n
    · have h1 := sL_mono L (a := k + 1) (b := n) h
      have e : sL L (k + 1) = sL L k + L k := rfl
      rw [List.getElem?_append_left (by rw [hl]; omega)]
      exact flatV_get f L hf n k i h hi
    · obtain rfl : k = n := by omega
      rw [List.getElem?_append_right (by rw [hl]; omega), hl, Nat.add_sub_cancel_left]
      simp
theorem rAt_at (L : Nat → Nat) (rt : Nat → Nat → Nat) {n k i : Nat} (hk : k < n) (hi : i < L k) : rAt L rt n (sL L k + i) = rt k i := by
  unfold rAt
  rw [List.getD_eq_getElem?_getD]
  unfold flatN
  rw [flatV_get _ L (fun k => by simp) n k i hk hi, List.getElem?_map, List.getElem?_range hi]; rfl
theorem sL_two (L : Nat → Nat) : ∀ k, sL (fun o => L o * 2) k = sL L k * 2
  | 0 => rfl
  | k + 1 => by show sL (fun o => L o * 2) k + L k * 2 = (sL L k + L k) * 2; rw [sL_two L k]; omega
theorem tasksL_at (L : Nat → Nat) (jn : Nat → Bool) {n k i : Nat} (hk : k < n) (hi : i < L k) (y : Nat) (hy : y < 2) : (tasksL L jn n)[(sL L k + i) * 2 + y]? = [Value.bool (jn k), .slice none 0 0][y]? := by
  have h := flatV_get (fun o => tk (L o) (L o) (jn o)) (fun o => L o * 2) (fun o => tk_length _ _ _) n k (i * 2 + y) hk (by show i * 2 + y < L k * 2; omega)
  rw [sL_two] at h
  rw [show (sL L k + i) * 2 + y = sL L k * 2 + (i * 2 + y) by omega]
  refine h.trans ?_
  show (tk (L k) (L k) (jn k))[i * 2 + y]? = _
  rw [tk_get _ _ _ _ hi _ hy, if_pos hi]
/-- what the law's last loop reads at task N = sL L k + i -/
structure End (L : Nat → Nat) (jn : Nat → Bool) (rt : Nat → Nat → Nat) (rb : Nat → Nat) (M tg ct og co g c n k i N m : Nat) (wr : World) : Prop where
  m0 : wr.cell? ⟨M, 0, none⟩ = some (.slice (some ⟨tg, 0, none⟩) (sL L n) ct)
  m1 : wr.cell? ⟨M, 1, none⟩ = some (.slice (some ⟨og, 0, none⟩) (sL L n) co)
  m2 : wr.cell? ⟨M, 2, none⟩ = some (.slice (some ⟨g, 0, none⟩) (sL L n) c)
  t0 : wr.cell? ⟨tg, N * 2, none⟩ = some (.bool (jn k))
  t1 : wr.cell? ⟨tg, N * 2 + 1, none⟩ = some (.slice none 0 0)
  o0 : wr.cell? ⟨og, N, none⟩ = some (.int .i64 N)
  r0 : wr.cell? ⟨g, N, none⟩ = some (.float .f64 (rFin m (rt k i)))
  r1 : wr.cell? ⟨rb k, i, none⟩ = some (.float .f64 (floatOfInt .f64 (rt k i : Nat)))
theorem end_ok {w wr : World} {T O n : Nat} {L : Nat → Nat} {jn nr : Nat → Bool} {rb : Nat → Nat} {rt : Nat → Nat → Nat} {tg ct og co g c k i m : Nat} {w4 : World} (hT : TopOk w T O n L jn nr rb rt) (h : NewOk w L jn rt n m tg ct og co g c w4) (hf : Fr (fun _ => False) w4 wr) (hk : k < n) (hi : i < L k) (hnr : nr k = false) :
    End L jn rt rb w.heap.size tg ct og co g c n k i (sL L k + i) m wr := by
  have hm := h.m.kept hf id
  obtain ⟨t1, ht⟩ := h.tasks
  obtain ⟨t2, ho⟩ := h.outs
  obtain ⟨t3, hr⟩ := h.rates
  have ht := ht.kept hf id
  have ho := ho.kept hf id
  have hr := hr.kept hf id
  have hb := ((hT.rts k hk hnr).kept h.fr id).kept hf id
  have h1 := sL_mono L (a := k + 1) (b := n) hk
  have e : sL L (k + 1) = sL L k + L k := rfl
  have ht2 : ∀ y, y < 2 → wr.cell? ⟨tg, (sL L k + i) * 2 + y, none⟩ = [Value.bool (jn k), .slice none 0 0][y]? := fun y hy => by
    rw [ht.cell, List.getElem?_append_left (by rw [tasksL_length]; omega)]
    exact tasksL_at L jn hk hi y hy
  refine ⟨hm.cell 0, hm.cell 1, hm.cell 2, ht2 0 (by omega), ht2 1 (by omega), ?_, ?_, ?_⟩
  · rw [ho.cell, List.getElem?_append_left (by unfold ints; simp; omega)]
    unfold ints
    rw [List.getElem?_map, List.getElem?_range (by omega)]; rfl
  · rw [hr.cell, List.getElem?_append_left (by simp; omega), List.getElem?_map, List.getElem?_range (by omega)]
    simp only [Option.map_some]
    rw [rAt_at L rt hk hi]
  · rw [hb.cell]
    unfold fl
    rw [List.getElem?_map, List.getElem?_map, List.getElem?_range hi]; rfl

theorem assert53 (v : Value) (w : World) : (Instr.typeAssert (.iface 53 v) 50 53 true).run Yba.prog w = .ok (.tuple #[v, .bool true]) w := by
  simp only [Instr.typeAssert, Sem.run_bind, Sem.run_pure, run_underlying Yba.underlying53, Result.andThen_ok, if_true]

set_option maxHeartbeats 2000000 in
set_option maxRecDepth 100000 in
theorem claw (xb xo n cap : Nat) (A : Nat → Option Addr) (L C : Nat → Nat) (nr jn : Nat → Bool) (rt : Nat → Nat → Nat) (w : World) (h : ArgOk w xb xo n A L C nr jn rt) (hn0 : 0 < n) (hn : n ≤ 300) :
    Calls Yba.prog 5 #[.slice (some ⟨xb, xo, none⟩) n cap] w fun e w' => e = .returned (.bool true) ∧ Below w.heap.size w w' := by
  have hx := h.lt
  have H := hide h
  have hs : ∀ k, k ≤ n → sL L k ≤ 21110623253299200 := fun k hk => by
    have h1 := sL_mono L hk
    have h2 := sL_le (n := n) h.len
    have h3 : n * 70368744177664 ≤ 300 * 70368744177664 := Nat.mul_le_mul_right _ hn
    omega
  have HS := hide hs
  have d0 : decide ((300 : Int) < (n : Int)) = false := by simp; omega
  clear h hs
  go_enter Yba.func5, Yba.ntmps5
  go_wp2
  go_loopw [28, 3] (fun s28 s3 wr => ∃ k : Nat, s28 = .int .i64 k ∧ s3 = .int .i64 (sL L k) ∧ k ≤ n ∧ Hid (w = wr)) (fun s28 _ _ => n - (intOf s28).toNat)
  case atStart => exact ⟨0, rfl, rfl, by omega, rfl⟩
  case round =>
    obtain ⟨k, rfl, rfl, hk, hweq⟩ := hrel
    obtain rfl := unhide hweq
    by_cases hkn : k < n
    · have c0 : w.cell? ⟨xb, xo + k * 3, none⟩ = some (.slice (A k) (L k) (C k)) := (unhide H).c0 k hkn
      have hsum : sL L k + L k ≤ 21110623253299200 := unhide HS (k + 1) hkn
      have z1 : (k : Int) < (n : Int) := by omega
      go_wp2
      go_roundw
      case rel => exact ⟨k + 1, by go_num, by rw [show sL L (k + 1) = sL L k + L k from rfl]; go_num, by omega, hide trivial⟩
      case measure => simp [intOf]; omega
    · obtain rfl : n = k := by omega
      by_cases hbig : 4096 < sL L n
      · have z2 : (4096 : Int) < (sL L n : Int) := by omega
        go_wp2
        go_ret
        exact ⟨rfl, Below.refl _ _⟩
      · have z2 : decide ((4096 : Int) < (sL L n : Int)) = false := by simp; omega
        have hmk := make40 n hn
        clear hk hkn hweq
        go_wp2_with fail
        clear hmk
        go_loopw [52, 6, 7] (fun s52 s6 s7 wr => ∃ (k : Nat) (z : Int) (m : Nat), s52 = .int .i64 k ∧ s6 = .int .i64 z ∧ s7 = .int .u16 m ∧ k ≤ n ∧ m ≤ 65535 ∧ Hid (BadOk nr k z) ∧ Hid ((∀ j, j < k → nr j = false) → m = mxF (flatN L rt k)) ∧ Hid (∃ rb, C2 w n L jn nr rt k rb wr)) (fun s52 _ _ _ => n - (intOf s52).toNat)
        case atStart =>
          refine ⟨0, -1, 0, rfl, rfl, rfl, by omega, by omega, .inl ⟨rfl, fun j hj => by omega⟩, fun _ => rfl, fun _ => 0, ?_⟩
          refine ⟨(Blk.new w 42 [.string ⟨#[116]⟩, .slice (some ⟨w.heap.size + 1, 0, none⟩) n n]).alloc _, ?_, fun i hi => by omega, ((Fr.refl _ w).alloc _).alloc _⟩
          have := Blk.new (w.alloc (.cells #[.string ⟨#[116]⟩, .slice (some ⟨w.heap.size + 1, 0, none⟩) n n] 42)) 47 ((List.range n).flatMap fun _ => zop)
          rw [World.size_alloc] at this
          rw [opsL_zero]; exact this
        case round =>
          rename World => wq
          obtain ⟨k, z, m, rfl, rfl, rfl, hk, hm, HB, HM, hst⟩ := hrel
          obtain ⟨rb, h2⟩ := unhide hst
          by_cases hkn : k < n
          · have hA := (unhide H).kept h2.fr
            have c0 : wq.cell? ⟨xb, xo + k * 3, none⟩ = some (.slice (A k) (L k) (C k)) := hA.c0 k hkn
            have c1 : wq.cell? ⟨xb, xo + k * 3 + 1, none⟩ = some (.bool (nr k)) := hA.c1 k hkn
            have c2 : wq.cell? ⟨xb, xo + k * 3 + 2, none⟩ = some (.bool (jn k)) := hA.c2 k hkn
            have hxr : xb < wq.heap.size := hA.lt
            have z1 : (k : Int) < (n : Int) := by omega
            have H2 := hide h2
            clear hA h2 hst
            have HR : Hid (∀ W : World, Blk W wq.heap.size 38 [.slice (A k) (L k) (C k), .bool (nr k), .bool (jn k)] → Calls Yba.prog 7 #[.string ⟨#[97]⟩, .int .i64 (IntKind.i64.wrap ((k : Int) + 1))] W fun e w' => e = .returned (.string (nameOf (k + 1))) ∧ Below W.heap.size W w' ∧ w'.cell? ⟨wq.heap.size, 0, none⟩ = some (.slice (A k) (L k) (C k)) ∧ w'.cell? ⟨wq.heap.size, 2, none⟩ = some (.bool (jn k))) := fun W hW => by
              have := repeat_any (k + 1) W (by omega)
              rw [show IntKind.i64.wrap ((k : Int) + 1) = ((k + 1 : Nat) : Int) from by rw [IntKind.wrap_i64] <;> omega]
              refine this.mono fun e w' ⟨h1, h2⟩ => ⟨h1, h2, ?_, ?_⟩
              · rw [(hW.below h2 hW.lt).cell]; rfl
              · rw [(hW.below h2 hW.lt).cell]; rfl
            have HR2 : Hid (∀ W : World, Blk W wq.heap.size 38 [.slice (A k) (L k) (C k), .bool (nr k), .bool (jn k)] → Blk W (wq.heap.size + 1) 47 zop → Calls Yba.prog 7 #[.string ⟨#[97]⟩, .int .i64 (IntKind.i64.wrap ((k : Int) + 1))] W fun e w' => e = .returned (.string (nameOf (k + 1))) ∧ Below W.heap.size W w' ∧ w'.cell? ⟨wq.heap.size, 0, none⟩ = some (.slice (A k) (L k) (C k)) ∧ w'.cell? ⟨wq.heap.size, 2, none⟩ = some (.bool (jn k)) ∧ Hid (Blk w' (wq.heap.size + 1) 47 zop)) := fun W hW hG => by
              refine (unhide HR W hW).mono fun e w' ⟨h1, h2, h3, h4⟩ => ⟨h1, h2, h3, h4, hG.below h2 hG.lt⟩
            go_wp2_with fail
            clear c0 c1 c2
            go_cut [10] (fun s10 wd => ∃ G, s10 = .pointer (some ⟨G, 0, none⟩) ∧ wq.heap.size < G ∧ Hid (Blk wd wq.heap.size 38 [.slice (A k) (L k) (C k), .bool (nr k), .bool (jn k)] ∧ Blk wd G 47 [.string (nameOf (k + 1)), .int .i64 (L k), .slice none 0 0, .string ⟨#[]⟩, .bool (jn k), .slice none 0 0, .map none] ∧ Fr (fun _ => False) wq wd))
            case first =>
              go_region_held3 (fun w' => w'.cell? ⟨wq.heap.size, 0, none⟩ = some (.slice (A k) (L k) (C k)) ∧ w'.cell? ⟨wq.heap.size, 2, none⟩ = some (.bool (jn k))) (go_keep)
               (first
                | (go_at_call 7; refine (unhide HR2 _ (by exact (Blk.new wq 38 _).alloc _) (by have := Blk.new (wq.alloc (.cells #[.slice (A k) (L k) (C k), .bool (nr k), .bool (jn k)] 38)) 47 zop; rw [World.size_alloc] at this; exact this)).mono ?_; rintro e w2 ⟨rfl, hb2, k0, k2, HG⟩; have hl2 := World.block_lt_of_cell? w2 _ k0; have hl3 := Blk.lt (unhide HG); have g0 : w2.cell? ⟨wq.heap.size + 1, 0, none⟩ = some (.string ⟨#[]⟩) := (unhide HG).cell 0; have g1 : w2.cell? ⟨wq.heap.size + 1, 1, none⟩ = some (.int .i64 0) := (unhide HG).cell 1; have g2 : w2.cell? ⟨wq.heap.size + 1, 2, none⟩ = some (.slice none 0 0) := (unhide HG).cell 2; have g3 : w2.cell? ⟨wq.heap.size + 1, 3, none⟩ = some (.string ⟨#[]⟩) := (unhide HG).cell 3; have g4 : w2.cell? ⟨wq.heap.size + 1, 4, none⟩ = some (.bool false) := (unhide HG).cell 4; have g5 : w2.cell? ⟨wq.heap.size + 1, 5, none⟩ = some (.slice none 0 0) := (unhide HG).cell 5; have g6 : w2.cell? ⟨wq.heap.size + 1, 6, none⟩ = some (.map none) := (unhide HG).cell 6; have e0 : w2.frozen? ⟨wq.heap.size + 1, 0, none⟩ = false := (unhide HG).frozen 0; have e1 : w2.frozen? ⟨wq.heap.size + 1, 1, none⟩ = false := (unhide HG).frozen 1; have e2 : w2.frozen? ⟨wq.heap.size + 1, 2, none⟩ = false := (unhide HG).frozen 2; have e3 : w2.frozen? ⟨wq.heap.size + 1, 3, none⟩ = false := (unhide HG).frozen 3; have e4 : w2.frozen? ⟨wq.heap.size + 1, 4, none⟩ = false := (unhide HG).frozen 4; have e5 : w2.frozen? ⟨wq.heap.size + 1, 5, none⟩ = false := (unhide HG).frozen 5; have e6 : w2.frozen? ⟨wq.heap.size + 1, 6, none⟩ = false := (unhide HG).frozen 6; have Hb2 := hide hb2; clear hb2)
                | (go_at_call 7; refine (unhide HR _ (by exact Blk.new wq 38 _)).mono ?_; rintro e w2 ⟨rfl, hb2, k0, k2⟩; have hl2 := World.block_lt_of_cell? w2 _ k0; have Hb2 := hide hb2; clear hb2))
              · clear HR HR2
                have HX := hide (r19a (op := [.string (nameOf (k + 1)), .int .i64 (L k), .slice none 0 0, .string ⟨#[]⟩, .bool (jn k), .slice none 0 0, .map none]) (below_drew (unhide Hb2)))
                go_wp2_with fail
                go_meet
                case rel => exact ⟨_, rfl, hl2, HX⟩
              · clear HR HR2
                have HX := hide (r19b (op := [.string (nameOf (k + 1)), .int .i64 (L k), .slice none 0 0, .string ⟨#[]⟩, .bool (jn k), .slice none 0 0, .map none]) (below_drew (unhide Hb2)) (unhide HG) rfl)
                go_wp2_with fail
                go_meet
                case rel => exact ⟨_, rfl, by omega, HX⟩
            case rest =>
              clear HR HR2
              rename World => wv
              obtain ⟨G, rfl, hG, hwd⟩ := hcut
              obtain ⟨hB1, hG1, hF⟩ := unhide hwd
              have b0 : wv.cell? ⟨wq.heap.size, 0, none⟩ = some (.slice (A k) (L k) (C k)) := hB1.cell 0
              have b1 : wv.cell? ⟨wq.heap.size, 1, none⟩ = some (.bool (nr k)) := hB1.cell 1
              have hBl := hB1.lt
              have hGl := hG1.lt
              have HF := hide hF
              have HB1 := hide hB1
              have HG1 := hide hG1
              have hww : w.heap.size ≤ wv.heap.size := Nat.le_trans (unhide H2).fr.size hF.size
              have hw2 : w.heap.size + 2 ≤ wq.heap.size := (unhide H2).ops.lt
              clear hB1 hG1 hF hwd
              go_upto_if 69 with fail
              go_cut [6, 7] (fun s6 s7 wd => ∃ (z' : Int) (m' R : Nat), s6 = .int .i64 z' ∧ s7 = .int .u16 m' ∧ m' ≤ 65535 ∧ Hid (BadOk nr (k + 1) z') ∧ Hid ((∀ j, j < k + 1 → nr j = false) → m' = mxF (flatN L rt (k + 1))) ∧ Hid (C2 w n L jn nr rt k rb wd ∧ (nr k = false → w.heap.size + 2 ≤ R ∧ Blk wd R 27 (fl ((List.range (L k)).map (rt k)))) ∧ Blk wd G 47 (opc L jn (rvF nr (fun i => if i = k then R else rb i) L) k)))
              case first =>
                by_cases hb : nr k = true
                · have HE : Hid (∀ R, C2 w n L jn nr rt k rb wv ∧ (nr k = false → w.heap.size + 2 ≤ R ∧ Blk wv R 27 (fl ((List.range (L k)).map (rt k)))) ∧ Blk wv G 47 (opc L jn (rvF nr (fun i => if i = k then R else rb i) L) k)) := fun R =>
                    ⟨(unhide H2).kept (unhide HF), fun e => (by rw [hb] at e; cases e), by have := unhide HG1; simpa [opc, rvF, hb] using this⟩
                  have HM' : Hid ((∀ j, j < k + 1 → nr j = false) → m = mxF (flatN L rt (k + 1))) := fun e => by have := e k (by omega); rw [hb] at this; cases this
                  rcases unhide HB with ⟨hz, hall⟩ | ⟨b, hz, hbk, hnb, hmin⟩
                  · subst hz
                    have HB' : Hid (BadOk nr (k + 1) k) := .inr ⟨k, rfl, by omega, hb, hall⟩
                    clear HB hall HM
                    rw [hb]
                    go_wp2_with fail
                    go_meet
                    case rel => exact ⟨_, _, 0, rfl, rfl, hm, HB', HM', unhide HE 0⟩
                  · subst hz
                    have HB' : Hid (BadOk nr (k + 1) b) := .inr ⟨b, rfl, by omega, hnb, hmin⟩
                    have dz : decide ((b : Int) < 0) = false := by simp
                    clear HB hmin HM
                    rw [hb]
                    go_wp2_with fail
                    go_meet
                    case rel => exact ⟨_, _, 0, rfl, rfl, hm, HB', HM', unhide HE 0⟩
                · have hb' : nr k = false := by simpa using hb
                  have hLk : L k ≤ 4096 := by have := sL_mono L (a := k + 1) (b := n) (by omega); have e : sL L (k + 1) = sL L k + L k := rfl; omega
                  have hmk := fun w => run_make_row' (P := Yba.prog) 25 27 (.float .f64 0) 8 Yba.underlying25 (by kernel_rfl) rfl .i64 .i64 (L k) (by omega) (by omega) w
                  rw [made_one] at hmk
                  have HB' := hide ((unhide HB).kept hb')
                  rw [hb']
                  go_wp2_with fail
                  clear hmk b0 b1
                  have HR0 : Hid (Blk (wv.alloc (.cells (List.replicate (L k) (.float .f64 0)).toArray 27)) wv.heap.size 27 (rowL (rt k) (L k) 0)) := by
                    have := Blk.new wv 27 (List.replicate (L k) (.float .f64 0))
                    show Blk _ _ _ _
                    unfold rowL; simpa using this
                  obtain ⟨R, hR⟩ : ∃ R, wv.heap.size = R := ⟨_, rfl⟩
                  rw [hR] at HR0 hww hBl hGl ⊢
                  have HRe := hide hR
                  clear hR
                  go_loopw [80, 7] (fun s80 s7 w3 => ∃ i m3 : Nat, s80 = .int .i64 i ∧ s7 = .int .u16 m3 ∧ i ≤ L k ∧ m3 ≤ 65535 ∧ Hid ((∀ j, j < k → nr j = false) → m3 = mxF (flatN L rt k ++ (List.range i).map (rt k))) ∧ Hid (Blk w3 R 27 (rowL (rt k) (L k) i) ∧ Fr (fun _ => False) wv w3)) (fun s80 _ _ => L k - (intOf s80).toNat)
                  case atStart => exact ⟨0, m, rfl, rfl, by omega, hm, fun e => by rw [unhide HM e]; simp, HR0, (Fr.refl _ wv).alloc _⟩
                  case round =>
                    clear HR0
                    obtain ⟨i, m3, rfl, rfl, hi, hm3, HM3, hst⟩ := hrel
                    obtain ⟨hR3, hF3⟩ := unhide hst
                    have b0 : wr.cell? ⟨wq.heap.size, 0, none⟩ = some (.slice (A k) (L k) (C k)) := ((unhide HB1).kept hF3 id).cell 0
                    by_cases hiL : i < L k
                    · obtain ⟨ab, ao, hAk, hab, hc⟩ : ∃ ab ao, A k = some ⟨ab, ao, none⟩ ∧ ab < w.heap.size ∧ ∀ i, i < L k → w.cell? ⟨ab, ao + i, none⟩ = some (.int .u16 (rt k i)) := by
                        rcases (unhide H).rd k hkn with h | h
                        · omega
                        · exact h
                      rw [hAk] at b0
                      have hFw : Fr (fun _ => False) w wr := ((unhide H2).fr.trans (unhide HF)).trans hF3
                      have a0 : wr.cell? ⟨ab, ao + i, none⟩ = some (.int .u16 (rt k i)) := cell_kept hab hFw (hc i hiL)
                      have r0 : wr.cell? ⟨R, i, none⟩ = some (.float .f64 0) := by rw [hR3.cell]; exact fillG _ _ hiL
                      have f0 : wr.frozen? ⟨R, i, none⟩ = false := hR3.frozen _
                      have n1 : ab ≠ R := by omega
                      have n2 : wq.heap.size ≠ R := by omega
                      have hr := (unhide H).le k i
                      have Hn : Hid (Blk (wr.setCell ⟨R, i, none⟩ (.float .f64 (floatOfInt .f64 (rt k i : Nat)))) R 27 (rowL (rt k) (L k) (i + 1)) ∧ Fr (fun _ => False) wv (wr.setCell ⟨R, i, none⟩ (.float .f64 (floatOfInt .f64 (rt k i : Nat))))) := by
                        refine ⟨?_, hF3.setCell (.inr (by rw [unhide HRe]; exact Nat.le_refl _)) _⟩
                        have := hR3.setCell i (.float .f64 (fi (rt k i : Nat)))
                        unfold rowL at this ⊢
                        rw [fillS (fun j => .float .f64 (fi (rt k j : Nat))) _ hiL] at this
                        exact this
                      have z3 : (i : Int) < (L k : Int) := by omega
                      have hmx : Hid (∀ m4, m4 = max m3 (rt k i) → (∀ j, j < k → nr j = false) → m4 = mxF (flatN L rt k ++ (List.range (i + 1)).map (rt k))) := fun m4 h4 e => by
                        rw [List.range_succ, List.map_append, ← List.append_assoc, List.map_singleton, mxF_snoc, ← unhide HM3 e]; exact h4
                      clear hFw hc hR3 hF3 hst HM3 hAk
                      by_cases hgt : m3 < rt k i
                      · have z4 : (m3 : Int) < ((rt k i : Nat) : Int) := by omega
                        go_wp2_with fail
                        go_roundw
                        case rel => exact ⟨i + 1, rt k i, by go_num, rfl, by omega, hr, unhide hmx _ (by omega), Hn⟩
                        case measure => simp [intOf]; omega
                      · have z4 : decide ((m3 : Int) < ((rt k i : Nat) : Int)) = false := by simp; omega
                        go_wp2_with fail
                        go_roundw
                        case rel => exact ⟨i + 1, m3, by go_num, rfl, by omega, hm3, unhide hmx _ (by omega), Hn⟩
                        case measure => simp [intOf]; omega
                    · obtain rfl : L k = i := by omega
                      have g5 : wr.cell? ⟨G, 5, none⟩ = some (.slice none 0 0) := ((unhide HG1).kept hF3 id).cell 5
                      have e5 : wr.frozen? ⟨G, 5, none⟩ = false := ((unhide HG1).kept hF3 id).frozen 5
                      have HE : Hid (C2 w n L jn nr rt k rb (wr.setCell ⟨G, 5, none⟩ (.slice (some ⟨R, 0, none⟩) (L k) (L k))) ∧ (nr k = false → w.heap.size + 2 ≤ R ∧ Blk (wr.setCell ⟨G, 5, none⟩ (.slice (some ⟨R, 0, none⟩) (L k) (L k))) R 27 (fl ((List.range (L k)).map (rt k)))) ∧ Blk (wr.setCell ⟨G, 5, none⟩ (.slice (some ⟨R, 0, none⟩) (L k) (L k))) G 47 (opc L jn (rvF nr (fun i => if i = k then R else rb i) L) k)) := by
                        have hFr : Fr (fun _ => False) wq wr := (unhide HF).trans hF3
                        refine ⟨(unhide H2).kept (hFr.setCell (.inr (by show _ ≤ G; omega)) _), fun _ => ⟨by omega, ?_⟩, ?_⟩
                        · rw [rowL_full] at hR3
                          exact hR3.setCell_other (by show G ≠ R; omega) _
                        · have := ((unhide HG1).kept hF3 id).setCell 5 (.slice (some ⟨R, 0, none⟩) (L k) (L k))
                          have e : opc L jn (rvF nr (fun i => if i = k then R else rb i) L) k = [.string (nameOf (k + 1)), .int .i64 (L k), .slice none 0 0, .string ⟨#[]⟩, .bool (jn k), .slice (some ⟨R, 0, none⟩) (L k) (L k), .map none] := by simp [opc, rvF, hb']
                          rw [e]; exact this
                      have HM' : Hid ((∀ j, j < k + 1 → nr j = false) → m3 = mxF (flatN L rt (k + 1))) := fun e => by
                        rw [flatN_succ]; exact unhide HM3 (fun j hj => e j (by omega))
                      clear hR3 hF3 hst HM3
                      go_wp2_with fail
                      go_meet
                      case rel => exact ⟨_, _, R, rfl, rfl, hm3, HB', HM', HE⟩
              case rest =>
                obtain ⟨z', m', R, rfl, rfl, hm', HB', HM', hwd⟩ := hcut
                obtain ⟨h2, hR, hG5⟩ := unhide hwd
                have t1 : wc.cell? ⟨w.heap.size, 1, none⟩ = some (.slice (some ⟨w.heap.size + 1, 0, none⟩) n n) := h2.top.cell 1
                have HNx : Hid (∀ w1, w1 = wc.setCells (w.heap.size + 1) (k * 7) (opc L jn (rvF nr (fun i => if i = k then R else rb i) L) k) → ∃ rb', C2 w n L jn nr rt (k + 1) rb' w1) := fun w1 e => ⟨_, h2.next hkn R hR e⟩
                obtain ⟨va, vl, hV⟩ : ∃ va vl, rvF nr (fun i => if i = k then R else rb i) L k = .slice va vl vl := by unfold rvF; split <;> exact ⟨_, _, rfl⟩
                have hop : opc L jn (rvF nr (fun i => if i = k then R else rb i) L) k = [.string (nameOf (k + 1)), .int .i64 (L k), .slice none 0 0, .string ⟨#[]⟩, .bool (jn k), .slice va vl vl, .map none] := by rw [← hV]; rfl
                rw [hop] at hG5 HNx
                have g0 : wc.cell? ⟨G, 0, none⟩ = some (.string (nameOf (k + 1))) := hG5.cell 0
                have g1 : wc.cell? ⟨G, 1, none⟩ = some (.int .i64 (L k)) := hG5.cell 1
                have g2 : wc.cell? ⟨G, 2, none⟩ = some (.slice none 0 0) := hG5.cell 2
                have g3 : wc.cell? ⟨G, 3, none⟩ = some (.string ⟨#[]⟩) := hG5.cell 3
                have g4 : wc.cell? ⟨G, 4, none⟩ = some (.bool (jn k)) := hG5.cell 4
                have g5 : wc.cell? ⟨G, 5, none⟩ = some (.slice va vl vl) := hG5.cell 5
                have g6 : wc.cell? ⟨G, 6, none⟩ = some (.map none) := hG5.cell 6
                have cc := fun j hj => (h2.ops.cell (k * 7 + j)).trans (opsL_get L jn (rvF nr rb L) (k := k) hkn j hj)
                simp only [Nat.lt_irrefl, if_false] at cc
                have o0 : wc.cell? ⟨w.heap.size + 1, k * 7, none⟩ = some (.string ⟨#[]⟩) := cc 0 (by omega)
                have o1 : wc.cell? ⟨w.heap.size + 1, k * 7 + 1, none⟩ = some (.int .i64 0) := cc 1 (by omega)
                have o2 : wc.cell? ⟨w.heap.size + 1, k * 7 + 2, none⟩ = some (.slice none 0 0) := cc 2 (by omega)
                have o3 : wc.cell? ⟨w.heap.size + 1, k * 7 + 3, none⟩ = some (.string ⟨#[]⟩) := cc 3 (by omega)
                have o4 : wc.cell? ⟨w.heap.size + 1, k * 7 + 4, none⟩ = some (.bool false) := cc 4 (by omega)
                have o5 : wc.cell? ⟨w.heap.size + 1, k * 7 + 5, none⟩ = some (.slice none 0 0) := cc 5 (by omega)
                have o6 : wc.cell? ⟨w.heap.size + 1, k * 7 + 6, none⟩ = some (.map none) := cc 6 (by omega)
                have p0 : wc.frozen? ⟨w.heap.size + 1, k * 7, none⟩ = false := h2.ops.frozen _
                have p1 : wc.frozen? ⟨w.heap.size + 1, k * 7 + 1, none⟩ = false := h2.ops.frozen _
                have p2 : wc.frozen? ⟨w.heap.size + 1, k * 7 + 2, none⟩ = false := h2.ops.frozen _
                have p3 : wc.frozen? ⟨w.heap.size + 1, k * 7 + 3, none⟩ = false := h2.ops.frozen _
                have p4 : wc.frozen? ⟨w.heap.size + 1, k * 7 + 4, none⟩ = false := h2.ops.frozen _
                have p5 : wc.frozen? ⟨w.heap.size + 1, k * 7 + 5, none⟩ = false := h2.ops.frozen _
                have p6 : wc.frozen? ⟨w.heap.size + 1, k * 7 + 6, none⟩ = false := h2.ops.frozen _
                have n1 : w.heap.size + 1 ≠ G := by omega
                have HV := hide hV
                clear b0 b1 hwd h2 hR hG5 hop cc hV HB HM
                go_wp2_with fail
                go_region
                all_goals
                  go_wp2_with fail
                  go_roundw
                  case rel => exact ⟨k + 1, z', m', by go_num, rfl, rfl, by omega, hm', HB', HM', (unhide HNx _ rfl).imp fun _ h => h.drew⟩
                  case measure => simp [intOf]; omega
          · obtain rfl : n = k := by omega
            have hT : TopOk wq w.heap.size (w.heap.size + 1) n L jn nr rb rt := ⟨h2.top, by have := h2.ops; rw [opsL_full] at this; exact this, fun k hk hn => (h2.rts k hk hn).2⟩
            have HFw := hide h2.fr
            have hTl := h2.top.lt
            have hOl := h2.ops.lt
            clear hst h2 hkn hk
            rcases unhide HB with ⟨hz, hall⟩ | ⟨b, hz, hbn, hnb, hmin⟩
            · subst hz
              by_cases h0 : sL L n = 0
              · have hz0 : ((sL L n : Int) == 0) = true := by simp; omega
                clear HB hall HM hT
                go_wp2_with fail
                go_ret
                exact ⟨rfl, HFw.out.below (Nat.le_refl _) (fun _ h => h.elim)⟩
              · have hz0 : ((sL L n : Int) == 0) = false := by simp; omega
                have hmm := unhide HM hall
                rw [← maxTo_flat L rt n (by omega)] at hmm
                have HN := hide (new_good w.heap.size (w.heap.size + 1) n L jn nr rb rt wq hT hn (by omega) (by omega) hall (unhide H).le)
                have HT := hide hT
                have HA := hide hall
                rw [← hmm] at HN
                clear HB HM hall hmm hT
                go_wp2_with fail
                refine (unhide HN).mono ?_
                rintro e w4 ⟨rfl, tg, ct, og, co, g, c, hok⟩
                have m0 : w4.cell? ⟨wq.heap.size, 0, none⟩ = some (.slice (some ⟨tg, 0, none⟩) (sL L n) ct) := hok.m.cell 0
                have m1 : w4.cell? ⟨wq.heap.size, 1, none⟩ = some (.slice (some ⟨og, 0, none⟩) (sL L n) co) := hok.m.cell 1
                have m2 : w4.cell? ⟨wq.heap.size, 2, none⟩ = some (.slice (some ⟨g, 0, none⟩) (sL L n) c) := hok.m.cell 2
                have HK := hide hok
                clear hok HN
                go_wp2_with fail
                clear m0 m1 m2
                go_loopw [185, 17] (fun s185 s17 wr => ∃ k M : Nat, s185 = .int .i64 k ∧ s17 = .int .i64 M ∧ k ≤ n ∧ Hid (M = sL L k) ∧ Hid (Fr (fun _ => False) w4 wr)) (fun s185 _ _ => n - (intOf s185).toNat)
                case atStart => exact ⟨0, 0, rfl, rfl, by omega, rfl, Fr.refl _ _⟩
                case round =>
                  rename World => w6
                  obtain ⟨k, M, rfl, rfl, hk, HMk, HF6⟩ := hrel
                  by_cases hkn : k < n
                  · have hFw6 : Fr (fun _ => False) w w6 := ((unhide HFw).trans (unhide HK).fr).trans (unhide HF6)
                    have hA := (unhide H).kept hFw6
                    have hTk := ((unhide HT).kept (unhide HK).fr).kept (unhide HF6)
                    have c0 : w6.cell? ⟨xb, xo + k * 3, none⟩ = some (.slice (A k) (L k) (C k)) := hA.c0 k hkn
                    have c1 : w6.cell? ⟨xb, xo + k * 3 + 1, none⟩ = some (.bool (nr k)) := hA.c1 k hkn
                    have c2 : w6.cell? ⟨xb, xo + k * 3 + 2, none⟩ = some (.bool (jn k)) := hA.c2 k hkn
                    have hxr : xb < w6.heap.size := hA.lt
                    have t1 : w6.cell? ⟨w.heap.size, 1, none⟩ = some (.slice (some ⟨w.heap.size + 1, 0, none⟩) n n) := hTk.top.cell 1
                    have o5 : w6.cell? ⟨w.heap.size + 1, k * 7 + 5, none⟩ = some (.slice (some ⟨rb k, 0, none⟩) (L k) (L k)) := by rw [hTk.ops.cell hkn 5 (by omega)]; simp [opc, rvF, unhide HA k hkn]
                    have hT6 := hTk.top.lt
                    have hO6 := Blk.lt hTk.ops
                    have z1 : (k : Int) < (n : Int) := by omega
                    have hLk : L k ≤ 4096 := by have := sL_mono L (a := k + 1) (b := n) (by omega); have e : sL L (k + 1) = sL L k + L k := rfl; omega
                    clear hA hTk hFw6
                    go_wp2_with fail
                    clear c0 c1 c2 t1 o5
                    have HQ0 : Hid (Blk (w6.alloc (.cells #[.slice (A k) (L k) (C k), .bool (nr k), .bool (jn k)] 38)) w6.heap.size 38 [.slice (A k) (L k) (C k), .bool (nr k), .bool (jn k)]) := Blk.new w6 38 [.slice (A k) (L k) (C k), .bool (nr k), .bool (jn k)]
                    go_loopw [209, 17] (fun s209 s17 wr => ∃ i N : Nat, s209 = .int .i64 i ∧ s17 = .int .i64 N ∧ i ≤ L k ∧ Hid (N = sL L k + i) ∧ Hid (Blk wr w6.heap.size 38 [.slice (A k) (L k) (C k), .bool (nr k), .bool (jn k)] ∧ Fr (fun _ => False) w6 wr)) (fun s209 _ _ => L k - (intOf s209).toNat)
                    case atStart => exact ⟨0, M, rfl, rfl, by omega, unhide HMk, HQ0, (Fr.refl _ w6).alloc _⟩
                    case round =>
                      clear HQ0
                      obtain ⟨i, N, rfl, rfl, hi, HNe, hst⟩ := hrel
                      obtain ⟨hB1, hF7⟩ := unhide hst
                      by_cases hiL : i < L k
                      · have hFw : Fr (fun _ => False) w wr := (((unhide HFw).trans (unhide HK).fr).trans (unhide HF6)).trans hF7
                        obtain ⟨ab, ao, hAk, hab, hc⟩ : ∃ ab ao, A k = some ⟨ab, ao, none⟩ ∧ ab < w.heap.size ∧ ∀ i, i < L k → w.cell? ⟨ab, ao + i, none⟩ = some (.int .u16 (rt k i)) := by
                          rcases (unhide H).rd k hkn with h | h
                          · omega
                          · exact h
                        have b0 : wr.cell? ⟨w6.heap.size, 0, none⟩ = some (.slice (A k) (L k) (C k)) := hB1.cell 0
                        rw [hAk] at b0
                        have b2 : wr.cell? ⟨w6.heap.size, 2, none⟩ = some (.bool (jn k)) := hB1.cell 2
                        have a0 : wr.cell? ⟨ab, ao + i, none⟩ = some (.int .u16 (rt k i)) := cell_kept hab hFw (hc i hiL)
                        have hr := (unhide H).le k i
                        have hEnd := end_ok (i := i) (unhide HT) (unhide HK) ((unhide HF6).trans hF7) hkn hiL (unhide HA k hkn)
                        rw [← unhide HNe] at hEnd
                        obtain ⟨m0, m1, m2, t0, t1, o0, r0, r1⟩ := hEnd
                        have hN1 : N < sL L n := by have := sL_mono L (a := k + 1) (b := n) (by omega); have e : sL L (k + 1) = sL L k + L k := rfl; have := unhide HNe; omega
                        have z3 : (i : Int) < (L k : Int) := by omega
                        have z4 : (N : Int) < (sL L n : Int) := by omega
                        have ho : FloatKind.f64.format.order (floatOfInt .f64 ((rt k i : Nat) : Int)) (floatOfInt .f64 ((rt k i : Nat) : Int)) = some .eq := order_fi _
                        have HNx : Hid (N + 1 = sL L k + (i + 1)) := by have := unhide HNe; show N + 1 = _; omega
                        clear hFw hc hAk hst
                        have HB1 := hide hB1
                        have HF7 := hide hF7
                        clear hB1 hF7
                        by_cases hm0 : 0 < m
                        · have hq := qf_ok (a := rt k i) (b := m) hr hm hm0
                          have q1 : ∀ w, (binOp .quo 27 (.float .f64 (floatOfInt .f64 ((rt k i : Nat) : Int))) (.float .f64 (floatOfInt .f64 ((m : Nat) : Int)))).run Yba.prog w = .ok (.float .f64 (qf (rt k i) m)) w := fun w => run_float_arith w .quo 27 .f64 _ _ _ hq.1
                          have q2 : FloatKind.f64.format.order (qf (rt k i) m) (qf (rt k i) m) = some .eq := hq.2
                          rw [show rFin m (rt k i) = qf (rt k i) m from if_pos hm0] at r0
                          have d1 : decide ((0 : Int) < (m : Int)) = true := by simp; omega
                          clear hq
                          go_wp2_with fail
                          go_quiet (fail)
                          go_wp2_with fail
                          go_quiet (fail)
                          go_wp2_with fail
                          go_roundw
                          case rel => exact ⟨i + 1, N + 1, by go_num, by go_num, by omega, HNx, (unhide HB1), (unhide HF7).drewN _⟩
                          case measure => simp [intOf]; omega
                        · rw [show rFin m (rt k i) = floatOfInt .f64 ((rt k i : Nat) : Int) from if_neg hm0] at r0
                          have d1 : decide ((0 : Int) < (m : Int)) = false := by simp; omega
                          go_wp2_with fail
                          go_quiet (fail)
                          go_wp2_with fail
                          go_quiet (fail)
                          go_wp2_with fail
                          go_roundw
                          case rel => exact ⟨i + 1, N + 1, by go_num, by go_num, by omega, HNx, (unhide HB1), (unhide HF7).drewN _⟩
                          case measure => simp [intOf]; omega
                      · obtain rfl : L k = i := by omega
                        have HFx := hide ((unhide HF6).trans hF7)
                        clear hB1 hF7 hst
                        go_wp2_with fail
                        go_roundw
                        case rel => exact ⟨k + 1, N, by go_num, rfl, by omega, unhide HNe, HFx⟩
                        case measure => simp [intOf]; omega
                  · obtain rfl : n = k := by omega
                    have HE := hide (((unhide HFw).trans (unhide HK).fr).trans (unhide HF6))
                    go_wp2_with fail
                    go_ret
                    exact ⟨rfl, HE.out.below (Nat.le_refl _) (fun _ h => h.elim)⟩
            · subst hz
              have dz : decide ((b : Int) < 0) = false := by simp
              have dz2 : decide ((0 : Int) ≤ (b : Int)) = true := by simp
              have HN := hide (new_bad w.heap.size (w.heap.size + 1) n b L jn nr rb rt wq hT hn (by omega) hbn hnb hmin)
              clear HB HM hT hmin
              go_wp2_with fail
              refine (unhide HN).mono ?_
              rintro e w4 ⟨E, mm, rfl, hE, hF4⟩
              have e0 : w4.cell? ⟨E, 0, none⟩ = some (.string (nameOf (b + 1))) := hE.cell 0
              have HF4 := hide ((unhide HFw).trans hF4)
              have hta := fun w => assert53 (.pointer (some ⟨E, 0, none⟩)) w
              have HR : Hid (∀ W : World, W.cell? ⟨E, 0, none⟩ = some (.string (nameOf (b + 1))) → Calls Yba.prog 7 #[.string ⟨#[97]⟩, .int .i64 (IntKind.i64.wrap ((b : Int) + 1))] W fun e w' => e = .returned (.string (nameOf (b + 1))) ∧ Below W.heap.size W w' ∧ w'.cell? ⟨E, 0, none⟩ = some (.string (nameOf (b + 1)))) := fun W hW => by
                have := repeat_any (b + 1) W (by omega)
                rw [show IntKind.i64.wrap ((b : Int) + 1) = ((b + 1 : Nat) : Int) from by rw [IntKind.wrap_i64] <;> omega]
                exact this.mono fun e w' ⟨h1, h2⟩ => ⟨h1, h2, (h2.cell (World.block_lt_of_cell? W _ hW)).trans hW⟩
              clear hE hF4 HN
              go_wp2_with fail
              clear hta
              go_region_held3 (fun w' => w'.cell? ⟨E, 0, none⟩ = some (.string (nameOf (b + 1)))) (go_keep)
               (first
                | (go_at_call 7; refine (unhide HR _ (by assumption)).mono ?_; rintro e w5 ⟨rfl, hb5, k0⟩; have Hb5 := hide hb5; clear hb5))
              all_goals
                have HE := hide ((unhide HF4).trans (Fr.of_below (below_drew (unhide Hb5))))
                go_wp2_with fail
                go_ret
                exact ⟨rfl, HE.out.below (Nat.le_refl _) (fun _ h => h.elim)⟩
end Go.Proofs.Ybulkbrdw
