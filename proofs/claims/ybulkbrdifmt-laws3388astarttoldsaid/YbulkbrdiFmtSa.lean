/-
  b3388aF: the stand-in core's Submit.
-/
import Derived.Test.YbulkbrdiFmtS9
namespace Go.Proofs.YbulkbrdiFmt
open Go.RowKit
set_option linter.unusedVariables false
set_option linter.unusedSimpArgs false
set_option maxRecDepth 100000
set_option maxHeartbeats 2000000

/-- a proposal to process d -/
def sendRow (s : ByteArray) (d : Nat) : List Value := [.string (nm d), .string s, .string (nm d), .int .u64 0, .bool false, .bool false, .int .u64 0, .pointer none]
/-- the processes of a mask below n -/
def bitsOf (m n : Nat) : List Nat := (List.range n).filter (fun d => m.testBit d)
theorem bitsOf_succ (m n : Nat) : bitsOf m (n + 1) = bitsOf m n ++ (if m.testBit n then [n] else []) := by
  unfold bitsOf
  rw [List.range_succ, List.filter_append]
  by_cases h : m.testBit n <;> simp [h]
theorem info139 : ∃ i, Ybaf.prog.info? 139 = some i ∧ i.zero = some (.agg #[.string ⟨#[]⟩, .string ⟨#[]⟩, .string ⟨#[]⟩, .int .u64 0, .bool false, .bool false, .int .u64 0, .pointer none]) ∧ i.size = 8 ∧ i.bytes = 80 := info_parts (P := Ybaf.prog) (e := 139) (z := .agg #[.string ⟨#[]⟩, .string ⟨#[]⟩, .string ⟨#[]⟩, .int .u64 0, .bool false, .bool false, .int .u64 0, .pointer none]) (size := 8) (bytes := 80) (by kernel_rfl)
theorem and_u8 (a b : Nat) (ha : a < 256) (hb : b < 256) : bits .and .u8 (a : Int) (b : Int) = ((a &&& b : Nat) : Int) := by
  have h : ∀ x : Nat, x < 256 → (BitVec.ofInt 8 (x : Int)).toNat = x := fun x hx => by
    rw [BitVec.ofInt_natCast, BitVec.toNat_ofNat]; exact Nat.mod_eq_of_lt (by omega)
  have hle : a &&& b ≤ a := Nat.and_le_left
  show IntKind.u8.wrap (((BitVec.ofInt 8 (a : Int)) &&& BitVec.ofInt 8 (b : Int)).toNat : Int) = _
  rw [BitVec.toNat_and, h a ha, h b hb, IntKind.wrap_u8] <;> omega
theorem bit_u8 (m d : Nat) (hm : m < 256) : (bits .and .u8 ((m : Int) / 2 ^ d) 1 == 1) = m.testBit d := by
  have h1 : ((m : Int) / 2 ^ d) = ((m / 2 ^ d : Nat) : Int) := by simp
  have h2 : m / 2 ^ d < 256 := Nat.lt_of_le_of_lt (Nat.div_le_self _ _) hm
  rw [h1, show (1 : Int) = ((1 : Nat) : Int) from rfl, and_u8 _ 1 h2 (by omega), Nat.and_one_is_mod, Nat.testBit_eq_decide_div_mod_eq]
  by_cases h : m / 2 ^ d % 2 = 1
  · rw [h]; simp
  · rw [show m / 2 ^ d % 2 = 0 by omega]; simp
/-- in the run of Submit -/
structure Sub (w : World) (pb m d k : Nat) (s : ByteArray) (v : Value) (wr : World) : Prop where
  own : wr.ownsRow w.heap.size 139 8 v k ((bitsOf m d).flatMap (sendRow s))
  len : k = (bitsOf m d).length
  box : Blk wr (w.heap.size + 1) 77 [.string s, .slice none 0 0, .slice none 0 0, .slice (some ⟨pb, 0, none⟩) 2 2]
  res : Blk wr (w.heap.size + 1 + 1) 130 [.slice none 0 0, .slice none 0 0, .slice none 0 0, .slice none 0 0]
  out : Blk wr (w.heap.size + 1 + 1 + 1) 130 [.slice none 0 0, v, .slice none 0 0, .slice none 0 0]
  fr : Fr (fun _ => False) w wr
theorem Sub.skip {w wr : World} {pb m d k : Nat} {s : ByteArray} {v : Value} (h : Sub w pb m d k s v wr) (hb : m.testBit d = false) : Sub w pb m (d + 1) k s v wr := by
  have e : bitsOf m (d + 1) = bitsOf m d := by rw [bitsOf_succ, hb]; simp
  exact ⟨by rw [e]; exact h.own, by rw [e]; exact h.len, h.box, h.res, h.out, h.fr⟩
theorem Sub.put {w wr W w1 : World} {pb m d k g cap : Nat} {s : ByteArray} {v : Value} (h : Sub w pb m d k s v wr) (hb : m.testBit d = true) (hF : Fr (fun _ => False) wr W) (hgrow : W.grownBy w1 v.ownBlock)
    (hown : w1.ownsRow w.heap.size 139 8 (.slice (some ⟨g, 0, none⟩) (k + 1) cap) (k + 1) ((bitsOf m d).flatMap (sendRow s) ++ [.string (nm d), .string s, .string (nm d), .int .u64 0, .bool false, .bool false, .int .u64 0, .pointer none])) :
    w1.cell? ⟨w.heap.size + 1 + 1 + 1, 1, none⟩ = some v ∧ w1.frozen? ⟨w.heap.size + 1 + 1 + 1, 1, none⟩ = false ∧ Hid (Sub w pb m (d + 1) (k + 1) s (.slice (some ⟨g, 0, none⟩) (k + 1) cap) (w1.setCell ⟨w.heap.size + 1 + 1 + 1, 1, none⟩ (.slice (some ⟨g, 0, none⟩) (k + 1) cap))) := by
  have e : bitsOf m (d + 1) = bitsOf m d ++ [d] := by rw [bitsOf_succ, hb]; simp
  have hF1 : Fr (fun j => v.ownBlock = some j) wr w1 := (hF.mono (fun _ _ h => h.elim)).grown hgrow (fun k hk => .inl hk)
  have b1 := h.box.kept hF1 (owns_neB h.own h.box (by decide))
  have b2 := h.res.kept hF1 (owns_neB h.own h.res (by decide))
  have b3 := h.out.kept hF1 (owns_neB h.own h.out (by decide))
  have hF2 : Fr (· = w.heap.size + 1 + 1 + 1) w1 (w1.setCell ⟨w.heap.size + 1 + 1 + 1, 1, none⟩ (.slice (some ⟨g, 0, none⟩) (k + 1) cap)) := (Fr.refl (· = w.heap.size + 1 + 1 + 1) w1).setCell (p := ⟨w.heap.size + 1 + 1 + 1, 1, none⟩) (.inl rfl) _
  refine ⟨b3.cell 1, b3.frozen 1, ?_, ?_, b1.kept hF2 (by omega), b2.kept hF2 (by omega), b3.setCell 1 _, ?_⟩
  · rw [e, List.flatMap_append]
    have : [d].flatMap (sendRow s) = sendRow s d := by simp
    rw [this]
    refine owns_kept hown hF2 (fun k h1 h2 => ?_)
    subst h2
    exact owns_neB hown b3 (by decide) h1
  · rw [e]; simp; exact h.len
  · have h3 : Fr (fun _ => False) w w1 := ⟨hF1.os.trans h.fr.os, hF1.tape.trans h.fr.tape, hF1.output.trans h.fr.output, Nat.le_trans h.fr.size hF1.size, fun j hj _ => (hF1.block j (Nat.lt_of_lt_of_le hj h.fr.size) (fun hv => by have := owns_base h.own j hv; omega)).trans (h.fr.block j hj id)⟩
    exact h3.setCell (.inr (show w.heap.size ≤ w.heap.size + 1 + 1 + 1 by omega)) _
/-- the stand-in core's Submit -/
theorem submit_any (pb m np : Nat) (s : ByteArray) (w : World) (hp0 : w.cell? ⟨pb, 0, none⟩ = some (.int .u8 (m : Int))) (hp1 : w.cell? ⟨pb, 1, none⟩ = some (.int .u8 (np : Int))) (hm : m < 256) (hnp : np ≤ 8) :
    Calls Ybaf.prog 95 #[.agg #[], .agg #[.string s, .slice none 0 0, .slice none 0 0, .slice (some ⟨pb, 0, none⟩) 2 2]] w fun e w' => ∃ (v : Value) (k : Nat), e = .returned (.tuple #[.agg #[.slice none 0 0, v, .slice none 0 0, .slice none 0 0], .nilIface]) ∧ w'.ownsRow w.heap.size 139 8 v k ((bitsOf m np).flatMap (sendRow s)) ∧ k = (bitsOf m np).length ∧ Fr (fun _ => False) w w' := by
  obtain ⟨i139, hi, hz, hs, hby⟩ := info139
  have hpl := lt_of_cell hp0
  have hF := ((((Fr.refl (fun _ => False) w).alloc (.cells #[] 82)).alloc (.cells #[.string s, .slice none 0 0, .slice none 0 0, .slice (some ⟨pb, 0, none⟩) 2 2] 77)).alloc (.cells #[.slice none 0 0, .slice none 0 0, .slice none 0 0, .slice none 0 0] 130)).alloc (.cells #[.slice none 0 0, .slice none 0 0, .slice none 0 0, .slice none 0 0] 130)
  have q0 : ((((w.alloc (.cells #[] 82)).alloc (.cells #[.string s, .slice none 0 0, .slice none 0 0, .slice (some ⟨pb, 0, none⟩) 2 2] 77)).alloc (.cells #[.slice none 0 0, .slice none 0 0, .slice none 0 0, .slice none 0 0] 130)).alloc (.cells #[.slice none 0 0, .slice none 0 0, .slice none 0 0, .slice none 0 0] 130)).cell? ⟨pb, 0, none⟩ = some (.int .u8 (m : Int)) := cell_keptA hF hp0
  have q1 : ((((w.alloc (.cells #[] 82)).alloc (.cells #[.string s, .slice none 0 0, .slice none 0 0, .slice (some ⟨pb, 0, none⟩) 2 2] 77)).alloc (.cells #[.slice none 0 0, .slice none 0 0, .slice none 0 0, .slice none 0 0] 130)).alloc (.cells #[.slice none 0 0, .slice none 0 0, .slice none 0 0, .slice none 0 0] 130)).cell? ⟨pb, 1, none⟩ = some (.int .u8 (np : Int)) := cell_keptA hF hp1
  have H0 : Hid (Sub w pb m 0 0 s (.slice none 0 0) ((((w.alloc (.cells #[] 82)).alloc (.cells #[.string s, .slice none 0 0, .slice none 0 0, .slice (some ⟨pb, 0, none⟩) 2 2] 77)).alloc (.cells #[.slice none 0 0, .slice none 0 0, .slice none 0 0, .slice none 0 0] 130)).alloc (.cells #[.slice none 0 0, .slice none 0 0, .slice none 0 0, .slice none 0 0] 130))) := by
    refine ⟨owns_nil _ _ _ _, rfl, ?_, ?_, ?_, hF⟩
    · have := ((Blk.new (w.alloc (.cells #[] 82)) 77 [.string s, .slice none 0 0, .slice none 0 0, .slice (some ⟨pb, 0, none⟩) 2 2]).alloc (.cells #[.slice none 0 0, .slice none 0 0, .slice none 0 0, .slice none 0 0] 130)).alloc (.cells #[.slice none 0 0, .slice none 0 0, .slice none 0 0, .slice none 0 0] 130)
      rw [World.size_alloc] at this; exact this
    · have := (Blk.new ((w.alloc (.cells #[] 82)).alloc (.cells #[.string s, .slice none 0 0, .slice none 0 0, .slice (some ⟨pb, 0, none⟩) 2 2] 77)) 130 [.slice none 0 0, .slice none 0 0, .slice none 0 0, .slice none 0 0]).alloc (.cells #[.slice none 0 0, .slice none 0 0, .slice none 0 0, .slice none 0 0] 130)
      rw [World.size_alloc, World.size_alloc] at this; exact this
    · have := Blk.new (((w.alloc (.cells #[] 82)).alloc (.cells #[.string s, .slice none 0 0, .slice none 0 0, .slice (some ⟨pb, 0, none⟩) 2 2] 77)).alloc (.cells #[.slice none 0 0, .slice none 0 0, .slice none 0 0, .slice none 0 0] 130)) 130 [.slice none 0 0, .slice none 0 0, .slice none 0 0, .slice none 0 0]
      rw [World.size_alloc, World.size_alloc, World.size_alloc] at this; exact this
  clear hp0 hp1 hF
  go_enter Ybaf.func95, Ybaf.ntmps95
  go_wp2_with fail
  clear q0 q1
  go_loopw [9] (fun s9 wr => ∃ (d k : Nat) (v : Value), s9 = .int .i64 d ∧ d ≤ np ∧ Hid (Sub w pb m d k s v wr)) (fun s9 _ => np - (intOf s9).toNat)
  case atStart => exact ⟨0, 0, _, rfl, by omega, H0⟩
  case round =>
    clear H0
    obtain ⟨d, k, v, rfl, hd, hst⟩ := hrel
    by_cases hdn : d < np
    · have z1 : (d : Int) < (np : Int) := by omega
      have z2 : (d : Int) < 8 := by omega
      have ew : IntKind.u64.wrap (d : Int) = (d : Int) := by rw [IntKind.wrap_u64]; omega
      have hbit := bit_u8 m d hm
      by_cases hb : m.testBit d = true
      · rw [hb] at hbit
        obtain ⟨va, vc, hv⟩ := owns_slice (unhide hst).own
        subst hv
        have hk8 : k ≤ 8 := by
          rw [(unhide hst).len]
          unfold bitsOf
          have := List.length_filter_le (fun d => m.testBit d) (List.range d)
          rw [List.length_range] at this
          omega
        have o1 : wr.cell? ⟨w.heap.size + 1 + 1 + 1, 1, none⟩ = some (.slice va k vc) := (unhide hst).out.cell 1
        have x0 : wr.cell? ⟨w.heap.size + 1, 0, none⟩ = some (.string s) := (unhide hst).box.cell 0
        have HX : Hid (∀ W : World, W.heap = (wr.alloc (.cells #[.string (nm d), .string s, .string (nm d), .int .u64 0, .bool false, .bool false, .int .u64 0, .pointer none] 139)).heap → W.ownsRow w.heap.size 139 8 (.slice va k vc) k ((bitsOf m d).flatMap (sendRow s))) := fun W hW => owns_heap (owns_kept (unhide hst).own ((Fr.refl (fun _ => False) wr).alloc _) (fun _ _ => id)) hW
        have HY : Hid (∀ W : World, W.heap = (wr.alloc (.cells #[.string (nm d), .string s, .string (nm d), .int .u64 0, .bool false, .bool false, .int .u64 0, .pointer none] 139)).heap → ∀ (j : Nat) (u : Value), ([.string (nm d), .string s, .string (nm d), .int .u64 0, .bool false, .bool false, .int .u64 0, .pointer none] : List Value)[j]? = some u → W.cell? ((⟨wr.heap.size, 0, none⟩ : Addr).add j) = some u) := fun W hW => by
          have h1 : Blk W wr.heap.size 139 [.string (nm d), .string s, .string (nm d), .int .u64 0, .bool false, .bool false, .int .u64 0, .pointer none] := by
            have := Blk.new wr 139 [.string (nm d), .string s, .string (nm d), .int .u64 0, .bool false, .bool false, .int .u64 0, .pointer none]
            show W.heap[wr.heap.size]? = _
            rw [hW]; exact this
          exact World.news_of_block h1
        have hBl : w.heap.size ≤ wr.heap.size := (unhide hst).fr.size
        have hOB : w.heap.size + 1 + 1 + 1 < wr.heap.size := (unhide hst).out.lt
        have hXB : w.heap.size + 1 < wr.heap.size := (unhide hst).box.lt
        have HB := hide hb
        clear hb
        go_wp2_with fail
        go_region_law (first | (refine step_append_lies _ (by rfl) _ _ _ (by rfl) w.heap.size 139 i139 (.agg #[.string ⟨#[]⟩, .string ⟨#[]⟩, .string ⟨#[]⟩, .int .u64 0, .bool false, .bool false, .int .u64 0, .pointer none]) 8 80 Ybaf.underlying128 hi hz hs hby rfl (by omega) (.slice va k vc) k ((bitsOf m d).flatMap (sendRow s)) (by rfl) (unhide HX _ (by first | rfl | simp)) ⟨wr.heap.size, 0, none⟩ 1 1 [.string (nm d), .string s, .string (nm d), .int .u64 0, .bool false, .bool false, .int .u64 0, .pointer none] (by rfl) (by rfl) (unhide HY _ (by first | rfl | simp)) (by simp [Value.oneCell']) (by omega) (by unfold maxLen; omega) (by omega) (by first | (simp; omega) | omega) (wr.heap.size + 1) (by simp) ?_; intro g cap w1 hown hgrow hat hlt; obtain ⟨k1, k2, HE⟩ := (unhide hst).put (unhide HB) (by first | exact ((Fr.refl (fun _ => False) wr).drew).alloc _ | exact ((Fr.refl (fun _ => False) wr).alloc _).drew) hgrow hown; clear hown hgrow hat) | (go_simp; go_at_call 7; refine (name_any d (by omega) _).mono ?_; rintro e w2 ⟨rfl, rfl⟩; go_simp))
        all_goals
          go_wp2_with fail
          go_roundw
          case rel => exact ⟨d + 1, k + 1, _, by go_num, by omega, HE⟩
          case measure => (try simp [intOf]) <;> (try omega)
      · have hb2 : m.testBit d = false := by simpa using hb
        rw [hb2] at hbit
        have HN := hide ((unhide hst).skip hb2)
        clear hb hb2
        go_wp2_with fail
        go_roundw
        case rel => exact ⟨d + 1, k, v, by go_num, by omega, HN⟩
        case measure => (try simp [intOf]) <;> (try omega)
    · obtain rfl : np = d := by omega
      have z1 : decide ((np : Int) < (np : Int)) = false := by simp
      obtain ⟨va, vc, hv⟩ := owns_slice (unhide hst).own
      subst hv
      have o0 : wr.cell? ⟨w.heap.size + 1 + 1 + 1, 0, none⟩ = some (.slice none 0 0) := (unhide hst).out.cell 0
      have o1 : wr.cell? ⟨w.heap.size + 1 + 1 + 1, 1, none⟩ = some (.slice va k vc) := (unhide hst).out.cell 1
      have o2 : wr.cell? ⟨w.heap.size + 1 + 1 + 1, 2, none⟩ = some (.slice none 0 0) := (unhide hst).out.cell 2
      have o3 : wr.cell? ⟨w.heap.size + 1 + 1 + 1, 3, none⟩ = some (.slice none 0 0) := (unhide hst).out.cell 3
      have r0 : wr.cell? ⟨w.heap.size + 1 + 1, 0, none⟩ = some (.slice none 0 0) := (unhide hst).res.cell 0
      have r1 : wr.cell? ⟨w.heap.size + 1 + 1, 1, none⟩ = some (.slice none 0 0) := (unhide hst).res.cell 1
      have r2 : wr.cell? ⟨w.heap.size + 1 + 1, 2, none⟩ = some (.slice none 0 0) := (unhide hst).res.cell 2
      have r3 : wr.cell? ⟨w.heap.size + 1 + 1, 3, none⟩ = some (.slice none 0 0) := (unhide hst).res.cell 3
      have f0 : wr.frozen? ⟨w.heap.size + 1 + 1, 0, none⟩ = false := (unhide hst).res.frozen 0
      have f1 : wr.frozen? ⟨w.heap.size + 1 + 1, 1, none⟩ = false := (unhide hst).res.frozen 1
      have f2 : wr.frozen? ⟨w.heap.size + 1 + 1, 2, none⟩ = false := (unhide hst).res.frozen 2
      have f3 : wr.frozen? ⟨w.heap.size + 1 + 1, 3, none⟩ = false := (unhide hst).res.frozen 3
      have HE : Hid (∀ W, W = (((wr.setCell ⟨w.heap.size + 1 + 1, 0, none⟩ (.slice none 0 0)).setCell ⟨w.heap.size + 1 + 1, 1, none⟩ (.slice va k vc)).setCell ⟨w.heap.size + 1 + 1, 2, none⟩ (.slice none 0 0)).setCell ⟨w.heap.size + 1 + 1, 3, none⟩ (.slice none 0 0) → W.ownsRow w.heap.size 139 8 (.slice va k vc) k ((bitsOf m np).flatMap (sendRow s)) ∧ k = (bitsOf m np).length ∧ Fr (fun _ => False) w W) := fun W hW => by
        subst hW
        have hF2 := ((((Fr.refl (· = w.heap.size + 1 + 1) wr).setCell (p := ⟨w.heap.size + 1 + 1, 0, none⟩) (.inl rfl) (.slice none 0 0)).setCell (p := ⟨w.heap.size + 1 + 1, 1, none⟩) (.inl rfl) (.slice va k vc)).setCell (p := ⟨w.heap.size + 1 + 1, 2, none⟩) (.inl rfl) (.slice none 0 0)).setCell (p := ⟨w.heap.size + 1 + 1, 3, none⟩) (.inl rfl) (.slice none 0 0)
        refine ⟨owns_kept (unhide hst).own hF2 (fun j h1 h2 => ?_), (unhide hst).len, ?_⟩
        · subst h2
          exact owns_neB (unhide hst).own (unhide hst).res (by decide) h1
        · exact ⟨hF2.os.trans (unhide hst).fr.os, hF2.tape.trans (unhide hst).fr.tape, hF2.output.trans (unhide hst).fr.output, Nat.le_trans (unhide hst).fr.size hF2.size, fun j hj _ => (hF2.block j (Nat.lt_of_lt_of_le hj (unhide hst).fr.size) (by omega)).trans ((unhide hst).fr.block j hj id)⟩
      have B0 := (unhide hst).res
      have B1 := B0.setCell 0 (.slice none 0 0)
      have B2 := B1.setCell 1 (.slice va k vc)
      have B3 := B2.setCell 2 (.slice none 0 0)
      have B4 := B3.setCell 3 (.slice none 0 0)
      have t0 := B1.cell 0
      have t1 := B2.cell 1
      have t2 := B3.cell 2
      have t3 := B4.cell 3
      simp only [List.set_cons_zero, List.set_cons_succ, List.getElem?_cons_zero, List.getElem?_cons_succ] at t0 t1 t2 t3
      clear B0 B1 B2 B3 B4
      go_wp2_with fail
      (try simp only [Exit.inBlock, Exit.then])
      refine bodyPost_ret (by simp [results, Ybaf.results95, go_sem, t0, t1, t2, t3]; try rfl) rfl ?_
      exact ⟨_, k, rfl, HE.out _ rfl⟩
end Go.Proofs.YbulkbrdiFmt
