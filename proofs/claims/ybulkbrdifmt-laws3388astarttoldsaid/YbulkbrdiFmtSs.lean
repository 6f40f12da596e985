/-
  b3388aF: LawS3388AStart: the names' loop, plain part.
-/
import Derived.Test.YbulkbrdiFmtSr
import Derived.Test.YbulkbrdiFmtCOpen
namespace Go.Proofs.YbulkbrdiFmt
open Go.RowKit
set_option linter.unusedVariables false
set_option linter.unusedSimpArgs false
set_option maxRecDepth 100000
set_option maxHeartbeats 4000000

theorem made_one' (z : Value) (n : Nat) : madeCells #[z] n = (List.replicate n z).toArray := by
  apply Array.ext
  · simp [madeCells]
  · intro i h1 h2
    simp [madeCells, Nat.mod_one]
theorem full_u8 (np : Nat) (h : 1 ≤ np ∧ np ≤ 8) : IntKind.u8.wrap (IntKind.u8.wrap ((2 : Int) ^ np) - 1) = ((2 ^ np - 1 : Nat) : Int) := by
  have h8 : np = 1 ∨ np = 2 ∨ np = 3 ∨ np = 4 ∨ np = 5 ∨ np = 6 ∨ np = 7 ∨ np = 8 := by omega
  rcases h8 with rfl | rfl | rfl | rfl | rfl | rfl | rfl | rfl <;> decide
theorem nm_inj {a b : Nat} (ha : a < 8) (hb : b < 8) (h : nm a = nm b) : a = b := by
  have h1 := congrArg (fun x : ByteArray => x.data.toList) h
  unfold nm at h1
  simp only [List.cons.injEq, and_true] at h1
  have h2 := congrArg UInt8.toNat h1
  simp at h2
  omega
theorem im_inj {a b : Nat} (ha : a < 8) (hb : b < 8) (h : im a = im b) : a = b := by
  have h1 := congrArg (fun x : ByteArray => x.data.toList) h
  unfold im at h1
  simp only [List.cons.injEq, and_true] at h1
  have h2 := congrArg UInt8.toNat h1
  simp at h2
  omega
/-- a map from the first names -/
def nmL (f : Nat → Value) (K : Nat → ByteArray) (i : Nat) : List (ByteArray × Value) := (List.range i).map fun d => (K d, f d)
theorem nmL_succ (f : Nat → Value) (K : Nat → ByteArray) (i : Nat) : nmL f K (i + 1) = nmL f K i ++ [(K i, f i)] := by
  unfold nmL
  rw [List.range_succ, List.map_append]
  rfl
theorem nmL_look {f : Nat → Value} {K : Nat → ByteArray} (hK : ∀ a b, a < 8 → b < 8 → K a = K b → a = b) : ∀ (i d : Nat), i ≤ 8 → d < 8 → slook (nmL f K i) (K d) = if d < i then some (f d) else none
  | 0, d, _, _ => rfl
  | i + 1, d, hi, hd => by
    have ih := nmL_look (f := f) hK i i (by omega) (by omega)
    rw [if_neg (by omega)] at ih
    rw [nmL_succ, slook_snoc _ _ _ _ ih, nmL_look hK i d (by omega) hd]
    by_cases h1 : K i = K d
    · have := hK i d (by omega) hd h1
      subst this
      rw [if_pos rfl, if_pos (by omega)]
    · rw [if_neg h1]
      have : d ≠ i := fun e => h1 (by rw [e])
      by_cases h2 : d < i
      · rw [if_pos h2, if_pos (by omega)]
      · rw [if_neg h2, if_neg (by omega)]
/-- the space's cells before anything is met -/
def sp0 (IX BY LM IM CM LS ST : Nat) (nv mv pv : Value) : List Value := [.pointer none, .nilFunc, nv, .map (some IX), mv, .map (some BY), .slice none 0 0, .map (some LM), .slice none 0 0, .map (some IM), .slice none 0 0, .map (some CM), .map (some LS), .map (some ST), .map none, .slice none 0 0, .map none, pv, .map none, .map none]
/-- the identity, as far as it is laid -/
def idL (np i : Nat) : List Value := (List.range np).map fun d => if d < i then .int .i64 (d : Int) else .int .i64 0
theorem idL_set {np i : Nat} (hi : i < np) : (idL np i).set i (.int .i64 (i : Int)) = idL np (i + 1) := by
  unfold idL
  apply List.ext_getElem?
  intro k
  rw [List.getElem?_set]
  by_cases hk : k < np
  · by_cases e : i = k
    · subst e
      rw [if_pos rfl, if_pos (by simpa using hi), List.getElem?_map, List.getElem?_range hi]
      simp
    · rw [if_neg e, List.getElem?_map, List.getElem?_map, List.getElem?_range hk]
      simp only [Option.map_some]
      by_cases h1 : k < i
      · rw [if_pos h1, if_pos (by omega)]
      · rw [if_neg h1, if_neg (by omega)]
  · rw [if_neg (by omega), List.getElem?_map, List.getElem?_map, List.getElem?_eq_none (by simp; omega)]
    rfl
/-- the blocks of the space -/
structure Bl where
  IX : Nat
  BY : Nat
  LM : Nat
  IM : Nat
  CM : Nat
  LS : Nat
  ST : Nat
  SP : Nat
  ID : Nat
  GM : Nat
structure BlOk (b : Bl) (H : Nat) : Prop where
  ix : b.IX = H
  bY : b.BY = H + 1
  lm : b.LM = H + 1 + 1
  im : b.IM = H + 1 + 1 + 1
  cm : b.CM = H + 1 + 1 + 1 + 1
  ls : b.LS = H + 1 + 1 + 1 + 1 + 1
  st : b.ST = H + 1 + 1 + 1 + 1 + 1 + 1
  sp : b.SP = H + 1 + 1 + 1 + 1 + 1 + 1 + 1
  iD : b.ID = H + 1 + 1 + 1 + 1 + 1 + 1 + 1 + 1
  gm : b.GM = H + 1 + 1 + 1 + 1 + 1 + 1 + 1 + 1 + 1
/-- behind i names -/
structure Q1 (b : Bl) (w : World) (np i : Nat) (nv : Value) (wr : World) : Prop where
  ok : BlOk b w.heap.size
  fr : Fr (fun _ => False) w wr
  ix : SMap wr b.IX (nmL (fun d => .int .i64 (d : Int)) nm i)
  bY : SMap wr b.BY []
  lm : SMap wr b.LM []
  im : SMap wr b.IM []
  cm : SMap wr b.CM []
  ls : MapAt wr b.LS []
  st : MapAt wr b.ST []
  sp : Blk wr b.SP 42 (sp0 b.IX b.BY b.LM b.IM b.CM b.LS b.ST nv (.slice none 0 0) (.slice none 0 0))
  nv : wr.ownsRow w.heap.size 9 1 nv i ((List.range i).map fun d => .string (Go.Proofs.YbulkbrdiFmt.nm d))
  iD : Blk wr b.ID 3 (idL np i)
  gm : SMap wr b.GM (nmL (fun d => .string (Go.Proofs.YbulkbrdiFmt.nm d)) Go.Proofs.YbulkbrdiFmt.nm i)
theorem smap_new (w : World) : SMap (w.alloc (.map #[] 0)) w.heap.size [] := ⟨#[], 0, heap_alloc_new w _, rfl⟩
theorem mapat_new (w : World) : MapAt (w.alloc (.map #[] 0)) w.heap.size [] := ⟨#[], 0, heap_alloc_new w _, rfl⟩
theorem size_a (w : World) (o : Obj) : (w.alloc o).heap.size = w.heap.size + 1 := World.size_alloc w o
/-- the start of the names' loop -/
theorem Q1.start (w : World) (np : Nat) (b : Bl) (hb : BlOk b w.heap.size) :
    Q1 b w np 0 (.slice none 0 0) ((((((((((w.alloc (.map #[] 0)).alloc (.map #[] 0)).alloc (.map #[] 0)).alloc (.map #[] 0)).alloc (.map #[] 0)).alloc (.map #[] 0)).alloc (.map #[] 0)).alloc (.cells (sp0 b.IX b.BY b.LM b.IM b.CM b.LS b.ST (.slice none 0 0) (.slice none 0 0) (.slice none 0 0)).toArray 42)).alloc (.cells (Array.replicate np (.int .i64 0)) 3)).alloc (.map #[] 0)) := by
  obtain ⟨w1, h1⟩ : ∃ w1, w1 = w.alloc (.map #[] 0) := ⟨_, rfl⟩
  obtain ⟨w2, h2⟩ : ∃ w2, w2 = w1.alloc (.map #[] 0) := ⟨_, rfl⟩
  obtain ⟨w3, h3⟩ : ∃ w3, w3 = w2.alloc (.map #[] 0) := ⟨_, rfl⟩
  obtain ⟨w4, h4⟩ : ∃ w4, w4 = w3.alloc (.map #[] 0) := ⟨_, rfl⟩
  obtain ⟨w5, h5⟩ : ∃ w5, w5 = w4.alloc (.map #[] 0) := ⟨_, rfl⟩
  obtain ⟨w6, h6⟩ : ∃ w6, w6 = w5.alloc (.map #[] 0) := ⟨_, rfl⟩
  obtain ⟨w7, h7⟩ : ∃ w7, w7 = w6.alloc (.map #[] 0) := ⟨_, rfl⟩
  obtain ⟨w8, h8⟩ : ∃ w8, w8 = w7.alloc (.cells (sp0 b.IX b.BY b.LM b.IM b.CM b.LS b.ST (.slice none 0 0) (.slice none 0 0) (.slice none 0 0)).toArray 42) := ⟨_, rfl⟩
  obtain ⟨w9, h9⟩ : ∃ w9, w9 = w8.alloc (.cells (Array.replicate np (.int .i64 0)) 3) := ⟨_, rfl⟩
  rw [← h1, ← h2, ← h3, ← h4, ← h5, ← h6, ← h7, ← h8, ← h9]
  have s1 : w1.heap.size = w.heap.size + 1 := by rw [h1, size_a]
  have s2 : w2.heap.size = w.heap.size + 1 + 1 := by rw [h2, size_a, s1]
  have s3 : w3.heap.size = w.heap.size + 1 + 1 + 1 := by rw [h3, size_a, s2]
  have s4 : w4.heap.size = w.heap.size + 1 + 1 + 1 + 1 := by rw [h4, size_a, s3]
  have s5 : w5.heap.size = w.heap.size + 1 + 1 + 1 + 1 + 1 := by rw [h5, size_a, s4]
  have s6 : w6.heap.size = w.heap.size + 1 + 1 + 1 + 1 + 1 + 1 := by rw [h6, size_a, s5]
  have s7 : w7.heap.size = w.heap.size + 1 + 1 + 1 + 1 + 1 + 1 + 1 := by rw [h7, size_a, s6]
  have s8 : w8.heap.size = w.heap.size + 1 + 1 + 1 + 1 + 1 + 1 + 1 + 1 := by rw [h8, size_a, s7]
  have s9 : w9.heap.size = w.heap.size + 1 + 1 + 1 + 1 + 1 + 1 + 1 + 1 + 1 := by rw [h9, size_a, s8]
  have f9 : Fr (fun _ => False) w9 (w9.alloc (.map #[] 0)) := (Fr.refl _ w9).alloc _
  have f8 : Fr (fun _ => False) w8 (w9.alloc (.map #[] 0)) := by rw [h9]; exact ((Fr.refl _ w8).alloc _).alloc _
  have f7 : Fr (fun _ => False) w7 w8 := by rw [h8]; exact (Fr.refl _ w7).alloc _
  have f6 : Fr (fun _ => False) w6 w7 := by rw [h7]; exact (Fr.refl _ w6).alloc _
  have f5 : Fr (fun _ => False) w5 w6 := by rw [h6]; exact (Fr.refl _ w5).alloc _
  have f4 : Fr (fun _ => False) w4 w5 := by rw [h5]; exact (Fr.refl _ w4).alloc _
  have f3 : Fr (fun _ => False) w3 w4 := by rw [h4]; exact (Fr.refl _ w3).alloc _
  have f2 : Fr (fun _ => False) w2 w3 := by rw [h3]; exact (Fr.refl _ w2).alloc _
  have f1 : Fr (fun _ => False) w1 w2 := by rw [h2]; exact (Fr.refl _ w1).alloc _
  have f0 : Fr (fun _ => False) w w1 := by rw [h1]; exact (Fr.refl _ w).alloc _
  have g7 := f7.trans f8
  have g6 := f6.trans g7
  have g5 := f5.trans g6
  have g4 := f4.trans g5
  have g3 := f3.trans g4
  have g2 := f2.trans g3
  have g1 := f1.trans g2
  have m1 : SMap w1 w.heap.size [] := by rw [h1]; exact smap_new w
  have m2 : SMap w2 w1.heap.size [] := by rw [h2]; exact smap_new w1
  have m3 : SMap w3 w2.heap.size [] := by rw [h3]; exact smap_new w2
  have m4 : SMap w4 w3.heap.size [] := by rw [h4]; exact smap_new w3
  have m5 : SMap w5 w4.heap.size [] := by rw [h5]; exact smap_new w4
  have m6 : MapAt w6 w5.heap.size [] := by rw [h6]; exact mapat_new w5
  have m7 : MapAt w7 w6.heap.size [] := by rw [h7]; exact mapat_new w6
  refine ⟨hb, f0.trans g1, by rw [hb.ix]; exact m1.kept g1 id, by rw [hb.bY, ← s1]; exact m2.kept g2 id, by rw [hb.lm, ← s2]; exact m3.kept g3 id, by rw [hb.im, ← s3]; exact m4.kept g4 id, by rw [hb.cm, ← s4]; exact m5.kept g5 id, by rw [hb.ls, ← s5]; exact m6.kept g6 id, by rw [hb.st, ← s6]; exact m7.kept g7 id, ?_, owns_nil _ _ _ _, ?_, by rw [hb.gm, ← s9]; exact smap_new w9⟩
  · rw [hb.sp, ← s7]
    refine Blk.kept (w := w8) ?_ f8 id
    rw [h8]; exact Blk.new w7 42 _
  · rw [hb.iD, ← s8]
    refine Blk.kept (w := w9) ?_ f9 id
    rw [h9]
    have e : idL np 0 = List.replicate np (.int .i64 0) := by
      unfold idL
      apply List.ext_getElem
      · simp
      · intro n h1 h2
        simp
    rw [e]
    have := Blk.new w8 3 (List.replicate np (.int .i64 0))
    simpa using this
/-- numbers of blocks are different -/
theorem BlOk.lt {b : Bl} {H : Nat} (h : BlOk b H) : b.IX < b.BY ∧ b.BY < b.LM ∧ b.LM < b.IM ∧ b.IM < b.CM ∧ b.CM < b.LS ∧ b.LS < b.ST ∧ b.ST < b.SP ∧ b.SP < b.ID ∧ b.ID < b.GM ∧ H ≤ b.IX := by
  have h1 := h.ix; have h2 := h.bY; have h3 := h.lm; have h4 := h.im; have h5 := h.cm; have h6 := h.ls; have h7 := h.st; have h8 := h.sp; have h9 := h.iD; have h10 := h.gm
  omega
/-- one name more: what the walk needs, and what it leaves -/
theorem Q1.step {b : Bl} {w wr : World} {np i : Nat} {nv : Value} (h : Q1 b w np i nv wr) (hi : i < np) (hnp : np ≤ 8) :
    ∃ w2, (Instr.mapUpdate 32 (.map (some b.IX)) (.string (nm i)) (.int .i64 (i : Int))).run Ybaf.prog (wr.setCell ⟨b.ID, i, none⟩ (.int .i64 (i : Int))) = .ok () w2 ∧
      w2.cell? ⟨b.SP, 2, none⟩ = some nv ∧ w2.ownsRow w.heap.size 9 1 nv i ((List.range i).map fun d => .string (nm d)) ∧ w.heap.size ≤ w2.heap.size ∧ b.SP < w2.heap.size ∧
      ∀ (g cap : Nat) (w3 : World), w3.ownsRow w.heap.size 9 1 (.slice (some ⟨g, 0, none⟩) (i + 1) cap) (i + 1) (((List.range i).map fun d => .string (nm d)) ++ [.string (nm i)]) → (w2.alloc (.cells #[.string (nm i)] 9)).grownBy w3 nv.ownBlock →
        w3.cell? ⟨b.SP, 2, none⟩ = some nv ∧ w3.frozen? ⟨b.SP, 2, none⟩ = false ∧ ∃ w5, (Instr.mapUpdate 72 (.map (some b.GM)) (.string (nm i)) (.string (nm i))).run Ybaf.prog (w3.setCell ⟨b.SP, 2, none⟩ (.slice (some ⟨g, 0, none⟩) (i + 1) cap)) = .ok () w5 ∧ Hid (Q1 b w np (i + 1) (.slice (some ⟨g, 0, none⟩) (i + 1) cap) w5) := by
  obtain ⟨n1, n2, n3, n4, n5, n6, n7, n8, n9, n10⟩ := h.ok.lt
  have hF1 : Fr (· = b.ID) wr (wr.setCell ⟨b.ID, i, none⟩ (.int .i64 (i : Int))) := (Fr.refl (· = b.ID) wr).setCell (p := ⟨b.ID, i, none⟩) (.inl rfl) _
  have l1 := nmL_look (f := fun d => .int .i64 (d : Int)) (K := nm) (fun a c ha hc e => nm_inj ha hc e) i i (by omega) (by omega)
  rw [if_neg (by omega)] at l1
  have l2 := nmL_look (f := fun d => .string (nm d)) (K := nm) (fun a c ha hc e => nm_inj ha hc e) i i (by omega) (by omega)
  rw [if_neg (by omega)] at l2
  obtain ⟨w2, hrun, hm2, hF2, hsz⟩ := supdate_run (k := nm i) Ybaf.underlying32 (.int .i64 (i : Int)) (h.ix.kept hF1 (by omega)) l1
  have hF12 : Fr (fun k => k = b.ID ∨ k = b.IX) wr w2 := (hF1.mono (fun _ _ h => .inl h)).trans (hF2.mono (fun _ _ h => .inr h))
  have sp2 := h.sp.kept hF12 (by omega)
  have nv2 : w2.ownsRow w.heap.size 9 1 nv i ((List.range i).map fun d => .string (nm d)) := owns_kept h.nv hF12 (fun k h1 h2 => by
    rcases h2 with h2 | h2
    · subst h2; exact owns_neB h.nv h.iD (by decide) h1
    · subst h2; exact owns_neM h.nv h.ix h1)
  have id2 : Blk w2 b.ID 3 (idL np (i + 1)) := by
    have := h.iD.setCell i (.int .i64 (i : Int))
    rw [idL_set hi] at this
    exact this.kept hF2 (by omega)
  refine ⟨w2, hrun, sp2.cell 2, nv2, Nat.le_trans h.fr.size hF12.size, sp2.lt, fun g cap w3 hown hgrow => ?_⟩
  have hF3 : Fr (fun k => nv.ownBlock = some k) w2 w3 := ((Fr.refl (fun k => nv.ownBlock = some k) w2).alloc _).grown hgrow (fun k hk => .inl hk)
  have sp3 := sp2.kept hF3 (owns_neB nv2 sp2 (by decide))
  have id3 := id2.kept hF3 (owns_neB nv2 id2 (by decide))
  have hF4 : Fr (· = b.SP) w3 (w3.setCell ⟨b.SP, 2, none⟩ (.slice (some ⟨g, 0, none⟩) (i + 1) cap)) := (Fr.refl (· = b.SP) w3).setCell (p := ⟨b.SP, 2, none⟩) (.inl rfl) _
  have gm4 : SMap (w3.setCell ⟨b.SP, 2, none⟩ (.slice (some ⟨g, 0, none⟩) (i + 1) cap)) b.GM (nmL (fun d => .string (nm d)) nm i) := by
    have g2 := h.gm.kept hF12 (by omega)
    exact (g2.kept hF3 (owns_neM nv2 g2)).kept hF4 (by omega)
  obtain ⟨w5, hrun5, hm5, hF5, _⟩ := supdate_run (k := nm i) Ybaf.underlying72 (.string (nm i)) gm4 l2
  have ks : ∀ {k : Nat} {l : List (ByteArray × Value)}, SMap wr k l → k ≠ b.ID → k ≠ b.IX → k ≠ b.SP → k ≠ b.GM → SMap w5 k l := fun hm a1 a2 a3 a4 => by
    have g2 := hm.kept hF12 (by omega)
    exact ((g2.kept hF3 (owns_neM nv2 g2)).kept hF4 a3).kept hF5 a4
  have ka : ∀ {k : Nat} {l : List (Nat × Value)}, MapAt wr k l → k ≠ b.ID → k ≠ b.IX → k ≠ b.SP → k ≠ b.GM → MapAt w5 k l := fun hm a1 a2 a3 a4 => by
    have g2 := hm.kept hF12 (by omega)
    exact ((g2.kept hF3 (MapAt.neO nv2 g2)).kept hF4 a3).kept hF5 a4
  refine ⟨sp3.cell 2, sp3.frozen 2, w5, hrun5, h.ok, ?_, ?_, ks h.bY (by omega) (by omega) (by omega) (by omega), ks h.lm (by omega) (by omega) (by omega) (by omega), ks h.im (by omega) (by omega) (by omega) (by omega), ks h.cm (by omega) (by omega) (by omega) (by omega), ka h.ls (by omega) (by omega) (by omega) (by omega), ka h.st (by omega) (by omega) (by omega) (by omega), ?_, ?_, ?_, ?_⟩
  · have h1 := h.fr.join hF12 (fun k hk e => by omega)
    have h2 := h1.join hF3 (fun k hk e => by have := owns_base nv2 k e; omega)
    exact (h2.join hF4 (fun k hk e => by omega)).join hF5 (fun k hk e => by omega)
  · rw [nmL_succ]
    exact ((hm2.kept hF3 (owns_neM nv2 hm2)).kept hF4 (by omega)).kept hF5 (by omega)
  · exact (sp3.setCell 2 _).kept hF5 (by omega)
  · rw [List.range_succ, List.map_append]
    refine owns_kept (owns_kept hown hF4 (fun k h1 h2 => by subst h2; exact owns_neB hown sp3 (by decide) h1)) hF5 (fun k h1 h2 => ?_)
    subst h2
    exact owns_neM (owns_kept hown hF4 (fun k h1 h2 => by subst h2; exact owns_neB hown sp3 (by decide) h1)) gm4 h1
  · exact (id3.kept hF4 (by omega)).kept hF5 (by omega)
  · rw [nmL_succ]; exact hm5
end Go.Proofs.YbulkbrdiFmt
