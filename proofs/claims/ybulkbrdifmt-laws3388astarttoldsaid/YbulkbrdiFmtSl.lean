/-
  b3388aF: the sends' loop of (*space).localStep: its plain part.
-/
import Derived.Test.YbulkbrdiFmtSi
namespace Go.Proofs.YbulkbrdiFmt
open Go.RowKit
set_option linter.unusedVariables false
set_option linter.unusedSimpArgs false
set_option maxRecDepth 100000
set_option maxHeartbeats 4000000

theorem rg0 {o : Oper} {l : List Oper} : (o :: l).toArray[0]? = some o := rfl
theorem rgS {o x : Oper} {l : List Oper} {n : Nat} (h : l.toArray[n]? = some x) : (o :: l).toArray[n + 1]? = some x := by simpa using h
/-- in the run over the sends -/
structure L3 (p : Pr) (t : St) (w : World) (i j tb SB ks sc : Nat) (sa : Option Addr) (q : Nat) (its' : List (Nat × Nat)) (vi' sv : Value) (ys : List Nat) (wr : World) : Prop where
  inv : Inv p { t with its := its', vi := vi' } wr
  ext : Ext p t { t with its := its', vi := vi' } w wr
  r0 : Blk wr w.heap.size 67 [.int .u32 0, .slice none 0 0, .slice none 0 0]
  tbk : Blk wr tb 62 [.int .i64 (i : Int), .iface 82 (.agg #[]), .slice none 0 0, .slice none 0 0]
  own : wr.ownsRow w.heap.size 139 8 (.slice sa ks sc) ks ((bitsOf (p.ms j) p.np).flatMap (sendRow (im j)))
  st : Blk wr SB 67 [.int .u32 0, sv, .slice none 0 0]
  so : wr.ownsRow w.heap.size 53 1 sv q (ys.map fun (y : Nat) => .int .u32 (y : Int))
  yss : ys.map (fun y => its'[y]?) = ((bitsOf (p.ms j) p.np).take q).map fun d => some (d, 8 + j)
  lt : w.heap.size + 1 + 1 < tb
  lo : tb < SB
theorem Inv.nch62 {p : Pr} {t : St} {w : World} {k : Nat} {l : List Value} (h : Inv p t w) (hb : Blk w k 62 l) (hk : t.vl.ownBlock ≠ some k) : ¬ Ch p t k := by
  rintro (h1 | h1 | h1 | h1 | h1 | h1 | h1 | h1 | h1)
  · subst h1
    have := h.sp.sp.symm.trans hb
    injection this with this
    injection this with _ h5 _
    cases h5
  · exact h.lm.ne hb h1.symm
  · exact h.im.ne hb h1.symm
  · exact h.cm.ne hb h1.symm
  · exact h.ls.ne hb h1.symm
  · exact h.st.ne hb h1.symm
  · exact owns_neB h.ir hb (by decide) h1
  · exact hk h1
  · exact owns_neB h.cr hb (by decide) h1
/-- a row of another type is not turned -/
theorem Inv.keptO {p : Pr} {t : St} {w w' : World} {B e size n : Nat} {v : Value} {xs : List Value} (h : Inv p t w) (hf : Fr (Ch p t) w w') (hr : w.ownsRow B e size v n xs) (he : e ≠ 42 ∧ e ≠ 48 ∧ e ≠ 62 ∧ e ≠ 64) : w'.ownsRow B e size v n xs := by
  refine owns_kept hr hf (fun k hk => ?_)
  obtain ⟨cur, hc⟩ := owns_type hr hk
  exact h.nch (l := cur.toList) (by show w.heap[k]? = _; rw [hc]) he
/-- one send more -/
theorem L3.next {p : Pr} {t : St} {w wr wI W wJ : World} {i j tb SB ks sc q no d g cap : Nat} {sa : Option Addr} {its' its2 : List (Nat × Nat)} {vi' v2 sv : Value} {ys : List Nat} (h : L3 p t w i j tb SB ks sc sa q its' vi' sv ys wr) (h00 : Inv p t w)
    {W0 : World} (hf0 : Fr (fun _ => False) wr W0) (hI : Inv p { t with its := its2, vi := v2 } wI) (hE : Ext p { t with its := its', vi := vi' } { t with its := its2, vi := v2 } W0 wI) (hno : its2[no]? = some (d, 8 + j)) (hd : (bitsOf (p.ms j) p.np)[q]? = some d)
    (hf1 : Fr (fun _ => False) wI W) (hgrow : W.grownBy wJ sv.ownBlock) (hown : wJ.ownsRow w.heap.size 53 1 (.slice (some ⟨g, 0, none⟩) (q + 1) cap) (q + 1) ((ys.map fun (y : Nat) => Value.int .u32 (y : Int)) ++ [.int .u32 (no : Int)])) :
    wJ.cell? ⟨SB, 1, none⟩ = some sv ∧ wJ.frozen? ⟨SB, 1, none⟩ = false ∧ Hid (L3 p t w i j tb SB ks sc sa (q + 1) its2 v2 (.slice (some ⟨g, 0, none⟩) (q + 1) cap) (ys ++ [no]) (wJ.setCell ⟨SB, 1, none⟩ (.slice (some ⟨g, 0, none⟩) (q + 1) cap))) ∧ (∀ {k : Nat} {l : List Value}, Blk W k 139 l → Blk wJ k 139 l ∧ Blk (wJ.setCell ⟨SB, 1, none⟩ (.slice (some ⟨g, 0, none⟩) (q + 1) cap)) k 139 l) ∧ wJ.cell? ⟨p.SP, 3, none⟩ = some (.map (some p.IX)) ∧ (wJ.setCell ⟨SB, 1, none⟩ (.slice (some ⟨g, 0, none⟩) (q + 1) cap)).cell? ⟨p.SP, 3, none⟩ = some (.map (some p.IX)) := by
  have i0 := h.inv.kept hf0
  have hFI := hE.fr
  have hso0 := owns_kept h.so hf0 (fun _ _ => id)
  have hsoI := i0.keptO hFI hso0 (by decide)
  have hsoW := owns_kept hsoI hf1 (fun _ _ => id)
  have hstI := (h.st.kept hf0 id).kept hFI (i0.nch (h.st.kept hf0 id) (by decide))
  have hstW := hstI.kept hf1 id
  have hF2 : Fr (fun k => sv.ownBlock = some k) W wJ := (Fr.refl _ W).grown hgrow (fun k hk => .inl hk)
  have hstJ := hstW.kept hF2 (owns_neB hsoW hstW (by decide))
  have hIW := hI.kept hf1
  have hB53 : ∀ k, sv.ownBlock = some k → w.heap.size ≤ k := fun k hk => owns_base h.so k hk
  have hsoW0 := owns_weaken hsoW (Nat.zero_le _)
  have hIJ : Inv p { t with its := its2, vi := v2 } wJ := hIW.keptS h00 rfl rfl rfl hF2 (fun k hk => hB53 k hk) (fun k hk => ⟨fun e => own_ne hIW.ir hsoW0 (by decide) k e hk, fun e => own_ne hIW.lr hsoW0 (by decide) k e hk, fun e => own_ne hIW.cr hsoW0 (by decide) k e hk⟩)
  have hSB : w.heap.size < SB := by have := h.lt; have := h.lo; omega
  have hF3 : Fr (· = SB) wJ (wJ.setCell ⟨SB, 1, none⟩ (.slice (some ⟨g, 0, none⟩) (q + 1) cap)) := (Fr.refl (· = SB) wJ).setCell (p := ⟨SB, 1, none⟩) (.inl rfl) _
  have hIF := hIJ.keptS h00 rfl rfl rfl hF3 (fun k hk => by omega) (fun k hk => by
    subst hk
    exact ⟨owns_neB hIJ.ir hstJ (by decide), owns_neB hIJ.lr hstJ (by decide), owns_neB hIJ.cr hstJ (by decide)⟩)
  have hE2 : Ext p t { t with its := its2, vi := v2 } w wI := (h.ext.post hf0).trans hE
  have hFt : Fr (fun k => sv.ownBlock = some k ∨ k = SB) wI (wJ.setCell ⟨SB, 1, none⟩ (.slice (some ⟨g, 0, none⟩) (q + 1) cap)) := ((hf1.mono (fun _ _ h => h.elim)).trans (hF2.mono (fun _ _ h => .inl h))).trans (hF3.mono (fun _ _ h => .inr h))
  have kb : ∀ {k e : Nat} {l : List Value}, Blk wr k e l → ¬ Ch p { t with its := its', vi := vi' } k → e ≠ 53 → k ≠ SB → Blk (wJ.setCell ⟨SB, 1, none⟩ (.slice (some ⟨g, 0, none⟩) (q + 1) cap)) k e l := fun hb hn he hk => by
    have b1 := (hb.kept hf0 id).kept hFI hn
    exact b1.kept hFt (fun hc => by
      rcases hc with hc | hc
      · exact owns_neB hsoI b1 (fun e => he e.symm) hc
      · exact hk hc)
  refine ⟨hstJ.cell 1, hstJ.frozen 1, ⟨hIF, ?_, kb h.r0 (h.inv.nch h.r0 (by decide)) (by decide) (by omega), kb h.tbk (h.inv.nch62 h.tbk (fun e => by have := owns_lt h00.lr e; have := h.lt; omega)) (by decide) (by have := h.lo; omega), ?_, hstJ.setCell 1 _, ?_, ?_, h.lt, h.lo⟩, fun {k l} hb => ?_, hIJ.sp.sp.cell 3, hIF.sp.sp.cell 3⟩
  · exact { hE2 with fr := hE2.fr.join hFt (fun k hk hc => by
      rcases hc with hc | hc
      · have := hB53 k hc; omega
      · omega) }
  · have o1 := i0.keptO hFI (owns_kept h.own hf0 (fun _ _ => id)) (by decide)
    refine owns_kept o1 hFt (fun k h1 hc => ?_)
    rcases hc with hc | hc
    · exact own_ne o1 hsoI (by decide) k h1 hc
    · subst hc
      exact owns_neB o1 hstI (by decide) h1
  · rw [List.map_append]
    refine owns_kept hown hF3 (fun k h1 hc => ?_)
    subst hc
    exact owns_neB hown hstJ (by decide) h1
  · have hpre := hE.its
    simp only at hpre
    have e1 : ys.map (fun y => its2[y]?) = ys.map (fun y => its'[y]?) := by
      apply List.map_congr_left
      intro y hy
      have h1 : its'[y]? ∈ ys.map (fun y => its'[y]?) := List.mem_map.2 ⟨y, hy, rfl⟩
      rw [h.yss] at h1
      obtain ⟨d', _, h2⟩ := List.mem_map.1 h1
      rw [← h2]
      exact get_prefix hpre h2.symm
    rw [List.map_append, e1, h.yss, List.take_add_one, hd, List.map_append]
    simp [hno]
  · have b1 := hb.kept hF2 (owns_neB hsoW hb (by decide))
    refine ⟨b1, b1.kept hF3 (fun e => ?_)⟩
    subst e
    have := hstJ.symm.trans b1
    injection this with this
    injection this with _ h5 _
    cases h5
theorem orTo_map {its : List (Nat × Nat)} {c : Nat} : ∀ (ys ds : List Nat), ys.map (fun y => its[y]?) = ds.map (fun d => some (d, c)) → orTo its ys = ds.foldr (fun d acc => 2 ^ d ||| acc) 0
  | [], [], _ => rfl
  | [], d :: ds, h => by simp at h
  | y :: ys, [], h => by simp at h
  | y :: ys, d :: ds, h => by
    simp only [List.map_cons, List.cons.injEq] at h
    have h1 := orTo_map ys ds h.2
    unfold orTo at *
    rw [List.foldr_cons, List.foldr_cons, h1, h.1]
    rfl
theorem fold_bit : ∀ (l : List Nat) (k : Nat), (l.foldr (fun d acc => 2 ^ d ||| acc) 0).testBit k = decide (k ∈ l)
  | [], k => by simp
  | d :: l, k => by
    rw [List.foldr_cons, Nat.testBit_or, fold_bit l k, Nat.testBit_two_pow]
    by_cases h1 : d = k
    · subst h1; simp
    · have h2 : ¬ k = d := fun e => h1 e.symm
      simp [h1, h2]
theorem or_bits {m n : Nat} (h : m < 2 ^ n) : (bitsOf m n).foldr (fun d acc => 2 ^ d ||| acc) 0 = m := by
  apply Nat.eq_of_testBit_eq
  intro k
  rw [fold_bit]
  unfold bitsOf
  by_cases hk : k < n
  · cases hb : m.testBit k <;> simp [hk, hb]
  · have hb : m.testBit k = false := Nat.testBit_lt_two_pow (Nat.lt_of_lt_of_le h (Nat.pow_le_pow_right (by omega) (by omega)))
    simp [hk, hb]
theorem bits_len (m n : Nat) : (bitsOf m n).length ≤ n := by
  unfold bitsOf
  have := List.length_filter_le (fun d => m.testBit d) (List.range n)
  rw [List.length_range] at this
  exact this
/-- all is sent -/
theorem L3.fin {p : Pr} {t : St} {w wr : World} {i j tb SB ks sc : Nat} {sa : Option Addr} {its' : List (Nat × Nat)} {vi' sv : Value} {ys : List Nat} (hp : PrOk p) (h : L3 p t w i j tb SB ks sc sa ks its' vi' sv ys wr) (hk : ks = (bitsOf (p.ms j) p.np).length) : SendOk p its' wr j sv := by
  have hy := h.yss
  rw [hk, List.take_length] at hy
  have hlen : ys.length = ks := by
    have := congrArg List.length hy
    rw [List.length_map, List.length_map] at this
    omega
  have hb := bits_len (p.ms j) p.np
  have hnp := hp.np
  have hmem : ∀ y ∈ ys, y < its'.length := fun y hy1 => by
    have h1 : its'[y]? ∈ ys.map (fun y => its'[y]?) := List.mem_map.2 ⟨y, hy1, rfl⟩
    rw [hy] at h1
    obtain ⟨d', _, h2⟩ := List.mem_map.1 h1
    exact (List.getElem?_eq_some_iff.1 h2.symm).1
  have ho : orTo its' ys = p.ms j := by rw [orTo_map ys _ hy, or_bits (hp.ms j)]
  have hrv : rowV ys.toArray = ys.map fun (y : Nat) => Value.int .u32 (y : Int) := by unfold rowV; simp
  rcases h.so.2 with ⟨h1, h2⟩ | ⟨g, cap, cur, h1, h2, h3, h4, h5, h6, h7⟩
  · refine ⟨none, 0, ys, by rw [h1, hlen, h2], ⟨by simp, by omega, .inl ⟨rfl, by omega, rfl⟩⟩, hmem, ho, by omega⟩
  · refine ⟨some ⟨g, 0, none⟩, cap, ys, by rw [h1, hlen], ⟨by simp, by omega, .inr ⟨g, cur.toList.drop ks, rfl, ?_⟩⟩, hmem, ho, by omega⟩
    rw [Nat.mul_one] at h7
    rw [hrv, ← h7, List.take_append_drop]
    exact h3
end Go.Proofs.YbulkbrdiFmt
