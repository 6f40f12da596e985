/-
  b3388aF: LawS3388AStart: the messages' loop, plain part.
-/
import Derived.Test.YbulkbrdiFmtSs
namespace Go.Proofs.YbulkbrdiFmt
open Go.RowKit
set_option linter.unusedVariables false
set_option linter.unusedSimpArgs false
set_option maxRecDepth 100000
set_option maxHeartbeats 4000000

/-- the masks, as far as they are laid -/
def msL (f : Nat → Nat) (n j : Nat) : List Value := (List.range n).map fun d => if d < j then .int .u8 ((f d : Nat) : Int) else .int .u8 0
theorem msL_set {f : Nat → Nat} {n j : Nat} (hj : j < n) : (msL f n j).set j (.int .u8 ((f j : Nat) : Int)) = msL f n (j + 1) := by
  unfold msL
  apply List.ext_getElem?
  intro k
  rw [List.getElem?_set]
  by_cases hk : k < n
  · by_cases e : j = k
    · subst e
      rw [if_pos rfl, if_pos (by simpa using hj), List.getElem?_map, List.getElem?_range hj]
      simp
    · rw [if_neg e, List.getElem?_map, List.getElem?_map, List.getElem?_range hk]
      simp only [Option.map_some]
      by_cases h1 : k < j
      · rw [if_pos h1, if_pos (by omega)]
      · rw [if_neg h1, if_neg (by omega)]
  · rw [if_neg (by omega), List.getElem?_map, List.getElem?_map, List.getElem?_eq_none (by simp; omega)]
    rfl
/-- a message's cells -/
def msgC (pl : Nat → Nat) (j : Nat) : List Value := [.string (im j), .slice none 0 0, .slice none 0 0, .slice (some ⟨pl j, 0, none⟩) 2 2]
/-- behind j messages -/
structure Q2 (b : Bl) (w : World) (np n PB MS : Nat) (f : Nat → Nat) (j : Nat) (nv mv : Value) (pl : Nat → Nat) (wr : World) : Prop where
  ok : BlOk b w.heap.size
  lt : b.GM < PB ∧ PB < MS
  fr : Fr (fun _ => False) w wr
  ix : SMap wr b.IX (nmL (fun d => .int .i64 (d : Int)) nm np)
  bY : SMap wr b.BY (nmL (fun d => .int .i64 (d : Int)) Go.Proofs.YbulkbrdiFmt.im j)
  lm : SMap wr b.LM []
  imm : SMap wr b.IM []
  cm : SMap wr b.CM []
  ls : MapAt wr b.LS []
  st : MapAt wr b.ST []
  sp : Blk wr b.SP 42 (sp0 b.IX b.BY b.LM b.IM b.CM b.LS b.ST nv mv (.slice (some ⟨PB, 0, none⟩) 1 1))
  iD : Blk wr b.ID 3 (idL np np)
  gm : SMap wr b.GM (nmL (fun d => .string (nm d)) nm np)
  pb : Blk wr PB 75 [.slice (some ⟨b.ID, 0, none⟩) np np, .map (some b.GM)]
  ms : Blk wr MS 5 (msL f n j)
  mv : wr.ownsRow w.heap.size 77 4 mv j ((List.range j).flatMap (msgC pl))
  pls : ∀ d, d < j → Blk wr (pl d) 5 [.int .u8 ((f d : Nat) : Int), .int .u8 (np : Int)] ∧ MS < pl d
theorem Q2.start {b : Bl} {w wr : World} {np n : Nat} {nv : Value} (f : Nat → Nat) (h : Q1 b w np np nv wr) :
    Q2 b w np n wr.heap.size (wr.heap.size + 1) f 0 nv (.slice none 0 0) (fun _ => 0) (((wr.setCell ⟨b.SP, 17, none⟩ (.slice (some ⟨wr.heap.size, 0, none⟩) 1 1)).alloc (.cells #[.slice (some ⟨b.ID, 0, none⟩) np np, .map (some b.GM)] 75)).alloc (.cells (Array.replicate n (.int .u8 0)) 5)) := by
  obtain ⟨n1, n2, n3, n4, n5, n6, n7, n8, n9, n10⟩ := h.ok.lt
  have hF := (((Fr.refl (· = b.SP) wr).setCell (p := ⟨b.SP, 17, none⟩) (.inl rfl) (.slice (some ⟨wr.heap.size, 0, none⟩) 1 1)).alloc (.cells #[.slice (some ⟨b.ID, 0, none⟩) np np, .map (some b.GM)] 75)).alloc (.cells (Array.replicate n (.int .u8 0)) 5)
  have gl := h.gm.lt
  have hs0 : (wr.setCell ⟨b.SP, 17, none⟩ (.slice (some ⟨wr.heap.size, 0, none⟩) 1 1)).heap.size = wr.heap.size := by
    show (Array.modify _ _ _).size = _
    rw [Array.size_modify]
  have hsz : ((wr.setCell ⟨b.SP, 17, none⟩ (.slice (some ⟨wr.heap.size, 0, none⟩) 1 1)).alloc (.cells #[.slice (some ⟨b.ID, 0, none⟩) np np, .map (some b.GM)] 75)).heap.size = wr.heap.size + 1 := by rw [World.size_alloc, hs0]
  refine ⟨h.ok, ⟨gl, by omega⟩, h.fr.join hF (fun k hk e => by omega), h.ix.kept hF (by omega), h.bY.kept hF (by omega), h.lm.kept hF (by omega), h.im.kept hF (by omega), h.cm.kept hF (by omega), h.ls.kept hF (by omega), h.st.kept hF (by omega), ?_, h.iD.kept hF (by omega), h.gm.kept hF (by omega), ?_, ?_, owns_nil _ _ _ _, fun d hd => by omega⟩
  · exact ((h.sp.setCell 17 _).alloc _).alloc _
  · have h1 := (Blk.new (wr.setCell ⟨b.SP, 17, none⟩ (.slice (some ⟨wr.heap.size, 0, none⟩) 1 1)) 75 [.slice (some ⟨b.ID, 0, none⟩) np np, .map (some b.GM)]).alloc (.cells (Array.replicate n (.int .u8 0)) 5)
    rw [hs0] at h1
    exact h1
  · have e : msL f n 0 = List.replicate n (.int .u8 0) := by
      unfold msL
      apply List.ext_getElem
      · simp
      · intro n h1 h2
        simp
    rw [e, ← hsz]
    have := Blk.new ((wr.setCell ⟨b.SP, 17, none⟩ (.slice (some ⟨wr.heap.size, 0, none⟩) 1 1)).alloc (.cells #[.slice (some ⟨b.ID, 0, none⟩) np np, .map (some b.GM)] 75)) 5 (List.replicate n (.int .u8 0))
    simpa using this
theorem Q2.step {b : Bl} {w wr : World} {np n PB MS j : Nat} {f : Nat → Nat} {nv mv : Value} {pl : Nat → Nat} (h : Q2 b w np n PB MS f j nv mv pl wr) (hj : j < n) (hn : n ≤ 8) :
    ∃ w2, (Instr.mapUpdate 32 (.map (some b.BY)) (.string (im j)) (.int .i64 (j : Int))).run Ybaf.prog (wr.setCell ⟨MS, j, none⟩ (.int .u8 ((f j : Nat) : Int))) = .ok () w2 ∧
      w2.cell? ⟨b.SP, 4, none⟩ = some mv ∧ w2.ownsRow w.heap.size 77 4 mv j ((List.range j).flatMap (msgC pl)) ∧ w.heap.size ≤ w2.heap.size ∧ b.SP < w2.heap.size ∧
      ∀ (g cap : Nat) (w5 : World), w5.ownsRow w.heap.size 77 4 (.slice (some ⟨g, 0, none⟩) (j + 1) cap) (j + 1) (((List.range j).flatMap (msgC pl)) ++ [.string (im j), .slice none 0 0, .slice none 0 0, .slice (some ⟨w2.heap.size, 0, none⟩) 2 2]) → ((w2.alloc (.cells #[.int .u8 ((f j : Nat) : Int), .int .u8 (np : Int)] 5)).alloc (.cells #[.string (im j), .slice none 0 0, .slice none 0 0, .slice (some ⟨w2.heap.size, 0, none⟩) 2 2] 77)).grownBy w5 mv.ownBlock →
        w5.cell? ⟨b.SP, 4, none⟩ = some mv ∧ w5.frozen? ⟨b.SP, 4, none⟩ = false ∧ Hid (Q2 b w np n PB MS f (j + 1) nv (.slice (some ⟨g, 0, none⟩) (j + 1) cap) (fun d => if d = j then w2.heap.size else pl d) (w5.setCell ⟨b.SP, 4, none⟩ (.slice (some ⟨g, 0, none⟩) (j + 1) cap))) := by
  obtain ⟨n1, n2, n3, n4, n5, n6, n7, n8, n9, n10⟩ := h.ok.lt
  obtain ⟨p1, p2⟩ := h.lt
  have hF1 : Fr (· = MS) wr (wr.setCell ⟨MS, j, none⟩ (.int .u8 ((f j : Nat) : Int))) := (Fr.refl (· = MS) wr).setCell (p := ⟨MS, j, none⟩) (.inl rfl) _
  have l1 := nmL_look (f := fun d => .int .i64 (d : Int)) (K := im) (fun a c ha hc e => im_inj ha hc e) j j (by omega) (by omega)
  rw [if_neg (by omega)] at l1
  obtain ⟨w2, hrun, hm2, hF2, hsz⟩ := supdate_run (k := im j) Ybaf.underlying32 (.int .i64 (j : Int)) (h.bY.kept hF1 (by omega)) l1
  have hF12 : Fr (fun k => k = MS ∨ k = b.BY) wr w2 := (hF1.mono (fun _ _ h => .inl h)).trans (hF2.mono (fun _ _ h => .inr h))
  have sp2 := h.sp.kept hF12 (by omega)
  have mv2 : w2.ownsRow w.heap.size 77 4 mv j ((List.range j).flatMap (msgC pl)) := owns_kept h.mv hF12 (fun k h1 h2 => by
    rcases h2 with h2 | h2
    · subst h2; exact owns_neB h.mv h.ms (by decide) h1
    · subst h2; exact owns_neM h.mv h.bY h1)
  have ms2 : Blk w2 MS 5 (msL f n (j + 1)) := by
    have := h.ms.setCell j (.int .u8 ((f j : Nat) : Int))
    rw [msL_set hj] at this
    exact this.kept hF2 (by omega)
  refine ⟨w2, hrun, sp2.cell 4, mv2, Nat.le_trans h.fr.size hF12.size, sp2.lt, fun g cap w5 hown hgrow => ?_⟩
  have hF3 : Fr (fun k => mv.ownBlock = some k) w2 w5 := (((Fr.refl (fun k => mv.ownBlock = some k) w2).alloc _).alloc _).grown hgrow (fun k hk => .inl hk)
  have pl5 : Blk w5 w2.heap.size 5 [.int .u8 ((f j : Nat) : Int), .int .u8 (np : Int)] := by
    have b1 := (Blk.new w2 5 [.int .u8 ((f j : Nat) : Int), .int .u8 (np : Int)]).alloc (.cells #[.string (im j), .slice none 0 0, .slice none 0 0, .slice (some ⟨w2.heap.size, 0, none⟩) 2 2] 77)
    exact (hgrow.block w2.heap.size b1.lt (fun e => by have := owns_lt mv2 e.symm; omega)).trans b1
  have sp5 := sp2.kept hF3 (owns_neB mv2 sp2 (by decide))
  have hF4 : Fr (· = b.SP) w5 (w5.setCell ⟨b.SP, 4, none⟩ (.slice (some ⟨g, 0, none⟩) (j + 1) cap)) := (Fr.refl (· = b.SP) w5).setCell (p := ⟨b.SP, 4, none⟩) (.inl rfl) _
  have ks : ∀ {k : Nat} {l : List (ByteArray × Value)}, SMap wr k l → k ≠ MS → k ≠ b.BY → k ≠ b.SP → SMap (w5.setCell ⟨b.SP, 4, none⟩ (.slice (some ⟨g, 0, none⟩) (j + 1) cap)) k l := fun hm a1 a2 a3 => by
    have g2 := hm.kept hF12 (by omega)
    exact (g2.kept hF3 (owns_neM mv2 g2)).kept hF4 a3
  have ka : ∀ {k : Nat} {l : List (Nat × Value)}, MapAt wr k l → k ≠ MS → k ≠ b.BY → k ≠ b.SP → MapAt (w5.setCell ⟨b.SP, 4, none⟩ (.slice (some ⟨g, 0, none⟩) (j + 1) cap)) k l := fun hm a1 a2 a3 => by
    have g2 := hm.kept hF12 (by omega)
    exact (g2.kept hF3 (MapAt.neO mv2 g2)).kept hF4 a3
  have kb : ∀ {k e : Nat} {l : List Value}, Blk w2 k e l → e ≠ 77 → k ≠ b.SP → Blk (w5.setCell ⟨b.SP, 4, none⟩ (.slice (some ⟨g, 0, none⟩) (j + 1) cap)) k e l := fun hb he hk => (hb.kept hF3 (owns_neB mv2 hb (fun e => he e.symm))).kept hF4 hk
  have msl := ms2.lt
  refine ⟨sp5.cell 4, sp5.frozen 4, h.ok, h.lt, ?_, ks h.ix (by omega) (by omega) (by omega), ?_, ks h.lm (by omega) (by omega) (by omega), ks h.imm (by omega) (by omega) (by omega), ks h.cm (by omega) (by omega) (by omega), ka h.ls (by omega) (by omega) (by omega), ka h.st (by omega) (by omega) (by omega), sp5.setCell 4 _, kb (h.iD.kept hF12 (by omega)) (by decide) (by omega), ks h.gm (by omega) (by omega) (by omega), kb (h.pb.kept hF12 (by omega)) (by decide) (by omega), kb ms2 (by decide) (by omega), ?_, fun d hd => ?_⟩
  · have h1 := h.fr.join hF12 (fun k hk e => by omega)
    have h2 := h1.join hF3 (fun k hk e => by have := owns_base mv2 k e; omega)
    exact h2.join hF4 (fun k hk e => by omega)
  · rw [nmL_succ]
    exact (hm2.kept hF3 (owns_neM mv2 hm2)).kept hF4 (by omega)
  · have e1 : (List.range (j + 1)).flatMap (msgC fun d => if d = j then w2.heap.size else pl d) = (List.range j).flatMap (msgC pl) ++ [.string (im j), .slice none 0 0, .slice none 0 0, .slice (some ⟨w2.heap.size, 0, none⟩) 2 2] := by
      rw [List.range_succ, List.flatMap_append]
      congr 1
      · rw [List.flatMap_def, List.flatMap_def]
        congr 1
        apply List.map_congr_left
        intro d hd
        have := List.mem_range.1 hd
        simp only [msgC]
        rw [if_neg (by omega)]
      · simp [msgC]
    rw [e1]
    exact owns_kept hown hF4 (fun k h1 h2 => by subst h2; exact owns_neB hown sp5 (by decide) h1)
  · by_cases e : d = j
    · subst e
      rw [if_pos rfl]
      exact ⟨pl5.kept hF4 (by have := sp2.lt; omega), msl⟩
    · rw [if_neg e]
      obtain ⟨k1, k2⟩ := h.pls d (by omega)
      have k3 : pl d ≠ b.BY := fun e => by
        have := h.bY.ne k1
        exact this e.symm
      exact ⟨kb (k1.kept hF12 (by omega)) (by decide) (by omega), k2⟩
end Go.Proofs.YbulkbrdiFmt
