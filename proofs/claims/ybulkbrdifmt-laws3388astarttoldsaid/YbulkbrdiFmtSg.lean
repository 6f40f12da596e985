/-
  b3388aF: local and component over what is known of a space.
-/
import Derived.Test.YbulkbrdiFmtSf
namespace Go.Proofs.YbulkbrdiFmt
open Go.RowKit
set_option linter.unusedVariables false
set_option linter.unusedSimpArgs false
set_option maxRecDepth 100000
set_option maxHeartbeats 2000000
section
variable {p : Pr} {t t' : St} {w w' : World}
/-- a local state more -/
theorem Inv.addLo (h : Inv p t w) (hn : t.nl < p.np) {v' : Value}
    (hm : SMap w' p.LM (tab loK (List.range (t.nl + 1)))) (hb : Blk w' p.SP 42 ((spcOf p t).set 6 v')) (hr : w'.ownsRow 0 62 4 v' (t.nl + 1) ((List.range (t.nl + 1)).flatMap loC)) (hv : ∀ k, v'.ownBlock = some k → t.vl.ownBlock = some k ∨ w.heap.size ≤ k) (hf : Fr (fun k => k = p.LM ∨ k = p.SP ∨ t.vl.ownBlock = some k) w w') :
    Inv p { t with nl := t.nl + 1, vl := v' } w' ∧ Ext p t { t with nl := t.nl + 1, vl := v' } w w' := by
  have hF : Fr (Ch p t) w w' := hf.mono (fun k _ hk => by
    unfold Ch
    rcases hk with h1 | h1 | h1
    · exact .inr (.inl h1)
    · exact .inl h1
    · exact .inr (.inr (.inr (.inr (.inr (.inr (.inr (.inl h1))))))))
  obtain ⟨s1, s2, s3, s4, s5⟩ := h.stat hF
  have nm' : ∀ {k : Nat} {l : List (ByteArray × Value)}, SMap w k l → k ≠ p.LM → ¬ (k = p.LM ∨ k = p.SP ∨ t.vl.ownBlock = some k) := fun hk hn h1 => by
    rcases h1 with h1 | h1 | h1
    · exact hn h1
    · exact hk.ne h.sp.sp h1
    · exact owns_neM h.lr hk h1
  have na' : ∀ {k : Nat} {l : List (Nat × Value)}, MapAt w k l → k ≠ p.LM → ¬ (k = p.LM ∨ k = p.SP ∨ t.vl.ownBlock = some k) := fun hk hn h1 => by
    rcases h1 with h1 | h1 | h1
    · exact hn h1
    · exact hk.ne h.sp.sp h1
    · exact MapAt.neO h.lr hk h1
  have no' : ∀ {e size n : Nat} {v : Value} {xs : List Value}, w.ownsRow 0 e size v n xs → e ≠ 42 → e ≠ 62 → ∀ k, v.ownBlock = some k → ¬ (k = p.LM ∨ k = p.SP ∨ t.vl.ownBlock = some k) := fun hk h42 h62 k hk1 h1 => by
    rcases h1 with h1 | h1 | h1
    · subst h1; exact owns_neM hk h.lm hk1
    · subst h1; exact owns_neB hk h.sp.sp h42 hk1
    · exact own_ne hk h.lr h62 k hk1 h1
  refine ⟨{ sp := ⟨hb, rfl, s1, s2⟩, ix := s3, msg := s4, mty := s5, lm := hm, lr := hr, im := h.im.kept hf (nm' h.im h.ne.lmim.symm), ir := owns_kept h.ir hf (no' h.ir (by decide) (by decide)), cm := h.cm.kept hf (nm' h.cm h.ne.lmcm.symm), cr := owns_kept h.cr hf (no' h.cr (by decide) (by decide)), bag := fun c hc => (h.bag c hc).keptC h hF, ls := h.ls.kept hf (na' h.ls h.ne.lmls.symm), lso := fun e he => ?_, st := h.st.kept hf (na' h.st h.ne.lmst.symm), sto := fun e he => ?_, ok := ?_, ne := h.ne }, { fr := hF, vi := fun k hk => .inl hk, vl := hv, vc := fun k hk => .inl hk, its := List.prefix_refl _, nl := Nat.le_succ _, cps := fun k c hc => ⟨c, hc, rfl, rfl, id⟩ }⟩
  · obtain ⟨i, x, j, s, h1, h2, h3, h4⟩ := h.lso e he
    exact ⟨i, x, j, s, h1, h2, h3, h4.keptC h hF⟩
  · obtain ⟨k, x, j, nx, c, c', s, h1, h2, h3, h4, h5, h6, h7⟩ := h.sto e he
    exact ⟨k, x, j, nx, c, c', s, h1, h2, h3, h4, h5, h6.keptC h hF, h7⟩
  · refine ⟨h.ok.iok, h.ok.ind, hn, fun c hc => ?_⟩
    obtain ⟨h1, h2⟩ := h.ok.cok c hc
    exact ⟨Nat.lt_succ_of_lt h1, h2⟩
/-- (*space).local of a known one -/
theorem localHit (hp : PrOk p) (h : Inv p t w) (i : Nat) (hi : i < t.nl) :
    Calls Ybaf.prog 10 #[.pointer (some ⟨p.SP, 0, none⟩), .agg #[.int .i64 (i : Int), .iface 82 (.agg #[]), .slice none 0 0, .slice none 0 0]] w fun e w' => e = .returned (.int .u32 (i : Int)) ∧ Fr (fun _ => False) w w' := by
  have hnp := hp.np
  have hnl := h.ok.nl
  refine (local_any p.SP p.LM p.PB p.PT p.np p.GM t.nl i p.gl (tab loK (List.range t.nl)) t.vl (spcOf p t) ((List.range t.nl).flatMap loC) w (by omega) h.sp rfl h.lm tab_num rfl h.lr (by omega)).mono fun e w' ⟨no, he, hR⟩ => ?_
  rcases hR with ⟨h1, h2⟩ | ⟨h1, _⟩
  · obtain ⟨b, h3, h4⟩ := tab_some (a := i) h1
    obtain ⟨h5, h6⟩ := List.getElem?_eq_some_iff.1 h3
    rw [List.getElem_range] at h6
    rw [List.length_range] at h5
    have : no = i := by
      rw [h6]
      exact loK_inj (by omega) (by omega) h4
    rw [this] at he
    exact ⟨he, h2⟩
  · exact absurd rfl (tab_none (a := i) h1 i (List.mem_range.2 hi))
/-- (*space).local of a new one -/
theorem localNew (hp : PrOk p) (h : Inv p t w) (hn : t.nl < p.np) :
    Calls Ybaf.prog 10 #[.pointer (some ⟨p.SP, 0, none⟩), .agg #[.int .i64 (t.nl : Int), .iface 82 (.agg #[]), .slice none 0 0, .slice none 0 0]] w fun e w' => e = .returned (.int .u32 (t.nl : Int)) ∧ ∃ v', Inv p { t with nl := t.nl + 1, vl := v' } w' ∧ Ext p t { t with nl := t.nl + 1, vl := v' } w w' := by
  have hnp := hp.np
  refine (local_any p.SP p.LM p.PB p.PT p.np p.GM t.nl t.nl p.gl (tab loK (List.range t.nl)) t.vl (spcOf p t) ((List.range t.nl).flatMap loC) w (by omega) h.sp rfl h.lm tab_num rfl h.lr (by omega)).mono fun e w' ⟨no, he, hR⟩ => ?_
  have hR' : Res 62 4 6 p.SP p.LM t.nl t.vl (tab loK (List.range t.nl)) (kS (loK t.nl)) (spcOf p t) ((List.range t.nl).flatMap loC) (loC t.nl) no w w' := hR
  obtain ⟨l', v', hc, hm, hb, hr, hv, hf⟩ := hR'.tab (by simp) h.lm h.sp.sp rfl h.lr
  rcases hc with ⟨h1, _, b, h2, h3⟩ | ⟨h1, h2, h3⟩
  · obtain ⟨h5, h6⟩ := List.getElem?_eq_some_iff.1 h2
    rw [List.getElem_range] at h6
    rw [List.length_range] at h5
    have := loK_inj (by omega) (by omega) h3
    omega
  · have e1 : l' = List.range (t.nl + 1) := by rw [h1, List.range_succ]
    rw [List.length_range] at h2
    rw [e1] at hm hr
    rw [List.length_range] at hr
    rw [h2] at he
    exact ⟨he, v', h.addLo hn hm hb hr hv hf⟩
/-- a component more, or none -/
theorem Inv.addCo (h : Inv p t w) {a : Cmp} (ha : a.lo < t.nl ∧ a.bag.Pairwise (· < ·) ∧ a.bag.length ≤ 8 ∧ (∀ x ∈ a.bag, ∃ j, t.its[x]? = some (a.lo, j) ∧ j < 8)) (ha0 : a.ds = 0 ∧ a.ak = false) (hba : BagA w a.ba a.bag.length a.bc a.bag.toArray) {cps' : List Cmp} {v' : Value} (hi : cps' = t.cps ∨ cps' = t.cps ++ [a])
    (hm : SMap w' p.CM (tab cmK cps')) (hb : Blk w' p.SP 42 ((spcOf p t).set 10 v')) (hr : w'.ownsRow 0 64 6 v' cps'.length (cps'.flatMap cmC)) (hv : ∀ k, v'.ownBlock = some k → t.vc.ownBlock = some k ∨ w.heap.size ≤ k) (hf : Fr (fun k => k = p.CM ∨ k = p.SP ∨ t.vc.ownBlock = some k) w w') :
    Inv p { t with cps := cps', vc := v' } w' ∧ Ext p t { t with cps := cps', vc := v' } w w' := by
  have hF : Fr (Ch p t) w w' := hf.mono (fun k _ hk => by
    unfold Ch
    rcases hk with h1 | h1 | h1
    · exact .inr (.inr (.inr (.inl h1)))
    · exact .inl h1
    · exact .inr (.inr (.inr (.inr (.inr (.inr (.inr (.inr h1))))))))
  obtain ⟨s1, s2, s3, s4, s5⟩ := h.stat hF
  have nm' : ∀ {k : Nat} {l : List (ByteArray × Value)}, SMap w k l → k ≠ p.CM → ¬ (k = p.CM ∨ k = p.SP ∨ t.vc.ownBlock = some k) := fun hk hn h1 => by
    rcases h1 with h1 | h1 | h1
    · exact hn h1
    · exact hk.ne h.sp.sp h1
    · exact owns_neM h.cr hk h1
  have na' : ∀ {k : Nat} {l : List (Nat × Value)}, MapAt w k l → k ≠ p.CM → ¬ (k = p.CM ∨ k = p.SP ∨ t.vc.ownBlock = some k) := fun hk hn h1 => by
    rcases h1 with h1 | h1 | h1
    · exact hn h1
    · exact hk.ne h.sp.sp h1
    · exact MapAt.neO h.cr hk h1
  have no' : ∀ {e size n : Nat} {v : Value} {xs : List Value}, w.ownsRow 0 e size v n xs → e ≠ 42 → e ≠ 64 → ∀ k, v.ownBlock = some k → ¬ (k = p.CM ∨ k = p.SP ∨ t.vc.ownBlock = some k) := fun hk h42 h64 k hk1 h1 => by
    rcases h1 with h1 | h1 | h1
    · subst h1; exact owns_neM hk h.cm hk1
    · subst h1; exact owns_neB hk h.sp.sp h42 hk1
    · exact own_ne hk h.cr h64 k hk1 h1
  have hpre : t.cps <+: cps' := by
    rcases hi with h1 | h1
    · rw [h1]; exact List.prefix_refl _
    · rw [h1]; exact List.prefix_append _ _
  have hmem : ∀ c ∈ cps', c ∈ t.cps ∨ c = a := fun c hc => by
    rcases hi with h1 | h1
    · rw [h1] at hc; exact .inl hc
    · rw [h1] at hc
      rcases List.mem_append.1 hc with h2 | h2
      · exact .inl h2
      · exact .inr (List.mem_singleton.1 h2)
  refine ⟨{ sp := ⟨hb, rfl, s1, s2⟩, ix := s3, msg := s4, mty := s5, cm := hm, cr := hr, im := h.im.kept hf (nm' h.im h.ne.imcm), ir := owns_kept h.ir hf (no' h.ir (by decide) (by decide)), lm := h.lm.kept hf (nm' h.lm h.ne.lmcm), lr := owns_kept h.lr hf (no' h.lr (by decide) (by decide)), bag := fun c hc => ?_, ls := h.ls.kept hf (na' h.ls h.ne.cmls.symm), lso := fun e he => ?_, st := h.st.kept hf (na' h.st h.ne.cmst.symm), sto := fun e he => ?_, ok := ?_, ne := h.ne }, { fr := hF, vi := fun k hk => .inl hk, vl := fun k hk => .inl hk, vc := hv, its := List.prefix_refl _, nl := Nat.le_refl _, cps := fun k c hc => ⟨c, get_prefix hpre hc, rfl, rfl, id⟩ }⟩
  · rcases hmem c hc with h1 | h1
    · exact (h.bag c h1).keptC h hF
    · rw [h1]; exact hba.keptC h hF
  · obtain ⟨i, x, j, s, h1, h2, h3, h4⟩ := h.lso e he
    exact ⟨i, x, j, s, h1, h2, h3, h4.keptC h hF⟩
  · obtain ⟨k, x, j, nx, c, c', s, h1, h2, h3, h4, h5, h6, h7, h8⟩ := h.sto e he
    exact ⟨k, x, j, nx, c, c', s, h1, get_prefix hpre h2, h3, h4, h5, h6.keptC h hF, get_prefix hpre h7, h8⟩
  · refine ⟨h.ok.iok, h.ok.ind, h.ok.nl, fun c hc => ?_⟩
    rcases hmem c hc with h1 | h1
    · exact h.ok.cok c h1
    · rw [h1]
      exact ⟨ha.1, ha.2.1, ha.2.2.1, ha.2.2.2, (fun e => absurd (ha0.2.symm.trans e) (by decide)), (fun _ => ha0.1)⟩
theorem perm_list {d d' : Array Nat} {n : Nat} (h : Sort.PermIn 0 n d d') (h1 : d.size = n) (h2 : d'.size = n) : d'.toList.Perm d.toList := by
  have h3 := h.2.2
  have e1 : d.extract 0 n = d := by rw [← h1]; simp
  have e2 : d'.extract 0 n = d' := by rw [← h2]; simp
  rw [e1, e2] at h3
  exact h3
theorem sorted_list {d : Array Nat} {n : Nat} (h : Sort.SortedIn ltN 0 n d) (h1 : d.size = n) (hn : d.toList.Nodup) : d.toList.Pairwise (· < ·) := by
  rw [List.pairwise_iff_getElem]
  intro i j hi hj hij
  have hi2 : i < d.size := by simpa using hi
  have hj2 : j < d.size := by simpa using hj
  have h2 := h i j (by omega) hij (by omega)
  unfold ltN at h2
  rw [getElem!_pos d i hi2, getElem!_pos d j hj2] at h2
  simp only [decide_eq_false_iff_not] at h2
  have h3 : d.toList[i] ≠ d.toList[j] := (List.pairwise_iff_getElem.1 (List.nodup_iff_pairwise_ne.1 hn)) i j hi hj hij
  simp only [Array.getElem_toList] at h3 ⊢
  omega
/-- (*space).component -/
theorem compI {w0 : World} (hp : PrOk p) (h : Inv p t w0) (hf0 : Fr (fun _ => False) w0 w) (lo bn bc : Nat) (ba : Option Addr) (d : Array Nat) (hb : BagA w ba bn bc d) (hfresh : ∀ k, ba = some ⟨k, 0, none⟩ → w0.heap.size ≤ k)
    (hlo : lo < t.nl) (hbn : bn ≤ 8) (hit : ∀ x ∈ d.toList, ∃ j, t.its[x]? = some (lo, j) ∧ j < 8) (hnd : d.toList.Nodup) (hn : t.cps.length ≤ 1000000) :
    Calls Ybaf.prog 9 #[.pointer (some ⟨p.SP, 0, none⟩), .int .u32 (lo : Int), .slice ba bn bc] w fun e w' => ∃ (no : Nat) (cps' : List Cmp) (v' : Value), e = .returned (.int .u32 (no : Int)) ∧ Inv p { t with cps := cps', vc := v' } w' ∧ Ext p t { t with cps := cps', vc := v' } w0 w' ∧ cps'.length ≤ t.cps.length + 1 ∧ ∃ c : Cmp, cps'[no]? = some c ∧ c.lo = lo ∧ c.bag.Perm d.toList := by
  have hnp := hp.np
  have hnl := h.ok.nl
  have hil := h.itl hp
  have hw := h.kept hf0
  have hsz := hb.1
  have hx128 : ∀ x ∈ d.toList, x < 128 := fun x hx => by
    obtain ⟨j, hj, _⟩ := hit x hx
    have := (List.getElem?_eq_some_iff.1 hj).1
    omega
  refine (comp_any p.SP p.CM t.cps.length lo bn bc ba d t.vc (tab cmK t.cps) (spcOf p t) (t.cps.flatMap cmC) w hw.sp.sp rfl rfl hw.cm tab_num hw.cr hn hb (by omega) (by omega) (fun i hi => hx128 _ (by rw [getElem!_pos d i (by omega)]; simp))).mono fun e w' ⟨no, d', w1, he, hb1, hperm, hsort, hf1, hR⟩ => ?_
  have hF01 : Fr (fun _ => False) w0 w1 := hf0.join hf1 (fun i hi hT => by have := hfresh i hT; omega)
  have h1 := h.kept hF01
  have hsz' := hb1.1
  have hpl := perm_list hperm hsz hsz'
  have hlen : d'.toList.length = bn := by simpa using hsz'
  obtain ⟨a, ha⟩ : ∃ a : Cmp, a = ⟨lo, d'.toList, ba, bc, 0, false⟩ := ⟨_, rfl⟩
  have hR' : Res 64 6 10 p.SP p.CM t.cps.length t.vc (tab cmK t.cps) (kS (cmK a)) (spcOf p t) (t.cps.flatMap cmC) (cmC a) no w1 w' := by
    rw [ha]; unfold cmK cmC; simp only; rw [hlen]; exact hR
  obtain ⟨l', v', hc, hm, hbk, hr, hv, hf⟩ := hR'.tab rfl h1.cm h1.sp.sp rfl h1.cr
  have haok : a.lo < t.nl ∧ a.bag.Pairwise (· < ·) ∧ a.bag.length ≤ 8 ∧ (∀ x ∈ a.bag, ∃ j, t.its[x]? = some (a.lo, j) ∧ j < 8) := by
    rw [ha]
    exact ⟨hlo, sorted_list hsort hsz' (hpl.symm.nodup hnd), by simp only; omega, fun x hx => hit x (hpl.mem_iff.1 hx)⟩
  have hba : BagA w1 a.ba a.bag.length a.bc a.bag.toArray := by rw [ha]; simp only; rw [hlen]; exact hb1
  have hi : l' = t.cps ∨ l' = t.cps ++ [a] := by
    rcases hc with ⟨h2, _⟩ | ⟨h2, _⟩
    · exact .inl h2
    · exact .inr h2
  obtain ⟨k1, k2⟩ := h1.addCo haok (by rw [ha]; exact ⟨rfl, rfl⟩) hba hi hm hbk hr hv hf
  refine ⟨no, l', v', he, k1, Ext.pre hF01 k2, ?_, ?_⟩
  · rcases hi with h2 | h2 <;> rw [h2] <;> simp
  · rcases hc with ⟨h2, _, b, h3, h4⟩ | ⟨h2, h3, _⟩
    · refine ⟨b, by rw [h2]; exact h3, ?_⟩
      obtain ⟨q1, q2, q3, q4, _⟩ := h.ok.cok b (List.mem_of_getElem? h3)
      have h5 := cmK_inj (c := b) (d := a) ⟨by omega, fun x hx => by
        obtain ⟨j, hj, _⟩ := q4 x hx
        have := (List.getElem?_eq_some_iff.1 hj).1
        omega⟩ ⟨by have := haok.1; omega, fun x hx => by
        obtain ⟨j, hj, _⟩ := haok.2.2.2 x hx
        have := (List.getElem?_eq_some_iff.1 hj).1
        omega⟩ h4
      rw [h5.1, h5.2, ha]
      exact ⟨rfl, hpl⟩
    · exact ⟨a, by rw [h2, h3]; simp, by rw [ha], by rw [ha]; exact hpl⟩
end
end Go.Proofs.YbulkbrdiFmt
