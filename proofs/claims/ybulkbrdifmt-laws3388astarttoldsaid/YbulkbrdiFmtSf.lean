/-
  b3388aF: item, local and component over what is known of a space.
-/
import Derived.Test.YbulkbrdiFmtSe
namespace Go.Proofs.YbulkbrdiFmt
open Go.RowKit
set_option linter.unusedVariables false
set_option linter.unusedSimpArgs false
set_option maxRecDepth 100000
set_option maxHeartbeats 2000000

theorem nodup_lt : ∀ (n : Nat) (l : List Nat), l.Nodup → (∀ x ∈ l, x < n) → l.length ≤ n
  | 0, l, _, h => by
    cases l with
    | nil => simp
    | cons x l => exact absurd (h x (by simp)) (by omega)
  | n + 1, l, hd, h => by
    have h1 := nodup_lt n (l.erase n) (hd.erase n) (fun x hx => by
      have h2 := (hd.mem_erase_iff).1 hx
      have := h x h2.2
      have := h2.1
      omega)
    rw [List.length_erase] at h1
    split at h1 <;> omega
/-- what is known of the given -/
structure PrOk (p : Pr) : Prop where
  ma : 0 < p.mn → p.ma = some ⟨p.MB, 0, none⟩
  np : p.np ≤ 8
  mn : p.mn ≤ 8
  ix : ∀ d, d < p.np → slook p.ixl (nm d) = some (.int .i64 (d : Int))
  gl : ∀ d, d < p.np → slook p.gl (nm d) = some (.string (nm d))
  g0 : slook p.gl ⟨#[]⟩ = none
  ms : ∀ j, p.ms j < 2 ^ p.np
section
variable {p : Pr} {t t' : St} {w w' : World}
theorem Inv.itl (h : Inv p t w) (hp : PrOk p) : t.its.length ≤ 128 := by
  have hnp := hp.np
  have h1 : (t.its.map fun q => q.1 * 16 + q.2).Nodup := by
    rw [List.nodup_iff_pairwise_ne, List.pairwise_map]
    refine List.Pairwise.imp_of_mem ?_ (List.nodup_iff_pairwise_ne.1 h.ok.ind)
    intro a b ha hb hab e
    have h2 := h.ok.iok a ha
    have h3 := h.ok.iok b hb
    exact hab (Prod.ext (by omega) (by omega))
  have h2 := nodup_lt 128 _ h1 (fun x hx => by
    obtain ⟨q, hq, rfl⟩ := List.mem_map.1 hx
    have := h.ok.iok q hq
    omega)
  simpa using h2
theorem BagA.keptC {ba : Option Addr} {n c : Nat} {d : Array Nat} (hb : BagA w ba n c d) (h : Inv p t w) (hf : Fr (Ch p t) w w') : BagA w' ba n c d := by
  refine hb.kept hf (fun g hg => ?_)
  rcases hb.2.2 with ⟨h4, _⟩ | ⟨g', r, h4, h5⟩
  · rw [h4] at hg; cases hg
  · have : g' = g := by rw [h4] at hg; injection hg with hg; injection hg
    subst this
    exact h.nch h5 (by decide)
theorem SendOk.keptC {its : List (Nat × Nat)} {j : Nat} {v : Value} (hs : SendOk p its w j v) (h : Inv p t w) (hf : Fr (Ch p t) w w') : SendOk p its w' j v := hs.kept hf (fun g l hb => h.nch hb (by decide))
/-- an item more, or none -/
theorem Inv.addIt (h : Inv p t w) (hp : PrOk p) {q : Nat × Nat} (hq : q.1 < p.np ∧ q.2 < 16 ∧ (q.2 < 8 → q.2 < p.mn)) {its' : List (Nat × Nat)} {v' : Value} (hi : its' = t.its ∨ (its' = t.its ++ [q] ∧ ∀ b ∈ t.its, kS (itK b) ≠ kS (itK q)))
    (hm : SMap w' p.IM (tab itK its')) (hb : Blk w' p.SP 42 ((spcOf p t).set 8 v')) (hr : w'.ownsRow 0 48 9 v' its'.length (its'.flatMap itC)) (hv : ∀ k, v'.ownBlock = some k → t.vi.ownBlock = some k ∨ w.heap.size ≤ k) (hf : Fr (fun k => k = p.IM ∨ k = p.SP ∨ t.vi.ownBlock = some k) w w') :
    Inv p { t with its := its', vi := v' } w' ∧ Ext p t { t with its := its', vi := v' } w w' := by
  have hF : Fr (Ch p t) w w' := hf.mono (fun k _ hk => by
    unfold Ch
    rcases hk with h1 | h1 | h1
    · exact .inr (.inr (.inl h1))
    · exact .inl h1
    · exact .inr (.inr (.inr (.inr (.inr (.inr (.inl h1)))))))
  obtain ⟨s1, s2, s3, s4, s5⟩ := h.stat hF
  have hpre : t.its <+: its' := by
    rcases hi with h1 | ⟨h1, _⟩
    · rw [h1]; exact List.prefix_refl _
    · rw [h1]; exact List.prefix_append _ _
  have nm' : ∀ {k : Nat} {l : List (ByteArray × Value)}, SMap w k l → k ≠ p.IM → ¬ (k = p.IM ∨ k = p.SP ∨ t.vi.ownBlock = some k) := fun hk hn h1 => by
    rcases h1 with h1 | h1 | h1
    · exact hn h1
    · exact hk.ne h.sp.sp h1
    · exact owns_neM h.ir hk h1
  have na' : ∀ {k : Nat} {l : List (Nat × Value)}, MapAt w k l → k ≠ p.IM → ¬ (k = p.IM ∨ k = p.SP ∨ t.vi.ownBlock = some k) := fun hk hn h1 => by
    rcases h1 with h1 | h1 | h1
    · exact hn h1
    · exact hk.ne h.sp.sp h1
    · exact MapAt.neO h.ir hk h1
  have no' : ∀ {e size n : Nat} {v : Value} {xs : List Value}, w.ownsRow 0 e size v n xs → e ≠ 42 → e ≠ 48 → ∀ k, v.ownBlock = some k → ¬ (k = p.IM ∨ k = p.SP ∨ t.vi.ownBlock = some k) := fun hk h42 h48 k hk1 h1 => by
    rcases h1 with h1 | h1 | h1
    · subst h1; exact owns_neM hk h.im hk1
    · subst h1; exact owns_neB hk h.sp.sp h42 hk1
    · exact own_ne hk h.ir h48 k hk1 h1
  refine ⟨{ sp := ⟨hb, rfl, s1, s2⟩, ix := s3, msg := s4, mty := s5, im := hm, ir := hr, lm := h.lm.kept hf (nm' h.lm h.ne.lmim), lr := owns_kept h.lr hf (no' h.lr (by decide) (by decide)), cm := h.cm.kept hf (nm' h.cm h.ne.imcm.symm), cr := owns_kept h.cr hf (no' h.cr (by decide) (by decide)), bag := fun c hc => (h.bag c hc).keptC h hF, ls := h.ls.kept hf (na' h.ls h.ne.imls.symm), lso := fun e he => ?_, st := h.st.kept hf (na' h.st h.ne.imst.symm), sto := fun e he => ?_, ok := ?_, ne := h.ne }, { fr := hF, vi := hv, vl := fun k hk => .inl hk, vc := fun k hk => .inl hk, its := hpre, nl := Nat.le_refl _, cps := fun k c hc => ⟨c, hc, rfl, rfl, id⟩ }⟩
  · obtain ⟨i, x, j, s, h1, h2, h3, h4⟩ := h.lso e he
    exact ⟨i, x, j, s, h1, get_prefix hpre h2, h3, (h4.keptC h hF).mono hpre⟩
  · obtain ⟨k, x, j, nx, c, c', s, h1, h2, h3, h4, h5, h6, h7⟩ := h.sto e he
    exact ⟨k, x, j, nx, c, c', s, h1, h2, h3, get_prefix hpre h4, h5, (h6.keptC h hF).mono hpre, h7⟩
  · refine ⟨?_, ?_, h.ok.nl, fun c hc => ?_⟩
    · rcases hi with h1 | ⟨h1, _⟩
      · rw [h1]; exact h.ok.iok
      · rw [h1]
        intro x hx
        rcases List.mem_append.1 hx with hx | hx
        · exact h.ok.iok x hx
        · rw [List.mem_singleton.1 hx]; exact hq
    · rcases hi with h1 | ⟨h1, h2⟩
      · rw [h1]; exact h.ok.ind
      · rw [h1]
        exact List.nodup_append.2 ⟨h.ok.ind, by simp, fun a ha b hb e => by
          rw [List.mem_singleton.1 hb] at e
          subst e
          exact h2 a ha rfl⟩
    · obtain ⟨h1, h2, h3, h4, h5, h6⟩ := h.ok.cok c hc
      refine ⟨h1, h2, h3, fun x hx => ?_, fun ha => ?_, h6⟩
      · obtain ⟨j, hj, hj2⟩ := h4 x hx
        exact ⟨j, get_prefix hpre hj, hj2⟩
      · rw [D_mono hpre c.bag (fun x hx => by
          obtain ⟨j, hj, _⟩ := h4 x hx
          exact (List.getElem?_eq_some_iff.1 hj).1)]
        exact h5 ha
theorem sc_im (j : Nat) (hj : j < 8) : Lib.strCells (im j) = bV [65 + j] ∧ (im j).size = 1 := by
  have h8 : j = 0 ∨ j = 1 ∨ j = 2 ∨ j = 3 ∨ j = 4 ∨ j = 5 ∨ j = 6 ∨ j = 7 := by omega
  rcases h8 with rfl | rfl | rfl | rfl | rfl | rfl | rfl | rfl <;> exact ⟨rfl, rfl⟩
theorem sc_nm (j : Nat) (hj : j < 8) : Lib.strCells (nm j) = bV [97 + j] ∧ (nm j).size = 1 := by
  have h8 : j = 0 ∨ j = 1 ∨ j = 2 ∨ j = 3 ∨ j = 4 ∨ j = 5 ∨ j = 6 ∨ j = 7 := by omega
  rcases h8 with rfl | rfl | rfl | rfl | rfl | rfl | rfl | rfl <;> exact ⟨rfl, rfl⟩
/-- (*space).item -/
theorem itemI (hp : PrOk p) (h : Inv p t w) (q : Nat × Nat) (hq : q.1 < p.np ∧ q.2 < 16 ∧ (q.2 < 8 → q.2 < p.mn)) :
    Calls Ybaf.prog 8 #[.pointer (some ⟨p.SP, 0, none⟩), .agg #[.int .i64 (q.1 : Int), .int .i64 (itSb q.2), .string (itS1 q.2), .string (itS2 q), .int .u64 0, .bool false, .bool false, .int .u64 0, .pointer none]] w fun e w' => ∃ (no : Nat) (its' : List (Nat × Nat)) (v' : Value), e = .returned (.int .u32 (no : Int)) ∧ Inv p { t with its := its', vi := v' } w' ∧ Ext p t { t with its := its', vi := v' } w w' ∧ its'[no]? = some q := by
  have hnp := hp.np
  have hl := h.itl hp
  have a1 : Lib.strCells (itS1 q.2) = bV (itM1 q.2) ∧ (itS1 q.2).size = itN q.2 := by
    unfold itS1 itM1 itN
    by_cases h8 : q.2 < 8
    · rw [if_pos h8, if_pos h8, if_pos h8]; exact ⟨rfl, rfl⟩
    · rw [if_neg h8, if_neg h8, if_neg h8]; exact sc_im _ (by omega)
  have a2 : Lib.strCells (itS2 q) = bV (itM2 q) ∧ (itS2 q).size = itN q.2 := by
    unfold itS2 itM2 itN
    by_cases h8 : q.2 < 8
    · rw [if_pos h8, if_pos h8, if_pos h8]; exact ⟨rfl, rfl⟩
    · rw [if_neg h8, if_neg h8, if_neg h8]; exact sc_nm _ (by omega)
  have a3 : ren p.gl (itS2 q) (itS2 q) := by
    unfold itS2
    by_cases h8 : q.2 < 8
    · rw [if_pos h8]; exact .inr ⟨hp.g0, rfl⟩
    · rw [if_neg h8]; exact .inl (hp.gl _ hq.1)
  have a4 : itN q.2 ≤ 1 := by unfold itN; split <;> omega
  have a5 : itSb q.2 = -1 ∨ ∃ j : Nat, itSb q.2 = j ∧ j < 64 := by
    unfold itSb
    by_cases h8 : q.2 < 8
    · rw [if_pos h8]; exact .inr ⟨q.2, rfl, by omega⟩
    · rw [if_neg h8]; exact .inl rfl
  refine (item_any p.SP p.IM p.PB p.PT p.np p.GM t.its.length (itN q.2) (itN q.2) q.1 (itSb q.2) p.gl (tab itK t.its) (itS1 q.2) (itS2 q) (itS2 q) (itM1 q.2) (itM2 q) t.vi (spcOf p t) (t.its.flatMap itC) w a1.1 a1.2 a4 a2.1 a2.2 a4 a3 hq.1 a5 h.sp rfl h.im tab_num rfl h.ir (by omega)).mono fun e w' ⟨no, he, hR⟩ => ?_
  have hR' : Res 48 9 8 p.SP p.IM t.its.length t.vi (tab itK t.its) (kS (itK q)) (spcOf p t) (t.its.flatMap itC) (itC q) no w w' := hR
  obtain ⟨l', v', hc, hm, hb, hr, hv, hf⟩ := hR'.tab rfl h.im h.sp.sp rfl h.ir
  have hi : l' = t.its ∨ (l' = t.its ++ [q] ∧ ∀ b ∈ t.its, kS (itK b) ≠ kS (itK q)) := by
    rcases hc with ⟨h1, _⟩ | ⟨h1, _, h3⟩
    · exact .inl h1
    · exact .inr ⟨h1, h3⟩
  obtain ⟨k1, k2⟩ := h.addIt hp hq hi hm hb hr hv hf
  refine ⟨no, l', v', he, k1, k2, ?_⟩
  rcases hc with ⟨h1, _, b, h2, h3⟩ | ⟨h1, h2, _⟩
  · rw [h1, h2]
    have := h.ok.iok b (List.mem_of_getElem? h2)
    rw [itK_inj ⟨by omega, this.2.1⟩ ⟨by omega, hq.2.1⟩ h3]
  · rw [h1, h2]; simp
end
end Go.Proofs.YbulkbrdiFmt
