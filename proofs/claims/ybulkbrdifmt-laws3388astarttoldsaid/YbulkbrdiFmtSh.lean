/-
  b3388aF: the two memos.
-/
import Derived.Test.YbulkbrdiFmtSg
namespace Go.Proofs.YbulkbrdiFmt
open Go.RowKit
set_option linter.unusedVariables false
set_option linter.unusedSimpArgs false
set_option maxRecDepth 100000
set_option maxHeartbeats 2000000

theorem zero67 (w : World) : (zeroValue 67).run Ybaf.prog w = .ok (.agg #[.int .u32 0, .slice none 0 0, .slice none 0 0]) w := by kernel_rfl
theorem look_miss_run {w : World} {m k : Nat} {l : List (Nat × Value)} (h : MapAt w m l) (hk : look l k = none) : (Instr.lookup 27 (.map (some m)) (.int .u64 (k : Int)) true).run Ybaf.prog w = .ok (.tuple #[.agg #[.int .u32 0, .slice none 0 0, .slice none 0 0], .bool false]) w := by
  obtain ⟨es, clock, hb, hl⟩ := h
  have hj := (findNow_look es.toList l k 0 hl).1 hk
  simp only [Instr.lookup, Sem.run_bind, run_underlying Ybaf.underlying27, Result.andThen_ok, MapKept.run_getObj_map hb, Sem.run_pure]
  rw [show (10000 : Nat) = 9999 + 1 from rfl, check43]
  simp only [Result.andThen_ok, Instr.findKey, Sem.run_bind, run_underlying Ybaf.underlying43, hj, Sem.run_pure, zero67, if_true]
theorem look_mem : ∀ {l : List (Nat × Value)} {k : Nat} {v : Value}, look l k = some v → (k, v) ∈ l
  | [], k, v, h => by cases h
  | q :: l, k, v, h => by
    rw [look_cons] at h
    by_cases hq : q.1 = k
    · rw [if_pos hq] at h
      have : q = (k, v) := Prod.ext hq (Option.some.inj h)
      rw [this]; simp
    · rw [if_neg hq] at h
      exact List.mem_cons_of_mem _ (look_mem h)
section
variable {p : Pr} {t : St} {w w' : World}
theorem Inv.lsHit (h : Inv p t w) (hp : PrOk p) {i x j : Nat} {v : Value} (hx : t.its[x]? = some (i, j)) (hv : look t.lsl (key i (x + 1)) = some v) : ∃ s, v = .agg #[.int .u32 (i : Int), s, .slice none 0 0] ∧ SendOk p t.its w j s := by
  have hl := h.itl hp
  obtain ⟨i', x', j', s, h1, h2, h3, h4⟩ := h.lso _ (look_mem hv)
  have l1 := (List.getElem?_eq_some_iff.1 hx).1
  have l2 := (List.getElem?_eq_some_iff.1 h2).1
  injection h1 with h1 h5
  obtain ⟨e1, e2⟩ := key_inj (by omega) (by omega) h1
  have e3 : x = x' := by omega
  subst e1; subst e3
  rw [hx] at h2
  injection h2 with h2
  injection h2 with _ h6
  subst h6
  exact ⟨s, h5, h4⟩
theorem Inv.ownMap {k : Nat} {l : List (Nat × Value)} (h : Inv p t w) (hk : MapAt w k l) : t.vi.ownBlock ≠ some k ∧ t.vl.ownBlock ≠ some k ∧ t.vc.ownBlock ≠ some k ∧ p.SP ≠ k := ⟨MapAt.neO h.ir hk, MapAt.neO h.lr hk, MapAt.neO h.cr hk, fun e => hk.ne h.sp.sp e.symm⟩
/-- a local step more -/
theorem Inv.setLs (h : Inv p t w) {i x j : Nat} {s : Value} (hx : t.its[x]? = some (i, j)) (hj : j < 8) (hs : SendOk p t.its w j s) (hm : MapAt w' p.LS (t.lsl ++ [(key i (x + 1), .agg #[.int .u32 (i : Int), s, .slice none 0 0])])) (hf : Fr (· = p.LS) w w') :
    Inv p { t with lsl := t.lsl ++ [(key i (x + 1), .agg #[.int .u32 (i : Int), s, .slice none 0 0])] } w' ∧ Ext p t { t with lsl := t.lsl ++ [(key i (x + 1), .agg #[.int .u32 (i : Int), s, .slice none 0 0])] } w w' := by
  have hF : Fr (Ch p t) w w' := hf.mono (fun k _ hk => .inr (.inr (.inr (.inr (.inl hk)))))
  obtain ⟨s1, s2, s3, s4, s5⟩ := h.stat hF
  obtain ⟨o1, o2, o3, o4⟩ := h.ownMap h.ls
  refine ⟨{ sp := ⟨h.sp.sp.kept hf o4, rfl, s1, s2⟩, ix := s3, msg := s4, mty := s5, im := h.im.kept hf h.ne.imls, ir := owns_kept h.ir hf (fun k h1 h2 => by subst h2; exact o1 h1), lm := h.lm.kept hf h.ne.lmls, lr := owns_kept h.lr hf (fun k h1 h2 => by subst h2; exact o2 h1), cm := h.cm.kept hf h.ne.cmls, cr := owns_kept h.cr hf (fun k h1 h2 => by subst h2; exact o3 h1), bag := fun c hc => (h.bag c hc).keptC h hF, ls := hm, lso := fun e he => ?_, st := h.st.kept hf h.ne.lsst.symm, sto := fun e he => ?_, ok := ⟨h.ok.iok, h.ok.ind, h.ok.nl, h.ok.cok⟩, ne := h.ne }, { fr := hF, vi := fun k hk => .inl hk, vl := fun k hk => .inl hk, vc := fun k hk => .inl hk, its := List.prefix_refl _, nl := Nat.le_refl _, cps := fun k c hc => ⟨c, hc, rfl, rfl, id⟩ }⟩
  · rcases List.mem_append.1 he with he | he
    · obtain ⟨i, x, j, s, h1, h2, h3, h4⟩ := h.lso e he
      exact ⟨i, x, j, s, h1, h2, h3, h4.keptC h hF⟩
    · rw [List.mem_singleton.1 he]
      exact ⟨i, x, j, s, rfl, hx, hj, hs.keptC h hF⟩
  · obtain ⟨k, x, j, nx, c, c', s, h1, h2, h3, h4, h5, h6, h7⟩ := h.sto e he
    exact ⟨k, x, j, nx, c, c', s, h1, h2, h3, h4, h5, h6.keptC h hF, h7⟩
/-- a step more -/
theorem Inv.setSt (h : Inv p t w) {k x j nx : Nat} {c c' : Cmp} {s : Value} (hk : t.cps[k]? = some c) (hxb : x ∈ c.bag) (hx : t.its[x]? = some (c.lo, j)) (hj : j < 8) (hs : SendOk p t.its w j s) (hnx : t.cps[nx]? = some c') (hl : c'.lo = c.lo) (hbg : c'.bag = c.bag.erase x) (hm : MapAt w' p.ST (t.stl ++ [(key k (x + 1), .agg #[.int .u32 (nx : Int), s, .slice none 0 0])])) (hf : Fr (· = p.ST) w w') :
    Inv p { t with stl := t.stl ++ [(key k (x + 1), .agg #[.int .u32 (nx : Int), s, .slice none 0 0])] } w' ∧ Ext p t { t with stl := t.stl ++ [(key k (x + 1), .agg #[.int .u32 (nx : Int), s, .slice none 0 0])] } w w' := by
  have hF : Fr (Ch p t) w w' := hf.mono (fun k _ hk => .inr (.inr (.inr (.inr (.inr (.inl hk))))))
  obtain ⟨s1, s2, s3, s4, s5⟩ := h.stat hF
  obtain ⟨o1, o2, o3, o4⟩ := h.ownMap h.st
  refine ⟨{ sp := ⟨h.sp.sp.kept hf o4, rfl, s1, s2⟩, ix := s3, msg := s4, mty := s5, im := h.im.kept hf h.ne.imst, ir := owns_kept h.ir hf (fun k h1 h2 => by subst h2; exact o1 h1), lm := h.lm.kept hf h.ne.lmst, lr := owns_kept h.lr hf (fun k h1 h2 => by subst h2; exact o2 h1), cm := h.cm.kept hf h.ne.cmst, cr := owns_kept h.cr hf (fun k h1 h2 => by subst h2; exact o3 h1), bag := fun c hc => (h.bag c hc).keptC h hF, st := hm, lso := fun e he => ?_, ls := h.ls.kept hf h.ne.lsst, sto := fun e he => ?_, ok := ⟨h.ok.iok, h.ok.ind, h.ok.nl, h.ok.cok⟩, ne := h.ne }, { fr := hF, vi := fun k hk => .inl hk, vl := fun k hk => .inl hk, vc := fun k hk => .inl hk, its := List.prefix_refl _, nl := Nat.le_refl _, cps := fun k c hc => ⟨c, hc, rfl, rfl, id⟩ }⟩
  · obtain ⟨i, x, j, s, h1, h2, h3, h4⟩ := h.lso e he
    exact ⟨i, x, j, s, h1, h2, h3, h4.keptC h hF⟩
  · rcases List.mem_append.1 he with he | he
    · obtain ⟨k, x, j, nx, c, c', s, h1, h2, h3, h4, h5, h6, h7⟩ := h.sto e he
      exact ⟨k, x, j, nx, c, c', s, h1, h2, h3, h4, h5, h6.keptC h hF, h7⟩
    · rw [List.mem_singleton.1 he]
      exact ⟨k, x, j, nx, c, c', s, rfl, hk, hxb, hx, hj, hs.keptC h hF, hnx, hl, hbg⟩
theorem Inv.stHit (h : Inv p t w) (hp : PrOk p) {k x j : Nat} {c : Cmp} {v : Value} (hk : t.cps[k]? = some c) (hx : t.its[x]? = some (c.lo, j)) (hv : look t.stl (key k (x + 1)) = some v) : ∃ (nx : Nat) (s : Value) (c' : Cmp), v = .agg #[.int .u32 (nx : Int), s, .slice none 0 0] ∧ SendOk p t.its w j s ∧ t.cps[nx]? = some c' ∧ c'.lo = c.lo ∧ c'.bag = c.bag.erase x := by
  have hl := h.itl hp
  obtain ⟨k', x', j', nx, c1, c', s, h1, h2, h3, h4, h5, h6, h7, h8, h9⟩ := h.sto _ (look_mem hv)
  have l1 := (List.getElem?_eq_some_iff.1 hx).1
  have l2 := (List.getElem?_eq_some_iff.1 h4).1
  injection h1 with h1 h10
  obtain ⟨e1, e2⟩ := key_inj (by omega) (by omega) h1
  have e3 : x = x' := by omega
  subst e1; subst e3
  rw [hk] at h2
  injection h2 with h2
  subst h2
  rw [hx] at h4
  injection h4 with h4
  injection h4 with _ h11
  subst h11
  exact ⟨nx, s, c', h10, h6, h7, h8, h9⟩
end
theorem copy_at (w : World) : Calls Ybaf.prog 96 #[.agg #[]] w fun e w' => e = .returned (.iface 82 (.agg #[])) ∧ w' = w.alloc (.cells #[] 82) := by
  go_enter Ybaf.func96, Ybaf.ntmps96
  go_wp2_with fail
  go_ret
  exact ⟨rfl, rfl⟩
theorem settled_at (s : ByteArray) (w : World) : Calls Ybaf.prog 94 #[.agg #[], .string s] w fun e w' => e = .returned (.bool false) ∧ w' = w.alloc (.cells #[] 82) := by
  go_enter Ybaf.func94, Ybaf.ntmps94
  go_wp2_with fail
  go_ret
  exact ⟨rfl, rfl⟩
end Go.Proofs.YbulkbrdiFmt
