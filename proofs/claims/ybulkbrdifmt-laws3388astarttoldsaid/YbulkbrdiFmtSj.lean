/-
  b3388aF: (*space).localStep.
-/
import Derived.Test.YbulkbrdiFmtSh
namespace Go.Proofs.YbulkbrdiFmt
open Go.RowKit
set_option linter.unusedVariables false
set_option linter.unusedSimpArgs false
set_option maxRecDepth 100000
set_option maxHeartbeats 4000000

theorem flat_get {α : Type} {C : α → List Value} {s : Nat} (hC : ∀ a, (C a).length = s) : ∀ {l : List α} {x : Nat} {a : α} {k : Nat}, l[x]? = some a → k < s → (l.flatMap C)[x * s + k]? = (C a)[k]?
  | [], x, a, k, h, hk => by simp at h
  | b :: l, 0, a, k, h, hk => by
    have : b = a := by simpa using h
    subst this
    rw [List.flatMap_cons, Nat.zero_mul, Nat.zero_add, List.getElem?_append_left (by rw [hC]; exact hk)]
  | b :: l, x + 1, a, k, h, hk => by
    rw [List.flatMap_cons, List.getElem?_append_right (by rw [hC, Nat.succ_mul]; omega), hC, show (x + 1) * s + k - s = x * s + k by rw [Nat.succ_mul]; omega]
    exact flat_get hC (by simpa using h) hk
/-- a row of things, laid out -/
theorem owns_at {α : Type} {C : α → List Value} {s e n : Nat} {v : Value} {l : List α} {w : World} (hC : ∀ a, (C a).length = s) (h : w.ownsRow 0 e s v n (l.flatMap C)) (hn : 0 < n) : ∃ g c, v = .slice (some ⟨g, 0, none⟩) n c ∧ g < w.heap.size ∧ n ≤ c ∧ ∀ (x : Nat) (a : α) (k : Nat), l[x]? = some a → k < s → w.cell? ⟨g, x * s + k, none⟩ = (C a)[k]? := by
  rcases h.2 with ⟨_, h0⟩ | ⟨g, c, cur, hv, _, hg, hnc, _⟩
  · omega
  · refine ⟨g, c, hv, (Array.getElem?_eq_some_iff.1 hg).1, hnc, fun x a k hx hk => ?_⟩
    have h1 := flat_get hC hx hk
    obtain ⟨u, hu⟩ : ∃ u, (C a)[k]? = some u := ⟨_, List.getElem?_eq_getElem (by rw [hC]; exact hk)⟩
    rw [hu] at h1 ⊢
    exact owns_cell h hv _ h1
section
variable {p : Pr} {t : St} {w : World}
theorem lstepHit (hp : PrOk p) (h : Inv p t w) (i x j : Nat) (v : Value) (hx : t.its[x]? = some (i, j)) (hv : look t.lsl (key i (x + 1)) = some v) :
    Calls Ybaf.prog 32 #[.pointer (some ⟨p.SP, 0, none⟩), .int .u32 (i : Int), .int .u32 ((x + 1 : Nat) : Int)] w fun e w' => ∃ s, e = .returned (.agg #[.int .u32 (i : Int), s, .slice none 0 0]) ∧ SendOk p t.its w' j s ∧ Fr (fun _ => False) w w' := by
  have hl := h.itl hp
  have hnp := hp.np
  have l1 := (List.getElem?_eq_some_iff.1 hx).1
  have hi := (h.ok.iok _ (List.mem_of_getElem? hx)).1
  simp only at hi
  obtain ⟨s, rfl, hs⟩ := h.lsHit hp hx hv
  obtain ⟨sa, sc, ys, rfl, hs2⟩ := hs
  obtain ⟨ev, hev⟩ : ∃ ev, ev = x + 1 := ⟨_, rfl⟩
  obtain ⟨P, hP⟩ : ∃ P, P = i * 4294967296 := ⟨_, rfl⟩
  obtain ⟨k, hk⟩ : ∃ k, k = key i ev := ⟨_, rfl⟩
  have e1 : (i : Int) * 4294967296 = (P : Int) := by rw [hP]; omega
  have e1' : IntKind.u64.wrap (P : Int) = (P : Int) := by rw [IntKind.wrap_u64]; omega
  have e2 : bits .or .u64 (P : Int) (ev : Int) = (k : Int) := by rw [bits_or_u64_nat P ev (by omega) (by omega), hk, hP]; rfl
  have e3 : IntKind.u64.wrap (i : Int) = (i : Int) := by rw [IntKind.wrap_u64]; omega
  have e4 : IntKind.u64.wrap (ev : Int) = (ev : Int) := by rw [IntKind.wrap_u64]; omega
  have s12 : w.cell? ⟨p.SP, 12, none⟩ = some (.map (some p.LS)) := h.sp.sp.cell 12
  have hSP := h.sp.sp.lt
  have hlk := look_run (h.ls.kept ((Fr.refl (fun _ => False) w).alloc (.cells #[.int .u32 0, .slice none 0 0, .slice none 0 0] 67)) id) hv
  rw [← hev, ← hk] at hlk
  rw [← hev]
  have HS := hide hs2
  have hpb : P ≤ 34359738368 := by omega
  clear h hx hv hP hk hs2 hev
  go_enter Ybaf.func32, Ybaf.ntmps32
  go_wp2_with fail
  go_returns
  have hF := ((Fr.refl (fun _ => False) w).alloc (.cells #[.int .u32 (i : Int), .slice sa ys.length sc, .slice none 0 0] 67)).alloc (.cells #[.int .u32 (i : Int), .slice sa ys.length sc, .slice none 0 0] 67)
  refine ⟨_, rfl, ?_, hF⟩
  exact SendOk.kept (p := p) (its := t.its) (w := w) ⟨sa, sc, ys, rfl, HS.out⟩ hF (fun _ _ _ => id)
end
end Go.Proofs.YbulkbrdiFmt
