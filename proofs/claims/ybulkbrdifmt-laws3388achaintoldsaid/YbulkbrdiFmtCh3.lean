/-
  b3388aF: the space that LawS3388AChain has built.
-/
import Derived.Test.YbulkbrdiFmtCh2
namespace Go.Proofs.YbulkbrdiFmt
open Go.RowKit
set_option linter.unusedVariables false
set_option linter.unusedSimpArgs false

def mkSc (q : Lw) (h : Nat) (F : Nat → Ci) (W : Nat → Nat) : Sc where
  K := q.N + 1
  M := q.M
  SP := h + 1
  LB := h + 3
  CB := h + 3 + 1
  IB := h + 1 + 1
  mp := h
  tt := q.tt
  la := fun c => (F c).la
  ll := fun c => (F c).ll
  ba := fun c => (F c).ba
  bn := fun c => (F c).bn
  dd := fun c => (F c).dd
  W := W
section
variable {q : Lw} {w wr : World} {F : Nat → Ci} {WB : Nat} {W : Nat → Nat} {l : List (Nat × Value)} {sa : Nat → Nat → Option Addr}
theorem Gs.spOk (h : Gs q w F WB 0 0 W l sa wr) (hN : q.N ≤ 300) (hM : q.M ≤ 300) : SpOk (mkSc q w.heap.size F W) (fun _ => false) wr := by
  have a := h.acc
  refine ⟨⟨by show q.N + 1 ≤ 301; omega, hM⟩, ⟨a.sp.lt, a.lo.lt, a.it.lt⟩, ⟨by show w.heap.size + 1 ≠ w.heap.size + 3 + 1; omega, by show w.heap.size + 3 ≠ w.heap.size + 3 + 1; omega, by show w.heap.size + 1 + 1 ≠ w.heap.size + 3 + 1; omega⟩,
    a.sp.cell 6, a.sp.cell 8, a.sp.cell 10, a.sp.cell 13, fun c hc => ?_, fun k hk => ⟨?_, Nat.mod_lt _ (by omega)⟩, ?_, fun c hc => ⟨(a.ci c hc).bag.1, fun h0 => ?_⟩⟩
  · have := (a.lo.cell (c * 4 + 2)).trans (rowF_get (z := zlocal.toList) (f := fun i => lcl (F i)) (s := 4) rfl (fun _ => rfl) (k := q.N + 1) hc 2 (by omega))
    rw [if_pos (show c < q.N + 1 from hc)] at this
    exact this
  · have := (a.it.cell (k * 9 + 0)).trans (rowF_get (z := zitem.toList) (f := itm q.tov) (s := 9) rfl (fun _ => rfl) (k := q.M) hk 0 (by omega))
    rw [if_pos (show k < q.M from hk)] at this
    exact this
  · have e : (List.range (q.N + 1)).flatMap ((mkSc q w.heap.size F W).comp fun _ => false) = rowF zcomp.toList (fun i => cmp i (F i)) (q.N + 1) (q.N + 1) := by
      unfold rowF
      rw [List.flatMap_def, List.flatMap_def]
      congr 1
      apply List.map_congr_left
      intro i hi
      rw [if_pos (List.mem_range.1 hi)]
      simp [Sc.comp, cmp, mkSc]
    show Blk wr (w.heap.size + 3 + 1) 64 ((List.range (q.N + 1)).flatMap ((mkSc q w.heap.size F W).comp fun _ => false))
    rw [e]; exact a.co
  · obtain ⟨g, _, h1, h2, h3, h4, _⟩ := (a.ci c hc).bag.2 h0
    exact ⟨g, h1, h2, h3, h4⟩
theorem Gs.stOk (h : Gs q w F WB 0 0 W l sa wr) : StOk (mkSc q w.heap.size F W) l q.nx sa q.sn q.sk wr := by
  have a := h.acc
  refine ⟨h.map, fun c hc e ev he => ?_, fun c hc => ⟨h.Wok c (Nat.zero_le _) hc, h.Wlt c⟩⟩
  have he' : (F c).E[e]? = some ev := he
  have hcN : c < q.N := by
    rcases Nat.lt_or_ge c q.N with h1 | h1
    · exact h1
    · have hc' : c < q.N + 1 := hc
      rw [a.nil c hc' (by omega)] at he'
      simp at he'
  obtain ⟨h1, h2⟩ := h.st c e ev (.inl (Nat.zero_le _)) hc he'
  have hev := (E_ok (a.ci c hc)).2 ev (List.mem_of_getElem? he')
  have hnx := q.nx_lt (e := e) hcN
  refine ⟨by omega, h1, hnx.1, by show q.nx c e < q.N + 1; omega, ?_⟩
  by_cases hs : q.sn c e = 1
  · obtain ⟨g, _, h4, h5⟩ := h2 hs
    refine .inr ⟨hs, g, h4, h5, ?_⟩
    have hM : 0 < q.M := by
      unfold Lw.sn at hs
      by_cases hh : q.ss c = true ∧ 0 < q.M
      · exact hh.2
      · rw [if_neg hh] at hs; cases hs
    exact Nat.mod_lt _ hM
  · left
    unfold Lw.sn at hs ⊢
    by_cases hh : q.ss c = true ∧ 0 < q.M
    · rw [if_pos hh] at hs; exact absurd rfl hs
    · rw [if_neg hh]
end
end Go.Proofs.YbulkbrdiFmt
