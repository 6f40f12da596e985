/-
  b3389a: the operators that came in, opened.
-/
import Derived.Test.YbulkbrdwCL0
import Derived.Deep.Slices
import Derived.SizedLaws
namespace Go.Proofs.Ybulkbrdw
open Go.RowKit Go.Deep
open Go.ChangeShapes Go.WideShapes
set_option linter.unusedVariables false
set_option linter.unusedSimpArgs false

theorem weights_mem_all {H : Type} {P : Program} {e : TypeId} : ∀ {l : List (DataW H)} {d : DataW H}, d ∈ l → ∀ n ∈ d.weights P e, n ∈ DataW.weightsAll P e l
  | a :: l, d, hd, n, hn => by
    simp only [DataW.weightsAll, List.mem_append]
    rcases List.mem_cons.1 hd with rfl | h
    · exact .inl hn
    · exact .inr (weights_mem_all h n hn)
theorem addr_none {w : World} {x : Addr} {v : Value} (h : w.cell? (x.add 0) = some v) : ∃ b o, x = ⟨b, o, none⟩ ∧ b < w.heap.size := by
  obtain ⟨b, o, s⟩ := x
  have hs : s = none := by
    cases s with
    | none => rfl
    | some v => simp [World.cell?, Addr.add] at h; split at h <;> cases h
  subst hs
  refine ⟨b, o, rfl, ?_⟩
  have := World.block_lt_of_cell? w _ h
  simpa [Addr.add] using this

theorem wf_u16 {n : Int} (h : (Lit.int .u16 n).wf = true) : (0 : Int) ≤ n ∧ n ≤ 65535 := by
  have h : IntKind.u16.min ≤ n ∧ n ≤ IntKind.u16.max := by simpa [Lit.wf] using h
  exact h
section
variable {H : Type} {enc : TypeId × Value → H} {w : World}
/-- one operator's cells -/
structure OneOk (w : World) (x : Addr) (i : Nat) (q : Option Addr × Nat × Nat × List Int × Bool × Bool) : Prop where
  c0 : w.cell? (x.add (i * 3)) = some (.slice q.1 q.2.1 q.2.2.1)
  c1 : w.cell? (x.add (i * 3 + 1)) = some (.bool q.2.2.2.2.1)
  c2 : w.cell? (x.add (i * 3 + 2)) = some (.bool q.2.2.2.2.2)
  rd : RdU w q.1 q.2.1 (fun i => (q.2.2.2.1.getD i 0).toNat)
  le : ∀ i, (q.2.2.2.1.getD i 0).toNat ≤ 65535
  len : q.2.1 ≤ 70368744177664

set_option maxRecDepth 100000 in
theorem open_one {fuel : Nat} {cs : List Value} {y : DataW H × List MemPlace} {x : Addr} {i : Nat} (h1 : w.cells? 0 (x.add (i * 3)) 3 = some cs) (h2 : DataW.trod enc Yba.prog w 0 (fun _ => true) true fuel 38 cs = some y)
    (hs : ∀ n ∈ y.1.weights Yba.prog 38, n ≤ reachBytes) : ∃ q, OneOk w x i q := by
  obtain ⟨_, hlen, hcell⟩ := World.cells?_some h1
  obtain ⟨xs, k, hk, hxy, _, hxl, hf⟩ := DataW.trod_struct Yba.underlying38 h2
  match xs, hxl, cs, hlen with
  | [y0, y1, y2], _, [v0, v1, v2], _ =>
    have g0 : DataW.trod enc Yba.prog w 0 (fun _ => true) true k 23 [v0] = some y0 := hf 0 _ rfl
    have g1 : DataW.trod enc Yba.prog w 0 (fun _ => true) true k 4 [v1] = some y1 := hf 1 _ rfl
    have g2 : DataW.trod enc Yba.prog w 0 (fun _ => true) true k 4 [v2] = some y2 := hf 2 _ rfl
    have e0 := hcell 0 (by omega)
    have e1 := hcell 1 (by omega)
    have e2 := hcell 2 (by omega)
    rw [add_add] at e0 e1 e2
    obtain ⟨b1, hb1, _⟩ := DataW.trod_bool Yba.underlying4 g1
    obtain ⟨b2, hb2, _⟩ := DataW.trod_bool Yba.underlying4 g2
    cases hb1
    cases hb2
    rcases open_ints Yba.underlying23 Yba.underlying29 (by kernel_rfl) g0 with ⟨hcs, _⟩ | ⟨a, l, c, zs, hcs, _, hl, hm, hz, hy0, hcl, hwf⟩
    · cases hcs
      exact ⟨(none, 0, 0, [], b1, b2), by simpa using e0, by simpa using e1, by simpa using e2, .inl rfl, fun i => by simp, by simp⟩
    · cases hcs
      have hz : zs.length = c := by simpa using hz
      have hle : ∀ i, (zs.getD i 0).toNat ≤ 65535 ∧ zs.getD i 0 = ((zs.getD i 0).toNat : Int) := fun i => by
        by_cases hi : i < zs.length
        · have := hwf (zs.getD i 0) (by rw [List.getD_eq_getElem?_getD, List.getElem?_eq_getElem hi, Option.getD_some]; exact List.getElem_mem _)
          have h3 : (0 : Int) ≤ zs.getD i 0 ∧ zs.getD i 0 ≤ 65535 := wf_u16 this
          omega
        · rw [List.getD_eq_getElem?_getD, List.getElem?_eq_none (by omega)]; simp
      refine ⟨(some a, l, c, zs, b1, b2), by simpa using e0, by simpa using e1, by simpa using e2, ?_, fun i => (hle i).1, ?_⟩
      · show RdU w (some a) l _
        by_cases hl0 : l = 0
        · exact .inl hl0
        · right
          obtain ⟨b, o, rfl, hb⟩ := addr_none (hcl 0 (by omega))
          refine ⟨b, o, rfl, hb, fun i hi => ?_⟩
          have := hcl i (by omega)
          rw [Addr.add_lit] at this
          rw [this, ← (hle i).2]
      · show l ≤ 70368744177664
        have hw : zs.length * 2 ∈ y.1.weights Yba.prog 38 := by
          rw [hxy]
          have hm : DataW.weights Yba.prog 38 (.agg ([y0, y1, y2].map (·.1))) = DataW.weightsEach Yba.prog [23, 4, 4] ([y0, y1, y2].map (·.1)) := by
            simp only [DataW.weights, Yba.underlying38]
            rfl
          rw [hm]
          refine DataW.weights_mem_each (j := 0) (t := 23) (d := y0.1) rfl rfl _ ?_
          rw [hy0]
          simp only [DataW.weights, Yba.underlying23]
          refine List.mem_cons.2 (.inl ?_)
          have hby : Yba.prog.bytesOf 29 = 2 := by kernel_rfl
          rw [hby]
          simp [lits]
          omega
        have := hs _ hw
        unfold reachBytes at this
        omega

set_option maxRecDepth 100000 in
theorem open_ops {fuel : Nat} {a : Option Addr} {n cap : Nat} {y : DataW H × List MemPlace} (h : DataW.trod enc Yba.prog w 0 (fun _ => true) true fuel 36 [.slice a n cap] = some y) (hs : ∀ n ∈ y.1.weights Yba.prog 36, n ≤ reachBytes) (h0 : 0 < n) :
    ∃ xb xo A L C nr jn rt, a = some ⟨xb, xo, none⟩ ∧ ArgOk w xb xo n A L C nr jn rt := by
  rcases open_slice Yba.underlying36 h with ⟨hc, _⟩ | ⟨x, len, cap', m, nf, D, Pl, hcs, hb, hl, hm, hmm, hx, hel⟩
  · simp at hc; omega
  · simp at hcs
    obtain ⟨rfl, rfl, rfl⟩ := hcs
    simp only [if_true] at hmm
    have hC : Yba.prog.cellsOf 38 = 3 := by kernel_rfl
    rw [hC] at hel
    have each : ∀ i, i < n → ∃ q, OneOk w x i q := fun i hi => by
      obtain ⟨cs', h1, h2⟩ := hel i (by omega)
      refine open_one h1 h2 (fun k hk => hs k ?_)
      rw [hx]
      simp only [DataW.weights, Yba.underlying36]
      refine List.mem_cons.2 (.inr (List.mem_append.2 (.inl ?_)))
      exact weights_mem_all (List.mem_map.2 ⟨i, List.mem_range.2 hi, rfl⟩) k hk
    obtain ⟨q, hq⟩ := choose_lt each
    obtain ⟨xb, xo, rfl, hlt⟩ := addr_none (w := w) (x := x) (by have := (hq 0 h0).c0; rw [Nat.zero_mul] at this; exact this)
    refine ⟨xb, xo, fun k => (q k).1, fun k => (q k).2.1, fun k => (q k).2.2.1, fun k => (q k).2.2.2.2.1, fun k => (q k).2.2.2.2.2, fun k i => if k < n then ((q k).2.2.2.1.getD i 0).toNat else 0, rfl, hlt, fun k hk => ?_, fun k hk => ?_, fun k hk => ?_, fun k hk => ?_, fun k i => ?_, fun k hk => (hq k hk).len⟩
    · have := (hq k hk).c0; rw [Addr.add_lit] at this; exact this
    · have := (hq k hk).c1; rw [Addr.add_lit] at this; exact this
    · have := (hq k hk).c2; rw [Addr.add_lit] at this; exact this
    · have := (hq k hk).rd
      simp only [if_pos hk]
      exact this
    · by_cases hk : k < n
      · simp only [if_pos hk]; exact (hq k hk).le i
      · simp only [if_neg hk]; omega
end
end Go.Proofs.Ybulkbrdw
