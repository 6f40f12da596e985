/-
  b3388aF: the components that came in, opened.
-/
import Derived.Test.YbulkbrdiFmtCh0
import Derived.Deep.Slices
import Derived.SizedLaws
import Derived.OpenShut
namespace Go.Proofs.YbulkbrdiFmt
open Go.RowKit Go.Deep
open Go.ChangeShapes Go.WideShapes
set_option linter.unusedVariables false
set_option linter.unusedSimpArgs false

theorem addr_none {w : World} {x : Addr} {v : Value} (h : w.cell? (x.add 0) = some v) : ∃ b o, x = ⟨b, o, none⟩ ∧ b < w.heap.size := by
  obtain ⟨b, o, s⟩ := x
  have hs : s = none := by
    cases s with
    | none => rfl
    | some v => simp [World.cell?, Addr.add] at h; split at h <;> cases h
  subst hs
  refine ⟨b, o, rfl, ?_⟩
  have := World.block_lt_of_cell? w _ h
  simpa [Addr.add] using this

theorem wf_u8 {n : Int} (h : (Lit.int .u8 n).wf = true) : (0 : Int) ≤ n ∧ n ≤ 255 := by
  have h : IntKind.u8.min ≤ n ∧ n ≤ IntKind.u8.max := by simpa [Lit.wf] using h
  exact h
section
variable {H : Type} {enc : TypeId × Value → H} {w : World}
/-- a slice of bytes, opened -/
theorem open_u8s {fuel : Nat} {a : Option Addr} {n cap : Nat} {y : DataW H × List MemPlace} (h : DataW.trod enc Ybaf.prog w 0 (fun _ => true) true fuel 23 [.slice a n cap] = some y) : ∃ f : Nat → Nat, Rd8 w a n f ∧ ∀ i, f i ≤ 255 := by
  rcases open_ints Ybaf.underlying23 Ybaf.underlying5 (by kernel_rfl) h with ⟨hcs, _⟩ | ⟨x, l, c, zs, hcs, _, hl, hm, hz, hy0, hcl, hwf⟩
  · cases hcs
    exact ⟨fun _ => 0, .inl rfl, fun _ => Nat.zero_le _⟩
  · cases hcs
    have hz : zs.length = cap := by simpa using hz
    have hle : ∀ i, (zs.getD i 0).toNat ≤ 255 ∧ zs.getD i 0 = ((zs.getD i 0).toNat : Int) := fun i => by
      by_cases hi : i < zs.length
      · have := hwf (zs.getD i 0) (by rw [List.getD_eq_getElem?_getD, List.getElem?_eq_getElem hi, Option.getD_some]; exact List.getElem_mem _)
        have h3 : (0 : Int) ≤ zs.getD i 0 ∧ zs.getD i 0 ≤ 255 := wf_u8 this
        omega
      · rw [List.getD_eq_getElem?_getD, List.getElem?_eq_none (by omega)]; simp
    refine ⟨fun i => (zs.getD i 0).toNat, ?_, fun i => (hle i).1⟩
    by_cases hl0 : n = 0
    · exact .inl hl0
    · right
      obtain ⟨b, o, rfl, hb⟩ := addr_none (hcl 0 (by omega))
      refine ⟨b, o, rfl, hb, fun i hi => ?_⟩
      have := hcl i (by omega)
      rw [Addr.add_lit] at this
      rw [this, ← (hle i).2]

/-- one component's cells -/
structure OneOk (w : World) (x : Addr) (i : Nat) (q : Bool × Option Addr × Nat × Nat × (Nat → Nat) × Nat × Nat × Bool) : Prop where
  c0 : w.cell? (x.add (i * 5)) = some (.bool q.1)
  c1 : w.cell? (x.add (i * 5 + 1)) = some (.slice q.2.1 q.2.2.1 q.2.2.2.1)
  c2 : w.cell? (x.add (i * 5 + 2)) = some (.int .u8 (q.2.2.2.2.2.1 : Nat))
  c3 : w.cell? (x.add (i * 5 + 3)) = some (.int .u8 (q.2.2.2.2.2.2.1 : Nat))
  c4 : w.cell? (x.add (i * 5 + 4)) = some (.bool q.2.2.2.2.2.2.2)
  rd : Rd8 w q.2.1 q.2.2.1 q.2.2.2.2.1
  le : q.2.2.2.2.2.1 ≤ 255 ∧ q.2.2.2.2.2.2.1 ≤ 255 ∧ ∀ i, q.2.2.2.2.1 i ≤ 255

set_option maxRecDepth 100000 in
theorem open_one {fuel : Nat} {cs : List Value} {y : DataW H × List MemPlace} {x : Addr} {i : Nat} (h1 : w.cells? 0 (x.add (i * 5)) 5 = some cs) (h2 : DataW.trod enc Ybaf.prog w 0 (fun _ => true) true fuel 25 cs = some y) : ∃ q, OneOk w x i q := by
  obtain ⟨_, hlen, hcell⟩ := World.cells?_some h1
  obtain ⟨xs, k, hk, hxy, _, hxl, hf⟩ := DataW.trod_struct Ybaf.underlying25 h2
  match xs, hxl, cs, hlen with
  | [y0, y1, y2, y3, y4], _, [v0, v1, v2, v3, v4], _ =>
    have g0 : DataW.trod enc Ybaf.prog w 0 (fun _ => true) true k 4 [v0] = some y0 := hf 0 _ rfl
    have g1 : DataW.trod enc Ybaf.prog w 0 (fun _ => true) true k 23 [v1] = some y1 := hf 1 _ rfl
    have g2 : DataW.trod enc Ybaf.prog w 0 (fun _ => true) true k 5 [v2] = some y2 := hf 2 _ rfl
    have g3 : DataW.trod enc Ybaf.prog w 0 (fun _ => true) true k 5 [v3] = some y3 := hf 3 _ rfl
    have g4 : DataW.trod enc Ybaf.prog w 0 (fun _ => true) true k 4 [v4] = some y4 := hf 4 _ rfl
    have e0 := hcell 0 (by omega)
    have e1 := hcell 1 (by omega)
    have e2 := hcell 2 (by omega)
    have e3 := hcell 3 (by omega)
    have e4 := hcell 4 (by omega)
    rw [add_add] at e0 e1 e2 e3 e4
    obtain ⟨b0, hb0, _⟩ := DataW.trod_bool Ybaf.underlying4 g0
    obtain ⟨b4, hb4, _⟩ := DataW.trod_bool Ybaf.underlying4 g4
    cases hb0
    cases hb4
    obtain ⟨n2, hn2, _, hw2⟩ := DataW.trod_int Ybaf.underlying5 g2
    obtain ⟨n3, hn3, _, hw3⟩ := DataW.trod_int Ybaf.underlying5 g3
    cases hn2
    cases hn3
    have l2 := wf_u8 hw2
    have l3 := wf_u8 hw3
    obtain ⟨m2, rfl⟩ := Int.eq_ofNat_of_zero_le l2.1
    obtain ⟨m3, rfl⟩ := Int.eq_ofNat_of_zero_le l3.1
    have hv1 : ∃ a n c, v1 = .slice a n c := by
      rcases open_ints Ybaf.underlying23 Ybaf.underlying5 (by kernel_rfl) g1 with ⟨hcs, _⟩ | ⟨a, l, c, zs, hcs, _⟩
      · cases hcs; exact ⟨_, _, _, rfl⟩
      · cases hcs; exact ⟨_, _, _, rfl⟩
    obtain ⟨a, n, c, rfl⟩ := hv1
    obtain ⟨f, hf1, hf2⟩ := open_u8s g1
    exact ⟨(b0, a, n, c, f, m2, m3, b4), by simpa using e0, by simpa using e1, by simpa using e2, by simpa using e3, by simpa using e4, hf1, show m2 ≤ 255 by omega, show m3 ≤ 255 by omega, hf2⟩

set_option maxRecDepth 100000 in
theorem open_comps {fuel : Nat} {a : Option Addr} {n cap : Nat} {y : DataW H × List MemPlace} (h : DataW.trod enc Ybaf.prog w 0 (fun _ => true) true fuel 22 [.slice a n cap] = some y) :
    ∃ xb xo lg ga gn gc jp sd ss bv, 0 < n → ChA w xb xo n lg ga gn gc jp sd ss bv ∧ a = some ⟨xb, xo, none⟩ := by
  by_cases h0 : 0 < n
  · rcases open_slice Ybaf.underlying22 h with ⟨hc, _⟩ | ⟨x, len, cap', m, nf, D, Pl, hcs, hb, hl, hm, hmm, hx, hel⟩
    · simp at hc; omega
    · simp at hcs
      obtain ⟨rfl, rfl, rfl⟩ := hcs
      simp only [if_true] at hmm
      have hC : Ybaf.prog.cellsOf 25 = 5 := by kernel_rfl
      rw [hC] at hel
      have each : ∀ i, i < n → ∃ q, OneOk w x i q := fun i hi => by
        obtain ⟨cs', h1, h2⟩ := hel i (by omega)
        exact open_one h1 h2
      obtain ⟨q, hq⟩ := choose_lt each
      obtain ⟨xb, xo, rfl, hlt⟩ := addr_none (w := w) (x := x) (by have := (hq 0 h0).c0; rw [Nat.zero_mul] at this; exact this)
      refine ⟨xb, xo, fun k => (q k).1, fun k => (q k).2.1, fun k => (q k).2.2.1, fun k => (q k).2.2.2.1, fun k => if k < n then (q k).2.2.2.2.2.1 else 0, fun k => if k < n then (q k).2.2.2.2.2.2.1 else 0, fun k => (q k).2.2.2.2.2.2.2, fun k i => if k < n then (q k).2.2.2.2.1 i else 0, fun _ => ⟨⟨hlt, fun k hk => ?_, fun k hk => ?_, fun k hk => ?_, fun k hk => ?_, fun k hk => ?_, fun k hk => ?_, fun k => ?_⟩, rfl⟩⟩
      · have := (hq k hk).c0; rw [Addr.add_lit] at this; exact this
      · have := (hq k hk).c1; rw [Addr.add_lit] at this; exact this
      · have := (hq k hk).c2; rw [Addr.add_lit] at this; simp only [if_pos hk]; exact this
      · have := (hq k hk).c3; rw [Addr.add_lit] at this; simp only [if_pos hk]; exact this
      · have := (hq k hk).c4; rw [Addr.add_lit] at this; exact this
      · have := (hq k hk).rd
        simp only [if_pos hk]
        exact this
      · by_cases hk : k < n
        · simp only [if_pos hk]; exact (hq k hk).le
        · simp only [if_neg hk]; exact ⟨by omega, by omega, fun _ => by omega⟩
  · exact ⟨0, 0, fun _ => false, fun _ => none, fun _ => 0, fun _ => 0, fun _ => 0, fun _ => 0, fun _ => false, fun _ _ => 0, fun h => absurd h h0⟩
end
end Go.Proofs.YbulkbrdiFmt
