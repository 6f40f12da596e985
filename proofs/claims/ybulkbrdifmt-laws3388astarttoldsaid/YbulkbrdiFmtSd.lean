/-
  b3388aF: the space's tables as lists.
-/
import Derived.Test.YbulkbrdiFmtSa
namespace Go.Proofs.YbulkbrdiFmt
open Go.RowKit
set_option linter.unusedVariables false
set_option linter.unusedSimpArgs false
set_option maxRecDepth 100000
set_option maxHeartbeats 2000000

/-- a table: what it holds, numbered -/
def tab {α : Type} (K : α → List Nat) (l : List α) : List (ByteArray × Value) := l.zipIdx.map fun p => (kS (K p.1), .int .u32 ((p.2 : Nat) : Int))
section
variable {α : Type} {K : α → List Nat} {l : List α} {a : α}
theorem tab_snoc : tab K (l ++ [a]) = tab K l ++ [(kS (K a), .int .u32 ((l.length : Nat) : Int))] := by
  unfold tab
  rw [List.zipIdx_append, List.map_append]
  simp
theorem tab_aux (key : ByteArray) : ∀ (l : List α) (i : Nat) (v : Value), slook (l.zipIdx i |>.map fun p => (kS (K p.1), Value.int .u32 ((p.2 : Nat) : Int))) key = some v → ∃ (j : Nat) (b : α), v = .int .u32 ((i + j : Nat) : Int) ∧ l[j]? = some b ∧ kS (K b) = key
  | [], i, v, h => by simp [slook] at h
  | b :: l, i, v, h => by
    rw [List.zipIdx_cons, List.map_cons, slook_cons] at h
    by_cases hb : kS (K b) = key
    · rw [if_pos hb] at h
      exact ⟨0, b, by rw [← Option.some.inj h]; simp, rfl, hb⟩
    · rw [if_neg hb] at h
      obtain ⟨j, c, h1, h2, h3⟩ := tab_aux key l (i + 1) v h
      exact ⟨j + 1, c, by rw [h1, show i + 1 + j = i + (j + 1) by omega], by simpa using h2, h3⟩
theorem tab_none_aux (key : ByteArray) : ∀ (l : List α) (i : Nat), slook (l.zipIdx i |>.map fun p => (kS (K p.1), Value.int .u32 ((p.2 : Nat) : Int))) key = none → ∀ b ∈ l, kS (K b) ≠ key
  | [], i, h, b, hb => by cases hb
  | c :: l, i, h, b, hb => by
    rw [List.zipIdx_cons, List.map_cons, slook_cons] at h
    by_cases hc : kS (K c) = key
    · rw [if_pos hc] at h; cases h
    · rw [if_neg hc] at h
      rcases List.mem_cons.1 hb with rfl | hb
      · exact hc
      · exact tab_none_aux key l (i + 1) h b hb
theorem tab_num : NumV (tab K l) := fun k v h => by
  obtain ⟨j, b, h1, _⟩ := tab_aux k l 0 v h
  exact ⟨0 + j, h1⟩
theorem tab_some {no : Nat} (h : slook (tab K l) (kS (K a)) = some (.int .u32 (no : Int))) : ∃ b, l[no]? = some b ∧ kS (K b) = kS (K a) := by
  obtain ⟨j, b, h1, h2, h3⟩ := tab_aux _ l 0 _ h
  have : no = j := by injection h1 with _ h1; omega
  subst this
  exact ⟨b, h2, h3⟩
theorem tab_none (h : slook (tab K l) (kS (K a)) = none) : ∀ b ∈ l, kS (K b) ≠ kS (K a) := tab_none_aux _ l 0 h
end
/-- what a call of intern has done, by the tables -/
theorem Res.tab {α : Type} {K : α → List Nat} {C : α → List Value} {l : List α} {a : α} {e size off SP IM n no : Nat} {vs : Value} {spc : List Value} {w w' : World} (h : Res e size off SP IM n vs (tab K l) (kS (K a)) spc (l.flatMap C) (C a) no w w') (hn : n = l.length)
    (hm : SMap w IM (tab K l)) (hsp : Blk w SP 42 spc) (hvs : spc[off]? = some vs) (hrow : w.ownsRow 0 e size vs n (l.flatMap C)) :
    ∃ (l' : List α) (vs' : Value), ((l' = l ∧ vs' = vs ∧ ∃ b, l[no]? = some b ∧ kS (K b) = kS (K a)) ∨ (l' = l ++ [a] ∧ no = l.length ∧ ∀ b ∈ l, kS (K b) ≠ kS (K a))) ∧ SMap w' IM (tab K l') ∧ Blk w' SP 42 (spc.set off vs') ∧ w'.ownsRow 0 e size vs' l'.length (l'.flatMap C) ∧
      (∀ k, vs'.ownBlock = some k → vs.ownBlock = some k ∨ w.heap.size ≤ k) ∧ Fr (fun k => k = IM ∨ k = SP ∨ vs.ownBlock = some k) w w' := by
  subst hn
  rcases h with ⟨h1, h2⟩ | ⟨h1, h2, g, cap, h3, h4, h5, h6, h7⟩
  · refine ⟨l, vs, .inl ⟨rfl, rfl, tab_some h1⟩, hm.kept h2 id, ?_, owns_kept hrow h2 (fun _ _ => id), fun k hk => .inl hk, h2.mono (fun _ _ h => h.elim)⟩
    have : spc.set off vs = spc := by
      apply List.ext_getElem?
      intro i
      rw [List.getElem?_set]
      by_cases e : off = i
      · subst e
        rw [if_pos rfl, if_pos (List.getElem?_eq_some_iff.1 hvs).1, hvs]
      · rw [if_neg e]
    rw [this]; exact hsp.kept h2 id
  · refine ⟨l ++ [a], .slice (some ⟨g, 0, none⟩) (l.length + 1) cap, .inr ⟨rfl, h2, tab_none h1⟩, ?_, h4, ?_, ?_, h7⟩
    · rw [tab_snoc]; exact h3
    · rw [List.length_append, List.flatMap_append]
      simpa using h5
    · intro k hk
      have : g = k := by simpa [Value.ownBlock] using hk
      subst this
      exact h6

/-- a message's name -/
def im (j : Nat) : ByteArray := ⟨#[UInt8.ofNat (65 + j)]⟩
/-- items: (to, s): s below 8: message s handed over; else a proposal on message s - 8 -/
def itSb (s : Nat) : Int := if s < 8 then (s : Int) else -1
def itS1 (s : Nat) : ByteArray := if s < 8 then ⟨#[]⟩ else im (s - 8)
def itS2 (p : Nat × Nat) : ByteArray := if p.2 < 8 then ⟨#[]⟩ else nm p.1
def itM1 (s : Nat) : List Nat := if s < 8 then [] else [65 + (s - 8)]
def itM2 (p : Nat × Nat) : List Nat := if p.2 < 8 then [] else [97 + p.1]
def itN (s : Nat) : Nat := if s < 8 then 0 else 1
def itC (p : Nat × Nat) : List Value := [.int .i64 (p.1 : Int), .int .i64 (itSb p.2), .string (itS1 p.2), .string (itS2 p), .int .u64 0, .bool false, .bool false, .int .u64 0, .pointer none]
def itK (p : Nat × Nat) : List Nat := itKey p.1 (itSb p.2) (itN p.2) (itM1 p.2) (itN p.2) (itM2 p)
/-- local states: one a process -/
def loC (i : Nat) : List Value := [.int .i64 (i : Int), .iface 82 (.agg #[]), .slice none 0 0, .slice none 0 0]
def loK (i : Nat) : List Nat := [i, 0, 0]
/-- components -/
structure Cmp where
  lo : Nat
  bag : List Nat
  ba : Option Addr
  bc : Nat
  ds : Nat
  ak : Bool
def cmC (c : Cmp) : List Value := [.int .u32 (c.lo : Int), .slice c.ba c.bag.length c.bc, .int .u64 (c.ds : Int), .int .i32 0, .int .i32 0, .bool c.ak]
def cmK (c : Cmp) : List Nat := c.lo :: c.bag
theorem itK_inj {p q : Nat × Nat} (hp : p.1 < 8 ∧ p.2 < 16) (hq : q.1 < 8 ∧ q.2 < 16) (h : kS (itK p) = kS (itK q)) : p = q := by
  obtain ⟨a, b⟩ := p
  obtain ⟨c, d⟩ := q
  simp only at hp hq
  have hlt : ∀ a b, a < 8 → b < 16 → ∀ x ∈ itK (a, b), x < 256 := fun a b ha hb x hx => by
    unfold itK itKey itSb itN itM1 itM2 subB at hx
    by_cases h8 : b < 8
    · simp [h8] at hx
      have : ¬ ((b : Int) < 0) := by omega
      simp [this] at hx
      omega
    · simp [h8] at hx
      omega
  have h1 := kS_inj (hlt a b hp.1 hp.2) (hlt c d hq.1 hq.2) h
  unfold itK itKey itSb itN itM1 itM2 subB at h1
  by_cases hb : b < 8 <;> by_cases hd : d < 8
  · have e1 : ¬ ((b : Int) < 0) := by omega
    have e2 : ¬ ((d : Int) < 0) := by omega
    simp [hb, hd, e1, e2] at h1
    rw [Prod.mk.injEq]; omega
  · have e1 : ¬ ((b : Int) < 0) := by omega
    simp [hb, hd, e1] at h1
  · have e2 : ¬ ((d : Int) < 0) := by omega
    simp [hb, hd, e2] at h1
  · simp [hb, hd] at h1
    rw [Prod.mk.injEq]; omega
theorem loK_inj {i j : Nat} (hi : i < 256) (hj : j < 256) (h : kS (loK i) = kS (loK j)) : i = j := by
  have := kS_inj (l := loK i) (m := loK j) (fun x hx => by unfold loK at hx; simp at hx; omega) (fun x hx => by unfold loK at hx; simp at hx; omega) h
  unfold loK at this
  simpa using this
theorem cmK_inj {c d : Cmp} (hc : c.lo < 256 ∧ ∀ x ∈ c.bag, x < 256) (hd : d.lo < 256 ∧ ∀ x ∈ d.bag, x < 256) (h : kS (cmK c) = kS (cmK d)) : c.lo = d.lo ∧ c.bag = d.bag := by
  have := kS_inj (l := cmK c) (m := cmK d) (fun x hx => by
    rcases List.mem_cons.1 hx with rfl | hx
    · exact hc.1
    · exact hc.2 x hx) (fun x hx => by
    rcases List.mem_cons.1 hx with rfl | hx
    · exact hd.1
    · exact hd.2 x hx) h
  unfold cmK at this
  simpa using this
end Go.Proofs.YbulkbrdiFmt
