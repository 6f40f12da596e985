/-
  b3388aF: the map of steps; (*space).step where the step is known.
-/
import Derived.Test.YbulkbrdiFmtEv
import Derived.MapKept
namespace Go.Proofs.YbulkbrdiFmt
open Go.RowKit
set_option linter.unusedVariables false
set_option linter.unusedSimpArgs false

/-- the key of an event at a component -/
def key (c ev : Nat) : Nat := c * 4294967296 ||| ev
theorem key_add {c ev : Nat} (h : ev < 4294967296) : key c ev = c * 4294967296 + ev := by
  have := Nat.shiftLeft_add_eq_or_of_lt (i := 32) (b := ev) (by omega) c
  rw [Nat.shiftLeft_eq] at this
  exact this.symm
theorem key_inj {c ev c' ev' : Nat} (h : ev < 4294967296) (h' : ev' < 4294967296) (e : key c ev = key c' ev') : c = c' ∧ ev = ev' := by
  rw [key_add h, key_add h'] at e; omega

/-- a map from numbers, as a list -/
def MapAt (w : World) (m : Nat) (l : List (Nat × Value)) : Prop :=
  ∃ es clock, w.heap[m]? = some (.map es clock) ∧ es.toList.map (fun e => (e.key, e.val)) = l.map (fun p => (Value.int .u64 (p.1 : Int), p.2))
def look (l : List (Nat × Value)) (k : Nat) : Option Value := (l.find? (fun p => p.1 == k)).map (·.2)
theorem look_nil (k : Nat) : look [] k = none := rfl
theorem look_cons (p : Nat × Value) (l : List (Nat × Value)) (k : Nat) : look (p :: l) k = if p.1 = k then some p.2 else look l k := by
  unfold look
  by_cases h : p.1 = k
  · simp [h]
  · simp [h]
theorem look_snoc (l : List (Nat × Value)) (k k' : Nat) (v : Value) (h : look l k = none) : look (l ++ [(k, v)]) k' = if k = k' then some v else look l k' := by
  induction l with
  | nil => rw [List.nil_append, look_cons, look_nil]
  | cons p l ih =>
    rw [look_cons] at h
    rw [List.cons_append, look_cons, look_cons]
    by_cases hp : p.1 = k
    · rw [if_pos hp] at h; cases h
    · rw [if_neg hp] at h
      rw [ih h]
      by_cases h1 : p.1 = k'
      · rw [if_pos h1, if_pos h1, if_neg (by omega)]
      · rw [if_neg h1, if_neg h1]
theorem findNow_look : ∀ (es : List MapEntry) (l : List (Nat × Value)) (k i : Nat), es.map (fun e => (e.key, e.val)) = l.map (fun p => (Value.int .u64 (p.1 : Int), p.2)) →
    (look l k = none → Instr.findNow (.int .u64) (.int .u64 (k : Int)) es i = some none) ∧ ∀ v, look l k = some v → ∃ j, Instr.findNow (.int .u64) (.int .u64 (k : Int)) es i = some (some (j, v))
  | [], [], k, i, _ => ⟨fun _ => rfl, fun v h => by cases h⟩
  | [], p :: l, k, i, h => by simp at h
  | e :: es, [], k, i, h => by simp at h
  | e :: es, p :: l, k, i, h => by
    simp only [List.map_cons, List.cons.injEq, Prod.mk.injEq] at h
    obtain ⟨⟨h1, h2⟩, h3⟩ := h
    obtain ⟨ih1, ih2⟩ := findNow_look es l k (i + 1) h3
    rw [look_cons]
    have hs : Instr.sameNow (.int .u64) (.int .u64 (k : Int)) e.key = some ((k : Int) == (p.1 : Int)) := by rw [h1]; simp [Instr.sameNow]
    by_cases hp : p.1 = k
    · have hb : ((k : Int) == (p.1 : Int)) = true := by simp; omega
      rw [if_pos hp]
      refine ⟨fun h => by simp at h, fun v hv => ⟨i, ?_⟩⟩
      have hf : Instr.findNow (.int .u64) (.int .u64 (k : Int)) (e :: es) i = some (some (i, e.val)) := by rw [Instr.findNow, hs, hb]
      rw [hf, h2, Option.some.inj hv]
    · have hb : ((k : Int) == (p.1 : Int)) = false := by simp; omega
      have hf : Instr.findNow (.int .u64) (.int .u64 (k : Int)) (e :: es) i = Instr.findNow (.int .u64) (.int .u64 (k : Int)) es (i + 1) := by rw [Instr.findNow, hs, hb]
      rw [if_neg hp, hf]
      exact ⟨ih1, ih2⟩
theorem check43 (b : Bool) (n : Nat) (k : Int) (w : World) : (Instr.checkKey b (n + 1) 43 (.int .u64 k)).run Ybaf.prog w = .ok () w := by
  simp only [Instr.checkKey, Sem.run_bind, run_underlying Ybaf.underlying43, Result.andThen_ok, Sem.run_pure]
theorem look_run {w : World} {m k : Nat} {l : List (Nat × Value)} {v : Value} (h : MapAt w m l) (hk : look l k = some v) : (Instr.lookup 27 (.map (some m)) (.int .u64 (k : Int)) true).run Ybaf.prog w = .ok (.tuple #[v, .bool true]) w := by
  obtain ⟨es, clock, hb, hl⟩ := h
  obtain ⟨j, hj⟩ := (findNow_look es.toList l k 0 hl).2 v hk
  simp only [Instr.lookup, Sem.run_bind, run_underlying Ybaf.underlying27, Result.andThen_ok, MapKept.run_getObj_map hb, Sem.run_pure]
  rw [show (10000 : Nat) = 9999 + 1 from rfl, check43]
  simp only [Result.andThen_ok, Instr.findKey, Sem.run_bind, run_underlying Ybaf.underlying43, hj, Sem.run_pure, if_true]
theorem update_run {w : World} {m k : Nat} {l : List (Nat × Value)} (v : Value) (h : MapAt w m l) (hk : look l k = none) : ∃ w1, (Instr.mapUpdate 27 (.map (some m)) (.int .u64 (k : Int)) v).run Ybaf.prog w = .ok () w1 ∧ MapAt w1 m (l ++ [(k, v)]) ∧ Fr (· = m) w w1 ∧ w1.heap.size = w.heap.size := by
  obtain ⟨es, clock, hb, hl⟩ := h
  have hj := (findNow_look es.toList l k 0 hl).1 hk
  have hm : m < w.heap.size := (Array.getElem?_eq_some_iff.1 hb).1
  refine ⟨{ w with heap := w.heap.setIfInBounds m (.map (es.push { key := .int .u64 (k : Int), val := v, born := clock }) (clock + 1)) }, ?_, ⟨es.push { key := .int .u64 (k : Int), val := v, born := clock }, clock + 1, ?_, ?_⟩, ⟨rfl, rfl, rfl, by simp, fun i hi hn => ?_⟩, by simp⟩
  · simp only [Instr.mapUpdate, Sem.run_bind, run_underlying Ybaf.underlying27, Result.andThen_ok, MapKept.run_getObj_map hb, Sem.run_pure]
    rw [show (10000 : Nat) = 9999 + 1 from rfl, check43]
    simp only [Result.andThen_ok, Instr.findKey, Sem.run_bind, run_underlying Ybaf.underlying43, hj, Sem.run_pure, MapKept.run_setObj_map _ hb]
  · simp [Array.getElem?_setIfInBounds, hm]
  · simp [hl]
  · simp only [Array.getElem?_setIfInBounds]
    rw [if_neg (by omega)]
theorem MapAt.kept {S : Nat → Prop} {w w' : World} {m : Nat} {l : List (Nat × Value)} (h : MapAt w m l) (hf : Fr S w w') (hn : ¬ S m) : MapAt w' m l := by
  obtain ⟨es, clock, hb, hl⟩ := h
  exact ⟨es, clock, (hf.block m (Array.getElem?_eq_some_iff.1 hb).1 hn).trans hb, hl⟩
theorem MapAt.lt {w : World} {m : Nat} {l : List (Nat × Value)} (h : MapAt w m l) : m < w.heap.size := by
  obtain ⟨es, clock, hb, hl⟩ := h
  exact (Array.getElem?_eq_some_iff.1 hb).1
theorem MapAt.ne {w : World} {m g e : Nat} {l : List (Nat × Value)} {cs : List Value} (h : MapAt w m l) (hb : Blk w g e cs) : m ≠ g := by
  rintro rfl
  obtain ⟨es, clock, h1, _⟩ := h
  have := h1.symm.trans hb
  cases this

set_option maxHeartbeats 1000000 in
set_option maxRecDepth 100000 in
theorem step_any (SP mp c ev nx sn : Nat) (sa : Option Addr) (w : World) (l : List (Nat × Value)) (hsp : w.cell? ⟨SP, 13, none⟩ = some (.map (some mp))) (h : MapAt w mp l) (hc : c ≤ 301) (hev : ev < 4294967296)
    (hl : look l (key c ev) = some (.agg #[.int .u32 (nx : Int), .slice sa sn sn, .slice none 0 0])) :
    Calls Ybaf.prog 14 #[.pointer (some ⟨SP, 0, none⟩), .int .u32 c, .int .u32 ev] w fun e w' => e = .returned (.agg #[.int .u32 (nx : Int), .slice sa sn sn, .slice none 0 0]) ∧ Fr (fun _ => False) w w' := by
  have hlt := World.block_lt_of_cell? w _ hsp
  obtain ⟨p, hp⟩ : ∃ p, p = c * 4294967296 := ⟨_, rfl⟩
  obtain ⟨k, hk⟩ : ∃ k, k = key c ev := ⟨_, rfl⟩
  have e1 : (c : Int) * 4294967296 = (p : Int) := by rw [hp]; omega
  have e2 : bits .or .u64 (p : Int) (ev : Int) = (k : Int) := by rw [bits_or_u64_nat p ev (by omega) (by omega), hk, hp]; rfl
  have HL := hide (look_run (h.kept ((Fr.refl (fun _ => False) w).alloc (.cells #[.int .u32 0, .slice none 0 0, .slice none 0 0] 67)) id) hl)
  rw [← hk] at HL
  have hlk := unhide HL
  have hpb : p ≤ 1292785156096 := by omega
  clear h hl hp hk HL
  go_enter Ybaf.func14, Ybaf.ntmps14
  go_wp2_with fail
  go_returns
  exact ⟨rfl, ((Fr.refl _ w).alloc _).alloc _⟩
end Go.Proofs.YbulkbrdiFmt
