/-
  b3388aF: maps from strings.
-/
import Derived.Test.YbulkbrdiFmtS1
namespace Go.Proofs.YbulkbrdiFmt
open Go.RowKit
set_option linter.unusedVariables false
set_option linter.unusedSimpArgs false
set_option maxRecDepth 100000
set_option maxHeartbeats 2000000

theorem ba_beq (a b : ByteArray) : (a == b) = decide (a = b) := by
  by_cases h : a = b
  · rw [decide_eq_true h]; exact (MapKept.bytes_beq a b).2 h
  · rw [decide_eq_false h]
    cases hb : (a == b) with
    | false => rfl
    | true => exact absurd ((MapKept.bytes_beq a b).1 hb) h
/-- a map from strings, as a list -/
def SMap (w : World) (m : Nat) (l : List (ByteArray × Value)) : Prop :=
  ∃ es clock, w.heap[m]? = some (.map es clock) ∧ es.toList.map (fun e => (e.key, e.val)) = l.map (fun p => (Value.string p.1, p.2))
def slook (l : List (ByteArray × Value)) (k : ByteArray) : Option Value := (l.find? (fun p => p.1 == k)).map (·.2)
theorem slook_nil (k : ByteArray) : slook [] k = none := rfl
theorem slook_cons (p : ByteArray × Value) (l : List (ByteArray × Value)) (k : ByteArray) : slook (p :: l) k = if p.1 = k then some p.2 else slook l k := by
  unfold slook
  rw [List.find?_cons]
  by_cases h : p.1 = k
  · rw [ba_beq, decide_eq_true h, if_pos h]; rfl
  · rw [ba_beq, decide_eq_false h, if_neg h]
theorem slook_snoc (l : List (ByteArray × Value)) (k k' : ByteArray) (v : Value) (h : slook l k = none) : slook (l ++ [(k, v)]) k' = if k = k' then some v else slook l k' := by
  induction l with
  | nil => rw [List.nil_append, slook_cons, slook_nil]
  | cons p l ih =>
    rw [slook_cons] at h
    rw [List.cons_append, slook_cons, slook_cons]
    by_cases hp : p.1 = k
    · rw [if_pos hp] at h; cases h
    · rw [if_neg hp] at h
      rw [ih h]
      by_cases h1 : p.1 = k'
      · rw [if_pos h1, if_pos h1, if_neg (fun e => hp (h1.trans e.symm))]
      · rw [if_neg h1, if_neg h1]
theorem findNow_slook : ∀ (es : List MapEntry) (l : List (ByteArray × Value)) (k : ByteArray) (i : Nat), es.map (fun e => (e.key, e.val)) = l.map (fun p => (Value.string p.1, p.2)) →
    (slook l k = none → Instr.findNow .string (.string k) es i = some none) ∧ ∀ v, slook l k = some v → ∃ j, Instr.findNow .string (.string k) es i = some (some (j, v))
  | [], [], k, i, _ => ⟨fun _ => rfl, fun v h => by cases h⟩
  | [], p :: l, k, i, h => by simp at h
  | e :: es, [], k, i, h => by simp at h
  | e :: es, p :: l, k, i, h => by
    simp only [List.map_cons, List.cons.injEq, Prod.mk.injEq] at h
    obtain ⟨⟨h1, h2⟩, h3⟩ := h
    obtain ⟨ih1, ih2⟩ := findNow_slook es l k (i + 1) h3
    rw [slook_cons]
    have hs : Instr.sameNow .string (.string k) e.key = some (k == p.1) := by rw [h1]; simp [Instr.sameNow]
    by_cases hp : p.1 = k
    · have hb : (k == p.1) = true := by rw [ba_beq, decide_eq_true hp.symm]
      rw [if_pos hp]
      refine ⟨fun h => by simp at h, fun v hv => ⟨i, ?_⟩⟩
      have hf : Instr.findNow .string (.string k) (e :: es) i = some (some (i, e.val)) := by rw [Instr.findNow, hs, hb]
      rw [hf, h2, Option.some.inj hv]
    · have hb : (k == p.1) = false := by rw [ba_beq, decide_eq_false (fun e => hp e.symm)]
      have hf : Instr.findNow .string (.string k) (e :: es) i = Instr.findNow .string (.string k) es (i + 1) := by rw [Instr.findNow, hs, hb]
      rw [if_neg hp, hf]
      exact ⟨ih1, ih2⟩
theorem check9 (b : Bool) (n : Nat) (k : ByteArray) (w : World) : (Instr.checkKey b (n + 1) 9 (.string k)).run Ybaf.prog w = .ok () w := by
  simp only [Instr.checkKey, Sem.run_bind, run_underlying Ybaf.underlying9, Result.andThen_ok, Sem.run_pure]
section
variable {w w' : World} {m T V : Nat} {k : ByteArray} {l : List (ByteArray × Value)} {v : Value}
theorem slook_run (hT : Ybaf.prog.underlying T = some (.map 9 V)) (h : SMap w m l) (hk : slook l k = some v) (c : Bool) : (Instr.lookup T (.map (some m)) (.string k) c).run Ybaf.prog w = .ok (if c then .tuple #[v, .bool true] else v) w := by
  obtain ⟨es, clock, hb, hl⟩ := h
  obtain ⟨j, hj⟩ := (findNow_slook es.toList l k 0 hl).2 v hk
  simp only [Instr.lookup, Sem.run_bind, run_underlying hT, Result.andThen_ok, MapKept.run_getObj_map hb, Sem.run_pure]
  rw [show (10000 : Nat) = 9999 + 1 from rfl, check9]
  simp only [Result.andThen_ok, Instr.findKey, Sem.run_bind, run_underlying Ybaf.underlying9, hj, Sem.run_pure]
theorem slook_miss (hT : Ybaf.prog.underlying T = some (.map 9 V)) (hz : ∀ w, (zeroValue V).run Ybaf.prog w = .ok v w) (h : SMap w m l) (hk : slook l k = none) (c : Bool) : (Instr.lookup T (.map (some m)) (.string k) c).run Ybaf.prog w = .ok (if c then .tuple #[v, .bool false] else v) w := by
  obtain ⟨es, clock, hb, hl⟩ := h
  have hj := (findNow_slook es.toList l k 0 hl).1 hk
  simp only [Instr.lookup, Sem.run_bind, run_underlying hT, Result.andThen_ok, MapKept.run_getObj_map hb, Sem.run_pure]
  rw [show (10000 : Nat) = 9999 + 1 from rfl, check9]
  simp only [Result.andThen_ok, Instr.findKey, Sem.run_bind, run_underlying Ybaf.underlying9, hj, Sem.run_pure, hz]
theorem supdate_run (hT : Ybaf.prog.underlying T = some (.map 9 V)) (v : Value) (h : SMap w m l) (hk : slook l k = none) : ∃ w1, (Instr.mapUpdate T (.map (some m)) (.string k) v).run Ybaf.prog w = .ok () w1 ∧ SMap w1 m (l ++ [(k, v)]) ∧ Fr (· = m) w w1 ∧ w1.heap.size = w.heap.size := by
  obtain ⟨es, clock, hb, hl⟩ := h
  have hj := (findNow_slook es.toList l k 0 hl).1 hk
  have hm : m < w.heap.size := (Array.getElem?_eq_some_iff.1 hb).1
  refine ⟨{ w with heap := w.heap.setIfInBounds m (.map (es.push { key := .string k, val := v, born := clock }) (clock + 1)) }, ?_, ⟨es.push { key := .string k, val := v, born := clock }, clock + 1, ?_, ?_⟩, ⟨rfl, rfl, rfl, by simp, fun i hi hn => ?_⟩, by simp⟩
  · simp only [Instr.mapUpdate, Sem.run_bind, run_underlying hT, Result.andThen_ok, MapKept.run_getObj_map hb, Sem.run_pure]
    rw [show (10000 : Nat) = 9999 + 1 from rfl, check9]
    simp only [Result.andThen_ok, Instr.findKey, Sem.run_bind, run_underlying Ybaf.underlying9, hj, Sem.run_pure, MapKept.run_setObj_map _ hb]
  · simp [Array.getElem?_setIfInBounds, hm]
  · simp [hl]
  · simp only [Array.getElem?_setIfInBounds]
    rw [if_neg (by omega)]
theorem SMap.kept {S : Nat → Prop} (h : SMap w m l) (hf : Fr S w w') (hn : ¬ S m) : SMap w' m l := by
  obtain ⟨es, clock, hb, hl⟩ := h
  exact ⟨es, clock, (hf.block m (Array.getElem?_eq_some_iff.1 hb).1 hn).trans hb, hl⟩
theorem SMap.keptB {B : Nat} (h : SMap w m l) (hf : FrB B w w') : SMap w' m l := by
  obtain ⟨es, clock, hb, hl⟩ := h
  exact ⟨es, clock, hf.map hb, hl⟩
theorem SMap.lt (h : SMap w m l) : m < w.heap.size := by
  obtain ⟨es, clock, hb, hl⟩ := h
  exact (Array.getElem?_eq_some_iff.1 hb).1
theorem SMap.ne {g e : Nat} {cs : List Value} (h : SMap w m l) (hb : Blk w g e cs) : m ≠ g := by
  rintro rfl
  obtain ⟨es, clock, h1, _⟩ := h
  have := h1.symm.trans hb
  cases this
end
end Go.Proofs.YbulkbrdiFmt
