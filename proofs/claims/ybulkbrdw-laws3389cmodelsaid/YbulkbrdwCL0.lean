/-
  b3389a: plain matter for LawS3389CModel.
-/
import Derived.Test.YbulkbrdwNewO
namespace Go.Proofs.Ybulkbrdw
open Go.RowKit
set_option linter.unusedVariables false
set_option linter.unusedSimpArgs false

/-- a slice of uint16 that came in -/
def RdU (w : World) (a : Option Addr) (len : Nat) (f : Nat → Nat) : Prop :=
  len = 0 ∨ ∃ b off, a = some ⟨b, off, none⟩ ∧ b < w.heap.size ∧ ∀ i, i < len → w.cell? ⟨b, off + i, none⟩ = some (.int .u16 (f i))

/-- the operators that came in -/
structure ArgOk (w : World) (xb xo n : Nat) (A : Nat → Option Addr) (L C : Nat → Nat) (nr jn : Nat → Bool) (rt : Nat → Nat → Nat) : Prop where
  lt : xb < w.heap.size
  c0 : ∀ k, k < n → w.cell? ⟨xb, xo + k * 3, none⟩ = some (.slice (A k) (L k) (C k))
  c1 : ∀ k, k < n → w.cell? ⟨xb, xo + k * 3 + 1, none⟩ = some (.bool (nr k))
  c2 : ∀ k, k < n → w.cell? ⟨xb, xo + k * 3 + 2, none⟩ = some (.bool (jn k))
  rd : ∀ k, k < n → RdU w (A k) (L k) (rt k)
  le : ∀ k i, rt k i ≤ 65535
  len : ∀ k, k < n → L k ≤ 70368744177664

theorem cell_kept {w wr : World} {b o : Nat} {v : Value} (hb : b < w.heap.size) (hf : Fr (fun _ => False) w wr) (h : w.cell? ⟨b, o, none⟩ = some v) : wr.cell? ⟨b, o, none⟩ = some v :=
  (World.cell?_of_block (hf.block b hb id)).trans h
theorem RdU.kept {w wr : World} {a : Option Addr} {len : Nat} {f : Nat → Nat} (h : RdU w a len f) (hf : Fr (fun _ => False) w wr) : RdU wr a len f := by
  rcases h with h | ⟨b, o, e, hb, hc⟩
  · exact .inl h
  · exact .inr ⟨b, o, e, Nat.lt_of_lt_of_le hb hf.size, fun i hi => cell_kept hb hf (hc i hi)⟩
theorem ArgOk.kept {w wr : World} {xb xo n : Nat} {A : Nat → Option Addr} {L C : Nat → Nat} {nr jn : Nat → Bool} {rt : Nat → Nat → Nat} (h : ArgOk w xb xo n A L C nr jn rt) (hf : Fr (fun _ => False) w wr) : ArgOk wr xb xo n A L C nr jn rt :=
  ⟨Nat.lt_of_lt_of_le h.lt hf.size, fun k hk => cell_kept h.lt hf (h.c0 k hk), fun k hk => cell_kept h.lt hf (h.c1 k hk), fun k hk => cell_kept h.lt hf (h.c2 k hk), fun k hk => (h.rd k hk).kept hf, h.le, h.len⟩

theorem sL_le {L : Nat → Nat} {M : Nat} : ∀ {n : Nat}, (∀ k, k < n → L k ≤ M) → sL L n ≤ n * M
  | 0, _ => by show 0 ≤ _; omega
  | n + 1, h => by
    have h1 := sL_le (n := n) (fun k hk => h k (by omega))
    have h2 := h n (by omega)
    show sL L n + L n ≤ (n + 1) * M
    rw [Nat.add_mul]; omega

theorem flatS_length (f : Nat → List Value) (s : Nat) (hf : ∀ k, (f k).length = s) : ∀ n, ((List.range n).flatMap f).length = n * s
  | 0 => by simp
  | n + 1 => by rw [List.range_succ, List.flatMap_append, List.length_append, flatS_length f s hf n]; simp [hf]; rw [Nat.add_mul]; omega
theorem flatS_get (f : Nat → List Value) (s : Nat) (hf : ∀ k, (f k).length = s) : ∀ (n k j : Nat), k < n → j < s → ((List.range n).flatMap f)[k * s + j]? = (f k)[j]?
  | 0, k, j, hk, _ => by omega
  | n + 1, k, j, hk, hj => by
    have hl := flatS_length f s hf n
    rw [List.range_succ, List.flatMap_append]
    by_cases h : k < n
    · have : k * s + s ≤ n * s := by rw [← Nat.succ_mul]; exact Nat.mul_le_mul_right _ h
      rw [List.getElem?_append_left (by rw [hl]; omega)]
      exact flatS_get f s hf n k j h hj
    · obtain rfl : k = n := by omega
      rw [List.getElem?_append_right (by rw [hl]; omega), hl, Nat.add_sub_cancel_left]
      simp
theorem made_flat (zs : List Value) (s l : Nat) (hs : zs.length = s) (h0 : 0 < s) : madeCells zs.toArray (l * s) = ((List.range l).flatMap fun _ => zs).toArray := by
  apply Array.ext
  · rw [size_madeCells, List.size_toArray, flatS_length _ s (fun _ => hs)]
  · intro i h1 h2
    rw [size_madeCells] at h1
    have hx : i / s < l := Nat.div_lt_of_lt_mul (by rw [Nat.mul_comm]; exact h1)
    have hy : i % s < s := Nat.mod_lt _ h0
    have hi : i = i / s * s + i % s := by rw [Nat.mul_comm]; exact (Nat.div_add_mod i s).symm
    have hg := flatS_get (fun _ => zs) s (fun _ => hs) l (i / s) (i % s) hx hy
    rw [← hi] at hg
    have h2' : i < ((List.range l).flatMap fun _ => zs).length := by simpa using h2
    rw [List.getElem?_eq_getElem h2', List.getElem?_eq_getElem (by omega)] at hg
    have h3 := Option.some.inj hg
    rw [show ((List.range l).flatMap fun _ => zs).toArray[i]'h2 = ((List.range l).flatMap fun _ => zs)[i]'h2' from rfl, h3]
    have hc : ∀ (h : i < (madeCells zs.toArray (l * s)).size), (madeCells zs.toArray (l * s))[i]'h = zs.toArray[i % zs.toArray.size]! := fun h => by simp [madeCells]
    rw [hc]
    have : zs.toArray.size = s := by simpa using hs
    rw [this, getElem!_pos zs.toArray (i % s) (by simp; omega)]
    rfl

/-- an operator not laid yet -/
def zop : List Value := [.string ⟨#[]⟩, .int .i64 0, .slice none 0 0, .string ⟨#[]⟩, .bool false, .slice none 0 0, .map none]
/-- the operators' row where the first k are laid -/
def opsL (L : Nat → Nat) (jn : Nat → Bool) (rv : Nat → Value) (n k : Nat) : List Value := (List.range n).flatMap fun i => if i < k then opc L jn rv i else zop
theorem opsL_len (L : Nat → Nat) (jn : Nat → Bool) (rv : Nat → Value) (k i : Nat) : (if i < k then opc L jn rv i else zop).length = 7 := by split <;> rfl
theorem opsL_zero (L : Nat → Nat) (jn : Nat → Bool) (rv : Nat → Value) (n : Nat) : opsL L jn rv n 0 = (List.range n).flatMap fun _ => zop := by
  unfold opsL; simp
theorem opsL_full (L : Nat → Nat) (jn : Nat → Bool) (rv : Nat → Value) (n : Nat) : opsL L jn rv n n = (List.range n).flatMap (opc L jn rv) := by
  unfold opsL
  rw [List.flatMap_def, List.flatMap_def]
  congr 1
  apply List.map_congr_left
  intro x hx
  rw [if_pos (List.mem_range.1 hx)]
theorem opsL_get (L : Nat → Nat) (jn : Nat → Bool) (rv : Nat → Value) {n k i : Nat} (hi : i < n) (j : Nat) (hj : j < 7) : (opsL L jn rv n k)[i * 7 + j]? = (if i < k then opc L jn rv i else zop)[j]? :=
  flatS_get (fun i => if i < k then opc L jn rv i else zop) 7 (opsL_len L jn rv k) n i j hi hj
theorem opsL_length (L : Nat → Nat) (jn : Nat → Bool) (rv : Nat → Value) (n k : Nat) : (opsL L jn rv n k).length = n * 7 := flatS_length _ 7 (opsL_len L jn rv k) n
theorem opsL_set (L : Nat → Nat) (jn : Nat → Bool) (rv rv' : Nat → Value) {n k : Nat} (hk : k < n) (hrv : ∀ i, i < k → rv' i = rv i) :
    over (opsL L jn rv n k) (k * 7) (opc L jn rv' k) = opsL L jn rv' n (k + 1) := by
  apply List.ext_getElem?
  intro p
  obtain ⟨x, y, hy, rfl⟩ : ∃ x y, y < 7 ∧ p = x * 7 + y := ⟨p / 7, p % 7, Nat.mod_lt _ (by omega), by omega⟩
  rw [over_get, opsL_length]
  by_cases hx : x < n
  · rw [opsL_get _ _ _ hx _ hy, opsL_get _ _ _ hx _ hy]
    by_cases hxk : x = k
    · subst hxk
      rw [if_pos ⟨by omega, by simp [opc]; omega, by omega⟩, if_pos (by omega), show x * 7 + y - x * 7 = y by omega]
    · rw [if_neg (by simp [opc]; omega)]
      by_cases h : x < k
      · rw [if_pos h, if_pos (by omega)]
        unfold opc
        rw [hrv x h]
      · rw [if_neg h, if_neg (by omega)]
  · rw [if_neg (by omega), List.getElem?_eq_none (by rw [opsL_length]; omega), List.getElem?_eq_none (by rw [opsL_length]; omega)]

theorem make40 (n : Nat) (hn : n ≤ 300) (w : World) : (Instr.makeSlice 40 (.int .i64 (n : Int)) (.int .i64 (n : Int))).run Yba.prog w = .ok (.slice (some ⟨w.heap.size, 0, none⟩) n n) (w.alloc (.cells ((List.range n).flatMap fun _ => zop).toArray 47)) := by
  obtain ⟨i, hi, hz, hs, hb⟩ := info_parts (P := Yba.prog) (e := 47) (z := .agg #[.string ⟨#[]⟩, .int .i64 0, .slice none 0 0, .string ⟨#[]⟩, .bool false, .slice none 0 0, .map none]) (size := 7) (bytes := 104) (by kernel_rfl)
  have hr := run_make (P := Yba.prog) w 40 47 i _ Yba.underlying40 hi hz .i64 .i64 n n (by omega) (Int.le_refl _) (by rw [hb]; omega) (by omega)
  simp only [Int.toNat_natCast, hs] at hr
  rw [show (Value.agg #[.string ⟨#[]⟩, .int .i64 0, .slice none 0 0, .string ⟨#[]⟩, .bool false, .slice none 0 0, .map none]).cells = zop.toArray from rfl, made_flat zop 7 n rfl (by omega)] at hr
  exact hr

/-- the greatest, 0 where there is none -/
def mxF (l : List Nat) : Nat := l.foldl max 0
theorem mxF_snoc (l : List Nat) (x : Nat) : mxF (l ++ [x]) = max (mxF l) x := by unfold mxF; rw [List.foldl_append]; rfl
theorem maxTo_take (l : List Nat) : ∀ N, N < l.length → maxTo (fun i => l.getD i 0) N = mxF (l.take (N + 1))
  | 0, h => by
    have : l.take 1 = [] ++ [l.getD 0 0] := by cases l with
      | nil => simp at h
      | cons x r => rfl
    rw [this, mxF_snoc]; show l.getD 0 0 = max 0 _; omega
  | N + 1, h => by
    have e : l.take (N + 1 + 1) = l.take (N + 1) ++ [l.getD (N + 1) 0] := by rw [List.take_add_one, List.getElem?_eq_getElem h]; simp [h]
    rw [e, mxF_snoc, ← maxTo_take l N (by omega)]; rfl
theorem maxTo_all (l : List Nat) (h : 0 < l.length) : maxTo (fun i => l.getD i 0) (l.length - 1) = mxF l := by
  rw [maxTo_take l _ (by omega), show l.length - 1 + 1 = l.length by omega, List.take_length]
theorem maxTo_flat (L : Nat → Nat) (rt : Nat → Nat → Nat) (n : Nat) (h : 0 < sL L n) : maxTo (rAt L rt n) (sL L n - 1) = mxF (flatN L rt n) := by
  have := maxTo_all (flatN L rt n) (by rw [flatN_length]; exact h)
  rw [flatN_length] at this
  exact this

/-- behind k rounds of the law's second loop -/
structure C2 (w : World) (n : Nat) (L : Nat → Nat) (jn nr : Nat → Bool) (rt : Nat → Nat → Nat) (k : Nat) (rb : Nat → Nat) (wr : World) : Prop where
  top : Blk wr w.heap.size 42 [.string ⟨#[116]⟩, .slice (some ⟨w.heap.size + 1, 0, none⟩) n n]
  ops : Blk wr (w.heap.size + 1) 47 (opsL L jn (rvF nr rb L) n k)
  rts : ∀ i, i < k → nr i = false → w.heap.size + 2 ≤ rb i ∧ Blk wr (rb i) 27 (fl ((List.range (L i)).map (rt i)))
  fr : Fr (fun _ => False) w wr
section
variable {w : World} {n : Nat} {L : Nat → Nat} {jn nr : Nat → Bool} {rt : Nat → Nat → Nat} {k : Nat} {rb : Nat → Nat} {wr : World}
theorem C2.kept {w' : World} (h : C2 w n L jn nr rt k rb wr) (hf : Fr (fun _ => False) wr w') : C2 w n L jn nr rt k rb w' :=
  ⟨h.top.kept hf id, h.ops.kept hf id, fun i hi hn => ⟨(h.rts i hi hn).1, (h.rts i hi hn).2.kept hf id⟩, h.fr.trans hf⟩
/-- an operator is laid -/
theorem C2.next {w1 : World} (h : C2 w n L jn nr rt k rb wr) (hk : k < n) (R : Nat) (hR : nr k = false → w.heap.size + 2 ≤ R ∧ Blk wr R 27 (fl ((List.range (L k)).map (rt k)))) (hw : w1 = wr.setCells (w.heap.size + 1) (k * 7) (opc L jn (rvF nr (fun i => if i = k then R else rb i) L) k)) :
    C2 w n L jn nr rt (k + 1) (fun i => if i = k then R else rb i) w1 := by
  subst hw
  have hF : Fr (· = w.heap.size + 1) wr (wr.setCells (w.heap.size + 1) (k * 7) (opc L jn (rvF nr (fun i => if i = k then R else rb i) L) k)) := Fr.setCells (S := (· = w.heap.size + 1)) (.inl rfl) _ _ (Fr.refl _ _)
  refine ⟨h.top.kept hF (by omega), ?_, fun i hi hn => ?_, Fr.setCells (.inr (by omega)) _ _ h.fr⟩
  · have := h.ops.setCells (opc L jn (rvF nr (fun i => if i = k then R else rb i) L) k) (k * 7)
    rw [opsL_set L jn (rvF nr rb L) (rvF nr (fun i => if i = k then R else rb i) L) hk (fun i hi => ?_)] at this
    · exact this
    · unfold rvF
      simp only [if_neg (show ¬ i = k by omega)]
  · by_cases hik : i = k
    · subst hik
      simp only [if_true]
      exact ⟨(hR hn).1, (hR hn).2.kept hF (by have := (hR hn).1; omega)⟩
    · simp only [if_neg hik]
      have := h.rts i (by omega) hn
      exact ⟨this.1, this.2.kept hF (by omega)⟩
end
end Go.Proofs.Ybulkbrdw
