/-
  b3389a: plain matter for fidelity.New.
-/
import Derived.Test.YbulkbrdwOut
import Derived.Deep.DeepCutAuto
import Derived.Deep.RegionLaw
namespace Go
section
variable {P : Program} (w : World)
/-- append at a step of a region that draws, nothing asked of the count -/
theorem step_append_at {ops : Array Oper} {o : Oper} {a : Act} {K : Act → World → Prop} {Q : Exit → Act → World → Prop} {E : Prop} (hgd : o.guard = none) (s x : Operand) (t : TypeId)
    (ho : o.op = .call { callee := .builtin .append, args := #[s, x], argTypes := #[t, t] })
    (base : Nat) (e : TypeId) (i : TypeInfo) (z : Value) (size bytes : Nat) (ht : P.underlying t = some (.slice e)) (hi : P.info? e = some i) (hz : i.zero = some z)
    (hsize : i.size = size) (hby : i.bytes = bytes) (hzs : z.cells.size = size) (hsz : 0 < size)
    (v : Value) (n : Nat) (xs : List Value) (hs : a.eval s = v) (hown : w.ownsRow base e size v n xs)
    (ad : Addr) (m c : Nat) (news : List Value) (hx : a.eval x = .slice (some ad) m c) (hl : news.length = m * size) (hnews : ∀ j u, news[j]? = some u → w.cell? (ad.add j) = some u) (h1 : ∀ u ∈ news, u.oneCell' = true)
    (h63 : n + m ≤ maxLen) (hbytes : (n + m) * bytes ≤ 140737488355328) (hbase : base ≤ w.heap.size)
    (h : ∀ v' w', w'.ownsRow base e size v' (n + m) (xs ++ news) → w.grownBy w' v.ownBlock → K (a.put o.dst v') w') :
    if Region.wanted o (yielded ops a.tmps) = true then Oper.wp P o a w K Q else E := by
  have hw : Region.wanted o (yielded ops a.tmps) = true := by simp [Region.wanted, hgd]
  rw [if_pos hw]
  obtain ⟨v', w', hr, h2, h3, h4, h5⟩ := run_append_own_at (P := P) w base t o.type e i z size bytes ht hi hz hsize hby hzs hsz v n xs hown ad m c news hl hnews h1 h63 hbytes hbase
  unfold Oper.wp execOp
  simp only [ho, resolve, invoke, builtin, Sem.run_bind, Sem.run_pure, Result.andThen_ok, List.map_toArray, List.map_cons, List.map_nil, hs, hx, hr]
  exact h v' w' h2 h3
end
end Go
namespace Go.Proofs.Ybulkbrdw
open Go.RowKit
set_option linter.unusedVariables false
set_option linter.unusedSimpArgs false

/-- the rates of all operators below k, one after the other -/
def flatN (L : Nat → Nat) (rt : Nat → Nat → Nat) (k : Nat) : List Nat := (List.range k).flatMap fun i => (List.range (L i)).map (rt i)
/-- the number of tasks below operator k -/
def sL (L : Nat → Nat) : Nat → Nat
  | 0 => 0
  | k + 1 => sL L k + L k
theorem flatN_succ (L : Nat → Nat) (rt : Nat → Nat → Nat) (k : Nat) : flatN L rt (k + 1) = flatN L rt k ++ (List.range (L k)).map (rt k) := by
  unfold flatN; rw [List.range_succ, List.flatMap_append]; simp
theorem flatN_length (L : Nat → Nat) (rt : Nat → Nat → Nat) : ∀ k, (flatN L rt k).length = sL L k
  | 0 => rfl
  | k + 1 => by rw [flatN_succ, List.length_append, flatN_length L rt k]; simp [sL]
theorem sL_mono (L : Nat → Nat) : ∀ {a b : Nat}, a ≤ b → sL L a ≤ sL L b
  | a, 0, h => by have : a = 0 := by omega
                  subst this; exact Nat.le_refl _
  | a, b + 1, h => by
    by_cases hab : a = b + 1
    · subst hab; exact Nat.le_refl _
    · have := sL_mono L (a := a) (b := b) (by omega)
      show sL L a ≤ sL L b + L b
      omega
def fl (l : List Nat) : List Value := l.map fun (z : Nat) => .float .f64 (fi (z : Int))
theorem fl_one (l : List Nat) : ∀ u ∈ fl l, u.oneCell' = true := by
  intro u hu
  obtain ⟨z, _, rfl⟩ := List.mem_map.1 hu
  rfl

/-- the rates' slice of operator k -/
def rvF (nr : Nat → Bool) (rb L : Nat → Nat) (k : Nat) : Value := if nr k then .slice none 0 0 else .slice (some ⟨rb k, 0, none⟩) (L k) (L k)

/-- a topology as the law builds it -/
structure TopOk (w : World) (T O n : Nat) (L : Nat → Nat) (jn nr : Nat → Bool) (rb : Nat → Nat) (rt : Nat → Nat → Nat) : Prop where
  top : Blk w T 42 [.string ⟨#[116]⟩, .slice (some ⟨O, 0, none⟩) n n]
  ops : OpsAt w O n L jn (rvF nr rb L)
  rts : ∀ k, k < n → nr k = false → Blk w (rb k) 27 (fl ((List.range (L k)).map (rt k)))
theorem TopOk.kept {w w' : World} {T O n : Nat} {L : Nat → Nat} {jn nr : Nat → Bool} {rb : Nat → Nat} {rt : Nat → Nat → Nat} (h : TopOk w T O n L jn nr rb rt) (hf : Fr (fun _ => False) w w') : TopOk w' T O n L jn nr rb rt :=
  ⟨h.top.kept hf id, Blk.kept h.ops hf id, fun k hk hn => (h.rts k hk hn).kept hf id⟩

theorem owns_slice {w : World} {B e size n : Nat} {v : Value} {xs : List Value} (h : w.ownsRow B e size v n xs) : ∃ a c, v = .slice a n c := by
  rcases h.2 with ⟨rfl, rfl⟩ | ⟨g, cap, cur, rfl, _⟩
  · exact ⟨none, 0, rfl⟩
  · exact ⟨_, _, rfl⟩
theorem owns_heap {w w' : World} {B e size n : Nat} {v : Value} {xs : List Value} (h : w.ownsRow B e size v n xs) (he : w'.heap = w.heap) : w'.ownsRow B e size v n xs := by
  unfold World.ownsRow at h ⊢
  rw [he]; exact h
theorem blk_heap {w w' : World} {g e : Nat} {l : List Value} (h : Blk w g e l) (he : w'.heap = w.heap) : Blk w' g e l := by
  unfold Blk at h ⊢
  rw [he]; exact h

/-- behind k rounds of New's first loop -/
structure N1 (w : World) (L : Nat → Nat) (rt : Nat → Nat → Nat) (k : Nat) (s : Value) (wr : World) : Prop where
  m : Blk wr w.heap.size 59 [.slice none 0 0, .slice none 0 0, s]
  own : wr.ownsRow (w.heap.size + 1) 27 1 s (sL L k) (fl (flatN L rt k))
  fr : Fr (fun _ => False) w wr
theorem n1_start (w : World) (L : Nat → Nat) (rt : Nat → Nat → Nat) : N1 w L rt 0 (.slice none 0 0) (w.alloc (.cells #[.slice none 0 0, .slice none 0 0, .slice none 0 0] 59)) :=
  ⟨Blk.new w 59 [.slice none 0 0, .slice none 0 0, .slice none 0 0], (by exact owns_nil _ _ _ _), (Fr.refl _ w).alloc _⟩
/-- one round -/
theorem N1.next {w : World} {L : Nat → Nat} {rt : Nat → Nat → Nat} {k : Nat} {s v' : Value} {wr W w1 : World} {o : Obj} (h : N1 w L rt k s wr) (hW : W.heap = (wr.alloc o).heap ∧ W.os = wr.os ∧ W.tape = wr.tape ∧ W.output = wr.output)
    (hown : w1.ownsRow (w.heap.size + 1) 27 1 v' (sL L k + L k) (fl (flatN L rt k) ++ fl ((List.range (L k)).map (rt k)))) (hg : W.grownBy w1 s.ownBlock) : N1 w L rt (k + 1) v' (w1.setCell ⟨w.heap.size, 2, none⟩ v') := by
  have hb := owns_base h.own
  have hWfr : Fr (fun _ => False) w W := by
    obtain ⟨q1, q2, q3, q4⟩ := hW
    have hf := h.fr.alloc o
    exact ⟨q2.trans hf.os, q3.trans hf.tape, q4.trans hf.output, by rw [q1]; exact hf.size, fun k hk hn => by rw [q1]; exact hf.block k hk hn⟩
  have hf1 : Fr (fun _ => False) w w1 := hWfr.grown hg (fun j hj => .inr (by have := hb j hj; omega))
  have hm1 : Blk w1 w.heap.size 59 [.slice none 0 0, .slice none 0 0, s] := by
    have hmW : Blk W w.heap.size 59 [.slice none 0 0, .slice none 0 0, s] := blk_heap (h.m.alloc o) hW.1
    refine (hg.block _ hmW.lt (fun e => ?_)).trans hmW
    have := hb _ e.symm; omega
  refine ⟨?_, ?_, hf1.setCell (.inr (Nat.le_refl _)) _⟩
  · exact hm1.setCell 2 v'
  · rw [flatN_succ, show fl (flatN L rt k ++ (List.range (L k)).map (rt k)) = fl (flatN L rt k) ++ fl ((List.range (L k)).map (rt k)) from List.map_append]
    refine owns_kept (S := (· = w.heap.size)) hown ((Fr.refl (· = w.heap.size) w1).setCell (.inl rfl) _) (fun j hj e => ?_)
    have := owns_base hown j hj
    omega
theorem blk_of_owns {w : World} {g e n c B size : Nat} {cs : List Value} (h : w.ownsRow B e size (.slice (some ⟨g, 0, none⟩) n c) n cs) :
    ∃ tail, Blk w g e (cs ++ tail) ∧ cs.length = n * size ∧ n * size + tail.length = c * size ∧ c ≤ maxLen ∧ n ≤ c ∧ B ≤ g := by
  obtain ⟨h1, ⟨h2, _⟩ | ⟨g', c', cur, hv, hB, hh, hn, hm, hs, ht⟩⟩ := h
  · cases h2
  · cases hv
    have hle := Nat.mul_le_mul_right size hn
    refine ⟨cur.toList.drop (n * size), ?_, by omega, by simp; omega, hm, hn, hB⟩
    have : cs ++ cur.toList.drop (n * size) = cur.toList := by rw [← ht, List.take_append_drop]
    show w.heap[g]? = _
    rw [this, hh]
theorem owns_of_blk {w : World} {g e n c B size : Nat} {cs tail : List Value} (hb : Blk w g e (cs ++ tail)) (hcl : cs.length = n * size) (hcap : n * size + tail.length = c * size) (hm : c ≤ maxLen) (hn : n ≤ c) (hB : B ≤ g) :
    w.ownsRow B e size (.slice (some ⟨g, 0, none⟩) n c) n cs :=
  ⟨hcl, .inr ⟨g, c, _, rfl, hB, hb, hn, hm, by simp; omega, by simp [← hcl]⟩⟩

/-- the n-th rate -/
def rAt (L : Nat → Nat) (rt : Nat → Nat → Nat) (n i : Nat) : Nat := (flatN L rt n).getD i 0
theorem fl_range (l : List Nat) : fl l = (List.range l.length).map fun i => .float .f64 (fi ((l.getD i 0 : Nat) : Int)) := by
  apply List.ext_getElem?
  intro i
  unfold fl
  by_cases h : i < l.length
  · rw [List.getElem?_map, List.getElem?_map, List.getElem?_range h, List.getElem?_eq_getElem h]
    simp [h]
  · rw [List.getElem?_eq_none (by simp; omega), List.getElem?_eq_none (by simp; omega)]
theorem rAt_le {L : Nat → Nat} {rt : Nat → Nat → Nat} (hrt : ∀ k i, rt k i ≤ 65535) (n i : Nat) : rAt L rt n i ≤ 65535 := by
  unfold rAt
  rw [List.getD_eq_getElem?_getD]
  cases h : (flatN L rt n)[i]? with
  | none => simp
  | some x =>
    have hx := List.mem_of_getElem? h
    unfold flatN at hx
    obtain ⟨k, _, hk⟩ := List.mem_flatMap.1 hx
    obtain ⟨j, _, rfl⟩ := List.mem_map.1 hk
    exact hrt k j

/-- a quotient's bits -/
def qf (a b : Nat) : Nat := (floatBits .quo .f64 (fi a) (fi b)).getD 0
theorem qf_ok {a b : Nat} (ha : a ≤ 65535) (hb : b ≤ 65535) (h0 : 0 < b) : floatBits .quo .f64 (fi a) (fi b) = some (qf a b) ∧ Ieee.double.order (qf a b) (qf a b) = some .eq := by
  obtain ⟨r, hr, ho⟩ := div_fi (x := (a : Int)) (y := (b : Int)) (by omega) (by omega) (by omega)
  have e : qf a b = r := by unfold qf; rw [hr]; rfl
  rw [e]; exact ⟨hr, ho⟩
/-- the n-th rate as New leaves it: mx the greatest -/
def rFin (mx r : Nat) : Nat := if 0 < mx then qf r mx else fi r

/-- the rates where the first k are scaled -/
def scaled (L : Nat → Nat) (rt : Nat → Nat → Nat) (n mx N k : Nat) : List Value := (List.range N).map fun i => .float .f64 (if i < k then qf (rAt L rt n i) mx else fi (rAt L rt n i))
theorem scaled_set (L : Nat → Nat) (rt : Nat → Nat → Nat) (n mx N k : Nat) (hk : k < N) (tl : List Value) : (scaled L rt n mx N k ++ tl).set k (.float .f64 (qf (rAt L rt n k) mx)) = scaled L rt n mx N (k + 1) ++ tl := by
  rw [List.set_append_left _ _ (by unfold scaled; simp; exact hk)]
  congr 1
  apply List.ext_getElem?
  intro i
  unfold scaled
  rw [List.getElem?_set, List.getElem?_map, List.getElem?_map]
  by_cases h : k = i
  · subst h
    rw [if_pos rfl, if_pos (by simp; exact hk), List.getElem?_range hk]
    simp
  · rw [if_neg h]
    by_cases hi : i < N
    · rw [List.getElem?_range hi]
      simp only [Option.map_some]
      have : (i < k + 1) ↔ (i < k) := by omega
      simp [this]
    · rw [List.getElem?_eq_none (by simp; omega)]; rfl
theorem scaled_get (L : Nat → Nat) (rt : Nat → Nat → Nat) (n mx N k : Nat) (hk : k < N) (tl : List Value) : (scaled L rt n mx N k ++ tl)[k]? = some (.float .f64 (fi (rAt L rt n k))) := by
  unfold scaled
  rw [List.getElem?_append_left (by simp; exact hk), List.getElem?_map, List.getElem?_range hk]
  simp

/-- behind New's scaling -/
structure N2 (w : World) (L : Nat → Nat) (rt : Nat → Nat → Nat) (n mx g c : Nat) (tl : List Value) (wr : World) : Prop where
  m : Blk wr w.heap.size 59 [.slice none 0 0, .slice none 0 0, .slice (some ⟨g, 0, none⟩) (sL L n) c]
  rates : Blk wr g 27 ((List.range (sL L n)).map (fun i => .float .f64 (rFin mx (rAt L rt n i))) ++ tl)
  cap : sL L n + tl.length = c
  capM : c ≤ maxLen
  base : w.heap.size + 1 ≤ g
  fr : Fr (fun _ => False) w wr
end Go.Proofs.Ybulkbrdw
