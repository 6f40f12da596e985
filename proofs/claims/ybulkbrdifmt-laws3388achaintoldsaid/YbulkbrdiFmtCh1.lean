/-
  b3388aF: the states of LawS3388AChain.
-/
import Derived.Test.YbulkbrdiFmtCh0
namespace Go.Proofs.YbulkbrdiFmt
open Go.RowKit
set_option linter.unusedVariables false
set_option linter.unusedSimpArgs false

theorem rowF_len {z : List Value} {f : Nat → List Value} {s : Nat} (hz : z.length = s) (hf : ∀ i, (f i).length = s) (k i : Nat) : (if i < k then f i else z).length = s := by split; exact hf i; exact hz
theorem rowF_zero (z : List Value) (f : Nat → List Value) (l : Nat) : rowF z f l 0 = rowZ z l := by unfold rowF rowZ; simp
theorem rowF_get {z : List Value} {f : Nat → List Value} {s : Nat} (hz : z.length = s) (hf : ∀ i, (f i).length = s) {l k i : Nat} (hi : i < l) (j : Nat) (hj : j < s) : (rowF z f l k)[i * s + j]? = (if i < k then f i else z)[j]? :=
  flatS_get _ s (rowF_len hz hf k) l i j hi hj
theorem rowF_length {z : List Value} {f : Nat → List Value} {s : Nat} (hz : z.length = s) (hf : ∀ i, (f i).length = s) (l k : Nat) : (rowF z f l k).length = l * s := flatS_length _ s (rowF_len hz hf k) l
theorem rowF_set {z : List Value} {f f' : Nat → List Value} {s : Nat} (hz : z.length = s) (hf : ∀ i, (f i).length = s) (hf' : ∀ i, (f' i).length = s) (h0 : 0 < s) {l k : Nat} (hk : k < l) (he : ∀ i, i < k → f' i = f i) :
    over (rowF z f l k) (k * s) (f' k) = rowF z f' l (k + 1) := by
  apply List.ext_getElem?
  intro p
  have hp : p = p / s * s + p % s := by rw [Nat.mul_comm]; exact (Nat.div_add_mod p s).symm
  obtain ⟨x, hx⟩ : ∃ x, x = p / s := ⟨_, rfl⟩
  obtain ⟨y, hy⟩ : ∃ y, y = p % s := ⟨_, rfl⟩
  have hys : y < s := by rw [hy]; exact Nat.mod_lt _ h0
  rw [← hx, ← hy] at hp
  subst hp
  rw [over_get, rowF_length hz hf, hf' k]
  by_cases hxl : x < l
  · have h1 : x * s + s ≤ l * s := by rw [← Nat.succ_mul]; exact Nat.mul_le_mul_right _ hxl
    rw [rowF_get hz hf hxl y hys, rowF_get hz hf' hxl y hys]
    rcases Nat.lt_trichotomy x k with hlt | heq | hgt
    · have h2 : x * s + s ≤ k * s := by rw [← Nat.succ_mul]; exact Nat.mul_le_mul_right _ hlt
      rw [if_neg (by omega), if_pos hlt, if_pos (by omega), he x hlt]
    · subst heq
      rw [if_pos ⟨by omega, by omega, by omega⟩, if_pos (by omega), show x * s + y - x * s = y by omega]
    · have h2 : k * s + s ≤ x * s := by rw [← Nat.succ_mul]; exact Nat.mul_le_mul_right _ hgt
      rw [if_neg (by omega), if_neg (by omega), if_neg (by omega)]
  · have h1 : l * s ≤ x * s := Nat.mul_le_mul_right _ (by omega)
    rw [if_neg (by omega), List.getElem?_eq_none (by rw [rowF_length hz hf]; omega), List.getElem?_eq_none (by rw [rowF_length hz hf']; omega)]

/-- the space's cells -/
def spL (h : Nat) (lo it co : Value) : List Value := [.pointer none, .nilFunc, .slice none 0 0, .map none, .slice none 0 0, .map none, lo, .map none, it, .map none, co, .map none, .map none, .map (some h), .map none, .slice none 0 0, .map none, .slice none 0 0, .map none, .map none]
def itm (tov : Nat → Nat) (i : Nat) : List Value := [.int .i64 ((tov i % 64 : Nat) : Int), .int .i64 (-1), .string ⟨#[]⟩, .string ⟨#[]⟩, .int .u64 0, .bool false, .bool false, .int .u64 0, .pointer none]
structure G2 (w : World) (M : Nat) (tov : Nat → Nat) (k : Nat) (wr : World) : Prop where
  mp : MapAt wr w.heap.size []
  sp : Blk wr (w.heap.size + 1) 42 (spL w.heap.size (.slice none 0 0) (.slice (some ⟨w.heap.size + 1 + 1, 0, none⟩) M M) (.slice none 0 0))
  it : Blk wr (w.heap.size + 1 + 1) 48 (rowF zitem.toList (itm tov) M k)
  size : wr.heap.size = w.heap.size + 3
  fr : Fr (fun _ => False) w wr
theorem size_setCells (g : Nat) : ∀ (vs : List Value) (o : Nat) (w : World), (w.setCells g o vs).heap.size = w.heap.size
  | [], _, _ => rfl
  | v :: r, o, w => by rw [World.setCells, size_setCells g r]; simp [World.setCell]
theorem G2.next {w wr W : World} {M : Nat} {tov : Nat → Nat} {k : Nat} (h : G2 w M tov k wr) (hk : k < M) (hW : W = wr.setCells (w.heap.size + 1 + 1) (k * 9) (itm tov k)) : G2 w M tov (k + 1) W := by
  subst hW
  have hF : Fr (· = w.heap.size + 1 + 1) wr (wr.setCells (w.heap.size + 1 + 1) (k * 9) (itm tov k)) := Fr.setCells (S := (· = w.heap.size + 1 + 1)) (.inl rfl) _ _ (Fr.refl _ _)
  refine ⟨h.mp.kept hF (by omega), h.sp.kept hF (by omega), ?_, by rw [size_setCells]; exact h.size, Fr.setCells (.inr (by omega)) _ _ h.fr⟩
  have := h.it.setCells (itm tov k) (k * 9)
  rw [rowF_set (z := zitem.toList) (f := itm tov) (f' := itm tov) (s := 9) rfl (fun _ => rfl) (fun _ => rfl) (by omega) hk (fun _ _ => rfl)] at this
  exact this
theorem G2.drew {w wr : World} {M : Nat} {tov : Nat → Nat} {k : Nat} (h : G2 w M tov k wr) : G2 w M tov k wr.drew := ⟨h.mp, h.sp, h.it, h.size, h.fr.drew⟩

/-- what is laid for one component -/
structure Ci where
  la : Option Addr
  ll : Nat
  ba : Option Addr
  bn : Nat
  dd : Array Nat
  ev : Value
def Ci.E (x : Ci) : List Nat := evOf x.ll x.dd x.bn
structure CiOk (B : Nat) (w : World) (x : Ci) : Prop where
  ll : x.ll ≤ 1
  bag : x.bn ≤ 1024 ∧ (0 < x.bn → ∃ g, B ≤ g ∧ x.ba = some ⟨g, 0, none⟩ ∧ Blk w g 53 (rowV x.dd) ∧ x.dd.size = x.bn ∧ (∀ i, i < x.bn → x.dd[i]! < 300) ∧ Sort.SortedIn ltN 0 x.bn x.dd)
  ev : w.ownsRow B 54 1 x.ev x.E.length (evV x.E)
theorem CiOk.kept {S : Nat → Prop} {B : Nat} {w w' : World} {x : Ci} (h : CiOk B w x) (hf : Fr S w w') (hS : ∀ b, B ≤ b → ¬ S b) : CiOk B w' x :=
  ⟨h.ll, ⟨h.bag.1, fun h0 => by
    obtain ⟨g, h1, h2, h3, h4⟩ := h.bag.2 h0
    exact ⟨g, h1, h2, h3.kept hf (hS g h1), h4⟩⟩, owns_kept h.ev hf (fun j hj => hS j (owns_base h.ev j hj))⟩
theorem CiOk.weaken {B B' : Nat} {w : World} {x : Ci} (h : CiOk B w x) (hB : B' ≤ B) : CiOk B' w x :=
  ⟨h.ll, ⟨h.bag.1, fun h0 => by
    obtain ⟨g, h1, h2⟩ := h.bag.2 h0
    exact ⟨g, Nat.le_trans hB h1, h2⟩⟩, owns_weaken h.ev hB⟩
def lcl (x : Ci) : List Value := [.int .i64 0, .nilIface, .slice x.la x.ll x.ll, .slice none 0 0]
def cmp (c : Nat) (x : Ci) : List Value := [.int .u32 (c : Int), .slice x.ba x.bn x.bn, .int .u64 0, .int .i32 0, .int .i32 0, .bool false]
structure G3 (w : World) (K M : Nat) (tov : Nat → Nat) (F : Nat → Ci) (c : Nat) (wr : World) : Prop where
  mp : MapAt wr w.heap.size []
  sp : Blk wr (w.heap.size + 1) 42 (spL w.heap.size (.slice (some ⟨w.heap.size + 3, 0, none⟩) K K) (.slice (some ⟨w.heap.size + 1 + 1, 0, none⟩) M M) (.slice (some ⟨w.heap.size + 3 + 1, 0, none⟩) K K))
  it : Blk wr (w.heap.size + 1 + 1) 48 (rowF zitem.toList (itm tov) M M)
  lo : Blk wr (w.heap.size + 3) 62 (rowF zlocal.toList (fun i => lcl (F i)) K c)
  co : Blk wr (w.heap.size + 3 + 1) 64 (rowF zcomp.toList (fun i => cmp i (F i)) K c)
  eb : Blk wr (w.heap.size + 3 + 1 + 1) 50 (rowF [.slice none 0 0] (fun i => [(F i).ev]) K c)
  ci : ∀ i, i < c → CiOk (w.heap.size + 6) wr (F i)
  nil : ∀ i, i < c → K ≤ i + 1 → (F i).E = []
  fr : Fr (fun _ => False) w wr
theorem G3.kept {w wr W : World} {K M : Nat} {tov : Nat → Nat} {F : Nat → Ci} {c : Nat} (h : G3 w K M tov F c wr) (hf : Fr (fun _ => False) wr W) : G3 w K M tov F c W :=
  ⟨h.mp.kept hf id, h.sp.kept hf id, h.it.kept hf id, h.lo.kept hf id, h.co.kept hf id, h.eb.kept hf id, fun i hi => (h.ci i hi).kept hf (fun _ _ => id), h.nil, h.fr.trans hf⟩
/-- a component is laid -/
theorem G3.next {w wr W : World} {K M : Nat} {tov : Nat → Nat} {F : Nat → Ci} {c : Nat} (h : G3 w K M tov F c wr) (x : Ci) (hx : CiOk (w.heap.size + 6) wr x) (hxn : K ≤ c + 1 → x.E = []) (hc : c < K)
    (hW : W = ((wr.setCells (w.heap.size + 3) (c * 4) (lcl x)).setCells (w.heap.size + 3 + 1) (c * 6) (cmp c x)).setCells (w.heap.size + 3 + 1 + 1) (c * 1) [x.ev]) : G3 w K M tov (fun i => if i = c then x else F i) (c + 1) W := by
  subst hW
  have hF : Fr (fun b => b = w.heap.size + 3 ∨ b = w.heap.size + 3 + 1 ∨ b = w.heap.size + 3 + 1 + 1) wr (((wr.setCells (w.heap.size + 3) (c * 4) (lcl x)).setCells (w.heap.size + 3 + 1) (c * 6) (cmp c x)).setCells (w.heap.size + 3 + 1 + 1) (c * 1) [x.ev]) :=
    Fr.setCells (S := fun b => b = w.heap.size + 3 ∨ b = w.heap.size + 3 + 1 ∨ b = w.heap.size + 3 + 1 + 1) (.inl (.inr (.inr rfl))) _ _ (Fr.setCells (.inl (.inr (.inl rfl))) _ _ (Fr.setCells (.inl (.inl rfl)) _ _ (Fr.refl _ _)))
  refine ⟨h.mp.kept hF (by omega), h.sp.kept hF (by omega), h.it.kept hF (by omega), ?_, ?_, ?_, fun i hi => ?_, fun i hi hK => ?_, Fr.setCells (.inr (by omega)) _ _ (Fr.setCells (.inr (by omega)) _ _ (Fr.setCells (.inr (by omega)) _ _ h.fr))⟩
  · have := h.lo.setCells (lcl x) (c * 4)
    have e := rowF_set (z := zlocal.toList) (f := fun i => lcl (F i)) (f' := fun i => lcl (if i = c then x else F i)) (s := 4) rfl (fun _ => rfl) (fun _ => rfl) (by omega) hc (fun i hi => by simp only [if_neg (show ¬ i = c by omega)])
    simp only [if_true] at e
    rw [e] at this
    exact Blk.setCells_other (by omega) _ _ (Blk.setCells_other (by omega) _ _ this)
  · have := (Blk.setCells_other (b := w.heap.size + 3) (by omega) (lcl x) (c * 4) h.co).setCells (cmp c x) (c * 6)
    have e := rowF_set (z := zcomp.toList) (f := fun i => cmp i (F i)) (f' := fun i => cmp i (if i = c then x else F i)) (s := 6) rfl (fun _ => rfl) (fun _ => rfl) (by omega) hc (fun i hi => by simp only [if_neg (show ¬ i = c by omega)])
    simp only [if_true] at e
    rw [e] at this
    exact Blk.setCells_other (by omega) _ _ this
  · have := (Blk.setCells_other (b := w.heap.size + 3 + 1) (by omega) (cmp c x) (c * 6) (Blk.setCells_other (b := w.heap.size + 3) (by omega) (lcl x) (c * 4) h.eb)).setCells [x.ev] (c * 1)
    have e := rowF_set (z := [.slice none 0 0]) (f := fun i => [(F i).ev]) (f' := fun i => [(if i = c then x else F i).ev]) (s := 1) rfl (fun _ => rfl) (fun _ => rfl) (by omega) hc (fun i hi => by simp only [if_neg (show ¬ i = c by omega)])
    simp only [if_true] at e
    rw [e] at this
    exact this
  · by_cases hic : i = c
    · subst hic
      simp only [if_true]
      exact hx.kept hF (by omega)
    · simp only [if_neg hic]
      exact (h.ci i (by omega)).kept hF (by omega)
  · by_cases hic : i = c
    · subst hic
      simp only [if_true]; exact hxn hK
    · simp only [if_neg hic]; exact h.nil i (by omega) hK
theorem rep_rowZ (v : Value) (l : Nat) : rowZ [v] l = List.replicate l v := by
  unfold rowZ
  induction l with
  | zero => rfl
  | succ n ih => rw [List.range_succ, List.flatMap_append, ih, List.replicate_succ']; simp
theorem G3.start {w wr : World} {K M : Nat} {tov : Nat → Nat} {F : Nat → Ci} (h : G2 w M tov M wr) :
    G3 w K M tov F 0 (((((wr.setCell ⟨w.heap.size + 1, 6, none⟩ (.slice (some ⟨w.heap.size + 3, 0, none⟩) K K)).setCell ⟨w.heap.size + 1, 10, none⟩ (.slice (some ⟨w.heap.size + 3 + 1, 0, none⟩) K K)).alloc (.cells (rowZ zlocal.toList K).toArray 62)).alloc (.cells (rowZ zcomp.toList K).toArray 64)).alloc (.cells (Array.replicate K (.slice none 0 0)) 50)) := by
  have hsz := h.size
  obtain ⟨W, hW⟩ : ∃ W, W = (wr.setCell ⟨w.heap.size + 1, 6, none⟩ (.slice (some ⟨w.heap.size + 3, 0, none⟩) K K)).setCell ⟨w.heap.size + 1, 10, none⟩ (.slice (some ⟨w.heap.size + 3 + 1, 0, none⟩) K K) := ⟨_, rfl⟩
  have hWs : W.heap.size = w.heap.size + 3 := by rw [hW]; simp [World.setCell]; exact hsz
  have hF : Fr (· = w.heap.size + 1) wr W := by rw [hW]; exact ((Fr.refl (· = w.heap.size + 1) wr).setCell (.inl rfl) _).setCell (.inl rfl) _
  have hFw : Fr (fun _ => False) w W := by rw [hW]; exact (h.fr.setCell (.inr (by show _ ≤ w.heap.size + 1; omega)) _).setCell (.inr (by show _ ≤ w.heap.size + 1; omega)) _
  have hsp : Blk W (w.heap.size + 1) 42 (spL w.heap.size (.slice (some ⟨w.heap.size + 3, 0, none⟩) K K) (.slice (some ⟨w.heap.size + 1 + 1, 0, none⟩) M M) (.slice (some ⟨w.heap.size + 3 + 1, 0, none⟩) K K)) := by
    rw [hW]; exact (h.sp.setCell 6 _).setCell 10 _
  rw [← hW]
  have hF3 : ∀ o1 o2 o3, Fr (fun _ => False) W (((W.alloc o1).alloc o2).alloc o3) := fun o1 o2 o3 => (((Fr.refl _ W).alloc o1).alloc o2).alloc o3
  refine ⟨(h.mp.kept hF (by omega)).kept (hF3 _ _ _) id, hsp.kept (hF3 _ _ _) id, (h.it.kept hF (by omega)).kept (hF3 _ _ _) id, ?_, ?_, ?_, fun i hi => by omega, fun i hi => by omega, hFw.trans (hF3 _ _ _)⟩
  · have := ((Blk.new W 62 (rowZ zlocal.toList K)).alloc (.cells (rowZ zcomp.toList K).toArray 64)).alloc (.cells (Array.replicate K (.slice none 0 0)) 50)
    rw [hWs] at this
    rw [rowF_zero]; exact this
  · have := (Blk.new (W.alloc (.cells (rowZ zlocal.toList K).toArray 62)) 64 (rowZ zcomp.toList K)).alloc (.cells (Array.replicate K (.slice none 0 0)) 50)
    rw [World.size_alloc, hWs] at this
    rw [rowF_zero]; exact this
  · have := Blk.new ((W.alloc (.cells (rowZ zlocal.toList K).toArray 62)).alloc (.cells (rowZ zcomp.toList K).toArray 64)) 50 (List.replicate K (.slice none 0 0))
    rw [World.size_alloc, World.size_alloc, hWs] at this
    rw [rowF_zero, rep_rowZ]
    rw [show (List.replicate K (Value.slice none 0 0)).toArray = Array.replicate K (Value.slice none 0 0) from by simp] at this
    exact this
/-- the events so far, in the law; db: the component's copy -/
structure Ex (w : World) (db : List Value) (v : Value) (n : Nat) (l : List Nat) (wr : World) : Prop where
  own : wr.ownsRow (w.heap.size + 1) 54 1 v n (evV l)
  blk : Blk wr w.heap.size 25 db
  fr : Fr (fun _ => False) w wr
section
variable {w wr W w1 : World} {db : List Value} {v v' : Value} {l : List Nat} {x n : Nat}
theorem Ex.len (h : Ex w db v n l wr) : n = l.length := by
  have := h.own.1
  unfold evV at this
  simpa using this.symm
theorem Ex.kept {S : Nat → Prop} (h : Ex w db v n l wr) (hf : Fr S wr W) (hS : ∀ b, S b → w.heap.size < b ∧ v.ownBlock ≠ some b) : Ex w db v n l W :=
  ⟨owns_kept h.own hf (fun j hj hs => (hS j hs).2 hj), h.blk.kept hf (fun hs => by have := (hS _ hs).1; omega), ⟨hf.os.trans h.fr.os, hf.tape.trans h.fr.tape, hf.output.trans h.fr.output, Nat.le_trans h.fr.size hf.size, fun k hk hn => (hf.block k (Nat.lt_of_lt_of_le hk h.fr.size) (fun hs => by have := (hS _ hs).1; omega)).trans (h.fr.block k hk hn)⟩⟩
theorem Ex.grow (h : Ex w db v n l wr) (hf : Fr (fun _ => False) wr W) : Ex w db v n l W := h.kept hf (fun _ h => h.elim)
theorem Ex.own2 (h : Ex w db v n l wr) (o : Obj) : (wr.alloc o).ownsRow (w.heap.size + 1) 54 1 v n (evV l) := owns_kept h.own ((Fr.refl (fun _ => False) wr).alloc o) (fun _ _ => id)
theorem Ex.app {o : Obj} (h : Ex w db v n l wr) (hown : w1.ownsRow (w.heap.size + 1) 54 1 v' (n + 1) (evV l ++ [.int .u32 (x : Int)])) (hg : (wr.alloc o).grownBy w1 v.ownBlock) : Ex w db v' (n + 1) (l ++ [x]) w1 := by
  have hb := owns_base h.own
  refine ⟨by rw [evV_app]; exact hown, ?_, (h.fr.alloc o).grown hg (fun j hj => .inr (by have := hb j hj; omega))⟩
  exact (hg.block _ (h.blk.alloc o).lt (fun e => by have := hb _ e.symm; omega)).trans (h.blk.alloc o)
end
theorem own_full {w : World} {B e g n : Nat} {xs : List Value} (h : w.ownsRow B e 1 (.slice (some ⟨g, 0, none⟩) n n) n xs) : Blk w g e xs := by
  rcases h.2 with ⟨h0, _⟩ | ⟨g', cap', cur, hv, hbg, hg, hnc, hcm, hcs, htake⟩
  · cases h0
  · cases hv
    have : cur.toList = xs := by rw [← htake, List.take_of_length_le (by simp; omega)]
    show w.heap[g]? = _
    rw [hg, ← this]
/-- the numbers of a bag, as the law lays them -/
def bagK (M : Nat) (f : Nat → Nat) (k : Nat) : List Value := (List.range k).map fun i => .int .u32 ((f i % M : Nat) : Int)
theorem bagK_succ (M : Nat) (f : Nat → Nat) (k : Nat) : bagK M f (k + 1) = bagK M f k ++ [.int .u32 ((f k % M : Nat) : Int)] := by unfold bagK; rw [List.range_succ, List.map_append]; rfl
def bagD (M : Nat) (f : Nat → Nat) (n : Nat) : Array Nat := ((List.range n).map fun i => f i % M).toArray
theorem bagK_row (M : Nat) (f : Nat → Nat) (n : Nat) : bagK M f n = rowV (bagD M f n) := by unfold bagK bagD rowV; simp
theorem bagD_size (M : Nat) (f : Nat → Nat) (n : Nat) : (bagD M f n).size = n := by unfold bagD; simp
theorem bagD_lt {M : Nat} (f : Nat → Nat) (n : Nat) (hM : 0 < M) : ∀ i, 0 ≤ i → i < n → (bagD M f n)[i]! < M := fun i _ hi => by
  rw [getElem!_pos _ i (by rw [bagD_size]; exact hi)]
  unfold bagD
  simp
  exact Nat.mod_lt _ hM
theorem make51 (n : Nat) (hn : n ≤ 1024) (w : World) : (Instr.makeSlice 51 (.int .i64 0) (.int .i64 (n : Int))).run Ybaf.prog w = .ok (.slice (some ⟨w.heap.size, 0, none⟩) 0 n) (w.alloc (.cells (List.replicate n (.int .u32 0)).toArray 53)) := by
  obtain ⟨i, hi, hz, hs, hb⟩ := info_parts (P := Ybaf.prog) (e := 53) (z := .int .u32 0) (size := 1) (bytes := 4) (by kernel_rfl)
  have hr := run_make (P := Ybaf.prog) w 51 53 i _ Ybaf.underlying51 hi hz .i64 .i64 0 n (by omega) (by omega) (by rw [hb]; omega) (by omega)
  simp only [Int.toNat_natCast, hs, Nat.mul_one] at hr
  have e : madeCells (Value.int IntKind.u32 0).cells n = (List.replicate n (Value.int .u32 0)).toArray := by
    apply Array.ext
    · simp [madeCells]
    · intro i h1 h2
      simp [madeCells, Nat.mod_one, Value.cells]
  rw [e] at hr
  exact hr
/-- a new bag, with room for n -/
theorem own_new (w : World) (B n : Nat) (hB : B ≤ w.heap.size) (hn : n ≤ 1024) : (w.alloc (.cells (List.replicate n (.int .u32 0)).toArray 53)).ownsRow B 53 1 (.slice (some ⟨w.heap.size, 0, none⟩) 0 n) 0 [] :=
  ⟨by simp, .inr ⟨w.heap.size, n, _, rfl, hB, Blk.new w 53 (List.replicate n (.int .u32 0)), by omega, by unfold maxLen; omega, by simp, by simp⟩⟩
end Go.Proofs.YbulkbrdiFmt
