/-
  b3388aF: the space in memory; (*space).events.
-/
import Derived.Test.YbulkbrdiFmtSort
import Derived.Deep.AppendLies
namespace Go.Proofs.YbulkbrdiFmt
open Go.RowKit
set_option linter.unusedVariables false
set_option linter.unusedSimpArgs false

/-- what is known of an element type, in parts -/
theorem info_parts {P : Program} {e : TypeId} {z : Value} {size bytes : Nat} (h : (P.info? e).map (fun i => (i.zero, i.size, i.bytes)) = some (some z, size, bytes)) :
    ∃ i, P.info? e = some i ∧ i.zero = some z ∧ i.size = size ∧ i.bytes = bytes := by
  obtain ⟨i, hi, hh⟩ := Option.map_eq_some_iff.1 h
  simp only [Prod.mk.injEq] at hh
  exact ⟨i, hi, hh.1, hh.2.1, hh.2.2⟩
theorem owns_nil (w : World) (B e size : Nat) : w.ownsRow B e size (.slice none 0 0) 0 [] := ⟨by simp, .inl ⟨rfl, rfl⟩⟩
theorem owns_base {w : World} {B e size n : Nat} {v : Value} {xs : List Value} (h : w.ownsRow B e size v n xs) : ∀ k, v.ownBlock = some k → B ≤ k := by
  intro k hk
  rcases h.2 with ⟨rfl, _⟩ | ⟨g, cap, cur, rfl, hb, _⟩
  · cases hk
  · simp [Value.ownBlock] at hk; omega
theorem owns_kept {S : Nat → Prop} {w w' : World} {B e size n : Nat} {v : Value} {xs : List Value} (h : w.ownsRow B e size v n xs) (hf : Fr S w w') (hS : ∀ k, v.ownBlock = some k → ¬ S k) : w'.ownsRow B e size v n xs := by
  refine ⟨h.1, ?_⟩
  rcases h.2 with ⟨rfl, h0⟩ | ⟨g, cap, cur, rfl, hb, hg, hr⟩
  · exact .inl ⟨rfl, h0⟩
  · exact .inr ⟨g, cap, cur, rfl, hb, (hf.block g (Array.getElem?_eq_some_iff.1 hg).1 (hS g rfl)).trans hg, hr⟩
theorem owns_cell {w : World} {B e size n : Nat} {v : Value} {xs : List Value} (h : w.ownsRow B e size v n xs) {g c : Nat} (hv : v = .slice (some ⟨g, 0, none⟩) n c) (j : Nat) {u : Value} (hj : xs[j]? = some u) : w.cell? ⟨g, j, none⟩ = some u := by
  have := h.cells (g := g) (by rw [hv]; rfl) j u hj
  rw [Addr.add_lit, Nat.zero_add] at this
  exact this
theorem owns_slice {w : World} {B e size n : Nat} {v : Value} {xs : List Value} (h : w.ownsRow B e size v n xs) : ∃ a c, v = .slice a n c := by
  rcases h.2 with ⟨rfl, rfl⟩ | ⟨g, cap, cur, rfl, _⟩
  · exact ⟨none, 0, rfl⟩
  · exact ⟨_, _, rfl⟩
theorem Blk.ne {w : World} {g g' e e' : Nat} {l l' : List Value} (h : Blk w g e l) (h' : Blk w g' e' l') (he : e ≠ e') : g ≠ g' := by
  intro hg
  subst hg
  have : some (Obj.cells l.toArray e (0, 0)) = some (Obj.cells l'.toArray e' (0, 0)) := h.symm.trans h'
  injection this with this
  injection this with _ h2
  exact he h2
theorem flatS_length (f : Nat → List Value) (s : Nat) (hf : ∀ k, (f k).length = s) : ∀ n, ((List.range n).flatMap f).length = n * s
  | 0 => by simp
  | n + 1 => by rw [List.range_succ, List.flatMap_append, List.length_append, flatS_length f s hf n]; simp [hf]; rw [Nat.add_mul]; omega
theorem flatS_get (f : Nat → List Value) (s : Nat) (hf : ∀ k, (f k).length = s) : ∀ (n k j : Nat), k < n → j < s → ((List.range n).flatMap f)[k * s + j]? = (f k)[j]?
  | 0, k, j, hk, _ => by omega
  | n + 1, k, j, hk, hj => by
    have hl := flatS_length f s hf n
    rw [List.range_succ, List.flatMap_append]
    by_cases h : k < n
    · have : k * s + s ≤ n * s := by rw [← Nat.succ_mul]; exact Nat.mul_le_mul_right _ h
      rw [List.getElem?_append_left (by rw [hl]; omega)]
      exact flatS_get f s hf n k j h hj
    · obtain rfl : k = n := by omega
      rw [List.getElem?_append_right (by rw [hl]; omega), hl, Nat.add_sub_cancel_left]
      simp

/-- the elements of a bag once each, plus one -/
def ddl (d : Array Nat) : Nat → List Nat
  | 0 => []
  | k + 1 => if k = 0 ∨ d[k - 1]! ≠ d[k]! then ddl d k ++ [d[k]! + 1] else ddl d k
theorem ddl_le (d : Array Nat) : ∀ k, (ddl d k).length ≤ k
  | 0 => by simp [ddl]
  | k + 1 => by
    have := ddl_le d k
    unfold ddl
    split
    · simp; omega
    · omega
/-- the events of a component: l entries in its log, n items in its bag -/
def evOf (l : Nat) (d : Array Nat) (n : Nat) : List Nat := (if 0 < l then [0] else []) ++ ddl d n
def evV (l : List Nat) : List Value := l.map fun (z : Nat) => .int .u32 (z : Int)

/-- the space's parts -/
structure Sc where
  K : Nat
  M : Nat
  SP : Nat
  LB : Nat
  CB : Nat
  IB : Nat
  mp : Nat
  tt : Nat → Nat
  la : Nat → Option Addr
  ll : Nat → Nat
  ba : Nat → Option Addr
  bn : Nat → Nat
  dd : Nat → Array Nat
  W : Nat → Nat
/-- a component's cells -/
def Sc.comp (s : Sc) (A : Nat → Bool) (c : Nat) : List Value := [.int .u32 c, .slice (s.ba c) (s.bn c) (s.bn c), .int .u64 ((if A c then s.W c else 0 : Nat) : Int), .int .i32 0, .int .i32 0, .bool (A c)]
/-- the space in memory; A: the components that were asked -/
structure SpOk (s : Sc) (A : Nat → Bool) (w : World) : Prop where
  kM : s.K ≤ 301 ∧ s.M ≤ 300
  lt : s.SP < w.heap.size ∧ s.LB < w.heap.size ∧ s.IB < w.heap.size
  ne : s.SP ≠ s.CB ∧ s.LB ≠ s.CB ∧ s.IB ≠ s.CB
  locals : w.cell? ⟨s.SP, 6, none⟩ = some (.slice (some ⟨s.LB, 0, none⟩) s.K s.K)
  items : w.cell? ⟨s.SP, 8, none⟩ = some (.slice (some ⟨s.IB, 0, none⟩) s.M s.M)
  comps : w.cell? ⟨s.SP, 10, none⟩ = some (.slice (some ⟨s.CB, 0, none⟩) s.K s.K)
  steps : w.cell? ⟨s.SP, 13, none⟩ = some (.map (some s.mp))
  logs : ∀ c, c < s.K → w.cell? ⟨s.LB, c * 4 + 2, none⟩ = some (.slice (s.la c) (s.ll c) (s.ll c))
  tos : ∀ k, k < s.M → w.cell? ⟨s.IB, k * 9, none⟩ = some (.int .i64 (s.tt k)) ∧ s.tt k < 64
  cells : Blk w s.CB 64 ((List.range s.K).flatMap (s.comp A))
  bags : ∀ c, c < s.K → s.bn c ≤ 1024 ∧ (0 < s.bn c → ∃ g, s.ba c = some ⟨g, 0, none⟩ ∧ Blk w g 53 (rowV (s.dd c)) ∧ (s.dd c).size = s.bn c ∧ ∀ i, i < s.bn c → (s.dd c)[i]! < 300)
theorem SpOk.cell {s : Sc} {A : Nat → Bool} {w : World} (h : SpOk s A w) {c : Nat} (hc : c < s.K) (j : Nat) (hj : j < 6) : w.cell? ⟨s.CB, c * 6 + j, none⟩ = (s.comp A c)[j]? := by
  rw [h.cells.cell]; exact flatS_get _ 6 (fun _ => rfl) s.K c j hc hj
theorem cell_kept {S : Nat → Prop} {w wr : World} {b o : Nat} {v : Value} (hb : b < w.heap.size) (hf : Fr S w wr) (hn : ¬ S b) (h : w.cell? ⟨b, o, none⟩ = some v) : wr.cell? ⟨b, o, none⟩ = some v :=
  (World.cell?_of_block (hf.block b hb hn)).trans h
theorem SpOk.set {s : Sc} {A A' : Nat → Bool} {w w' : World} (h : SpOk s A w) (hf : Fr (· = s.CB) w w') (hc : Blk w' s.CB 64 ((List.range s.K).flatMap (s.comp A'))) : SpOk s A' w' := by
  obtain ⟨l1, l2, l3⟩ := h.lt
  obtain ⟨n1, n2, n3⟩ := h.ne
  refine ⟨h.kM, ⟨Nat.lt_of_lt_of_le l1 hf.size, Nat.lt_of_lt_of_le l2 hf.size, Nat.lt_of_lt_of_le l3 hf.size⟩, h.ne, cell_kept l1 hf n1 h.locals, cell_kept l1 hf n1 h.items, cell_kept l1 hf n1 h.comps, cell_kept l1 hf n1 h.steps,
    fun c hc => cell_kept l2 hf n2 (h.logs c hc), fun k hk => ⟨cell_kept l3 hf n3 (h.tos k hk).1, (h.tos k hk).2⟩, hc, fun c hc => ⟨(h.bags c hc).1, fun h0 => ?_⟩⟩
  obtain ⟨g, h1, h2, h3⟩ := (h.bags c hc).2 h0
  exact ⟨g, h1, h2.kept hf (h2.ne h.cells (by decide)), h3⟩
theorem SpOk.kept {s : Sc} {A : Nat → Bool} {w w' : World} (h : SpOk s A w) (hf : Fr (fun _ => False) w w') : SpOk s A w' :=
  h.set (hf.mono fun _ _ h => h.elim) (h.cells.kept hf id)

theorem owns_weaken {w : World} {B B' e size n : Nat} {v : Value} {xs : List Value} (h : w.ownsRow B e size v n xs) (hB : B' ≤ B) : w.ownsRow B' e size v n xs := by
  refine ⟨h.1, ?_⟩
  rcases h.2 with h0 | ⟨g, cap, cur, h1, h2, h3⟩
  · exact .inl h0
  · exact .inr ⟨g, cap, cur, h1, Nat.le_trans hB h2, h3⟩
theorem evV_app (l : List Nat) (x : Nat) : evV (l ++ [x]) = evV l ++ [.int .u32 (x : Int)] := by unfold evV; simp
/-- the events so far -/
structure Ew (w : World) (g0 : List Value) (v : Value) (n : Nat) (l : List Nat) (wr : World) : Prop where
  own : wr.ownsRow (w.heap.size + 1) 54 1 v n (evV l)
  blk : Blk wr w.heap.size 64 g0
  fr : Fr (fun _ => False) w wr
section
variable {w wr W w1 : World} {g0 : List Value} {v v' : Value} {l : List Nat} {x n : Nat}
theorem Ew.len (h : Ew w g0 v n l wr) : n = l.length := by
  have := h.own.1
  unfold evV at this
  simpa using this.symm
theorem Ew.drewN (h : Ew w g0 v n l wr) (q : Nat) : Ew w g0 v n l (wr.drewN q) := ⟨h.own, h.blk, h.fr.drewN q⟩
theorem Ew.own2 (h : Ew w g0 v n l wr) (o : Obj) : (wr.alloc o).ownsRow (w.heap.size + 1) 54 1 v n (evV l) := owns_kept h.own ((Fr.refl (fun _ => False) wr).alloc o) (fun _ _ => id)
theorem Ew.app {o : Obj} (h : Ew w g0 v n l wr) (hown : w1.ownsRow (w.heap.size + 1) 54 1 v' (n + 1) (evV l ++ [.int .u32 (x : Int)])) (hg : (wr.alloc o).grownBy w1 v.ownBlock) : Ew w g0 v' (n + 1) (l ++ [x]) w1 := by
  have hb := owns_base h.own
  refine ⟨by rw [evV_app]; exact hown, ?_, (h.fr.alloc o).grown hg (fun j hj => .inr (by have := hb j hj; omega))⟩
  exact (hg.block _ (h.blk.alloc o).lt (fun e => by have := hb _ e.symm; omega)).trans (h.blk.alloc o)
end

set_option maxHeartbeats 1000000 in
set_option maxRecDepth 100000 in
theorem events_zero (s : Sc) (A : Nat → Bool) (c : Nat) (w : World) (h : SpOk s A w) (hc : c < s.K) (hbn0 : s.bn c = 0) :
    Calls Ybaf.prog 13 #[.pointer (some ⟨s.SP, 0, none⟩), .int .u32 c] w fun e w' => ∃ v, e = .returned v ∧ w'.ownsRow w.heap.size 54 1 v (evOf (s.ll c) (s.dd c) (s.bn c)).length (evV (evOf (s.ll c) (s.dd c) (s.bn c))) ∧ Fr (fun _ => False) w w' := by
  obtain ⟨kK, kM⟩ := h.kM
  have c10 := h.comps
  have c6 := h.locals
  have b0 : w.cell? ⟨s.CB, c * 6, none⟩ = some (.int .u32 c) := h.cell hc 0 (by omega)
  have b1 : w.cell? ⟨s.CB, c * 6 + 1, none⟩ = some (.slice (s.ba c) (s.bn c) (s.bn c)) := h.cell hc 1 (by omega)
  have b2 : w.cell? ⟨s.CB, c * 6 + 2, none⟩ = some (.int .u64 ((if A c then s.W c else 0 : Nat) : Int)) := h.cell hc 2 (by omega)
  have b3 : w.cell? ⟨s.CB, c * 6 + 3, none⟩ = some (.int .i32 0) := h.cell hc 3 (by omega)
  have b4 : w.cell? ⟨s.CB, c * 6 + 4, none⟩ = some (.int .i32 0) := h.cell hc 4 (by omega)
  have b5 : w.cell? ⟨s.CB, c * 6 + 5, none⟩ = some (.bool (A c)) := h.cell hc 5 (by omega)
  have l2 := h.logs c hc
  have hl := h.lt
  have hcl := h.cells.lt
  have z1 : (c : Int) < (s.K : Int) := by omega
  have hbn := (h.bags c hc).1
  have HZ := hide hbn0
  rw [hbn0] at b1
  clear hbn0
  obtain ⟨q, hq⟩ : ∃ q : Nat, q = (if A c then s.W c else 0) := ⟨_, rfl⟩
  rw [← hq] at b2
  clear h hq
  obtain ⟨i54, hi54, hz54, hs54, hb54⟩ := info_parts (P := Ybaf.prog) (e := 54) (z := .int .u32 0) (size := 1) (bytes := 4) (by kernel_rfl)
  obtain ⟨hl1, hl2, hl3⟩ := hl
  obtain ⟨pre, hpre⟩ : ∃ pre : List Nat, pre = (if 0 < s.ll c then [0] else []) := ⟨_, rfl⟩
  obtain ⟨g0, hg0⟩ : ∃ g0 : List Value, g0 = [.int .u32 c, .slice (s.ba c) 0 0, .int .u64 (q : Int), .int .i32 0, .int .i32 0, .bool (A c)] := ⟨_, rfl⟩
  have HP := hide hpre
  have HG := hide hg0
  have H0 : Hid (Ew w g0 (.slice none 0 0) 0 [] (w.alloc (.cells #[.int .u32 c, .slice (s.ba c) 0 0, .int .u64 (q : Int), .int .i32 0, .int .i32 0, .bool (A c)] 64))) :=
    ⟨owns_nil _ _ _ _, by rw [hg0]; exact Blk.new w 64 [.int .u32 c, .slice (s.ba c) 0 0, .int .u64 (q : Int), .int .i32 0, .int .i32 0, .bool (A c)], (Fr.refl _ w).alloc _⟩
  have hpl : pre.length ≤ 1 := by rw [hpre]; split <;> simp
  clear hpre hg0
  go_enter Ybaf.func13, Ybaf.ntmps13
  go_wp2_with fail
  go_quiet (fail)
  clear b0 b1 b2 b3 b4 b5 l2 c10 c6
  go_upto_if 26 with fail
  go_cut [6] (fun s6 wd => Hid (∃ n, Ew w g0 s6 n pre wd))
  case first =>
    by_cases hll : 0 < s.ll c
    · have d1 : decide (0 < s.ll c) = true := by simp; exact hll
      rw [d1]
      have HPe : Hid (pre = [0]) := by show pre = [0]; rw [unhide HP, if_pos hll]
      have hnews := hide (World.news_of_block (Blk.new ((w.alloc (.cells #[.int .u32 c, .slice (s.ba c) 0 0, .int .u64 (q : Int), .int .i32 0, .int .i32 0, .bool (A c)] 64)).drewN nq) 54 [.int .u32 0]))
      have how := hide (((unhide H0).drewN nq).own2 (.cells #[.int .u32 0] 54))
      clear d1 hll
      go_wp2_with (at_builtin; refine wpList_append_own_at _ (by rfl) _ _ _ (by rfl) (w.heap.size + 1) 54 i54 (.int .u32 0) 1 4 Ybaf.underlying50 hi54 hz54 hs54 hb54 rfl (by omega) _ 0 [] (by rfl) how.out ⟨w.heap.size + 1, 0, none⟩ 1 1 [.int .u32 0] (by rfl) (by rfl) (by have := hnews.out; simpa using this) (by simp [Value.oneCell']) (by unfold maxLen; omega) (by omega) (by simp) ?_; intro v' w1 hown1 hgrow hnil hat; obtain ⟨a', c', rfl⟩ := owns_slice hown1; have Hn := hide (((unhide H0).drewN nq).app (x := 0) hown1 hgrow); clear hown1 hgrow hnil hat)
      go_meet
      case rel => have := unhide Hn; rw [unhide HPe]; exact ⟨_, this⟩
    · have d1 : decide (0 < s.ll c) = false := by simp; omega
      rw [d1]
      have HPe : Hid (pre = []) := by show pre = []; rw [unhide HP, if_neg hll]
      clear d1 hll
      go_wp2_with fail
      go_meet
      case rel => rw [unhide HPe]; exact ⟨_, (unhide H0).drewN _⟩
  case rest =>
    clear H0
    rename World => w0
    obtain ⟨n0, hcut⟩ := unhide hcut
    have hn0 := hcut.len
    have hcut := hide hcut
    have k1 : w0.cell? ⟨w.heap.size, 1, none⟩ = some (.slice (s.ba c) 0 0) := by rw [(unhide hcut).blk.cell, unhide HG]; rfl
    have hw0 := (unhide hcut).blk.lt
    have hw1 : w.heap.size ≤ w0.heap.size := Nat.le_of_lt hw0
    obtain ⟨a0, c0, hs6⟩ := owns_slice (unhide hcut).own
    subst hs6
    have HE : Hid (w0.ownsRow w.heap.size 54 1 (.slice a0 n0 c0) (evOf (s.ll c) (s.dd c) (s.bn c)).length (evV (evOf (s.ll c) (s.dd c) (s.bn c))) ∧ Fr (fun _ => False) w w0) := by
      have e : evOf (s.ll c) (s.dd c) (s.bn c) = pre := by unfold evOf; rw [unhide HZ, unhide HP]; simp [ddl]
      rw [e, ← hn0]; exact ⟨owns_weaken (unhide hcut).own (by omega), (unhide hcut).fr⟩
    clear hcut hn0
    go_wp2_with fail
    refine wp_loop_rounds 1 ?_
    rw [rounds_succ]
    go_wp2_with fail
    go_ret
    exact ⟨_, rfl, HE.out⟩

set_option maxHeartbeats 1000000 in
set_option maxRecDepth 100000 in
theorem events_pos (s : Sc) (A : Nat → Bool) (c : Nat) (w : World) (h : SpOk s A w) (hc : c < s.K) (hbn0 : 0 < s.bn c) :
    Calls Ybaf.prog 13 #[.pointer (some ⟨s.SP, 0, none⟩), .int .u32 c] w fun e w' => ∃ v, e = .returned v ∧ w'.ownsRow w.heap.size 54 1 v (evOf (s.ll c) (s.dd c) (s.bn c)).length (evV (evOf (s.ll c) (s.dd c) (s.bn c))) ∧ Fr (fun _ => False) w w' := by
  obtain ⟨kK, kM⟩ := h.kM
  have c10 := h.comps
  have c6 := h.locals
  have b0 : w.cell? ⟨s.CB, c * 6, none⟩ = some (.int .u32 c) := h.cell hc 0 (by omega)
  have b1 : w.cell? ⟨s.CB, c * 6 + 1, none⟩ = some (.slice (s.ba c) (s.bn c) (s.bn c)) := h.cell hc 1 (by omega)
  have b2 : w.cell? ⟨s.CB, c * 6 + 2, none⟩ = some (.int .u64 ((if A c then s.W c else 0 : Nat) : Int)) := h.cell hc 2 (by omega)
  have b3 : w.cell? ⟨s.CB, c * 6 + 3, none⟩ = some (.int .i32 0) := h.cell hc 3 (by omega)
  have b4 : w.cell? ⟨s.CB, c * 6 + 4, none⟩ = some (.int .i32 0) := h.cell hc 4 (by omega)
  have b5 : w.cell? ⟨s.CB, c * 6 + 5, none⟩ = some (.bool (A c)) := h.cell hc 5 (by omega)
  have l2 := h.logs c hc
  have hl := h.lt
  have hcl := h.cells.lt
  have z1 : (c : Int) < (s.K : Int) := by omega
  have hbn := (h.bags c hc).1
  obtain ⟨g, hba, hbg, hbs, hbv⟩ := (h.bags c hc).2 hbn0
  rw [hba] at b1
  have HBG := hide hbg
  have HBS := hide hbs
  have HBV := hide hbv
  have hgl := hbg.lt
  clear hba hbg hbs hbv
  obtain ⟨q, hq⟩ : ∃ q : Nat, q = (if A c then s.W c else 0) := ⟨_, rfl⟩
  rw [← hq] at b2
  clear h hq
  obtain ⟨i54, hi54, hz54, hs54, hb54⟩ := info_parts (P := Ybaf.prog) (e := 54) (z := .int .u32 0) (size := 1) (bytes := 4) (by kernel_rfl)
  obtain ⟨hl1, hl2, hl3⟩ := hl
  obtain ⟨pre, hpre⟩ : ∃ pre : List Nat, pre = (if 0 < s.ll c then [0] else []) := ⟨_, rfl⟩
  obtain ⟨g0, hg0⟩ : ∃ g0 : List Value, g0 = [.int .u32 c, .slice (some ⟨g, 0, none⟩) (s.bn c) (s.bn c), .int .u64 (q : Int), .int .i32 0, .int .i32 0, .bool (A c)] := ⟨_, rfl⟩
  have HP := hide hpre
  have HG := hide hg0
  have H0 : Hid (Ew w g0 (.slice none 0 0) 0 [] (w.alloc (.cells #[.int .u32 c, .slice (some ⟨g, 0, none⟩) (s.bn c) (s.bn c), .int .u64 (q : Int), .int .i32 0, .int .i32 0, .bool (A c)] 64))) :=
    ⟨owns_nil _ _ _ _, by rw [hg0]; exact Blk.new w 64 [.int .u32 c, .slice (some ⟨g, 0, none⟩) (s.bn c) (s.bn c), .int .u64 (q : Int), .int .i32 0, .int .i32 0, .bool (A c)], (Fr.refl _ w).alloc _⟩
  have hpl : pre.length ≤ 1 := by rw [hpre]; split <;> simp
  clear hpre hg0
  go_enter Ybaf.func13, Ybaf.ntmps13
  go_wp2_with fail
  go_quiet (fail)
  clear b0 b1 b2 b3 b4 b5 l2 c10 c6
  go_upto_if 26 with fail
  go_cut [6] (fun s6 wd => Hid (∃ n, Ew w g0 s6 n pre wd))
  case first =>
    by_cases hll : 0 < s.ll c
    · have d1 : decide (0 < s.ll c) = true := by simp; exact hll
      rw [d1]
      have HPe : Hid (pre = [0]) := by show pre = [0]; rw [unhide HP, if_pos hll]
      have hnews := hide (World.news_of_block (Blk.new ((w.alloc (.cells #[.int .u32 c, .slice (some ⟨g, 0, none⟩) (s.bn c) (s.bn c), .int .u64 (q : Int), .int .i32 0, .int .i32 0, .bool (A c)] 64)).drewN nq) 54 [.int .u32 0]))
      have how := hide (((unhide H0).drewN nq).own2 (.cells #[.int .u32 0] 54))
      clear d1 hll
      go_wp2_with (at_builtin; refine wpList_append_own_at _ (by rfl) _ _ _ (by rfl) (w.heap.size + 1) 54 i54 (.int .u32 0) 1 4 Ybaf.underlying50 hi54 hz54 hs54 hb54 rfl (by omega) _ 0 [] (by rfl) how.out ⟨w.heap.size + 1, 0, none⟩ 1 1 [.int .u32 0] (by rfl) (by rfl) (by have := hnews.out; simpa using this) (by simp [Value.oneCell']) (by unfold maxLen; omega) (by omega) (by simp) ?_; intro v' w1 hown1 hgrow hnil hat; obtain ⟨a', c', rfl⟩ := owns_slice hown1; have Hn := hide (((unhide H0).drewN nq).app (x := 0) hown1 hgrow); clear hown1 hgrow hnil hat)
      go_meet
      case rel => have := unhide Hn; rw [unhide HPe]; exact ⟨_, this⟩
    · have d1 : decide (0 < s.ll c) = false := by simp; omega
      rw [d1]
      have HPe : Hid (pre = []) := by show pre = []; rw [unhide HP, if_neg hll]
      clear d1 hll
      go_wp2_with fail
      go_meet
      case rel => rw [unhide HPe]; exact ⟨_, (unhide H0).drewN _⟩
  case rest =>
    clear H0
    rename World => w0
    obtain ⟨n0, hcut⟩ := unhide hcut
    have hn0 := hcut.len
    have hcut := hide hcut
    have k1 : w0.cell? ⟨w.heap.size, 1, none⟩ = some (.slice (some ⟨g, 0, none⟩) (s.bn c) (s.bn c)) := by rw [(unhide hcut).blk.cell, unhide HG]; rfl
    have hw0 := (unhide hcut).blk.lt
    have hw1 : w.heap.size ≤ w0.heap.size := Nat.le_of_lt hw0
    obtain ⟨a0, c0, hs6⟩ := owns_slice (unhide hcut).own
    subst hs6
    clear hn0
    go_wp2_with fail
    go_loopw [33, 6] (fun s33 s6 wr => ∃ (k n : Nat) (v : Value), s33 = .int .i64 k ∧ s6 = v ∧ k ≤ s.bn c ∧ Hid (Ew w g0 v n (pre ++ ddl (s.dd c) k) wr)) (fun s33 _ _ => s.bn c - (intOf s33).toNat)
    case atStart => exact ⟨0, n0, _, rfl, rfl, by omega, by simpa [ddl] using hcut⟩
    case round =>
      clear hcut k1 hw0 hw1
      obtain ⟨k, n, v, rfl, rfl, hk, hst⟩ := hrel
      obtain ⟨a1, c1, hv⟩ := owns_slice (unhide hst).own
      subst hv
      have k1 : wr.cell? ⟨w.heap.size, 1, none⟩ = some (.slice (some ⟨g, 0, none⟩) (s.bn c) (s.bn c)) := by rw [(unhide hst).blk.cell, unhide HG]; rfl
      have hw0 := (unhide hst).blk.lt
      by_cases hkn : k < s.bn c
      · have hrow := (unhide HBG).kept (unhide hst).fr id
        obtain ⟨x, hx⟩ : ∃ x, x = (s.dd c)[k]! := ⟨_, rfl⟩
        have hx3 : x < 300 := by rw [hx]; exact unhide HBV k hkn
        have x0 : wr.cell? ⟨g, k, none⟩ = some (.int .u32 (x : Int)) := by rw [hx]; exact hrow.get (by rw [unhide HBS]; exact hkn)
        have z2 : (k : Int) < (s.bn c : Int) := by omega
        obtain ⟨x1, hx1⟩ : ∃ x1, x1 = x + 1 := ⟨_, rfl⟩
        have e1 : (x : Int) + 1 = (x1 : Int) := by omega
        have hll : n ≤ 1025 := by have := ddl_le (s.dd c) k; have := (unhide hst).len; simp at this; omega
        obtain ⟨L, hL⟩ : ∃ L, L = pre ++ ddl (s.dd c) k := ⟨_, rfl⟩
        rw [← hL] at hst
        have hgr : g < wr.heap.size := hrow.lt
        have hgne : g ≠ wr.heap.size := by omega
        have hnews := hide (World.news_of_block (Blk.new wr 54 [.int .u32 (x1 : Int)]))
        have how := hide ((unhide hst).own2 (.cells #[.int .u32 (x1 : Int)] 54))
        by_cases hk0 : k = 0
        · subst hk0
          have HD : Hid (pre ++ ddl (s.dd c) (0 + 1) = L ++ [x1]) := by
            show _ = _
            rw [hL, hx1, hx]; simp [ddl]
          clear hrow hx hx1 hL
          go_wp2_with (at_builtin; refine wpList_append_own_at _ (by rfl) _ _ _ (by rfl) (w.heap.size + 1) 54 i54 (.int .u32 0) 1 4 Ybaf.underlying50 hi54 hz54 hs54 hb54 rfl (by omega) _ n (evV L) (by rfl) how.out ⟨wr.heap.size, 0, none⟩ 1 1 [.int .u32 (x1 : Int)] (by rfl) (by rfl) hnews.out (by simp [Value.oneCell']) (by unfold maxLen; omega) (by omega) (by simp; omega) ?_; intro v' w1 hown1 hgrow hnil hat; obtain ⟨a', c', rfl⟩ := owns_slice hown1; have Hn := hide ((unhide hst).app (x := x1) hown1 hgrow); clear hown1 hgrow hnil hat)
          go_roundw
          case rel => exact ⟨0 + 1, n + 1, _, by go_num, rfl, by omega, by rw [unhide HD]; exact Hn⟩
          case measure => (try simp [intOf]) <;> (try omega)
        · obtain ⟨r, hr⟩ : ∃ r, r = k - 1 := ⟨_, rfl⟩
          have er : (k : Int) - 1 = (r : Int) := by omega
          obtain ⟨y, hy⟩ : ∃ y, y = (s.dd c)[r]! := ⟨_, rfl⟩
          have y0 : wr.cell? ⟨g, r, none⟩ = some (.int .u32 (y : Int)) := by rw [hy]; exact hrow.get (by rw [unhide HBS]; omega)
          have dk : ((k : Int) == 0) = false := by simp; omega
          have z3 : (r : Int) < (s.bn c : Int) := by omega
          by_cases hxy : y = x
          · have HD : Hid (pre ++ ddl (s.dd c) (k + 1) = L) := by
              show _ = _
              rw [hL, ddl, if_neg (by rw [← hr, ← hy, ← hx]; omega)]
            have dxy : ((y : Int) != (x : Int)) = false := by simp [hxy]
            clear hrow hx hx1 hr hy hxy hL
            go_wp2_with fail
            go_roundw
            case rel => exact ⟨k + 1, n, _, by go_num, rfl, by omega, by rw [unhide HD]; exact hst⟩
            case measure => (try simp [intOf]) <;> (try omega)
          · have HD : Hid (pre ++ ddl (s.dd c) (k + 1) = L ++ [x1]) := by
              show _ = _
              rw [hL, ddl, if_pos (by rw [← hr, ← hy, ← hx]; exact .inr hxy), hx1, hx]; simp
            have dxy : ((y : Int) != (x : Int)) = true := by simp; omega
            clear hrow hx hx1 hr hy hL
            go_wp2_with (at_builtin; refine wpList_append_own_at _ (by rfl) _ _ _ (by rfl) (w.heap.size + 1) 54 i54 (.int .u32 0) 1 4 Ybaf.underlying50 hi54 hz54 hs54 hb54 rfl (by omega) _ n (evV L) (by rfl) how.out ⟨wr.heap.size, 0, none⟩ 1 1 [.int .u32 (x1 : Int)] (by rfl) (by rfl) hnews.out (by simp [Value.oneCell']) (by unfold maxLen; omega) (by omega) (by simp; omega) ?_; intro v' w1 hown1 hgrow hnil hat; obtain ⟨a', c', rfl⟩ := owns_slice hown1; have Hn := hide ((unhide hst).app (x := x1) hown1 hgrow); clear hown1 hgrow hnil hat)
            go_roundw
            case rel => exact ⟨k + 1, n + 1, _, by go_num, rfl, by omega, by rw [unhide HD]; exact Hn⟩
            case measure => (try simp [intOf]) <;> (try omega)
      · obtain rfl : k = s.bn c := by omega
        have HE : Hid (wr.ownsRow w.heap.size 54 1 (.slice a1 n c1) (evOf (s.ll c) (s.dd c) (s.bn c)).length (evV (evOf (s.ll c) (s.dd c) (s.bn c))) ∧ Fr (fun _ => False) w wr) := by
          have e : evOf (s.ll c) (s.dd c) (s.bn c) = pre ++ ddl (s.dd c) (s.bn c) := by unfold evOf; rw [unhide HP]
          rw [e, ← (unhide hst).len]; exact ⟨owns_weaken (unhide hst).own (by omega), (unhide hst).fr⟩
        clear hst
        go_wp2_with fail
        go_ret
        exact ⟨_, rfl, HE.out⟩

theorem events_any (s : Sc) (A : Nat → Bool) (c : Nat) (w : World) (h : SpOk s A w) (hc : c < s.K) :
    Calls Ybaf.prog 13 #[.pointer (some ⟨s.SP, 0, none⟩), .int .u32 c] w fun e w' => ∃ v, e = .returned v ∧ w'.ownsRow w.heap.size 54 1 v (evOf (s.ll c) (s.dd c) (s.bn c)).length (evV (evOf (s.ll c) (s.dd c) (s.bn c))) ∧ Fr (fun _ => False) w w' := by
  by_cases hb : s.bn c = 0
  · exact events_zero s A c w h hc hb
  · exact events_pos s A c w h hc (by omega)
end Go.Proofs.YbulkbrdiFmt
