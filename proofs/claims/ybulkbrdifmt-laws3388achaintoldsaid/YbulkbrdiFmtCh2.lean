/-
  b3388aF: the steps that LawS3388AChain lays.
-/
import Derived.Test.YbulkbrdiFmtCh1
namespace Go.Proofs.YbulkbrdiFmt
open Go.RowKit
set_option linter.unusedVariables false
set_option linter.unusedSimpArgs false

theorem ddl_sorted {d : Array Nat} {n : Nat} (hs : Sort.SortedIn ltN 0 n d) : ∀ k, k ≤ n → (ddl d k).Pairwise (· < ·) ∧ ∀ x ∈ ddl d k, 1 ≤ x ∧ 0 < k ∧ x ≤ d[k - 1]! + 1
  | 0, _ => ⟨List.Pairwise.nil, fun x hx => by simp [ddl] at hx⟩
  | k + 1, hk => by
    obtain ⟨ih1, ih2⟩ := ddl_sorted hs k (by omega)
    unfold ddl
    by_cases h0 : k = 0
    · subst h0
      rw [if_pos (.inl rfl)]
      simp [ddl]
    · have hle : d[k - 1]! ≤ d[k]! := by
        have := hs (k - 1) k (by omega) (by omega) (by omega)
        unfold ltN at this
        simpa using this
      by_cases hne : d[k - 1]! = d[k]!
      · rw [if_neg (by omega)]
        refine ⟨ih1, fun x hx => ?_⟩
        obtain ⟨h1, _, h3⟩ := ih2 x hx
        refine ⟨h1, by omega, ?_⟩
        rw [Nat.add_sub_cancel]; omega
      · rw [if_pos (.inr hne)]
        constructor
        · rw [List.pairwise_append]
          refine ⟨ih1, by simp, fun x hx y hy => ?_⟩
          simp at hy
          have := (ih2 x hx).2.2
          omega
        · intro x hx
          rw [List.mem_append] at hx
          rw [Nat.add_sub_cancel]
          rcases hx with hx | hx
          · obtain ⟨h1, _, h3⟩ := ih2 x hx
            exact ⟨h1, by omega, by omega⟩
          · simp at hx; omega
/-- the events of a component are apart, and small -/
theorem E_ok {B : Nat} {w : World} {x : Ci} (h : CiOk B w x) : x.E.Nodup ∧ ∀ ev ∈ x.E, ev ≤ 300 := by
  have key : (ddl x.dd x.bn).Pairwise (· < ·) ∧ ∀ ev ∈ ddl x.dd x.bn, 1 ≤ ev ∧ ev ≤ 300 := by
    by_cases h0 : x.bn = 0
    · rw [h0]; simp [ddl]
    · obtain ⟨g, _, _, _, _, hb, hs⟩ := h.bag.2 (by omega)
      obtain ⟨h1, h2⟩ := ddl_sorted hs x.bn (Nat.le_refl _)
      refine ⟨h1, fun ev hev => ?_⟩
      obtain ⟨h3, h4, h5⟩ := h2 ev hev
      have := hb (x.bn - 1) (by omega)
      omega
  have hnd : (ddl x.dd x.bn).Nodup := key.1.imp fun h => by omega
  unfold Ci.E evOf
  split
  · constructor
    · rw [List.singleton_append, List.nodup_cons]
      exact ⟨fun hm => by have := (key.2 0 hm).1; omega, hnd⟩
    · intro ev hev
      simp at hev
      rcases hev with rfl | hev
      · omega
      · exact (key.2 ev hev).2
  · simp only [List.nil_append]
    exact ⟨hnd, fun ev hev => (key.2 ev hev).2⟩

theorem wTo_congr {W W' tt : Nat → Nat} {nx sn sk : Nat → Nat → Nat} {c : Nat} : ∀ e, (∀ i, i < e → W' (nx c i) = W (nx c i)) → wTo W' tt nx sn sk c e = wTo W tt nx sn sk c e
  | 0, _ => rfl
  | e + 1, h => by
    show (wTo W' tt nx sn sk c e ||| _) ||| W' (nx c e) = (wTo W tt nx sn sk c e ||| _) ||| W (nx c e)
    rw [wTo_congr e (fun i hi => h i (by omega)), h e (by omega)]

/-- the law's numbers -/
structure Lw where
  N : Nat
  M : Nat
  jp : Nat → Nat
  sd : Nat → Nat
  ss : Nat → Bool
  tov : Nat → Nat
def Lw.nx (q : Lw) (c e : Nat) : Nat := c + 1 + (q.jp c + e) % (q.N - c)
def Lw.sn (q : Lw) (c e : Nat) : Nat := if q.ss c = true ∧ 0 < q.M then 1 else 0
def Lw.sk (q : Lw) (c e : Nat) : Nat := (q.sd c + e) % q.M
def Lw.tt (q : Lw) (k : Nat) : Nat := q.tov k % 64
def Lw.w (q : Lw) (W : Nat → Nat) (c e : Nat) : Nat := wTo W q.tt q.nx q.sn q.sk c e
theorem Lw.nx_lt (q : Lw) {c e : Nat} (hc : c < q.N) : c < q.nx c e ∧ q.nx c e ≤ q.N := by
  unfold Lw.nx
  have := Nat.mod_lt (q.jp c + e) (show 0 < q.N - c by omega)
  omega
theorem Lw.w_lt (q : Lw) {W : Nat → Nat} (hW : ∀ c, W c < 18446744073709551616) (c : Nat) : ∀ e, q.w W c e < 18446744073709551616
  | 0 => by show 0 < _; omega
  | e + 1 => by
    have h1 := q.w_lt hW c e
    have h2 : (if q.sn c e = 1 then 2 ^ q.tt (q.sk c e) else 0) < 18446744073709551616 := by
      split
      · exact pow_nat (Nat.mod_lt _ (by omega))
      · omega
    have h3 := (or_nat _ _ h1 h2).2
    exact (or_nat _ _ h3 (hW (q.nx c e))).2

/-- behind component k, and e events of component k - 1 -/
structure Gs (q : Lw) (w : World) (F : Nat → Ci) (WB k e : Nat) (W : Nat → Nat) (l : List (Nat × Value)) (sa : Nat → Nat → Option Addr) (wr : World) : Prop where
  g3 : ∃ wz, G3 w (q.N + 1) q.M q.tov F (q.N + 1) wz ∧ wz.heap.size ≤ WB ∧ Fr (· = w.heap.size) wz wr
  map : MapAt wr w.heap.size l
  want : Blk wr WB 43 ((List.range (q.N + 1)).map fun i => .int .u64 ((if k ≤ i then W i else 0 : Nat) : Int))
  lt : w.heap.size + 6 ≤ WB
  st : ∀ c i ev, (k ≤ c ∨ c + 1 = k ∧ i < e) → c < q.N + 1 → (F c).E[i]? = some ev → look l (key c ev) = some (.agg #[.int .u32 (q.nx c i : Nat), .slice (sa c i) (q.sn c i) (q.sn c i), .slice none 0 0]) ∧
    (q.sn c i = 1 → ∃ g, w.heap.size + 6 ≤ g ∧ sa c i = some ⟨g, 0, none⟩ ∧ Blk wr g 53 [.int .u32 (q.sk c i : Nat)])
  dom : ∀ c ev, ev ≤ 300 → (c + 1 < k ∨ c + 1 = k ∧ ∀ i, i < e → (F c).E[i]? ≠ some ev) → look l (key c ev) = none
  Wok : ∀ c, k ≤ c → c < q.N + 1 → W c = q.w W c (F c).E.length
  Wlt : ∀ c, W c < 18446744073709551616
section
variable {q : Lw} {w wr wr' : World} {F : Nat → Ci} {WB k e : Nat} {W : Nat → Nat} {l : List (Nat × Value)} {sa : Nat → Nat → Option Addr}
theorem Gs.kept (h : Gs q w F WB k e W l sa wr) (hf : Fr (fun _ => False) wr wr') : Gs q w F WB k e W l sa wr' := by
  obtain ⟨wz, h1, h0, h2⟩ := h.g3
  refine ⟨⟨wz, h1, h0, h2.trans (hf.mono fun _ _ h => h.elim)⟩, h.map.kept hf id, h.want.kept hf id, h.lt, fun c i ev h3 h4 h5 => ?_, h.dom, h.Wok, h.Wlt⟩
  obtain ⟨h6, h7⟩ := h.st c i ev h3 h4 h5
  refine ⟨h6, fun hs => ?_⟩
  obtain ⟨g, h8, h9, h10⟩ := h7 hs
  exact ⟨g, h8, h9, h10.kept hf id⟩
/-- what lies there beside the steps -/
structure Ga (w : World) (K M : Nat) (tov : Nat → Nat) (F : Nat → Ci) (wr : World) : Prop where
  sp : Blk wr (w.heap.size + 1) 42 (spL w.heap.size (.slice (some ⟨w.heap.size + 3, 0, none⟩) K K) (.slice (some ⟨w.heap.size + 1 + 1, 0, none⟩) M M) (.slice (some ⟨w.heap.size + 3 + 1, 0, none⟩) K K))
  it : Blk wr (w.heap.size + 1 + 1) 48 (rowF zitem.toList (itm tov) M M)
  lo : Blk wr (w.heap.size + 3) 62 (rowF zlocal.toList (fun i => lcl (F i)) K K)
  co : Blk wr (w.heap.size + 3 + 1) 64 (rowF zcomp.toList (fun i => cmp i (F i)) K K)
  eb : Blk wr (w.heap.size + 3 + 1 + 1) 50 (rowF [.slice none 0 0] (fun i => [(F i).ev]) K K)
  ci : ∀ i, i < K → CiOk (w.heap.size + 6) wr (F i)
  nil : ∀ i, i < K → K ≤ i + 1 → (F i).E = []
  fr : Fr (fun _ => False) w wr
theorem Gs.acc (h : Gs q w F WB k e W l sa wr) : Ga w (q.N + 1) q.M q.tov F wr := by
  obtain ⟨wz, h1, h0, h2⟩ := h.g3
  refine ⟨h1.sp.kept h2 (by omega), h1.it.kept h2 (by omega), h1.lo.kept h2 (by omega), h1.co.kept h2 (by omega), h1.eb.kept h2 (by omega), fun i hi => (h1.ci i hi).kept h2 (by omega), h1.nil, ?_⟩
  exact ⟨h2.os.trans h1.fr.os, h2.tape.trans h1.fr.tape, h2.output.trans h1.fr.output, Nat.le_trans h1.fr.size h2.size, fun i hi _ => (h2.block i (Nat.lt_of_lt_of_le hi h1.fr.size) (by omega)).trans (h1.fr.block i hi id)⟩
theorem Gs.start (h : G3 w (q.N + 1) q.M q.tov F (q.N + 1) wr) : Gs q w F wr.heap.size (q.N + 1) 0 (fun _ => 0) [] (fun _ _ => none) (wr.alloc (.cells (List.replicate (q.N + 1) (.int .u64 0)).toArray 43)) := by
  refine ⟨⟨wr, h, Nat.le_refl _, (Fr.refl _ wr).alloc _⟩, h.mp.kept ((Fr.refl (fun _ => False) wr).alloc _) id, ?_, h.eb.lt, fun c i ev h1 h2 => by omega, fun c ev _ _ => look_nil _, fun c h1 h2 => by omega, fun c => by show 0 < _; omega⟩
  have := Blk.new wr 43 (List.replicate (q.N + 1) (.int .u64 0))
  have e : ((List.range (q.N + 1)).map fun i => Value.int .u64 ((if q.N + 1 ≤ i then (fun _ => 0) i else 0 : Nat) : Int)) = List.replicate (q.N + 1) (.int .u64 0) := by
    rw [List.eq_replicate_iff]
    refine ⟨by simp, fun b hb => ?_⟩
    simp at hb
    obtain ⟨a, _, rfl⟩ := hb
    simp
  rw [e]; exact this
/-- the last component has no event -/
theorem Gs.last (h : Gs q w F WB (q.N + 1) 0 W l sa wr) : Gs q w F WB q.N 0 (fun x => if x = q.N then 0 else W x) l sa wr := by
  have ha := h.acc
  have hE := ha.nil q.N (by omega) (by omega)
  refine ⟨h.g3, h.map, ?_, h.lt, fun c i ev h1 h2 h3 => ?_, fun c ev h1 h2 => h.dom c ev h1 (.inl (by omega)), fun c h1 h2 => ?_, fun c => ?_⟩
  · have e : ((List.range (q.N + 1)).map fun i => Value.int .u64 ((if q.N ≤ i then (fun x => if x = q.N then 0 else W x) i else 0 : Nat) : Int)) = (List.range (q.N + 1)).map fun i => .int .u64 ((if q.N + 1 ≤ i then W i else 0 : Nat) : Int) := by
      apply List.map_congr_left
      intro i hi
      have := List.mem_range.1 hi
      rw [if_neg (show ¬ q.N + 1 ≤ i by omega)]
      by_cases hn : q.N ≤ i
      · rw [if_pos hn]; simp only [if_pos (show i = q.N by omega)]
      · rw [if_neg hn]
    rw [e]; exact h.want
  · have hc : c = q.N := by omega
    rw [hc, hE] at h3
    simp at h3
  · have hc : c = q.N := by omega
    subst hc
    simp only [if_true]
    rw [hE]; rfl
  · show (if c = q.N then 0 else W c) < _
    split
    · omega
    · exact h.Wlt c
/-- a step is laid -/
theorem Gs.step {c ev : Nat} {v : Value} {a : Option Addr} {w1 : World} (h : Gs q w F WB (c + 1) e W l sa wr) (hc : c < q.N) (he : (F c).E[e]? = some ev) (hv : v = .agg #[.int .u32 (q.nx c e : Nat), .slice a (q.sn c e) (q.sn c e), .slice none 0 0])
    (ha : q.sn c e = 1 → ∃ g, w.heap.size + 6 ≤ g ∧ a = some ⟨g, 0, none⟩ ∧ Blk wr g 53 [.int .u32 (q.sk c e : Nat)])
    (hm : MapAt w1 w.heap.size (l ++ [(key c ev, v)])) (hf : Fr (· = w.heap.size) wr w1) : Gs q w F WB (c + 1) (e + 1) W (l ++ [(key c ev, v)]) (fun x i => if x = c ∧ i = e then a else sa x i) w1 := by
  obtain ⟨wz, h1, h0, h2⟩ := h.g3
  have hacc := h.acc
  obtain ⟨hnd, hle⟩ := E_ok (hacc.ci c (by omega))
  have hev : ev ≤ 300 := hle ev (List.mem_of_getElem? he)
  have hel : e < (F c).E.length := (List.getElem?_eq_some_iff.1 he).1
  have huniq : ∀ i ev', i ≠ e → (F c).E[i]? = some ev' → ev' ≠ ev := fun i ev' hi h3 heq => by
    subst heq
    obtain ⟨hl1, h4⟩ := List.getElem?_eq_some_iff.1 h3
    obtain ⟨hl2, h5⟩ := List.getElem?_eq_some_iff.1 he
    exact hi ((List.getElem_inj hnd).1 (h4.trans h5.symm))
  have hnone : look l (key c ev) = none := h.dom c ev hev (.inr ⟨rfl, fun i hi h3 => huniq i ev (by omega) h3 rfl⟩)
  refine ⟨⟨wz, h1, h0, h2.trans hf⟩, hm, h.want.kept hf (by have := h.lt; omega), h.lt, fun c' i ev' h3 h4 h5 => ?_, fun c' ev' h3 h4 => ?_, h.Wok, h.Wlt⟩
  · have hev' : ev' ≤ 300 := (E_ok (hacc.ci c' h4)).2 ev' (List.mem_of_getElem? h5)
    rw [look_snoc l _ _ _ hnone]
    by_cases hce : c' = c ∧ i = e
    · obtain ⟨rfl, rfl⟩ := hce
      rw [he] at h5
      injection h5 with h5
      subst h5
      simp only [and_self, if_true]
      refine ⟨by rw [hv], fun hs => ?_⟩
      obtain ⟨g, h6, h7, h8⟩ := ha hs
      exact ⟨g, h6, h7, h8.kept hf (by omega)⟩
    · simp only [if_neg hce]
      have hk : ¬ key c ev = key c' ev' := fun e1 => by
        obtain ⟨e2, e3⟩ := key_inj (by omega) (by omega) e1
        subst e2
        exact huniq i ev' (fun e4 => hce ⟨rfl, e4⟩) h5 e3.symm
      rw [if_neg hk]
      obtain ⟨h6, h7⟩ := h.st c' i ev' (by omega) h4 h5
      refine ⟨h6, fun hs => ?_⟩
      obtain ⟨g, h8, h9, h10⟩ := h7 hs
      exact ⟨g, h8, h9, h10.kept hf (by omega)⟩
  · rw [look_snoc l _ _ _ hnone]
    have hk : ¬ key c ev = key c' ev' := fun e1 => by
      obtain ⟨e2, e3⟩ := key_inj (by omega) (by omega) e1
      subst e2; subst e3
      rcases h4 with h4 | ⟨_, h4⟩
      · omega
      · exact h4 e (by omega) he
    rw [if_neg hk]
    refine h.dom c' ev' h3 ?_
    rcases h4 with h4 | ⟨h4, h5⟩
    · exact .inl h4
    · exact .inr ⟨h4, fun i hi => h5 i (by omega)⟩
/-- a component is done -/
theorem Gs.fin {c : Nat} {w1 : World} (h : Gs q w F WB (c + 1) e W l sa wr) (hc : c < q.N) (he : e = (F c).E.length) (hW : w1 = wr.setCell ⟨WB, c, none⟩ (.int .u64 (q.w W c e : Nat))) : Gs q w F WB c 0 (fun x => if x = c then q.w W c e else W x) l sa w1 := by
  have hlt := h.lt
  have hf : Fr (· = WB) wr w1 := by rw [hW]; exact (Fr.refl (· = WB) wr).setCell (.inl rfl) _
  obtain ⟨wz, h1, h0, h2⟩ := h.g3
  have hacc := h.acc
  have hcong : ∀ c', c ≤ c' → c' < q.N + 1 → ∀ n, (n ≤ (F c').E.length) → q.w (fun x => if x = c then q.w W c e else W x) c' n = q.w W c' n := fun c' h3 h4 n hn => by
    refine wTo_congr n fun i hi => ?_
    by_cases hcN : c' = q.N
    · have := hacc.nil c' h4 (by omega)
      rw [this] at hn
      simp at hn; omega
    · have := (q.nx_lt (c := c') (e := i) (by omega)).1
      exact if_neg (by omega)
  refine ⟨?_, h.map.kept hf (by omega), ?_, h.lt, fun c' i ev h3 h4 h5 => ?_, fun c' ev h3 h4 => h.dom c' ev h3 (.inl (by omega)), fun c' h3 h4 => ?_, fun c' => ?_⟩
  · exact ⟨wz, h1, h0, by rw [hW]; exact h2.setCell (.inr h0) _⟩
  · have := h.want.setCell c (.int .u64 (q.w W c e : Nat))
    rw [← hW] at this
    have e1 : ((List.range (q.N + 1)).map fun i => Value.int .u64 ((if c + 1 ≤ i then W i else 0 : Nat) : Int)).set c (.int .u64 (q.w W c e : Nat)) = (List.range (q.N + 1)).map fun i => .int .u64 ((if c ≤ i then (fun x => if x = c then q.w W c e else W x) i else 0 : Nat) : Int) := by
      apply List.ext_getElem?
      intro i
      rw [List.getElem?_set]
      by_cases hi : i < q.N + 1
      · rw [List.getElem?_map, List.getElem?_map, List.getElem?_range hi]
        simp only [Option.map_some, List.length_map, List.length_range]
        by_cases hic : c = i
        · subst hic
          rw [if_pos rfl, if_pos hi, if_pos (Nat.le_refl _)]
          simp only [if_true]
        · rw [if_neg hic]
          by_cases hle : c + 1 ≤ i
          · rw [if_pos hle, if_pos (by omega)]
            simp only [if_neg (show ¬ i = c by omega)]
          · rw [if_neg hle, if_neg (by omega)]
      · rw [if_neg (by omega), List.getElem?_eq_none (by simp; omega), List.getElem?_eq_none (by simp; omega)]
    rw [e1] at this; exact this
  · have hel : c' = c → i < e := fun e1 => by subst e1; rw [he]; exact (List.getElem?_eq_some_iff.1 h5).1
    obtain ⟨h6, h7⟩ := h.st c' i ev (by omega) h4 h5
    refine ⟨h6, fun hs => ?_⟩
    obtain ⟨g, h8, h9, h10⟩ := h7 hs
    exact ⟨g, h8, h9, h10.kept hf (h10.ne h.want (by decide))⟩
  · rw [hcong c' h3 h4 _ (Nat.le_refl _)]
    by_cases hcc : c' = c
    · subst hcc
      simp only [if_true]
      rw [he]
    · simp only [if_neg hcc]
      exact h.Wok c' (by omega) h4
  · show (if c' = c then q.w W c e else W c') < _
    split
    · exact q.w_lt h.Wlt c e
    · exact h.Wlt c'
end
end Go.Proofs.YbulkbrdiFmt
