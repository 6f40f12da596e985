/-
  b3388aF: what is known of a space while it is walked.
-/
import Derived.Test.YbulkbrdiFmtSd
namespace Go.Proofs.YbulkbrdiFmt
open Go.RowKit
set_option linter.unusedVariables false
set_option linter.unusedSimpArgs false
set_option maxRecDepth 100000
set_option maxHeartbeats 2000000

/-- what does not turn -/
structure Pr where
  SP : Nat
  IX : Nat
  BY : Nat
  LM : Nat
  IM : Nat
  CM : Nat
  LS : Nat
  ST : Nat
  PB : Nat
  PT : Nat
  GM : Nat
  np : Nat
  MB : Nat
  ma : Option Addr
  mn : Nat
  mc : Nat
  nv : Value
  gl : List (ByteArray × Value)
  ixl : List (ByteArray × Value)
  ms : Nat → Nat
  pl : Nat → Nat
/-- what turns -/
structure St where
  its : List (Nat × Nat)
  nl : Nat
  cps : List Cmp
  vi : Value
  vl : Value
  vc : Value
  lsl : List (Nat × Value)
  stl : List (Nat × Value)
/-- the space's own cells -/
def spcOf (p : Pr) (t : St) : List Value := [.pointer none, .nilFunc, p.nv, .map (some p.IX), .slice p.ma p.mn p.mc, .map (some p.BY), t.vl, .map (some p.LM), t.vi, .map (some p.IM), t.vc, .map (some p.CM), .map (some p.LS), .map (some p.ST), .map none, .slice none 0 0, .map none, .slice (some ⟨p.PB, 0, none⟩) 1 1, .map none, .map none]
/-- the blocks that a walk may turn -/
def Ch (p : Pr) (t : St) (k : Nat) : Prop := k = p.SP ∨ k = p.LM ∨ k = p.IM ∨ k = p.CM ∨ k = p.LS ∨ k = p.ST ∨ t.vi.ownBlock = some k ∨ t.vl.ownBlock = some k ∨ t.vc.ownBlock = some k
/-- what a bag's items send, all told -/
def D (p : Pr) (its : List (Nat × Nat)) (bag : List Nat) : Nat := bag.foldr (fun x acc => p.ms ((its[x]?.getD (0, 0)).2) ||| acc) 0
/-- the addressees of a row of items -/
def orTo (its : List (Nat × Nat)) (ys : List Nat) : Nat := ys.foldr (fun y acc => 2 ^ (its[y]?.getD (0, 0)).1 ||| acc) 0
/-- v is a row of items sent on message j -/
def SendOk (p : Pr) (its : List (Nat × Nat)) (w : World) (j : Nat) (v : Value) : Prop := ∃ (sa : Option Addr) (sc : Nat) (ys : List Nat), v = .slice sa ys.length sc ∧ BagA w sa ys.length sc ys.toArray ∧ (∀ y ∈ ys, y < its.length) ∧ orTo its ys = p.ms j ∧ ys.length ≤ 8
/-- the plain side -/
structure Ok (p : Pr) (t : St) : Prop where
  iok : ∀ q ∈ t.its, q.1 < p.np ∧ q.2 < 16 ∧ (q.2 < 8 → q.2 < p.mn)
  ind : t.its.Nodup
  nl : t.nl ≤ p.np
  cok : ∀ c ∈ t.cps, c.lo < t.nl ∧ c.bag.Pairwise (· < ·) ∧ c.bag.length ≤ 8 ∧ (∀ x ∈ c.bag, ∃ j, t.its[x]? = some (c.lo, j) ∧ j < 8) ∧ (c.ak = true → c.ds = D p t.its c.bag) ∧ (c.ak = false → c.ds = 0)
/-- the maps are different ones -/
structure Dis (p : Pr) : Prop where
  ixby : p.IX ≠ p.BY
  ixlm : p.IX ≠ p.LM
  ixim : p.IX ≠ p.IM
  ixcm : p.IX ≠ p.CM
  ixls : p.IX ≠ p.LS
  ixst : p.IX ≠ p.ST
  ixgm : p.IX ≠ p.GM
  bylm : p.BY ≠ p.LM
  byim : p.BY ≠ p.IM
  bycm : p.BY ≠ p.CM
  byls : p.BY ≠ p.LS
  byst : p.BY ≠ p.ST
  bygm : p.BY ≠ p.GM
  lmim : p.LM ≠ p.IM
  lmcm : p.LM ≠ p.CM
  lmls : p.LM ≠ p.LS
  lmst : p.LM ≠ p.ST
  lmgm : p.LM ≠ p.GM
  imcm : p.IM ≠ p.CM
  imls : p.IM ≠ p.LS
  imst : p.IM ≠ p.ST
  imgm : p.IM ≠ p.GM
  cmls : p.CM ≠ p.LS
  cmst : p.CM ≠ p.ST
  cmgm : p.CM ≠ p.GM
  lsst : p.LS ≠ p.ST
  lsgm : p.LS ≠ p.GM
  stgm : p.ST ≠ p.GM
/-- what is known of a space -/
structure Inv (p : Pr) (t : St) (w : World) : Prop where
  sp : SpAt w p.SP p.PB p.PT p.np p.GM p.gl (spcOf p t)
  ix : SMap w p.IX p.ixl
  msg : ∀ j, j < p.mn → w.cell? ⟨p.MB, j * 4, none⟩ = some (.string (im j)) ∧ w.cell? ⟨p.MB, j * 4 + 1, none⟩ = some (.slice none 0 0) ∧ w.cell? ⟨p.MB, j * 4 + 2, none⟩ = some (.slice none 0 0) ∧ w.cell? ⟨p.MB, j * 4 + 3, none⟩ = some (.slice (some ⟨p.pl j, 0, none⟩) 2 2) ∧ w.cell? ⟨p.pl j, 0, none⟩ = some (.int .u8 (p.ms j : Nat)) ∧ w.cell? ⟨p.pl j, 1, none⟩ = some (.int .u8 (p.np : Nat))
  mty : ∀ j, j < p.mn → ∃ l m, Blk w p.MB 77 l ∧ Blk w (p.pl j) 5 m
  im : SMap w p.IM (tab itK t.its)
  ir : w.ownsRow 0 48 9 t.vi t.its.length (t.its.flatMap itC)
  lm : SMap w p.LM (tab loK (List.range t.nl))
  lr : w.ownsRow 0 62 4 t.vl t.nl ((List.range t.nl).flatMap loC)
  cm : SMap w p.CM (tab cmK t.cps)
  cr : w.ownsRow 0 64 6 t.vc t.cps.length (t.cps.flatMap cmC)
  bag : ∀ c ∈ t.cps, BagA w c.ba c.bag.length c.bc c.bag.toArray
  ls : MapAt w p.LS t.lsl
  lso : ∀ e ∈ t.lsl, ∃ (i x j : Nat) (s : Value), e = (key i (x + 1), .agg #[.int .u32 (i : Int), s, .slice none 0 0]) ∧ t.its[x]? = some (i, j) ∧ j < 8 ∧ SendOk p t.its w j s
  st : MapAt w p.ST t.stl
  sto : ∀ e ∈ t.stl, ∃ (k x j nx : Nat) (c c' : Cmp) (s : Value), e = (key k (x + 1), .agg #[.int .u32 (nx : Int), s, .slice none 0 0]) ∧ t.cps[k]? = some c ∧ x ∈ c.bag ∧ t.its[x]? = some (c.lo, j) ∧ j < 8 ∧ SendOk p t.its w j s ∧ t.cps[nx]? = some c' ∧ c'.lo = c.lo ∧ c'.bag = c.bag.erase x
  ok : Ok p t
  ne : Dis p
/-- a walk's yield -/
structure Ext (p : Pr) (t t' : St) (w w' : World) : Prop where
  fr : Fr (Ch p t) w w'
  vi : ∀ k, t'.vi.ownBlock = some k → t.vi.ownBlock = some k ∨ w.heap.size ≤ k
  vl : ∀ k, t'.vl.ownBlock = some k → t.vl.ownBlock = some k ∨ w.heap.size ≤ k
  vc : ∀ k, t'.vc.ownBlock = some k → t.vc.ownBlock = some k ∨ w.heap.size ≤ k
  its : t.its <+: t'.its
  nl : t.nl ≤ t'.nl
  cps : ∀ (k : Nat) (c : Cmp), t.cps[k]? = some c → ∃ c' : Cmp, t'.cps[k]? = some c' ∧ c'.lo = c.lo ∧ c'.bag = c.bag ∧ (c.ak = true → c'.ak = true)
theorem Fr.join {S T : Nat → Prop} {a b c : World} (h : Fr S a b) (k : Fr T b c) (hs : ∀ i, i < a.heap.size → T i → S i) : Fr S a c :=
  ⟨k.os.trans h.os, k.tape.trans h.tape, k.output.trans h.output, Nat.le_trans h.size k.size,
   fun i hi hn => (k.block i (Nat.lt_of_lt_of_le hi h.size) (fun hT => hn (hs i hi hT))).trans (h.block i hi hn)⟩
section
variable {p : Pr} {t t' t'' : St} {w w' w'' : World}
theorem Ext.refl (p : Pr) (t : St) (w : World) : Ext p t t w w := ⟨Fr.refl _ _, fun _ h => .inl h, fun _ h => .inl h, fun _ h => .inl h, List.prefix_refl _, Nat.le_refl _, fun k c h => ⟨c, h, rfl, rfl, id⟩⟩
theorem Ext.trans (h : Ext p t t' w w') (k : Ext p t' t'' w' w'') : Ext p t t'' w w'' := by
  have hl := h.fr.size
  refine ⟨h.fr.join k.fr (fun i hi hT => ?_), fun i hi => ?_, fun i hi => ?_, fun i hi => ?_, h.its.trans k.its, Nat.le_trans h.nl k.nl, fun i c hc => ?_⟩
  · unfold Ch at *
    rcases hT with h1 | h1 | h1 | h1 | h1 | h1 | h1 | h1 | h1
    · exact .inl h1
    · exact .inr (.inl h1)
    · exact .inr (.inr (.inl h1))
    · exact .inr (.inr (.inr (.inl h1)))
    · exact .inr (.inr (.inr (.inr (.inl h1))))
    · exact .inr (.inr (.inr (.inr (.inr (.inl h1)))))
    · rcases h.vi i h1 with h2 | h2
      · exact .inr (.inr (.inr (.inr (.inr (.inr (.inl h2))))))
      · omega
    · rcases h.vl i h1 with h2 | h2
      · exact .inr (.inr (.inr (.inr (.inr (.inr (.inr (.inl h2)))))))
      · omega
    · rcases h.vc i h1 with h2 | h2
      · exact .inr (.inr (.inr (.inr (.inr (.inr (.inr (.inr h2)))))))
      · omega
  · rcases k.vi i hi with h1 | h1
    · exact h.vi i h1
    · exact .inr (by omega)
  · rcases k.vl i hi with h1 | h1
    · exact h.vl i h1
    · exact .inr (by omega)
  · rcases k.vc i hi with h1 | h1
    · exact h.vc i h1
    · exact .inr (by omega)
  · obtain ⟨c1, h1, h2, h3, h4⟩ := h.cps i c hc
    obtain ⟨c2, k1, k2, k3, k4⟩ := k.cps i c1 h1
    exact ⟨c2, k1, k2.trans h2, k3.trans h3, fun e => k4 (h4 e)⟩
theorem Ext.of_fr (t : St) (h : Fr (fun _ => False) w w') : Ext p t t w w' := { Ext.refl p t w with fr := h.mono (fun _ _ h => h.elim) }
theorem Ext.pre (h : Fr (fun _ => False) w w') (k : Ext p t t' w' w'') : Ext p t t' w w'' := (Ext.of_fr t h).trans k
theorem Ext.post (h : Ext p t t' w w') (k : Fr (fun _ => False) w' w'') : Ext p t t' w w'' := h.trans (Ext.of_fr t' k)
theorem Ext.it (h : Ext p t t' w w') {x : Nat} {q : Nat × Nat} (hx : t.its[x]? = some q) : t'.its[x]? = some q := by
  obtain ⟨r, hr⟩ := h.its
  rw [← hr, List.getElem?_append_left (List.getElem?_eq_some_iff.1 hx).1]; exact hx
theorem SpAt.kept {SP PB PT np GM : Nat} {gl : List (ByteArray × Value)} {spc : List Value} (h : SpAt w SP PB PT np GM gl spc) (hf : Fr (fun _ => False) w w') : SpAt w' SP PB PT np GM gl spc := ⟨h.sp.kept hf id, h.c17, h.pb.kept hf id, h.perm.kept hf id id⟩
theorem SendOk.kept {S : Nat → Prop} {its : List (Nat × Nat)} {j : Nat} {v : Value} (h : SendOk p its w j v) (hf : Fr S w w') (hS : ∀ g l, Blk w g 53 l → ¬ S g) : SendOk p its w' j v := by
  obtain ⟨sa, sc, ys, h1, h2, h3⟩ := h
  refine ⟨sa, sc, ys, h1, h2.kept hf (fun g hg => ?_), h3⟩
  rcases h2.2.2 with ⟨h4, _⟩ | ⟨g', r, h4, h5⟩
  · rw [h4] at hg; cases hg
  · have : g' = g := by rw [h4] at hg; injection hg with hg; injection hg
    subst this
    exact hS _ _ h5
theorem Inv.kept (h : Inv p t w) (hf : Fr (fun _ => False) w w') : Inv p t w' where
  sp := h.sp.kept hf
  ix := h.ix.kept hf id
  msg := fun j hj => by
    obtain ⟨h1, h2, h3, h4, h5, h6⟩ := h.msg j hj
    exact ⟨cell_keptA hf h1, cell_keptA hf h2, cell_keptA hf h3, cell_keptA hf h4, cell_keptA hf h5, cell_keptA hf h6⟩
  mty := fun j hj => by
    obtain ⟨l, m, h1, h2⟩ := h.mty j hj
    exact ⟨l, m, h1.kept hf id, h2.kept hf id⟩
  im := h.im.kept hf id
  ir := owns_kept h.ir hf (fun _ _ => id)
  lm := h.lm.kept hf id
  lr := owns_kept h.lr hf (fun _ _ => id)
  cm := h.cm.kept hf id
  cr := owns_kept h.cr hf (fun _ _ => id)
  bag := fun c hc => (h.bag c hc).kept hf (fun _ _ => id)
  ls := h.ls.kept hf id
  lso := fun e he => by
    obtain ⟨i, x, j, s, h1, h2, h3, h4⟩ := h.lso e he
    exact ⟨i, x, j, s, h1, h2, h3, h4.kept hf (fun _ _ _ => id)⟩
  st := h.st.kept hf id
  sto := fun e he => by
    obtain ⟨k, x, j, nx, c, c', s, h1, h2, h3, h4, h5, h6, h7⟩ := h.sto e he
    exact ⟨k, x, j, nx, c, c', s, h1, h2, h3, h4, h5, h6.kept hf (fun _ _ _ => id), h7⟩
  ok := h.ok
  ne := h.ne
theorem get_prefix {α : Type} {a b : List α} (h : a <+: b) {x : Nat} {q : α} (hx : a[x]? = some q) : b[x]? = some q := by
  obtain ⟨r, hr⟩ := h
  rw [← hr, List.getElem?_append_left (List.getElem?_eq_some_iff.1 hx).1]; exact hx
theorem D_mono {a b : List (Nat × Nat)} (h : a <+: b) : ∀ (bag : List Nat), (∀ x ∈ bag, x < a.length) → D p b bag = D p a bag
  | [], _ => rfl
  | x :: bag, hb => by
    have h1 := D_mono h bag (fun y hy => hb y (by simp [hy]))
    obtain ⟨q, h2⟩ : ∃ q, a[x]? = some q := ⟨_, List.getElem?_eq_getElem (hb x (by simp))⟩
    have h3 := get_prefix h h2
    unfold D at *
    rw [List.foldr_cons, List.foldr_cons, h1, h2, h3]
theorem orTo_mono {a b : List (Nat × Nat)} (h : a <+: b) : ∀ (ys : List Nat), (∀ x ∈ ys, x < a.length) → orTo b ys = orTo a ys
  | [], _ => rfl
  | x :: ys, hb => by
    have h1 := orTo_mono h ys (fun y hy => hb y (by simp [hy]))
    obtain ⟨q, h2⟩ : ∃ q, a[x]? = some q := ⟨_, List.getElem?_eq_getElem (hb x (by simp))⟩
    have h3 := get_prefix h h2
    unfold orTo at *
    rw [List.foldr_cons, List.foldr_cons, h1, h2, h3]
theorem SendOk.mono {a b : List (Nat × Nat)} {j : Nat} {v : Value} (h : SendOk p a w j v) (hp : a <+: b) : SendOk p b w j v := by
  obtain ⟨sa, sc, ys, h1, h2, h3, h4, h5⟩ := h
  exact ⟨sa, sc, ys, h1, h2, fun y hy => Nat.lt_of_lt_of_le (h3 y hy) hp.length_le, by rw [orTo_mono hp ys h3]; exact h4, h5⟩
theorem own_ne {B e e' size size' n n' : Nat} {v v' : Value} {xs xs' : List Value} (h : w.ownsRow B e size v n xs) (h' : w.ownsRow B e' size' v' n' xs') (he : e ≠ e') : ∀ k, v.ownBlock = some k → ¬ v'.ownBlock = some k := fun k h1 h2 => by
  obtain ⟨c1, h3⟩ := owns_type h h1
  obtain ⟨c2, h4⟩ := owns_type h' h2
  have := h3.symm.trans h4
  injection this with this
  injection this with _ h5 _
  exact he h5
theorem MapAt.neO {B e size n m : Nat} {v : Value} {xs : List Value} {l : List (Nat × Value)} (h : w.ownsRow B e size v n xs) (hm : MapAt w m l) : v.ownBlock ≠ some m := fun hg => by
  obtain ⟨cur, hc⟩ := owns_type h hg
  obtain ⟨es, cl, h1, _⟩ := hm
  have := hc.symm.trans h1
  cases this
/-- a block of cells of another type is not turned -/
theorem Inv.nch {k e : Nat} {l : List Value} (h : Inv p t w) (hb : Blk w k e l) (he : e ≠ 42 ∧ e ≠ 48 ∧ e ≠ 62 ∧ e ≠ 64) : ¬ Ch p t k := by
  rintro (h1 | h1 | h1 | h1 | h1 | h1 | h1 | h1 | h1)
  · subst h1
    have := h.sp.sp.symm.trans hb
    injection this with this
    injection this with _ h5 _
    exact he.1 h5.symm
  · exact h.lm.ne hb h1.symm
  · exact h.im.ne hb h1.symm
  · exact h.cm.ne hb h1.symm
  · exact h.ls.ne hb h1.symm
  · exact h.st.ne hb h1.symm
  · exact owns_neB h.ir hb (fun e => he.2.1 e.symm) h1
  · exact owns_neB h.lr hb (fun e => he.2.2.1 e.symm) h1
  · exact owns_neB h.cr hb (fun e => he.2.2.2 e.symm) h1
theorem Inv.nch_map {k : Nat} {l : List (ByteArray × Value)} (h : Inv p t w) (hb : SMap w k l) (hk : k ≠ p.LM ∧ k ≠ p.IM ∧ k ≠ p.CM ∧ k ≠ p.LS ∧ k ≠ p.ST) : ¬ Ch p t k := by
  rintro (h1 | h1 | h1 | h1 | h1 | h1 | h1 | h1 | h1)
  · exact hb.ne h.sp.sp h1
  · exact hk.1 h1
  · exact hk.2.1 h1
  · exact hk.2.2.1 h1
  · exact hk.2.2.2.1 h1
  · exact hk.2.2.2.2 h1
  · exact owns_neM h.ir hb h1
  · exact owns_neM h.lr hb h1
  · exact owns_neM h.cr hb h1
/-- what stays, whatever a walk turns -/
theorem Inv.stat (h : Inv p t w) (hf : Fr (Ch p t) w w') : Blk w' p.PB 75 [.slice (some ⟨p.PT, 0, none⟩) p.np p.np, .map (some p.GM)] ∧ PermOk w' p.PT p.np p.GM p.gl ∧ SMap w' p.IX p.ixl ∧
    (∀ j, j < p.mn → w'.cell? ⟨p.MB, j * 4, none⟩ = some (.string (Go.Proofs.YbulkbrdiFmt.im j)) ∧ w'.cell? ⟨p.MB, j * 4 + 1, none⟩ = some (.slice none 0 0) ∧ w'.cell? ⟨p.MB, j * 4 + 2, none⟩ = some (.slice none 0 0) ∧ w'.cell? ⟨p.MB, j * 4 + 3, none⟩ = some (.slice (some ⟨p.pl j, 0, none⟩) 2 2) ∧ w'.cell? ⟨p.pl j, 0, none⟩ = some (.int .u8 (p.ms j : Nat)) ∧ w'.cell? ⟨p.pl j, 1, none⟩ = some (.int .u8 (p.np : Nat))) ∧
    (∀ j, j < p.mn → ∃ l m, Blk w' p.MB 77 l ∧ Blk w' (p.pl j) 5 m) := by
  have hGM : ¬ Ch p t p.GM := h.nch_map h.sp.perm.groups ⟨h.ne.lmgm.symm, h.ne.imgm.symm, h.ne.cmgm.symm, h.ne.lsgm.symm, h.ne.stgm.symm⟩
  have hIX : ¬ Ch p t p.IX := h.nch_map h.ix ⟨h.ne.ixlm, h.ne.ixim, h.ne.ixcm, h.ne.ixls, h.ne.ixst⟩
  refine ⟨h.sp.pb.kept hf (h.nch h.sp.pb (by decide)), h.sp.perm.kept hf (h.nch h.sp.perm.tos (by decide)) hGM, h.ix.kept hf hIX, fun j hj => ?_, fun j hj => ?_⟩
  · obtain ⟨h1, h2, h3, h4, h5, h6⟩ := h.msg j hj
    obtain ⟨l, m, k1, k2⟩ := h.mty j hj
    have n1 := h.nch k1 (by decide)
    have n2 := h.nch k2 (by decide)
    exact ⟨cell_kept k1.lt hf n1 h1, cell_kept k1.lt hf n1 h2, cell_kept k1.lt hf n1 h3, cell_kept k1.lt hf n1 h4, cell_kept k2.lt hf n2 h5, cell_kept k2.lt hf n2 h6⟩
  · obtain ⟨l, m, k1, k2⟩ := h.mty j hj
    exact ⟨l, m, k1.kept hf (h.nch k1 (by decide)), k2.kept hf (h.nch k2 (by decide))⟩
end
end Go.Proofs.YbulkbrdiFmt
