/-
  b3388aF: LawS3388AStart: what stands behind a process's bag, plain part.
-/
import Derived.Test.YbulkbrdiFmtSx
import Derived.Test.YbulkbrdiFmtSr
namespace Go.Proofs.YbulkbrdiFmt
open Go.RowKit
set_option linter.unusedVariables false
set_option linter.unusedSimpArgs false
set_option maxRecDepth 100000
set_option maxHeartbeats 4000000

/-- behind i processes -/
structure Q3 (p : Pr) (w : World) (MS n : Nat) (f : Nat → Nat) (i : Nat) (t : St) (wr : World) : Prop where
  inv : Inv p t wr
  nl : i ≤ t.nl
  len : t.cps.length ≤ i * 109601
  fr : Fr (fun _ => False) w wr
  ms : Blk wr MS 5 (msL f n n)
  low : ∀ k, Ch p t k → w.heap.size ≤ k
theorem ch_mk {b : Bl} {H np n PB MB mc : Nat} {ma : Option Addr} {f : Nat → Nat} {nv : Value} {pl : Nat → Nat} (h : BlOk b H) : ∀ k, Ch (mkP b np n PB MB ma mc f nv pl) t00 k → H ≤ k := fun k hk => by
  obtain ⟨n1, n2, n3, n4, n5, n6, n7, n8, n9, n10⟩ := h.lt
  rcases hk with h1 | h1 | h1 | h1 | h1 | h1 | h1 | h1 | h1
  · have : k = b.SP := h1; omega
  · have : k = b.LM := h1; omega
  · have : k = b.IM := h1; omega
  · have : k = b.CM := h1; omega
  · have : k = b.LS := h1; omega
  · have : k = b.ST := h1; omega
  · cases h1
  · cases h1
  · cases h1
section
variable {p : Pr} {t t' : St} {w wA wx : World} {i n : Nat} {its' : List (Nat × Nat)} {vi' : Value} {ba : Option Addr} {bc m : Nat} {ys : List Nat}
/-- own blocks are old ones or new ones -/
theorem Ext.ch (h : Ext p t t' w wx) : ∀ k, Ch p t' k → Ch p t k ∨ w.heap.size ≤ k := fun k hk => by
  unfold Ch at hk ⊢
  rcases hk with h1 | h1 | h1 | h1 | h1 | h1 | h1 | h1 | h1
  · exact .inl (.inl h1)
  · exact .inl (.inr (.inl h1))
  · exact .inl (.inr (.inr (.inl h1)))
  · exact .inl (.inr (.inr (.inr (.inl h1))))
  · exact .inl (.inr (.inr (.inr (.inr (.inl h1)))))
  · exact .inl (.inr (.inr (.inr (.inr (.inr (.inl h1))))))
  · rcases h.vi k h1 with h2 | h2
    · exact .inl (.inr (.inr (.inr (.inr (.inr (.inr (.inl h2)))))))
    · exact .inr h2
  · rcases h.vl k h1 with h2 | h2
    · exact .inl (.inr (.inr (.inr (.inr (.inr (.inr (.inr (.inl h2))))))))
    · exact .inr h2
  · rcases h.vc k h1 with h2 | h2
    · exact .inl (.inr (.inr (.inr (.inr (.inr (.inr (.inr (.inr h2))))))))
    · exact .inr h2
/-- behind the local state's call -/
structure Q5 (p : Pr) (t : St) (wA : World) (i n : Nat) (its' : List (Nat × Nat)) (vi' vl' : Value) (nl' : Nat) (ba : Option Addr) (bc : Nat) (ys : List Nat) (wx : World) : Prop where
  inv : Inv p { t with its := its', vi := vi', nl := nl', vl := vl' } wx
  ext : Ext p t { t with its := its', vi := vi', nl := nl', vl := vl' } wA wx
  nl : i < nl'
  bag : BagA wx ba ys.length bc ys.toArray
  new : ∀ k, ba = some ⟨k, 0, none⟩ → wA.heap.size ≤ k
  ysok : ∀ y ∈ ys, ∃ j', its'[y]? = some (i, j') ∧ j' < n
  nd : ys.Nodup
  len : ys.length ≤ n
theorem Q4.loc (hp : PrOk p) (hn : i ≤ t.nl) (hi : i < p.np) (h : Q4 p t wA i n its' vi' (.slice ba ys.length bc) ys wx) :
    Calls Ybaf.prog 10 #[.pointer (some ⟨p.SP, 0, none⟩), .agg #[.int .i64 (i : Int), .iface 82 (.agg #[]), .slice none 0 0, .slice none 0 0]] wx fun e w' => e = .returned (.int .u32 (i : Int)) ∧ ∃ v' nl', Q5 p t wA i n its' vi' v' nl' ba bc ys w' := by
  rcases Nat.lt_or_ge i t.nl with hlt | hge
  · refine (localHit hp h.inv i hlt).mono fun e w' ⟨he, hF⟩ => ⟨he, t.vl, t.nl, ?_⟩
    exact ⟨h.inv.kept hF, h.ext.post hF, hlt, h.bag.1.kept hF (fun _ _ => id), h.bag.2, h.ysok, h.nd, h.len⟩
  · obtain rfl : i = t.nl := by omega
    refine (localNew hp h.inv hi).mono fun e w' ⟨he, v', hI, hE⟩ => ⟨he, v', t.nl + 1, ?_⟩
    exact ⟨hI, h.ext.trans hE, Nat.lt_succ_self _, h.bag.1.keptC h.inv hE.fr, h.bag.2, h.ysok, h.nd, h.len⟩
/-- behind the component's call -/
structure Q6 (p : Pr) (t : St) (wA : World) (i acc no : Nat) (t2 : St) (w2 : World) (c : Cmp) : Prop where
  inv : Inv p t2 w2
  nl : i < t2.nl
  len : t2.cps.length ≤ t.cps.length + 1
  fr : Fr (Ch p t) wA w2
  low : ∀ k, Ch p t2 k → Ch p t k ∨ wA.heap.size ≤ k
  at_ : t2.cps[no]? = some c
  d : D p t2.its c.bag = acc
theorem Q5.comp {v' : Value} {nl' : Nat} (hp : PrOk p) (h0 : Inv p t wA) (hn8 : n ≤ 8) (hlen : t.cps.length ≤ 1000000) (h : Q5 p t wA i n its' vi' v' nl' ba bc ys wx) :
    Calls Ybaf.prog 9 #[.pointer (some ⟨p.SP, 0, none⟩), .int .u32 (i : Int), .slice ba ys.length bc] wx fun e w' => ∃ no : Nat, e = .returned (.int .u32 (no : Int)) ∧ ∃ (t2 : St) (c : Cmp), Q6 p t wA i (D p its' ys) no t2 w' c := by
  have hy := h.len
  refine (compI' hp h.inv h0 rfl rfl rfl i ys.length bc ba ys.toArray h.bag h.new h.nl (by omega) (fun x hx => ?_) ?_ hlen).mono fun e w' ⟨no, cps', v2, he, hI, hF, hv, hl, c, hc, hcl, hcb⟩ => ?_
  · obtain ⟨j', h1, h2⟩ := h.ysok x (by simpa using hx)
    exact ⟨j', h1, by omega⟩
  · simpa using h.nd
  · refine ⟨no, he, _, c, ⟨hI, h.nl, hl, ?_, ?_, hc, ?_⟩⟩
    · refine h.ext.fr.join hF (fun k hk hT => ?_)
      rcases hT with h1 | h1
      · rcases h.ext.ch k h1 with h2 | h2
        · exact h2
        · omega
      · have := h.new k h1; omega
    · intro k hk
      unfold Ch at hk
      have hsz := h.ext.fr.size
      have key : Ch p { t with its := its', vi := vi', nl := nl', vl := v' } k ∨ wA.heap.size ≤ k := by
        rcases hk with h1 | h1 | h1 | h1 | h1 | h1 | h1 | h1 | h1
        · exact .inl (.inl h1)
        · exact .inl (.inr (.inl h1))
        · exact .inl (.inr (.inr (.inl h1)))
        · exact .inl (.inr (.inr (.inr (.inl h1))))
        · exact .inl (.inr (.inr (.inr (.inr (.inl h1)))))
        · exact .inl (.inr (.inr (.inr (.inr (.inr (.inl h1))))))
        · exact .inl (.inr (.inr (.inr (.inr (.inr (.inr (.inl h1)))))))
        · exact .inl (.inr (.inr (.inr (.inr (.inr (.inr (.inr (.inl h1))))))))
        · rcases hv k h1 with h2 | h2
          · exact .inl (.inr (.inr (.inr (.inr (.inr (.inr (.inr (.inr h2))))))))
          · exact .inr (by omega)
      rcases key with h1 | h1
      · exact h.ext.ch k h1
      · exact .inr h1
    · exact D_perm (by simpa using hcb)
/-- behind the call of dests: a process more -/
theorem Q6.dests {MS acc no : Nat} {f : Nat → Nat} {t2 : St} {w2 : World} {c : Cmp} (hp : PrOk p) (hi : i < 8) (h3 : Q3 p w MS n f i t wA) (h : Q6 p t wA i acc no t2 w2 c) :
    Calls Ybaf.prog 6 #[.pointer (some ⟨p.SP, 0, none⟩), .int .u32 (no : Int)] w2 fun e w' => e = .returned (.int .u64 (acc : Int)) ∧ ∃ (t3 : St) (cb nc cc : Nat), Q3 p w MS n f (i + 1) t3 w' ∧ w'.cell? ⟨p.SP, 10, none⟩ = some (.slice (some ⟨cb, 0, none⟩) nc cc) ∧ w'.cell? ⟨cb, no * 6 + 2, none⟩ = some (.int .u64 (acc : Int)) ∧ w'.cell? ⟨cb, no * 6 + 5, none⟩ = some (.bool true) ∧ no < nc ∧ nc ≤ 1000000 := by
  obtain ⟨q1, q2, q3, q4, _⟩ := h.inv.ok.cok c (List.mem_of_getElem? h.at_)
  have hT := T_le q3
  have hl := h.len
  have hl3 := h3.len
  have hmul : i * 109601 ≤ 7 * 109601 := Nat.mul_le_mul_right _ (by omega)
  refine (destsI hp c.bag.length t2 w2 no c h.inv h.at_ rfl (by omega)).mono fun e w' ⟨he, t3, c', hI, hE, hl2, hc', hak⟩ => ?_
  rw [h.d] at he
  obtain ⟨cb, cc, hvc, hcb, hcc, hco⟩ := owns_at (C := cmC) (s := 6) (n := t3.cps.length) (fun _ => rfl) hI.cr (by have := (List.getElem?_eq_some_iff.1 hc').1; omega)
  obtain ⟨c1, k1, k2, k3, k4⟩ := hE.cps no c h.at_
  obtain rfl : c' = c1 := by rw [hc'] at k1; injection k1
  have hds : c'.ds = acc := by
    rw [(hI.ok.cok c' (List.mem_of_getElem? hc')).2.2.2.2.1 hak, k3, ← h.d]
    refine D_mono hE.its c.bag (fun x hx => ?_)
    obtain ⟨j, hj, _⟩ := q4 x hx
    exact (List.getElem?_eq_some_iff.1 hj).1
  have hfr : Fr (Ch p t) wA w' := h.fr.join hE.fr (fun k hk hT => by
    rcases h.low k hT with h1 | h1
    · exact h1
    · omega)
  have hA := h3.fr.size
  refine ⟨he, t3, cb, t3.cps.length, cc, ⟨hI, ?_, ?_, ?_, ?_, ?_⟩, ?_, ?_, ?_, (List.getElem?_eq_some_iff.1 hc').1, ?_⟩
  · have h2 := hE.nl
    have h1 := h.nl
    omega
  · rw [Nat.succ_mul]; omega
  · exact h3.fr.join hfr (fun k hk hT => by have := h3.low k hT; omega)
  · exact h3.ms.kept hfr (h3.inv.nch h3.ms (by decide))
  · intro k hk
    have hs2 := h.fr.size
    rcases hE.ch k hk with h1 | h1
    · rcases h.low k h1 with h2 | h2
      · exact h3.low k h2
      · omega
    · omega
  · rw [← hvc]; exact hI.sp.sp.cell 10
  · rw [hco no c' 2 hc' (by omega), ← hds]; rfl
  · rw [hco no c' 5 hc' (by omega), ← hak]; rfl
  · omega
end
end Go.Proofs.YbulkbrdiFmt
