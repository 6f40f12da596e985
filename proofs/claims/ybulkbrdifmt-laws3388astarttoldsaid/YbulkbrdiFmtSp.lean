/-
  b3388aF: (*space).events over what is known of a space.
-/
import Derived.Test.YbulkbrdiFmtSn0
namespace Go.Proofs.YbulkbrdiFmt
open Go.RowKit
set_option linter.unusedVariables false
set_option linter.unusedSimpArgs false
set_option maxRecDepth 100000
set_option maxHeartbeats 4000000

def evW (l : List Nat) : List Value := l.map fun (y : Nat) => .int .u32 ((y + 1 : Nat) : Int)
theorem info54' : ∃ i, Ybaf.prog.info? 54 = some i ∧ i.zero = some (.int .u32 0) ∧ i.size = 1 ∧ i.bytes = 4 := info_parts (P := Ybaf.prog) (e := 54) (z := .int .u32 0) (size := 1) (bytes := 4) (by kernel_rfl)
/-- in the run of events -/
structure Evs (w : World) (c : Cmp) (g q : Nat) (v : Value) (wr : World) : Prop where
  own : wr.ownsRow w.heap.size 54 1 v q (evW (c.bag.take q))
  box : Blk wr w.heap.size 64 [.int .u32 (c.lo : Int), .slice c.ba c.bag.length c.bc, .int .u64 (c.ds : Int), .int .i32 0, .int .i32 0, .bool c.ak]
  fr : Fr (fun _ => False) w wr
theorem Evs.put {w wr w1 : World} {c : Cmp} {g q y : Nat} {v v' : Value} {o : Obj} (h : Evs w c g q v wr) (hy : c.bag[q]? = some y) (hown : w1.ownsRow w.heap.size 54 1 v' (q + 1) (evW (c.bag.take q) ++ [.int .u32 ((y + 1 : Nat) : Int)])) (hgrow : (wr.alloc o).grownBy w1 v.ownBlock) : Evs w c g (q + 1) v' w1 := by
  have hF : Fr (fun k => v.ownBlock = some k) wr w1 := ((Fr.refl (fun k => v.ownBlock = some k) wr).alloc o).grown hgrow (fun k hk => .inl hk)
  refine ⟨?_, h.box.kept hF (owns_neB h.own h.box (by decide)), h.fr.join hF (fun k hk e => by have := owns_base h.own k e; omega)⟩
  have : evW (c.bag.take (q + 1)) = evW (c.bag.take q) ++ [.int .u32 ((y + 1 : Nat) : Int)] := by
    unfold evW
    rw [List.take_add_one, hy, List.map_append]
    rfl
  rw [this]; exact hown
section
variable {p : Pr} {t : St} {w : World}
/-- (*space).events -/
theorem eventsI (hp : PrOk p) (h : Inv p t w) (k : Nat) (c : Cmp) (hk : t.cps[k]? = some c) (hn : t.cps.length ≤ 1000001) :
    Calls Ybaf.prog 13 #[.pointer (some ⟨p.SP, 0, none⟩), .int .u32 (k : Int)] w fun e w' => ∃ (va : Option Addr) (vc : Nat), e = .returned (.slice va c.bag.length vc) ∧ w'.ownsRow w.heap.size 54 1 (.slice va c.bag.length vc) c.bag.length (evW c.bag) ∧ Fr (fun _ => False) w w' := by
  have hl := h.itl hp
  have hkl := (List.getElem?_eq_some_iff.1 hk).1
  obtain ⟨hlo, hsort, hb8, hbit, _⟩ := h.ok.cok c (List.mem_of_getElem? hk)
  have hnl := h.ok.nl
  have hnp := hp.np
  obtain ⟨cb, cc, hvc, hcb, hcc, hco⟩ := owns_at (C := cmC) (s := 6) (n := t.cps.length) (fun _ => rfl) h.cr (by omega)
  obtain ⟨lb, lc, hvl, hlb, hlc, hlo2⟩ := owns_at (C := loC) (s := 4) (n := t.nl) (fun _ => rfl) h.lr (by omega)
  obtain ⟨nc, hnc⟩ : ∃ nc, nc = t.cps.length := ⟨_, rfl⟩
  obtain ⟨bn, hbn⟩ : ∃ bn, bn = c.bag.length := ⟨_, rfl⟩
  obtain ⟨lo, hloe⟩ : ∃ lo, lo = c.lo := ⟨_, rfl⟩
  obtain ⟨ba, hbae⟩ : ∃ ba, ba = c.ba := ⟨_, rfl⟩
  have s10 : w.cell? ⟨p.SP, 10, none⟩ = some (.slice (some ⟨cb, 0, none⟩) nc cc) := by rw [hnc, ← hvc]; exact h.sp.sp.cell 10
  have s6 : w.cell? ⟨p.SP, 6, none⟩ = some (.slice (some ⟨lb, 0, none⟩) t.nl lc) := by rw [← hvl]; exact h.sp.sp.cell 6
  have f0 : w.cell? ⟨cb, k * 6, none⟩ = some (.int .u32 (lo : Int)) := by rw [hloe]; exact hco k c 0 hk (by omega)
  have f1 : w.cell? ⟨cb, k * 6 + 1, none⟩ = some (.slice ba bn c.bc) := by rw [hbn, hbae]; exact hco k c 1 hk (by omega)
  have f2 : w.cell? ⟨cb, k * 6 + 2, none⟩ = some (.int .u64 (c.ds : Int)) := hco k c 2 hk (by omega)
  have f3 : w.cell? ⟨cb, k * 6 + 3, none⟩ = some (.int .i32 0) := hco k c 3 hk (by omega)
  have f4 : w.cell? ⟨cb, k * 6 + 4, none⟩ = some (.int .i32 0) := hco k c 4 hk (by omega)
  have f5 : w.cell? ⟨cb, k * 6 + 5, none⟩ = some (.bool c.ak) := hco k c 5 hk (by omega)
  have l2 : w.cell? ⟨lb, lo * 4 + 2, none⟩ = some (.slice none 0 0) := by rw [hloe]; exact hlo2 c.lo c.lo 2 (by rw [List.getElem?_range hlo]) (by omega)
  have zk : (k : Int) < (nc : Int) := by omega
  have zl : (lo : Int) < (t.nl : Int) := by omega
  have hSP := h.sp.sp.lt
  obtain ⟨i54, hi54, hz54, hs54, hb54⟩ := info54'
  have HB := hide (h.bag c (List.mem_of_getElem? hk))
  have HSO := hide hsort
  have HBN := hide hbn
  have HBA := hide hbae
  have HX : Hid (∀ x ∈ c.bag, x < 128) := fun x hx => by
    obtain ⟨j, hj, _⟩ := hbit x hx
    have := (List.getElem?_eq_some_iff.1 hj).1
    omega
  have hbn8 : bn ≤ 8 := by omega
  have hnc6 : nc ≤ 1000001 := by omega
  have H0 : Hid (Evs w c 0 0 (.slice none 0 0) (w.alloc (.cells #[.int .u32 (lo : Int), .slice ba bn c.bc, .int .u64 (c.ds : Int), .int .i32 0, .int .i32 0, .bool c.ak] 64))) := by
    rw [hbn, hloe, hbae]
    exact ⟨owns_nil _ _ _ _, Blk.new w 64 [.int .u32 (c.lo : Int), .slice c.ba c.bag.length c.bc, .int .u64 (c.ds : Int), .int .i32 0, .int .i32 0, .bool c.ak], (Fr.refl _ w).alloc _⟩
  rw [← hbn]
  clear h hk hco hlo2 hvc hvl hnc hbn hloe hbae hlo hsort hbit hb8 hl hkl hnl hn hcc hlc
  go_enter Ybaf.func13, Ybaf.ntmps13
  go_wp2_with fail
  go_quiet (fail)
  have HD : Hid (Evs w c 0 0 (.slice none 0 0) ((w.alloc (.cells #[.int .u32 (lo : Int), .slice ba bn c.bc, .int .u64 (c.ds : Int), .int .i32 0, .int .i32 0, .bool c.ak] 64)).drewN nq)) := ⟨(unhide H0).own, (unhide H0).box, (unhide H0).fr.drewN nq⟩
  go_wp2_with fail
  clear H0 s10 s6 f0 f1 f2 f3 f4 f5 l2
  go_loopw [33, 6] (fun s33 s6 wr => ∃ (q : Nat) (va : Option Addr) (vc : Nat), s33 = .int .i64 q ∧ s6 = .slice va q vc ∧ q ≤ bn ∧ Hid (Evs w c 0 q (.slice va q vc) wr)) (fun s33 _ _ => bn - (intOf s33).toNat)
  case atStart => exact ⟨0, none, 0, rfl, rfl, by omega, HD⟩
  case round =>
    clear HD
    obtain ⟨q, va, vc, rfl, rfl, hq, hst⟩ := hrel
    by_cases hqn : q < bn
    · have z1 : (q : Int) < (bn : Int) := by omega
      have hqb : q < c.bag.length := by rw [← unhide HBN]; exact hqn
      obtain ⟨g, hg, hgl, hc⟩ := (unhide HB).cell hqb
      obtain ⟨y, hy⟩ : ∃ y, c.bag[q]? = some y := ⟨_, List.getElem?_eq_getElem hqb⟩
      have hyv : c.bag.toArray[q]! = y := by
        rw [getElem!_pos c.bag.toArray q (by simpa using hqb)]
        have := (List.getElem?_eq_some_iff.1 hy).2
        simpa using this
      rw [hyv] at hc
      have hy128 := unhide HX y (List.mem_of_getElem? hy)
      have c0 : wr.cell? ⟨g, q, none⟩ = some (.int .u32 (y : Int)) := cell_keptA (unhide hst).fr hc
      have b1 : wr.cell? ⟨w.heap.size, 1, none⟩ = some (.slice (some ⟨g, 0, none⟩) bn c.bc) := by rw [← hg, unhide HBN]; exact (unhide hst).box.cell 1
      have hg2 : ba = some ⟨g, 0, none⟩ := (unhide HBA).trans hg
      subst hg2
      obtain ⟨y1, hy1⟩ : ∃ y1, y1 = y + 1 := ⟨_, rfl⟩
      have e1 : (y : Int) + 1 = (y1 : Int) := by omega
      have e2 : IntKind.u32.wrap (y1 : Int) = (y1 : Int) := by rw [IntKind.wrap_u32]; omega
      have how := hide (owns_kept (unhide hst).own ((Fr.refl (fun _ => False) wr).alloc (.cells #[.int .u32 (y1 : Int)] 54)) (fun _ _ => id))
      have hnews := hide (World.news_of_block (Blk.new wr 54 [.int .u32 (y1 : Int)]))
      have hwr : w.heap.size ≤ wr.heap.size := (unhide hst).fr.size
      have HY := hide hy
      have HY1 := hide hy1
      by_cases hq0 : q = 0
      · have d1 : ((q : Int) == 0) = true := by simp; omega
        clear hy hy1 hc hyv hq0
        go_wp2_with (at_builtin; refine wpList_append_own_at _ (by rfl) _ _ _ (by rfl) w.heap.size 54 i54 (.int .u32 0) 1 4 Ybaf.underlying50 hi54 hz54 hs54 hb54 rfl (by omega) (.slice va q vc) q (evW (c.bag.take q)) (by rfl) how.out ⟨wr.heap.size, 0, none⟩ 1 1 [.int .u32 (y1 : Int)] (by rfl) (by rfl) hnews.out (by simp [Value.oneCell']) (by unfold maxLen; omega) (by omega) (by rw [World.size_alloc]; omega) ?_; intro v' w1 hown1 hgrow hnil hat; obtain ⟨a', c', rfl⟩ := owns_slice hown1; have Hn := hide ((unhide hst).put (unhide HY) (by rw [← unhide HY1]; exact hown1) hgrow); clear hown1 hgrow hnil hat)
        go_roundw
        case rel => exact ⟨q + 1, _, _, by go_num, rfl, by omega, Hn⟩
        case measure => (try simp [intOf]) <;> (try omega)
      · obtain ⟨r, hr⟩ : ∃ r, q = r + 1 := ⟨q - 1, by omega⟩
        have d1 : ((q : Int) == 0) = false := by simp; omega
        have er : (q : Int) - 1 = (r : Int) := by omega
        have hrb : r < c.bag.length := by omega
        obtain ⟨z, hz⟩ : ∃ z, c.bag[r]? = some z := ⟨_, List.getElem?_eq_getElem hrb⟩
        obtain ⟨g', hg', _, hcz⟩ := (unhide HB).cell hrb
        have hzv : c.bag.toArray[r]! = z := by
          rw [getElem!_pos c.bag.toArray r (by simpa using hrb)]
          have := (List.getElem?_eq_some_iff.1 hz).2
          simpa using this
        rw [hzv] at hcz
        have hgg : g' = g := by rw [hg] at hg'; injection hg' with hg'; injection hg' with hg'; exact hg'.symm
        rw [hgg] at hcz
        have cz : wr.cell? ⟨g, r, none⟩ = some (.int .u32 (z : Int)) := cell_keptA (unhide hst).fr hcz
        have hzy : z < y := by
          have h1 := (List.pairwise_iff_getElem.1 (unhide HSO)) r q hrb hqb (by omega)
          rw [(List.getElem?_eq_some_iff.1 hz).2, (List.getElem?_eq_some_iff.1 hy).2] at h1
          exact h1
        have d3 : ((z : Int) == (y : Int)) = false := by simp; omega
        have zr : (r : Int) < (bn : Int) := by omega
        clear hy hy1 hc hyv hz hcz hzv hg' hgg hr hq0
        go_wp2_with (at_builtin; refine wpList_append_own_at _ (by rfl) _ _ _ (by rfl) w.heap.size 54 i54 (.int .u32 0) 1 4 Ybaf.underlying50 hi54 hz54 hs54 hb54 rfl (by omega) (.slice va q vc) q (evW (c.bag.take q)) (by rfl) how.out ⟨wr.heap.size, 0, none⟩ 1 1 [.int .u32 (y1 : Int)] (by rfl) (by rfl) hnews.out (by simp [Value.oneCell']) (by unfold maxLen; omega) (by omega) (by rw [World.size_alloc]; omega) ?_; intro v' w1 hown1 hgrow hnil hat; obtain ⟨a', c', rfl⟩ := owns_slice hown1; have Hn := hide ((unhide hst).put (unhide HY) (by rw [← unhide HY1]; exact hown1) hgrow); clear hown1 hgrow hnil hat)
        go_roundw
        case rel => exact ⟨q + 1, _, _, by go_num, rfl, by omega, Hn⟩
        case measure => (try simp [intOf]) <;> (try omega)
    · obtain rfl : bn = q := by omega
      have z1 : decide ((bn : Int) < (bn : Int)) = false := by simp
      have HE : Hid (wr.ownsRow w.heap.size 54 1 (.slice va bn vc) bn (evW c.bag) ∧ Fr (fun _ => False) w wr) := by
        refine ⟨?_, (unhide hst).fr⟩
        have h1 := (unhide hst).own
        rw [List.take_of_length_le (by rw [unhide HBN]; exact Nat.le_refl _)] at h1
        exact h1
      go_wp2_with fail
      go_ret
      exact ⟨va, vc, rfl, HE.out⟩
end
end Go.Proofs.YbulkbrdiFmt
