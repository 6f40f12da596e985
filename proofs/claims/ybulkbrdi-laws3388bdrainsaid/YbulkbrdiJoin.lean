/-
  b3388a: (*queue).join.
-/
import Derived.Test.YbulkbrdiFind2
import Derived.Test.YbulkbrdiClone
import Derived.Deep.RegionHeld3
import Derived.BigQuiet
import Derived.Deep.DeepCutAuto
namespace Go.Proofs.Ybulkbrdi
open Go.RowKit
set_option linter.unusedVariables false
set_option linter.unusedSimpArgs false

theorem below_quiet (B : Nat) (w : World) (n : Nat) : Below B w (w.drewN n) := ⟨rfl, rfl, rfl, Nat.le_refl _, fun _ _ => rfl⟩

set_option maxHeartbeats 400000 in
theorem join_neg (Q : Nat) (b : Int) (w : World) (hb : b < 0) :
    Calls Yba.prog 14 #[.pointer (some ⟨Q, 0, none⟩), .int .i64 b] w fun e w' => e = .returned (.tuple #[]) ∧ Below w.heap.size w w' := by
  have hd : decide (b < 0) = true := by simpa using hb
  go_enter Yba.func14, Yba.ntmps14
  go_wp2
  go_quiet (fail)
  go_wp2
  go_returns
  exact ⟨rfl, below_quiet _ _ _⟩

set_option maxHeartbeats 400000 in
theorem join_past (Q n c : Nat) (a : Option Addr) (b : Nat) (w : World) (hq : w.cell? ⟨Q, 0, none⟩ = some (.slice a n c)) (hb : n ≤ b + 1) (hb2 : b ≤ 1000000) :
    Calls Yba.prog 14 #[.pointer (some ⟨Q, 0, none⟩), .int .i64 b] w fun e w' => e = .returned (.tuple #[]) ∧ Below w.heap.size w w' := by
  have hd : decide ((b : Int) < 0) = false := by simp
  have hd2 : decide ((n : Int) ≤ (b : Int) + 1) = true := by simp; omega
  go_enter Yba.func14, Yba.ntmps14
  go_wp2
  go_quiet (fail)
  go_wp2
  go_returns
  exact ⟨rfl, below_quiet _ _ _⟩

set_option maxHeartbeats 400000 in
theorem join_big (Q n c og b n1 c1 n2 c2 : Nat) (a1 a2 : Option Addr) (w : World) (hq : w.cell? ⟨Q, 0, none⟩ = some (.slice (some ⟨og, 0, none⟩) n c)) (hb : b + 1 < n) (hb2 : n ≤ 1000000)
    (h1 : w.cell? ⟨og, b, none⟩ = some (.slice a1 n1 c1)) (h2 : w.cell? ⟨og, b + 1, none⟩ = some (.slice a2 n2 c2)) (hs : 256 < n1 + n2) (hn1 : n1 ≤ 1000000) (hn2 : n2 ≤ 1000000) :
    Calls Yba.prog 14 #[.pointer (some ⟨Q, 0, none⟩), .int .i64 b] w fun e w' => e = .returned (.tuple #[]) ∧ Below w.heap.size w w' := by
  have hd : decide ((b : Int) < 0) = false := by simp
  have hd2 : decide ((n : Int) ≤ (b : Int) + 1) = false := by simp; omega
  have hd3 : decide ((256 : Int) < (n1 : Int) + (n2 : Int)) = true := by simp; omega
  have e1 : (b : Int) < (n : Int) := by omega
  have e2 : (b : Int) + 1 < (n : Int) := by omega
  go_enter Yba.func14, Yba.ntmps14
  go_wp2
  go_quiet (fail)
  go_wp2
  go_returns
  exact ⟨rfl, below_quiet _ _ _⟩

/-- behind the append and the store of join -/
def JoinMid (w : World) (Q n c og b g1 n1 n2 : Nat) (A tail xs1 xs2 : List Value) (wc : World) : Prop :=
  ∃ g' c' tl, Blk wc Q 44 [.slice (some ⟨og, 0, none⟩) n c] ∧ Blk wc og 25 (A.set b (.slice (some ⟨g', 0, none⟩) (n1 + n2) c') ++ tail) ∧
    Blk wc g' 30 (xs1 ++ xs2 ++ tl) ∧ n1 + n2 + tl.length = c' ∧ c' ≤ 9223372036854775807 ∧ (g' = g1 ∨ w.heap.size ≤ g') ∧ Fr (fun k => k = Q ∨ k = og ∨ k = g1) w wc

theorem joinMid_mk {w W w1 : World} {Q n c og b g1 n1 c1 n2 g' c' : Nat} {A tail xs1 xs2 : List Value}
    (hown1 : w1.ownsRow 0 30 1 (.slice (some ⟨g', 0, none⟩) (n1 + n2) c') (n1 + n2) (xs1 ++ xs2)) (hgrow : W.grownBy w1 (Value.slice (some ⟨g1, 0, none⟩) n1 c1).ownBlock)
    (hat : (Value.slice (some ⟨g1, 0, none⟩) n1 c1).ownBlock = some g' ∨ g' = W.heap.size) (hW : W.heap = w.heap ∧ W.os = w.os ∧ W.tape = w.tape ∧ W.output = w.output)
    (hq : Blk w Q 44 [.slice (some ⟨og, 0, none⟩) n c]) (ho : Blk w og 25 (A ++ tail)) (hb : b < A.length) (hQo : Q ≠ og) (hQ1 : Q ≠ g1) (ho1 : og ≠ g1) (hg1 : g1 < w.heap.size) :
    JoinMid w Q n c og b g1 n1 n2 A tail xs1 xs2 (w1.setCell ⟨og, b, none⟩ (.slice (some ⟨g', 0, none⟩) (n1 + n2) c')) := by
  obtain ⟨hh, h2, h3, h4⟩ := hW
  obtain ⟨tl, hB, hl, hc, hm, _⟩ := blk_of_owns hown1
  have hat' : g' = g1 ∨ g' = w.heap.size := by
    rcases hat with h | h
    · left; simpa [Value.ownBlock] using h.symm
    · right; rw [h, hh]
  have hol := ho.lt
  have hog' : og ≠ g' := by rcases hat' with h | h <;> omega
  have hF : Fr (fun k => k = Q ∨ k = og ∨ k = g1) w w1 := by
    have := (Fr.refl (fun k => k = Q ∨ k = og ∨ k = g1) W).grown hgrow (fun k hk => by simp [Value.ownBlock] at hk; exact .inl (.inr (.inr hk.symm)))
    exact ⟨this.os.trans h2, this.tape.trans h3, this.output.trans h4, hh ▸ this.size, fun k hk hn => (this.block k (by rw [hh]; exact hk) hn).trans (by rw [hh])⟩
  have keep : ∀ {g e : Nat} {l : List Value}, Blk w g e l → g ≠ g1 → Blk w1 g e l := fun {g e l} h hn => by
    have := hgrow.block g (by rw [hh]; exact h.lt) (by simpa [Value.ownBlock] using hn)
    unfold Blk at *; rw [this, hh]; exact h
  refine ⟨g', c', tl, (keep hq hQ1).setCell_other (fun e => hQo e.symm) _, ?_, hB.setCell_other hog' _, hc, by unfold maxLen at hm; omega, by rcases hat' with h | h; exact .inl h; exact .inr (by omega), hF.setCell (.inl (.inr (.inl rfl))) _⟩
  have := (keep ho ho1).setCell b (.slice (some ⟨g', 0, none⟩) (n1 + n2) c')
  rw [List.set_append_left _ _ hb] at this
  exact this

set_option maxHeartbeats 2000000 in
set_option maxRecDepth 100000 in
theorem join_low (Q n c og b g1 n1 c1 g2 n2 c2 : Nat) (A tail xs1 t1 xs2 t2 : List Value) (w : World)
    (hq : Blk w Q 44 [.slice (some ⟨og, 0, none⟩) n c]) (ho : Blk w og 25 (A ++ tail)) (hAl : A.length = n) (hoc : n + tail.length = c) (hc63 : c ≤ 9223372036854775807)
    (hb : b + 1 < n) (hb2 : n ≤ 100000)
    (h1 : A[b]? = some (.slice (some ⟨g1, 0, none⟩) n1 c1)) (h2 : A[b + 1]? = some (.slice (some ⟨g2, 0, none⟩) n2 c2)) (hs : n1 + n2 ≤ 256) (hn2 : 0 < n2)
    (hr1 : Blk w g1 30 (xs1 ++ t1)) (hl1 : xs1.length = n1) (hc1 : n1 + t1.length = c1) (hm1 : c1 ≤ 9223372036854775807)
    (hr2 : Blk w g2 30 (xs2 ++ t2)) (hl2 : xs2.length = n2) (hx2 : ∀ u ∈ xs2, u.oneCell' = true) (hA1 : ∀ u ∈ A, u.oneCell' = true) (hne : g1 ≠ g2) :
    Calls Yba.prog 14 #[.pointer (some ⟨Q, 0, none⟩), .int .i64 b] w fun e w' => e = .returned (.tuple #[]) ∧ ∃ g' c' tl,
      Blk w' Q 44 [.slice (some ⟨og, 0, none⟩) (n - 1) c] ∧ Blk w' og 25 (delL (A.set b (.slice (some ⟨g', 0, none⟩) (n1 + n2) c')) (b + 1) (.slice none 0 0) ++ tail) ∧
      Blk w' g' 30 (xs1 ++ xs2 ++ tl) ∧ n1 + n2 + tl.length = c' ∧ c' ≤ 9223372036854775807 ∧ (g' = g1 ∨ w.heap.size ≤ g') ∧ Fr (fun k => k = Q ∨ k = og ∨ k = g1) w w' := by
  obtain ⟨i0, hi0, hz0, hz1, hz2⟩ := info_parts Yba.info30
  have hQo : Q ≠ og := fun e => by subst e; unfold Blk at hq ho; rw [hq] at ho; simp at ho
  have hQ1 : Q ≠ g1 := fun e => by subst e; unfold Blk at hq hr1; rw [hq] at hr1; simp at hr1
  have ho1 : og ≠ g1 := fun e => by subst e; unfold Blk at ho hr1; rw [ho] at hr1; simp at hr1
  have hown := owns_of_blk hr1 hl1 hc1 (by unfold maxLen; omega)
  have hnews : ∀ k j u, xs2[j]? = some u → (w.drewN k).drew.cell? ((⟨g2, 0, none⟩ : Addr).add j) = some u := fun k j u hu => by
    rw [Addr.add_lit, World.cell?_drew, (hr2.drewN k).cell, Nat.zero_add, ← hu, List.getElem?_append_left (List.getElem?_eq_some_iff.1 hu).1]
  have X : Hid (∀ k, (w.drewN k).drew.ownsRow 0 30 1 (.slice (some ⟨g1, 0, none⟩) n1 c1) n1 xs1) := fun _ => hown
  have Y := hide hnews
  have Z := hide hx2
  have LL : Hid (xs2.length = n2 * 1) := by rw [Nat.mul_one]; exact hl2
  have hd : decide ((b : Int) < 0) = false := by simp
  have hd2 : decide ((n : Int) ≤ (b : Int) + 1) = false := by simp; omega
  have hd3 : decide ((256 : Int) < (n1 : Int) + (n2 : Int)) = false := by simp; omega
  have e1 : (b : Int) < (n : Int) := by omega
  have e2 : (b : Int) + 1 < (n : Int) := by omega
  have e0 : (0 : Int) ≤ (b : Int) := by omega
  have e3 : (0 : Int) ≤ (b : Int) + 1 := by omega
  have ew : IntKind.i64.wrap ((b : Int) + 1) = (b : Int) + 1 := by rw [IntKind.wrap_i64]; omega
  have et : ((b : Int) + 1).toNat = b + 1 := by omega
  have hq' : w.cell? ⟨Q, 0, none⟩ = some (.slice (some ⟨og, 0, none⟩) n c) := by rw [hq.cell]; rfl
  have h1' : w.cell? ⟨og, b, none⟩ = some (.slice (some ⟨g1, 0, none⟩) n1 c1) := by rw [ho.cell, List.getElem?_append_left (by omega), h1]
  have h2' : w.cell? ⟨og, b + 1, none⟩ = some (.slice (some ⟨g2, 0, none⟩) n2 c2) := by rw [ho.cell, List.getElem?_append_left (by omega), h2]
  have hf' : w.frozen? ⟨og, b, none⟩ = false := ho.frozen _
  have hQl := hq.lt
  have hol := ho.lt
  have HQ := hide hq
  have HO := hide ho
  have HA := hide hA1
  have hg1 := hr1.lt
  clear hown hnews hx2 hq ho h1 h2 hr1 hr2 hA1
  go_enter Yba.func14, Yba.ntmps14
  go_wp2
  go_quiet (fail)
  go_wp2
  go_cut [1] (fun s wc => s = .int .i64 b ∧ JoinMid w Q n c og b g1 n1 n2 A tail xs1 xs2 wc)
  case first =>
    go_region_law ((refine step_append_lies _ (by rfl) _ _ _ (by rfl) 0 30 i0 (.pointer none) 1 8 Yba.underlying25 hi0 hz0 hz1 hz2 rfl (by omega) _ n1 xs1 (by rfl) (X.out _) ⟨g2, 0, none⟩ n2 c2 xs2 (by rfl) LL.out (Y.out _) Z.out hn2 (by unfold maxLen; omega) (by omega) (Nat.zero_le _) _ rfl ?_; intro g' c' w1 hown1 hgrow hat hlt; have k0 : w1.cell? ⟨Q, 0, none⟩ = some (.slice (some ⟨og, 0, none⟩) n c) := (hgrow.cell_far _ hQl (by simpa [Value.ownBlock] using hQ1)).trans hq'; have k1 : w1.cell? ⟨og, b, none⟩ = some (.slice (some ⟨g1, 0, none⟩) n1 c1) := (hgrow.cell_far _ hol (by simpa [Value.ownBlock] using ho1)).trans h1'; have k2 : w1.frozen? ⟨og, b, none⟩ = false := (hgrow.frozen_far _ hol (by simpa [Value.ownBlock] using ho1)).trans hf'))
    all_goals
      go_wp2_with fail
      go_meet
      case rel => exact ⟨rfl, joinMid_mk hown1 hgrow hat ⟨rfl, rfl, rfl, rfl⟩ HQ.out HO.out (by omega) hQo hQ1 ho1 hg1⟩
  case rest =>
    obtain ⟨rfl, g', c', tl, mq, mo, mr, ml, mm, mg, mf⟩ := hcut
    have hAs : (A.set b (.slice (some ⟨g', 0, none⟩) (n1 + n2) c')).length = n := by simp [hAl]
    have hdl := del25_any og n c (b + 1) _ tail wc mo hAs hoc hc63 (by omega) (fun u hu => by
      rcases List.mem_or_eq_of_mem_set hu with h | h
      · exact HA.out u h
      · rw [h]; rfl)
    rw [show ((b + 1 : Nat) : Int) = (b : Int) + 1 from by omega, show ((b + 1 + 1 : Nat) : Int) = (b : Int) + 2 from by omega] at hdl
    have HD := hide hdl
    have k0 : wc.cell? ⟨Q, 0, none⟩ = some (.slice (some ⟨og, 0, none⟩) n c) := by rw [mq.cell]; rfl
    have hQg : Q ≠ g' := fun e => by subst e; unfold Blk at mq mr; rw [mq] at mr; simp at mr
    have hog' : og ≠ g' := fun e => by subst e; unfold Blk at mo mr; rw [mo] at mr; simp at mr
    have MQ := hide mq
    have MR := hide mr
    clear hdl mo mq mr hAs HA HO HQ
    go_wp2_with fail
    refine (unhide HD).mono ?_
    rintro e w2 ⟨rfl, hB2, hF2⟩
    have q2 : Blk w2 Q 44 [.slice (some ⟨og, 0, none⟩) n c] := (unhide MQ).kept hF2 (fun e => hQo e)
    have k2 : w2.cell? ⟨Q, 0, none⟩ = some (.slice (some ⟨og, 0, none⟩) n c) := by rw [q2.cell]; rfl
    have k3 : w2.frozen? ⟨Q, 0, none⟩ = false := q2.frozen _
    have Q2 := hide q2
    have B2 := hide hB2
    have R2 := hide ((unhide MR).kept hF2 (fun e => hog' e.symm))
    have F2 := hide hF2
    clear q2 hB2 hF2
    go_wp2
    go_returns
    refine ⟨rfl, g', c', tl, ?_, ?_, ?_, ml, mm, mg, ?_⟩
    · exact (unhide Q2).setCell 0 _
    · exact (unhide B2).setCell_other hQo _
    · exact (unhide R2).setCell_other hQg _
    · exact (mf.trans ((unhide F2).mono (fun k _ hk => .inr (.inl hk)))).setCell (.inl (.inl rfl)) _

end Go.Proofs.Ybulkbrdi
