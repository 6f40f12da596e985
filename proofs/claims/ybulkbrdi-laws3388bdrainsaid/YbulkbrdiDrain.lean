/-
  b3388a: LawS3388BDrain: the walk.
-/
import Derived.Test.YbulkbrdiGcd
import Derived.Test.YbulkbrdiModel
namespace Go.Proofs.Ybulkbrdi
open Go.RowKit
set_option linter.unusedVariables false
set_option linter.unusedSimpArgs false

/-- queue and record in step, the messages held told -/
structure SyncP (w : World) (Q N PB count : Nat) (P : Nat → Bool) (wr : World) : Prop where
  q : QOk wr Q N count P
  p : Blk wr PB 4 (recL count P)
  bel : Below w.heap.size w wr
  big : w.heap.size ≤ PB
  bigQ : w.heap.size ≤ Q
theorem keep4_drewN (w : World) (n : Nat) : Keep4 w (w.drewN n) := fun k e l h _ => h.drewN n
theorem SyncP.drewN {w wr : World} {Q N PB count : Nat} {P : Nat → Bool} (h : SyncP w Q N PB count P wr) (n : Nat) : SyncP w Q N PB count P (wr.drewN n) :=
  ⟨h.q.keep4 (keep4_drewN _ _), h.p.drewN n, h.bel.trans (below_quiet _ _ _), h.big, h.bigQ⟩

/-- behind the remove, ahead of the record's turn -/
structure HalfP (w : World) (Q N PB count y : Nat) (P : Nat → Bool) (wr : World) : Prop where
  q : QOk wr Q N count (remP P y)
  p : Blk wr PB 4 (recL count P)
  bel : Below w.heap.size w wr
  big : w.heap.size ≤ PB
  bigQ : w.heap.size ≤ Q

theorem QOk.Qlt {w : World} {Q N count : Nat} {P : Nat → Bool} (h : QOk w Q N count P) : Q < w.heap.size := by
  obtain ⟨X, hR, _⟩ := h.q
  obtain ⟨_, _, ⟨_, hb⟩ | ⟨_, _, _, hb, _⟩⟩ := hR
  · exact hb.lt
  · exact hb.lt

theorem SyncP.rem {w wr : World} {Q N PB count : Nat} {P : Nat → Bool} (h : SyncP w Q N PB count P wr) (hc : count ≤ 1200) (y : Nat) (x : Int) (hx : x = (y : Int)) :
    Calls Yba.prog 6 #[.pointer (some ⟨Q, 0, none⟩), .pointer (some ⟨wr.heap.size, 0, none⟩)] (wr.alloc (.cells (mcells x) 39)) fun e w' => e = .returned (.tuple #[]) ∧ HalfP w Q N PB count y P w' := by
  have hq1 := h.q.keep4 (keep4_alloc wr (.cells (mcells x) 39))
  refine (hq1.rem (by omega) (msg_new wr y x hx)).mono ?_
  rintro e w' ⟨rfl, hQ', hF'⟩
  have hb1 : Below w.heap.size w (wr.alloc (.cells (mcells x) 39)) := h.bel.alloc h.bel.size _
  exact ⟨rfl, ⟨hQ', hF'.blk (h.p.alloc _) (.inr (by decide)), hb1.trans ((hF'.below (Nat.le_of_lt hq1.Qlt)).mono h.bigQ), h.big, h.bigQ⟩⟩

theorem recL_set {count k y : Nat} {P : Nat → Bool} (hk : k < count) (hy : y = 2 * k) : (recL count P).set k (.bool false) = recL count (remP P y) := by
  apply List.ext_getElem?
  intro j
  rw [List.getElem?_set]
  unfold recL
  by_cases hj : j < count
  · rw [List.getElem?_map, List.getElem?_map, List.getElem?_range hj]
    by_cases hjk : k = j
    · subst hjk; simp [remP, hy, hj]
    · rw [if_neg hjk]
      simp only [Option.map_some, remP]
      have : (2 * j == y) = false := beq_eq_false_iff_ne.2 (by omega)
      rw [this]; simp
  · rw [List.getElem?_eq_none (by simp; omega), List.getElem?_eq_none (by simp; omega)]
    split
    · rename_i e; subst e; rw [if_neg (by simp; omega)]
    · rfl

theorem HalfP.set {w wr : World} {Q N PB count y : Nat} {P : Nat → Bool} (h : HalfP w Q N PB count y P wr) {k : Nat} (hk : k < count) (hy : y = 2 * k) : SyncP w Q N PB count (remP P y) (wr.setCell ⟨PB, k, none⟩ (.bool false)) := by
  refine ⟨h.q.keep4 (keep4_set h.p k _), ?_, h.bel.setCell h.big _, h.big, h.bigQ⟩
  have := h.p.setCell k (.bool false)
  rw [recL_set hk hy] at this; exact this

theorem SyncP.check {w wr : World} {Q N PB count : Nat} {P : Nat → Bool} (h : SyncP w Q N PB count P wr) (hc : count ≤ 1200) (mc pc : Nat) :
    Calls Yba.prog 7 #[.pointer (some ⟨Q, 0, none⟩), .slice (some ⟨N, 0, none⟩) count mc, .slice (some ⟨PB, 0, none⟩) count pc] wr fun e w' => e = .returned (.bool true) ∧ wr = w' :=
  (Sync.mk ⟨P, h.q, h.p⟩ h.bel h.big h.bigQ).check hc mc pc

/-- an empty queue -/
theorem QOk.none {w : World} {Q N count : Nat} {P : Nat → Bool} (h : QOk w Q N count P) (hP : ∀ k, k < count → P k = false) : ∃ a c, w.cell? ⟨Q, 0, Option.none⟩ = some (.slice a 0 c) := by
  obtain ⟨X, hR, hi, hh⟩ := h.q
  have hX : X = [] := by
    have h1 := holds_congr hh (P' := fun _ => false) hP
    unfold Holds at h1
    have h2 := pos_len (ne_of_pos hi.pos)
    rw [h1, List.length_map, List.filter_eq_nil_iff.2 (by simp)] at h2
    simpa using h2
  subst hX
  obtain ⟨_, _, ⟨_, hb⟩ | ⟨og, oc, L, hb, _, hx⟩⟩ := hR
  · exact ⟨_, _, by rw [hb.cell]; rfl⟩
  · have : L = [] := by simpa using hx
    subst this
    exact ⟨_, _, by rw [hb.cell]; rfl⟩

/-- which messages are left behind j rounds -/
def dP (a count j : Nat) : Nat → Bool := fun k => !((List.range j).any fun i => (i * a) % count == k)
theorem dP_succ (a count j : Nat) (k : Nat) : dP a count (j + 1) k = remP (dP a count j) (2 * ((j * a) % count)) k := by
  unfold dP remP
  rw [List.range_succ, List.any_append]
  have : (2 * k == 2 * ((j * a) % count)) = ((j * a) % count == k) := by
    rw [Bool.eq_iff_iff]; simp; omega
  rw [this]
  simp
theorem dP_end {a count : Nat} (hc : 0 < count) (hg : Nat.gcd a count = 1) : ∀ k, k < count → dP a count count k = false := by
  intro k hk
  obtain ⟨j, hj, e⟩ := onto hc hg k hk
  unfold dP
  simp
  exact ⟨j, hj, e⟩

theorem fill_doneP {w wr : World} {Q N PB count : Nat} (a : Nat) (h : Fill w Q N PB count count wr) : SyncP w Q N PB count (dP a count 0) wr := by
  obtain ⟨hq, hp⟩ := h.go
  have e : recL count (fun j => decide (j < count)) = recL count (dP a count 0) := by
    unfold recL
    apply List.map_congr_left
    intro j hj
    have := List.mem_range.1 hj
    simp [dP, this]
  exact ⟨hq.congr (fun k hk => by simp [dP]), by rw [← e]; exact hp, h.bel, h.big, h.bigQ⟩

theorem Fill.drewN {w wr : World} {Q N PB count k : Nat} (h : Fill w Q N PB count k wr) (n : Nat) : Fill w Q N PB count k (wr.drewN n) :=
  ⟨⟨h.go.1.keep4 (keep4_drewN _ _), h.go.2.drewN n⟩, h.bel.trans (below_quiet _ _ _), h.big, h.bigQ⟩

set_option maxHeartbeats 4000000 in
set_option maxRecDepth 100000 in
theorem drain_walk (n mu : Nat) (rev : Bool) (w : World) (hn : n ≤ 65535) (hmu : mu ≤ 65535) :
    Calls Yba.prog 4 #[.int .u16 n, .int .u16 mu, .bool rev] w fun e w' => e = .returned (.bool true) ∧ Below w.heap.size w w' := by
  obtain ⟨count, hcnt⟩ : ∃ count : Nat, (n : Int) % 1201 = (count : Int) := ⟨n % 1201, by omega⟩
  have hc : count ≤ 1200 := by omega
  have hmk := fun w => run_make_row' (P := Yba.prog) 28 4 (.bool false) 1 Yba.underlying28 Yba.info4 rfl .i64 .i64 count (by omega) (by omega) w
  rw [made_one] at hmk
  have HB := hide (build_any count rev w hc)
  go_enter Yba.func4, Yba.ntmps4
  go_wp2_with fail
  refine (unhide HB).mono ?_
  rintro e w1 ⟨rfl, hQ1, hb1, hs1⟩
  by_cases h0 : count = 0
  · subst h0
    have hq1 := hQ1.keep4 (keep4_alloc w1 (.cells (mcells 0) 39))
    have hrem := hq1.rem (by omega) (msg_new w1 0 0 rfl)
    have HR := hide hrem
    unfold mcells at HR
    have Hb1 := hide hb1
    have hQw : w.heap.size ≤ w.heap.size + 1 + 0 := by omega
    have hQl := hq1.Qlt
    have HQl := hide hQl
    clear hq1 hrem hmk HB hQ1 hb1 hs1 hQl
    have hcnt' : (n : Int) % 1201 = 0 := hcnt
    clear hcnt
    go_wp2_with fail
    refine (unhide HR).mono ?_
    rintro e w2 ⟨rfl, hQ2, hF2⟩
    obtain ⟨a, c, hcell⟩ := hQ2.none (fun k hk => by omega)
    have hbel : Hid (Below w.heap.size w w2) := by
      have h1 := (unhide Hb1).alloc (unhide Hb1).size (.cells (mcells 0) 39)
      exact h1.trans ((hF2.below (Nat.le_of_lt (unhide HQl))).mono hQw)
    clear HR hQ2 hF2
    go_wp2
    go_ret
    exact ⟨rfl, unhide hbel⟩
  · have h0' : ((count : Int) == 0) = false := beq_eq_false_iff_ne.2 (by omega)
    have hpos : 0 < count := by omega
    have HF := hide (fill_start hQ1 hb1 (by omega))
    obtain ⟨PB, hPB⟩ : ∃ PB, w1.heap.size = PB := ⟨_, rfl⟩
    rw [hPB] at HF
    clear hQ1 hb1 HB hs1
    go_wp2
    go_loopw [40] (fun s40 wr => ∃ k : Nat, s40 = .int .i64 k ∧ k ≤ count ∧ Hid (Fill w (w.heap.size + 1 + count) w.heap.size PB count k wr)) (fun s40 _ => count - (intOf s40).toNat)
    case atStart => exact ⟨0, rfl, by omega, HF⟩
    case round =>
      clear HF hmk
      obtain ⟨k, rfl, hk, hF⟩ := hrel
      by_cases hkc : k < count
      · obtain ⟨v, hcell⟩ := (unhide hF).cell hkc
        have hfz := (unhide hF).frozen k
        have hst := hide ((unhide hF).step hkc)
        go_wp2
        go_roundw
        case rel => exact ⟨k + 1, by go_num, by omega, hst⟩
        case measure => simp [intOf]; omega
      · obtain rfl : count = k := by omega
        clear hkc
        obtain ⟨a0, ha0⟩ : ∃ a0 : Nat, (mu : Int) % (count : Int) = (a0 : Int) := ⟨mu % count, by simp⟩
        have ha0c : a0 < count := by have := Int.emod_lt_of_pos (mu : Int) (by omega : (0 : Int) < (count : Int)); omega
        have hc1 : (1 : Int) ≤ (count : Int) := by omega
        go_wp2
        have HA0 := hide ha0
        clear ha0
        go_loopw [12] (fun s12 wr => ∃ a : Nat, s12 = .int .i64 a ∧ a ≤ count + 1 ∧ Hid (Fill w (w.heap.size + 1 + count) w.heap.size PB count count wr)) (fun s12 _ => count + 1 - (intOf s12).toNat)
        case atStart => exact ⟨1 + a0, by go_num, by omega, hF⟩
        case round =>
          clear hF
          obtain ⟨a, rfl, ha, hF⟩ := hrel
          have hgc := hide (gcd_any a count wr (by omega) (by omega))
          obtain ⟨g, hg⟩ : ∃ g, Nat.gcd a count = g := ⟨_, rfl⟩
          rw [hg] at hgc
          by_cases hg1 : g = 1
          · subst hg1
            have HG := hide hg
            have ha1 : a ≤ 1201 := by omega
            clear hg
            go_wp2_with fail
            refine (unhide hgc).mono ?_
            rintro e w2 ⟨rfl, nd, rfl⟩
            have hS0 := hide (fill_doneP a ((unhide hF).drewN nd))
            clear hgc hF
            go_wp2
            go_loopw [13] (fun s13 wr => ∃ j : Nat, s13 = .int .i64 j ∧ j ≤ count ∧ Hid (SyncP w (w.heap.size + 1 + count) w.heap.size PB count (dP a count j) wr)) (fun s13 _ => count - (intOf s13).toNat)
            case atStart => exact ⟨0, rfl, by omega, hS0⟩
            case round =>
              clear hS0
              obtain ⟨j, rfl, hj, hS⟩ := hrel
              by_cases hjc : j < count
              · obtain ⟨ja, hja⟩ : ∃ ja : Nat, (j : Int) * (a : Int) = (ja : Int) := ⟨j * a, by simp⟩
                have hjae : ja = j * a := by have : ((j * a : Nat) : Int) = (ja : Int) := by rw [← hja]; simp
                                             omega
                have hjal : ja ≤ 1441200 := by rw [hjae]; exact Nat.le_trans (Nat.mul_le_mul (by omega : j ≤ 1200) ha1) (by decide)
                obtain ⟨k, hk⟩ : ∃ k : Nat, (ja : Int) % (count : Int) = (k : Int) := ⟨ja % count, by simp⟩
                have hke : k = (j * a) % count := by have : ((ja % count : Nat) : Int) = (k : Int) := by rw [← hk]; simp
                                                     rw [← hjae]; omega
                have hkc : k < count := by rw [hke]; exact Nat.mod_lt _ hpos
                have hrem := hide ((unhide hS).rem hc (2 * k) (2 * (k : Int)) (by omega))
                unfold mcells at hrem
                have HKE := hide hke
                have HJE := hide hjae
                clear hke hjae hS
                go_wp2_with fail
                refine (unhide hrem).mono ?_
                rintro e w3 ⟨rfl, hH⟩
                have hcell : w3.cell? ⟨PB, k, none⟩ = some (.bool (dP a count j k)) := by rw [hH.p.cell, recL_get hkc]
                have hfz : w3.frozen? ⟨PB, k, none⟩ = false := hH.p.frozen _
                have hs2 := hH.set hkc rfl
                have hchk := hide (hs2.check hc count count)
                have hs3 : Hid (SyncP w (w.heap.size + 1 + count) w.heap.size PB count (dP a count (j + 1)) (w3.setCell ⟨PB, k, none⟩ (.bool false))) := by
                  have e : dP a count (j + 1) = remP (dP a count j) (2 * k) := by
                    funext q; rw [dP_succ, unhide HKE]
                  rw [e]; exact hs2
                obtain ⟨v, hv⟩ : ∃ v, dP a count j k = v := ⟨_, rfl⟩
                rw [hv] at hcell
                clear hH hrem hs2 hv
                go_wp2_with fail
                refine (unhide hchk).mono ?_
                rintro e w4 ⟨rfl, rfl⟩
                clear hchk hcell hfz
                go_wp2
                go_roundw
                case rel => exact ⟨j + 1, by go_num, by omega, hs3⟩
                case measure => simp [intOf]; omega
              · obtain rfl : count = j := by omega
                obtain ⟨qa, qc, hcell⟩ := (unhide hS).q.none (dP_end hpos (unhide HG))
                have hbel := hide (unhide hS).bel
                clear hS
                go_wp2_with (go_at_call 9; refine (empty_any _ _ _ _ _ hcell).mono ?_; rintro e w' ⟨rfl, rfl⟩)
                go_ret
                exact ⟨rfl, unhide hbel⟩
          · have hac : a ≤ count := by
              rcases Nat.lt_or_ge count a with h | h
              · exfalso
                have : a = count + 1 := by omega
                apply hg1
                rw [← hg, this]
                simp
              · exact h
            have hne : ((g : Int) != 1) = true := by simp; omega
            have HG := hide hg
            clear hg hg1
            go_wp2_with fail
            refine (unhide hgc).mono ?_
            rintro e w2 ⟨rfl, nd, rfl⟩
            have hF2 := hide ((unhide hF).drewN nd)
            clear hgc hF
            go_wp2
            go_roundw
            case rel => exact ⟨a + 1, by go_num, by omega, hF2⟩
            case measure => simp [intOf]; omega
end Go.Proofs.Ybulkbrdi
