/-
  b3388a: zzs3388bcheck.
-/
import Derived.Test.YbulkbrdiPlain2
import Derived.Lib.Builder
namespace Go.Proofs.Ybulkbrdi
open Go.RowKit
set_option linter.unusedVariables false
set_option linter.unusedSimpArgs false

/-- the messages held from number p on -/
def Rest (M : Nat → Nat) (count : Nat) (P : Nat → Bool) (p : Nat) : List Nat := (((List.range count).drop p).filter P).map M

theorem rest_zero (M : Nat → Nat) (count : Nat) (P : Nat → Bool) : Rest M count P 0 = ((List.range count).filter P).map M := rfl
theorem rest_at {M : Nat → Nat} {count : Nat} {P : Nat → Bool} {p : Nat} (hp : p < count) : Rest M count P p = if P p then M p :: Rest M count P (p + 1) else Rest M count P (p + 1) := by
  unfold Rest
  have : (List.range count).drop p = p :: (List.range count).drop (p + 1) := by
    rw [List.drop_eq_getElem_cons (by simpa using hp)]; simp
  rw [this, List.filter_cons]
  split <;> simp
theorem rest_past {M : Nat → Nat} {count : Nat} {P : Nat → Bool} {p : Nat} (hp : count ≤ p) : Rest M count P p = [] := by
  unfold Rest; rw [List.drop_of_length_le (by simpa using hp)]; rfl

theorem neq_same (a : Addr) (w : World) : (binOp .neq 30 (.pointer (some a)) (.pointer (some a))).run Yba.prog w = .ok (.bool false) w := by
  obtain ⟨j, hj⟩ : ∃ j, Yba.prog.info? 39 = some j := Option.isSome_iff_exists.1 (by kernel_rfl)
  exact Lib.run_neq_ptr_same w a Yba.underlying30 hj

structure ChkIn (w : World) (Q MB PB og oc count : Nat) (L : List Bk) (X : List (List Nat)) (M : Nat → Nat) (P : Nat → Bool) : Prop where
  q : w.cell? ⟨Q, 0, none⟩ = some (.slice (some ⟨og, 0, none⟩) L.length oc)
  o : ∀ j b, L[j]? = some b → w.cell? ⟨og, j, none⟩ = some (.slice (some ⟨b.g, 0, none⟩) b.ms.length b.cap)
  inn : ∀ b ∈ L, ∀ j m, b.ms[j]? = some m → w.cell? ⟨b.g, j, none⟩ = some (.pointer (some ⟨m, 0, none⟩))
  ms : ∀ k, k < count → w.cell? ⟨MB, k, none⟩ = some (.pointer (some ⟨M k, 0, none⟩))
  ps : ∀ k, k < count → w.cell? ⟨PB, k, none⟩ = some (.bool (P k))
  xs : L.map Bk.ms = X

set_option maxHeartbeats 2000000 in
set_option maxRecDepth 100000 in
theorem check_some (w : World) (Q MB PB og oc count mc pc : Nat) (L : List Bk) (X : List (List Nat)) (M : Nat → Nat) (P : Nat → Bool) (h : ChkIn w Q MB PB og oc count L X M P) (hc : count ≤ 10000) (hi : Inv X) (hh : Holds M count P X) (hX : X.length ≤ 10000) :
    Calls Yba.prog 7 #[.pointer (some ⟨Q, 0, none⟩), .slice (some ⟨MB, 0, none⟩) count mc, .slice (some ⟨PB, 0, none⟩) count pc] w fun e w' => e = .returned (.bool true) ∧ w = w' := by
  have hq := h.q
  have hlen : L.length = X.length := by rw [← h.xs]; simp
  have hL : L.length ≤ 10000 := by omega
  have H := hide h
  have HI := hide hi
  have HH := hide hh
  have HLen := hide hlen
  clear h hi hh hlen
  go_enter Yba.func7, Yba.ntmps7
  go_wp2
  go_loop [7, 17] (fun s7 s17 => ∃ p b : Nat, s7 = .int .i64 p ∧ s17 = .int .i64 b ∧ p ≤ count ∧ b ≤ L.length ∧ Hid ((X.drop b).flatten = Rest M count P p)) (fun _ s17 => L.length - (intOf s17).toNat)
  case atStart => exact ⟨0, 0, rfl, rfl, by omega, by omega, by have := unhide HH; exact this⟩
  case round =>
    obtain ⟨p, b, rfl, rfl, hp, hb, hrest⟩ := hrel
    by_cases hbl : b < L.length
    · obtain ⟨bk, ebk⟩ : ∃ bk, bk = L[b] := ⟨_, rfl⟩
      have hLb : L[b]? = some bk := by rw [ebk]; exact List.getElem?_eq_getElem hbl
      have hXb : X[b]? = some bk.ms := by rw [← (unhide H).xs, List.getElem?_map, hLb]; rfl
      have hbm := List.mem_of_getElem? hLb
      have hob := (unhide H).o b bk hLb
      have hpos : 0 < bk.ms.length := by have := (unhide HI).pos b (by have := unhide HLen; omega); rwa [ln_some hXb] at this
      have hfit : bk.ms.length ≤ 256 := by have := (unhide HI).fit b; rwa [ln_some hXb] at this
      have t1 : ((bk.ms.length : Int) == 0) = false := beq_eq_false_iff_ne.2 (by omega)
      have t2 : decide ((256 : Int) < (bk.ms.length : Int)) = false := by simp; omega
      have hst : Hid (bk.ms.drop 0 ++ (X.drop (b + 1)).flatten = Rest M count P p) := by
        have h1 : (X.drop b).flatten = Rest M count P p := hrest
        obtain ⟨hb', e⟩ := List.getElem?_eq_some_iff.1 hXb
        rw [List.drop_eq_getElem_cons hb', List.flatten_cons, e] at h1
        exact h1
      have HLb := hide hLb
      have HXb := hide hXb
      have hinn : Hid (∀ j m, bk.ms[j]? = some m → w.cell? ⟨bk.g, j, none⟩ = some (.pointer (some ⟨m, 0, none⟩))) := (unhide H).inn bk hbm
      clear hLb hXb ebk hrest
      have hgo : (b = 0 ∧ decide (0 < b) = false) ∨ (decide ((0 : Int) < (b : Int)) = true ∧ 1 ≤ b ∧ ∃ n1 a1 c1, w.cell? ⟨og, b - 1, none⟩ = some (.slice a1 n1 c1) ∧ decide ((n1 : Int) + (bk.ms.length : Int) ≤ 256) = false ∧ n1 ≤ 256) := by
        by_cases hb0 : b = 0
        · left; subst hb0; exact ⟨rfl, by simp⟩
        · right
          have h1 : L[b - 1]? = some L[b - 1] := List.getElem?_eq_getElem (by omega)
          have h2 : X[b - 1]? = some L[b - 1].ms := by rw [← (unhide H).xs, List.getElem?_map, h1]; rfl
          have h3 := (unhide HI).nbr (b - 1) (by have := unhide HLen; omega)
          rw [show b - 1 + 1 = b by omega, ln_some h2, ln_some (unhide HXb)] at h3
          have h4 := (unhide HI).fit (b - 1)
          rw [ln_some h2] at h4
          exact ⟨by simp; omega, by omega, _, _, _, (unhide H).o _ _ h1, by simp; omega, h4⟩
      have hb1 : b - 1 < L.length := by omega
      rcases hgo with ⟨hb0, t3⟩ | ⟨t3, t5, n1, a1, c1, hpc, t4, hpf⟩
      · have HB0 := hide hb0
        clear hb0
        go_wp2
        all_goals
          go_loop [7, 49] (fun s7 s49 => ∃ p j : Nat, s7 = .int .i64 p ∧ s49 = .int .i64 j ∧ p ≤ count ∧ j ≤ bk.ms.length ∧ Hid (bk.ms.drop j ++ (X.drop (b + 1)).flatten = Rest M count P p)) (fun _ s49 => bk.ms.length - (intOf s49).toNat)
          case atStart => exact ⟨p, 0, rfl, rfl, hp, by omega, hst⟩
          case round =>
            clear hst hp
            obtain ⟨p, j, rfl, rfl, hp, hj, hrest⟩ := hrel
            by_cases hjl : j < bk.ms.length
            · have hcj := unhide hinn j _ (List.getElem?_eq_getElem hjl)
              have hr2 : Hid (bk.ms[j] :: (bk.ms.drop (j + 1) ++ (X.drop (b + 1)).flatten) = Rest M count P p) := by
                have := unhide hrest
                rw [List.drop_eq_getElem_cons hjl] at this; exact this
              obtain ⟨m, em⟩ : ∃ m, m = bk.ms[j] := ⟨_, rfl⟩
              rw [← em] at hcj hr2
              clear em hrest
              go_wp2
              go_loop [7] (fun s7 => ∃ p : Nat, s7 = .int .i64 p ∧ p < count ∧ Hid (m :: (bk.ms.drop (j + 1) ++ (X.drop (b + 1)).flatten) = Rest M count P p)) (fun s7 => count - (intOf s7).toNat)
              case atStart =>
                refine ⟨p, rfl, ?_, hr2⟩
                rcases Nat.lt_or_ge p count with h | h
                · exact h
                · have := unhide hr2; rw [rest_past h] at this; cases this
              case round =>
                clear hr2 hp
                obtain ⟨p, rfl, hp, hr2⟩ := hrel
                have hpp := (unhide H).ps p hp
                have hmp := (unhide H).ms p hp
                have hat := rest_at (M := M) (P := P) hp
                cases hP : P p with
                | false =>
                  rw [hP] at hpp hat
                  have HAT := hide hat
                  clear hat hP
                  go_wp2
                  go_round
                  case rel =>
                    have e := unhide hr2
                    rw [unhide HAT] at e
                    simp only [Bool.false_eq_true, if_false] at e
                    refine ⟨p + 1, by go_num, ?_, e⟩
                    rcases Nat.lt_or_ge (p + 1) count with h | h
                    · exact h
                    · rw [rest_past h] at e; cases e
                  case measure => simp [intOf]; omega
                | true =>
                  rw [hP] at hpp hat
                  have e := unhide hr2
                  rw [hat, if_pos rfl] at e
                  obtain ⟨e1, e2⟩ := List.cons.inj e
                  subst e1
                  have E2 := hide e2
                  clear hat hP e e2
                  have hns := neq_same ⟨M p, 0, none⟩ w
                  go_wp2
                  go_round
                  case rel => exact ⟨p + 1, j + 1, by go_num, by go_num, by omega, by omega, E2⟩
                  case measure => simp [intOf]; omega
            · have ej : j = bk.ms.length := by omega
              have e := unhide hrest
              rw [ej, List.drop_length, List.nil_append] at e
              have HE := hide e
              clear ej e hrest
              go_wp2
              go_round
              case rel => exact ⟨p, b + 1, rfl, by go_num, hp, by omega, HE⟩
              case measure => simp [intOf]; omega
      · go_wp2
        all_goals
          go_loop [7, 49] (fun s7 s49 => ∃ p j : Nat, s7 = .int .i64 p ∧ s49 = .int .i64 j ∧ p ≤ count ∧ j ≤ bk.ms.length ∧ Hid (bk.ms.drop j ++ (X.drop (b + 1)).flatten = Rest M count P p)) (fun _ s49 => bk.ms.length - (intOf s49).toNat)
          case atStart => exact ⟨p, 0, rfl, rfl, hp, by omega, hst⟩
          case round =>
            clear hst hp
            obtain ⟨p, j, rfl, rfl, hp, hj, hrest⟩ := hrel
            by_cases hjl : j < bk.ms.length
            · have hcj := unhide hinn j _ (List.getElem?_eq_getElem hjl)
              have hr2 : Hid (bk.ms[j] :: (bk.ms.drop (j + 1) ++ (X.drop (b + 1)).flatten) = Rest M count P p) := by
                have := unhide hrest
                rw [List.drop_eq_getElem_cons hjl] at this; exact this
              obtain ⟨m, em⟩ : ∃ m, m = bk.ms[j] := ⟨_, rfl⟩
              rw [← em] at hcj hr2
              clear em hrest
              go_wp2
              go_loop [7] (fun s7 => ∃ p : Nat, s7 = .int .i64 p ∧ p < count ∧ Hid (m :: (bk.ms.drop (j + 1) ++ (X.drop (b + 1)).flatten) = Rest M count P p)) (fun s7 => count - (intOf s7).toNat)
              case atStart =>
                refine ⟨p, rfl, ?_, hr2⟩
                rcases Nat.lt_or_ge p count with h | h
                · exact h
                · have := unhide hr2; rw [rest_past h] at this; cases this
              case round =>
                clear hr2 hp
                obtain ⟨p, rfl, hp, hr2⟩ := hrel
                have hpp := (unhide H).ps p hp
                have hmp := (unhide H).ms p hp
                have hat := rest_at (M := M) (P := P) hp
                cases hP : P p with
                | false =>
                  rw [hP] at hpp hat
                  have HAT := hide hat
                  clear hat hP
                  go_wp2
                  go_round
                  case rel =>
                    have e := unhide hr2
                    rw [unhide HAT] at e
                    simp only [Bool.false_eq_true, if_false] at e
                    refine ⟨p + 1, by go_num, ?_, e⟩
                    rcases Nat.lt_or_ge (p + 1) count with h | h
                    · exact h
                    · rw [rest_past h] at e; cases e
                  case measure => simp [intOf]; omega
                | true =>
                  rw [hP] at hpp hat
                  have e := unhide hr2
                  rw [hat, if_pos rfl] at e
                  obtain ⟨e1, e2⟩ := List.cons.inj e
                  subst e1
                  have E2 := hide e2
                  clear hat hP e e2
                  have hns := neq_same ⟨M p, 0, none⟩ w
                  go_wp2
                  go_round
                  case rel => exact ⟨p + 1, j + 1, by go_num, by go_num, by omega, by omega, E2⟩
                  case measure => simp [intOf]; omega
            · have ej : j = bk.ms.length := by omega
              have e := unhide hrest
              rw [ej, List.drop_length, List.nil_append] at e
              have HE := hide e
              clear ej e hrest
              go_wp2
              go_round
              case rel => exact ⟨p, b + 1, rfl, by go_num, hp, by omega, HE⟩
              case measure => simp [intOf]; omega
    · have eb : b = L.length := by omega
      have e := unhide hrest
      rw [List.drop_of_length_le (by have := unhide HLen; omega), List.flatten_nil] at e
      have hr2 : Hid (Rest M count P p = []) := e.symm
      clear e eb hrest
      go_wp2
      go_loop [7] (fun s7 => ∃ p : Nat, s7 = .int .i64 p ∧ p ≤ count ∧ Hid (Rest M count P p = [])) (fun s7 => count - (intOf s7).toNat)
      case atStart => exact ⟨p, rfl, hp, hr2⟩
      case round =>
        clear hr2 hp
        obtain ⟨p, rfl, hp, hr2⟩ := hrel
        by_cases hpc : p < count
        · have hpp := (unhide H).ps p hpc
          have hat := rest_at (M := M) (P := P) hpc
          cases hP : P p with
          | false =>
            rw [hP] at hpp hat
            have HAT := hide hat
            clear hat hP
            go_wp2
            go_round
            case rel =>
              have e := unhide hr2
              rw [unhide HAT] at e
              simp only [Bool.false_eq_true, if_false] at e
              exact ⟨p + 1, by go_num, by omega, e⟩
            case measure => simp [intOf]; omega
          | true =>
            exfalso
            have e := unhide hr2
            rw [hat, hP, if_pos rfl] at e
            cases e
        · have hpe : ((p : Int) == (count : Int)) = true := by simp; omega
          go_wp2
          go_ret
          exact ⟨rfl, rfl⟩

set_option maxHeartbeats 2000000 in
set_option maxRecDepth 100000 in
theorem check_nil (w : World) (Q MB PB count mc pc : Nat) (M : Nat → Nat) (P : Nat → Bool) (hq : w.cell? ⟨Q, 0, none⟩ = some (.slice none 0 0)) (hps : ∀ k, k < count → w.cell? ⟨PB, k, none⟩ = some (.bool (P k))) (hc : count ≤ 10000) (hh : Holds M count P []) :
    Calls Yba.prog 7 #[.pointer (some ⟨Q, 0, none⟩), .slice (some ⟨MB, 0, none⟩) count mc, .slice (some ⟨PB, 0, none⟩) count pc] w fun e w' => e = .returned (.bool true) ∧ w = w' := by
  have hr2 : Hid (Rest M count P 0 = []) := by have := hh; unfold Holds at this; exact this.symm
  have H := hide hps
  clear hps hh
  go_enter Yba.func7, Yba.ntmps7
  go_wp2
  go_rounds 1
  go_loop [7] (fun s7 => ∃ p : Nat, s7 = .int .i64 p ∧ p ≤ count ∧ Hid (Rest M count P p = [])) (fun s7 => count - (intOf s7).toNat)
  case atStart => exact ⟨0, rfl, by omega, hr2⟩
  case round =>
    clear hr2
    obtain ⟨p, rfl, hp, hr2⟩ := hrel
    by_cases hpc : p < count
    · have hpp := unhide H p hpc
      have hat := rest_at (M := M) (P := P) hpc
      cases hP : P p with
      | false =>
        rw [hP] at hpp hat
        have HAT := hide hat
        clear hat hP
        go_wp2
        go_round
        case rel =>
          have e := unhide hr2
          rw [unhide HAT] at e
          simp only [Bool.false_eq_true, if_false] at e
          exact ⟨p + 1, by go_num, by omega, e⟩
        case measure => simp [intOf]; omega
      | true =>
        exfalso
        have e := unhide hr2
        rw [hat, hP, if_pos rfl] at e
        cases e
    · have hpe : ((p : Int) == (count : Int)) = true := by simp; omega
      go_wp2
      go_ret
      exact ⟨rfl, rfl⟩

theorem check_any (w : World) (B Q MB PB count mc pc : Nat) (t : Nat → Nat) (X : List (List Nat)) (M : Nat → Nat) (P : Nat → Bool) (hR : Rep w B Q t X) (hi : Inv X) (hh : Holds M count P X)
    (hms : ∀ k, k < count → w.cell? ⟨MB, k, none⟩ = some (.pointer (some ⟨M k, 0, none⟩))) (hps : ∀ k, k < count → w.cell? ⟨PB, k, none⟩ = some (.bool (P k))) (hc : count ≤ 10000) (hX : X.length ≤ 10000) :
    Calls Yba.prog 7 #[.pointer (some ⟨Q, 0, none⟩), .slice (some ⟨MB, 0, none⟩) count mc, .slice (some ⟨PB, 0, none⟩) count pc] w fun e w' => e = .returned (.bool true) ∧ w = w' := by
  obtain ⟨hB, hm, ⟨rfl, hq⟩ | ⟨og, oc, L, hq, hr, hx⟩⟩ := hR
  · exact check_nil w Q MB PB count mc pc M P (by rw [hq.cell]; rfl) hps hc hh
  · exact check_some w Q MB PB og oc count mc pc L X M P ⟨by rw [hq.cell]; rfl, fun j b hj => hr.cell hj, fun b hb j m hj => (hr.inner b hb).cell hj, hms, hps, hx⟩ hc hi hh hX
end Go.Proofs.Ybulkbrdi
