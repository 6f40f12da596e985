/-
  b3388aF: (*space).component.
-/
import Derived.Test.YbulkbrdiFmtS5
import Derived.Test.YbulkbrdiFmtSb
namespace Go.Proofs.YbulkbrdiFmt
open Go.RowKit
set_option linter.unusedVariables false
set_option linter.unusedSimpArgs false
set_option maxRecDepth 100000
set_option maxHeartbeats 2000000

/-- a bag: nil, or a row at the head of a block -/
def BagA (w : World) (ba : Option Addr) (n c : Nat) (d : Array Nat) : Prop :=
  d.size = n ∧ n ≤ c ∧ ((ba = none ∧ n = 0 ∧ c = 0) ∨ ∃ g r, ba = some ⟨g, 0, none⟩ ∧ Blk w g 53 (rowV d ++ r))
section
variable {w w' : World} {ba : Option Addr} {n c : Nat} {d : Array Nat}
theorem BagA.kept {S : Nat → Prop} (h : BagA w ba n c d) (hf : Fr S w w') (hn : ∀ g, ba = some ⟨g, 0, none⟩ → ¬ S g) : BagA w' ba n c d := by
  obtain ⟨h1, h2, h3⟩ := h
  refine ⟨h1, h2, ?_⟩
  rcases h3 with h3 | ⟨g, r, h4, h5⟩
  · exact .inl h3
  · exact .inr ⟨g, r, h4, h5.kept hf (hn g h4)⟩
theorem BagA.cell (h : BagA w ba n c d) {i : Nat} (hi : i < n) : ∃ g, ba = some ⟨g, 0, none⟩ ∧ g < w.heap.size ∧ w.cell? ⟨g, i, none⟩ = some (.int .u32 ((d[i]! : Nat) : Int)) := by
  obtain ⟨h1, h2, h3⟩ := h
  rcases h3 with ⟨_, h3, _⟩ | ⟨g, r, h4, h5⟩
  · omega
  · refine ⟨g, h4, h5.lt, ?_⟩
    rw [h5.cell, List.getElem?_append_left (by rw [rowV_length]; omega), rowV_get d (by omega)]
theorem BagA.neB {g e : Nat} {l : List Value} (h : BagA w ba n c d) (hb : Blk w g e l) (he : e ≠ 53) : ba ≠ some ⟨g, 0, none⟩ := fun hg => by
  obtain ⟨h1, h2, h3⟩ := h
  rcases h3 with ⟨h3, _⟩ | ⟨g', r, h4, h5⟩
  · rw [h3] at hg; cases hg
  · have : g' = g := by rw [h4] at hg; injection hg with hg; injection hg
    subst this
    have := h5.symm.trans hb
    injection this with this
    injection this with _ h6 _
    exact he h6.symm
theorem BagA.neM {g : Nat} {l : List (ByteArray × Value)} (h : BagA w ba n c d) (hb : SMap w g l) : ba ≠ some ⟨g, 0, none⟩ := fun hg => by
  obtain ⟨h1, h2, h3⟩ := h
  rcases h3 with ⟨h3, _⟩ | ⟨g', r, h4, h5⟩
  · rw [h3] at hg; cases hg
  · have : g' = g := by rw [h4] at hg; injection hg with hg; injection hg
    subst this
    exact hb.ne h5 rfl
theorem BagA.neO {B e size m : Nat} {v : Value} {xs : List Value} (h : BagA w ba n c d) (hb : w.ownsRow B e size v m xs) (he : e ≠ 53) : ∀ k, v.ownBlock = some k → ¬ ba = some ⟨k, 0, none⟩ := fun k hk hg => by
  obtain ⟨cur, hc⟩ := owns_type hb hk
  obtain ⟨h1, h2, h3⟩ := h
  rcases h3 with ⟨h3, _⟩ | ⟨g', r, h4, h5⟩
  · rw [h3] at hg; cases hg
  · have : g' = k := by rw [h4] at hg; injection hg with hg; injection hg
    subst this
    have := h5.symm.trans hc
    injection this with this
    injection this with _ h6 _
    exact he h6.symm
end
/-- slices.Sort of a bag -/
theorem sortB_any (n c : Nat) (ba : Option Addr) (d : Array Nat) (w : World) (h : BagA w ba n c d) (hn : n ≤ 12) :
    Calls Ybaf.prog 5 #[.slice ba n c] w fun e w' => e = .returned (.tuple #[]) ∧ ∃ d', BagA w' ba n c d' ∧ Sort.PermIn 0 n d d' ∧ Sort.SortedIn ltN 0 n d' ∧ Fr (fun k => ba = some ⟨k, 0, none⟩) w w' := by
  obtain ⟨h1, h2, h3⟩ := h
  rcases h3 with ⟨rfl, rfl, rfl⟩ | ⟨g, r, rfl, h5⟩
  · refine (sortT_nil w).mono fun e w' ⟨he, hf⟩ => ⟨he, d, ⟨h1, h2, .inl ⟨rfl, rfl, rfl⟩⟩, ?_, ?_, hf.mono (fun _ _ h => h.elim)⟩
    · exact Sort.permIn_refl _ _ _
    · intro i j hi hij hj; omega
  · refine (sortT_any g n c d r w h5 h1 hn h2).mono fun e w' ⟨he, d', hr, hp, hs⟩ => ⟨he, d', ⟨hr.size, h2, .inr ⟨g, r, rfl, hr.row⟩⟩, hp, hs, hr.fr.mono (fun k _ h => by rw [h])⟩
/-- (*space).component -/
theorem comp_any (SP CM n lo bn bc : Nat) (ba : Option Addr) (d : Array Nat) (vs : Value) (l : List (ByteArray × Value)) (spc xs : List Value) (w : World)
    (hsp : Blk w SP 42 spc) (c11 : spc[11]? = some (.map (some CM))) (hvs : spc[10]? = some vs) (hm : SMap w CM l) (hnum : NumV l) (hrow : w.ownsRow 0 64 6 vs n xs) (hn : n ≤ 1000000)
    (hb : BagA w ba bn bc d) (hbn : bn ≤ 12) (hlo : lo < 128) (hd : ∀ i, i < bn → d[i]! < 128) :
    Calls Ybaf.prog 9 #[.pointer (some ⟨SP, 0, none⟩), .int .u32 (lo : Int), .slice ba bn bc] w fun e w' => ∃ (no : Nat) (d' : Array Nat) (w1 : World), e = .returned (.int .u32 (no : Int)) ∧ BagA w1 ba bn bc d' ∧ Sort.PermIn 0 bn d d' ∧ Sort.SortedIn ltN 0 bn d' ∧ Fr (fun k => ba = some ⟨k, 0, none⟩) w w1 ∧
      Res 64 6 10 SP CM n vs l (kS (lo :: d'.toList)) spc xs [.int .u32 (lo : Int), .slice ba bn bc, .int .u64 0, .int .i32 0, .int .i32 0, .bool false] no w1 w' := by
  have CS := hide (sortB_any bn bc ba d w hb hbn)
  have HSP := hide hsp
  have HC11 := hide c11
  have HVS := hide hvs
  have HM := hide hm
  have HN := hide hnum
  have HR := hide hrow
  have HB := hide hb
  have HD := hide hd
  have ew : IntKind.u64.wrap (lo : Int) = (lo : Int) := by rw [IntKind.wrap_u64]; omega
  clear hsp c11 hvs hm hnum hrow hb hd
  go_enter Ybaf.func9, Ybaf.ntmps9
  go_wp2_with fail
  refine (unhide CS).mono ?_
  rintro e w1 ⟨rfl, d', hb1, hp, hs, hf⟩
  have HB1 := hide hb1
  have HP := hide hp
  have HS := hide hs
  have HF := hide hf
  have HD1 : Hid (∀ i, i < bn → d'[i]! < 128) := fun i hi => Sort.permIn_all d d' 0 bn (fun x => x < 128) (by have := (unhide HB).1; omega) hp (fun i _ hi => unhide HD i hi) i (by omega) hi
  have C1 := hide (uv_any w1.heap.size 0 lo (.slice none 0 0) [] w1 hlo (OwB.nil _ _) (Nat.le_refl _) (by omega))
  have s11 : w1.cell? ⟨SP, 11, none⟩ = some (.map (some CM)) := by
    rw [((unhide HSP).kept hf (fun h => (unhide HB).neB (unhide HSP) (by decide) h)).cell, unhide HC11]
  have hSPl : SP < w1.heap.size := Nat.lt_of_lt_of_le (unhide HSP).lt hf.size
  clear hb1 hp hs hf CS
  go_wp2_with fail
  refine (unhide C1).mono ?_
  rintro e w2 ⟨v2, rfl, ho, hf⟩
  have HI : Hid (OwB w2 w1.heap.size v2 1 (lo :: d'.toList.take 0) ∧ FrB w1.heap.size w1 w2) := ⟨ho, hf⟩
  obtain ⟨a2, c2, rfl⟩ := ho.form
  clear ho hf C1
  go_wp2_with fail
  go_loopw [17, 7] (fun s17 s7 wr => ∃ (k : Nat) (v : Value), s17 = .int .i64 k ∧ s7 = v ∧ k ≤ bn ∧ Hid (OwB wr w1.heap.size v (k + 1) (lo :: d'.toList.take k) ∧ FrB w1.heap.size w1 wr)) (fun s17 _ _ => bn - (intOf s17).toNat)
  case atStart => exact ⟨0, _, rfl, rfl, by omega, HI⟩
  case round =>
    clear HI
    obtain ⟨k, v, rfl, rfl, hk, hst⟩ := hrel
    obtain ⟨ho, hf⟩ := unhide hst
    obtain ⟨va, vc, rfl⟩ := ho.form
    by_cases hkn : k < bn
    · have z1 : (k : Int) < (bn : Int) := by omega
      obtain ⟨g, hg, hgl, hc⟩ := (unhide HB1).cell hkn
      subst hg
      obtain ⟨x, hx⟩ : ∃ x, x = d'[k]! := ⟨_, rfl⟩
      have hx1 : x < 128 := by rw [hx]; exact unhide HD1 k hkn
      rw [← hx] at hc
      have hc2 : wr.cell? ⟨g, k, none⟩ = some (.int .u32 (x : Int)) := cell_kept hgl (hf.fr (Nat.le_refl _)) id hc
      have ex : IntKind.u64.wrap (x : Int) = (x : Int) := by rw [IntKind.wrap_u64]; omega
      have C2 := hide (uv_any w1.heap.size (k + 1) x _ _ wr hx1 ho hf.size (by omega))
      have HT : Hid (lo :: d'.toList.take k ++ [x] = lo :: d'.toList.take (k + 1)) := by
        have hk2 : k < d'.toList.length := by have := (unhide HB1).1; simp; omega
        show lo :: d'.toList.take k ++ [x] = lo :: d'.toList.take (k + 1)
        rw [List.take_add_one, List.getElem?_eq_getElem hk2, hx, getElem!_pos d' k (by simpa using hk2)]
        simp
      have HF2 := hide hf
      clear ho hf hst hc hx
      go_wp2_with fail
      refine (unhide C2).mono ?_
      rintro e w3 ⟨v3, rfl, ho, hf⟩
      have HI : Hid (OwB w3 w1.heap.size v3 (k + 1 + 1) (lo :: d'.toList.take (k + 1)) ∧ FrB w1.heap.size w1 w3) := ⟨by rw [← unhide HT]; exact ho, (unhide HF2).trans hf⟩
      obtain ⟨a3, c3, rfl⟩ := ho.form
      clear ho hf C2
      go_wp2_with fail
      go_roundw
      case rel => exact ⟨k + 1, _, by go_num, rfl, by omega, HI⟩
      case measure => (try simp [intOf]) <;> (try omega)
    · obtain rfl : bn = k := by omega
      have z1 : decide ((bn : Int) < (bn : Int)) = false := by simp
      have hF := hf.fr (Nat.le_refl _)
      have hbW := (unhide HB1).kept hF (fun _ _ => id)
      have t11 : wr.cell? ⟨SP, 11, none⟩ = some (.map (some CM)) := cell_kept hSPl hF id s11
      have HT : Hid (lo :: d'.toList.take bn = lo :: d'.toList) := by
        show _ = _
        rw [List.take_of_length_le (by have := (unhide HB1).1; simp; omega)]
      rw [unhide HT] at ho
      have hFw : Fr (fun k => ba = some ⟨k, 0, none⟩) w wr := (unhide HF).trans (hF.mono (fun _ _ h => h.elim))
      have hspW := (unhide HSP).kept hFw (fun h => (unhide HB).neB (unhide HSP) (by decide) h)
      have hmW := (unhide HM).kept hFw (fun h => (unhide HB).neM (unhide HM) h)
      have hrW := owns_kept (unhide HR) hFw ((unhide HB).neO (unhide HR) (by decide))
      have C3 : Hid (Calls Ybaf.prog 18 #[.pointer (some ⟨SP, 10, none⟩), .map (some CM), .slice va (bn + 1) vc, .agg #[.int .u32 (lo : Int), .slice ba bn bc, .int .u64 0, .int .i32 0, .int .i32 0, .bool false]] wr.drew fun e w' => ∃ no : Nat, e = .returned (.int .u32 (no : Int)) ∧ Hid (Res 64 6 10 SP CM n vs l (kS (lo :: d'.toList)) spc xs [.int .u32 (lo : Int), .slice ba bn bc, .int .u64 0, .int .i32 0, .int .i32 0, .bool false] no w1 w') ∧ w'.cell? ⟨SP, 11, none⟩ = some (.map (some CM))) :=
        (intern_co SP CM w1.heap.size (bn + 1) n (.slice va (bn + 1) vc) vs (lo :: d'.toList) l spc xs lo bn bc ba wr.drew (hmW.kept ((Fr.refl (fun _ => False) wr).drew) id) (unhide HN) (ho.kept ((Fr.refl (fun _ => False) wr).drew)) hspW.drew (unhide HVS) (owns_kept hrW ((Fr.refl (fun _ => False) wr).drew) (fun _ _ => id)) hn).mono fun e w' ⟨no, he, hR⟩ => ⟨no, he, hR.pre hF.drew, by rw [hR.sp hspW.drew (by omega), unhide HC11]⟩
      clear ho hf hst hF hbW hFw hspW hmW hrW s11
      go_wp2_with fail
      go_region_held3 (fun w' => w'.cell? ⟨SP, 11, none⟩ = some (.map (some CM))) (go_keep) (first | (go_at_call 18; refine (unhide C3).mono ?_; rintro e w4 ⟨no, rfl, HRR, q11⟩))
      all_goals
        go_wp2_with fail
        go_ret
        exact ⟨no, d', w1, rfl, HB1.out, HP.out, HS.out, HF.out, HRR.out⟩
end Go.Proofs.YbulkbrdiFmt
