/-
  b3389a: Topology.Outputs.
-/
import Derived.Test.YbulkbrdwIdx
import Derived.Deep.AppendLies
namespace Go.Proofs.Ybulkbrdw
open Go.RowKit
set_option linter.unusedVariables false
set_option linter.unusedSimpArgs false

/-- what is known of an element type, in parts -/
theorem info_parts {P : Program} {e : TypeId} {z : Value} {size bytes : Nat} (h : (P.info? e).map (fun i => (i.zero, i.size, i.bytes)) = some (some z, size, bytes)) :
    ∃ i, P.info? e = some i ∧ i.zero = some z ∧ i.size = size ∧ i.bytes = bytes := by
  obtain ⟨i, hi, hh⟩ := Option.map_eq_some_iff.1 h
  simp only [Prod.mk.injEq] at hh
  exact ⟨i, hi, hh.1, hh.2.1, hh.2.2⟩

theorem owns_nil (w : World) (B e size : Nat) : w.ownsRow B e size (.slice none 0 0) 0 [] := ⟨by simp, .inl ⟨rfl, rfl⟩⟩
theorem owns_base {w : World} {B e size n : Nat} {v : Value} {xs : List Value} (h : w.ownsRow B e size v n xs) : ∀ k, v.ownBlock = some k → B ≤ k := by
  intro k hk
  rcases h.2 with ⟨rfl, _⟩ | ⟨g, cap, cur, rfl, hb, _⟩
  · cases hk
  · simp [Value.ownBlock] at hk; omega
theorem owns_kept {S : Nat → Prop} {w w' : World} {B e size n : Nat} {v : Value} {xs : List Value} (h : w.ownsRow B e size v n xs) (hf : Fr S w w') (hS : ∀ k, v.ownBlock = some k → ¬ S k) : w'.ownsRow B e size v n xs := by
  refine ⟨h.1, ?_⟩
  rcases h.2 with ⟨rfl, h0⟩ | ⟨g, cap, cur, rfl, hb, hg, hr⟩
  · exact .inl ⟨rfl, h0⟩
  · exact .inr ⟨g, cap, cur, rfl, hb, (hf.block g (Array.getElem?_eq_some_iff.1 hg).1 (hS g rfl)).trans hg, hr⟩
theorem owns_cell {w : World} {B e size n : Nat} {v : Value} {xs : List Value} (h : w.ownsRow B e size v n xs) {g c : Nat} (hv : v = .slice (some ⟨g, 0, none⟩) n c) (j : Nat) {u : Value} (hj : xs[j]? = some u) : w.cell? ⟨g, j, none⟩ = some u := by
  have := h.cells (g := g) (by rw [hv]; rfl) j u hj
  rw [Addr.add_lit, Nat.zero_add] at this
  exact this

theorem idxe_any (a : Option Addr) (cc : Nat) (f : Value) (w : World) : Calls Yba.prog 27 #[.slice a 0 cc, f] w fun e w' => e = .returned (.int .i64 (-1)) ∧ w = w' := by
  go_enter Yba.func27, Yba.ntmps27
  go_wp2
  refine wp_loop_rounds 1 ?_
  rw [rounds_succ]
  go_wp2_with fail
  go_ret
  exact ⟨rfl, rfl⟩
theorem cone_any (a : Option Addr) (cc : Nat) (f : Value) (w : World) : Calls Yba.prog 29 #[.slice a 0 cc, f] w fun e w' => e = .returned (.bool false) ∧ w = w' := by
  go_enter Yba.func29, Yba.ntmps29
  go_wp2_with fail
  refine (idxe_any _ _ _ _).mono ?_
  rintro e w2 ⟨rfl, rfl⟩
  go_wp2_with fail
  go_ret
  exact ⟨rfl, rfl⟩

def optrs (O k : Nat) : List Value := (List.range k).map fun i => .pointer (some ⟨O, i * 7, none⟩)

theorem optrs_succ (O k : Nat) : optrs O (k + 1) = optrs O k ++ [.pointer (some ⟨O, k * 7, none⟩)] := by unfold optrs; rw [List.range_succ, List.map_append]; rfl

set_option maxHeartbeats 1000000 in
set_option maxRecDepth 100000 in
theorem outputs_any (T O c : Nat) (L : Nat → Nat) (jn : Nat → Bool) (rv : Nat → Value) (w : World) (hT : w.cell? ⟨T, 1, none⟩ = some (.slice (some ⟨O, 0, none⟩) c c)) (h : OpsAt w O c L jn rv) (hn : c ≤ 300) :
    Calls Yba.prog 21 #[.pointer (some ⟨T, 0, none⟩)] w fun e w' => ∃ v, e = .returned v ∧ w'.ownsRow w.heap.size 87 1 v c (optrs O c) ∧ Fr (fun _ => False) w w' := by
  have hTl := World.block_lt_of_cell? w _ hT
  have hO := Blk.lt h
  have H := hide h
  clear h
  go_enter Yba.func21, Yba.ntmps21
  go_wp2
  go_loopw [12, 3] (fun s12 s3 wr => ∃ k : Nat, s12 = .int .i64 k ∧ k ≤ c ∧ Hid (wr.ownsRow w.heap.size 87 1 s3 k (optrs O k)) ∧ Hid (Fr (fun _ => False) w wr)) (fun s12 _ _ => c - (intOf s12).toNat)
  case atStart => exact ⟨0, rfl, by omega, owns_nil _ _ _ _, Fr.refl _ _⟩
  case round =>
    obtain ⟨k, rfl, hk, hown, hF⟩ := hrel
    have cT : wr.cell? ⟨T, 1, none⟩ = some (.slice (some ⟨O, 0, none⟩) c c) := (World.cell?_of_block ((unhide hF).block T hTl id)).trans hT
    by_cases hkn : k < c
    · have h1 : OpsAt wr O c L jn rv := Blk.kept (unhide H) (unhide hF) id
      have c0 : wr.cell? ⟨O, k * 7, none⟩ = some (.string (nameOf (k + 1))) := h1.cell hkn 0 (by omega)
      have z1 : (k : Int) < (c : Int) := by omega
      have hTr : T < wr.heap.size := Nat.lt_of_lt_of_le hTl (unhide hF).size
      have hOr : O < wr.heap.size := Nat.lt_of_lt_of_le hO (unhide hF).size
      have HC : Hid (∀ (sv : Value), (c = k + 1 ∧ sv = .slice (some ⟨O, 0, none⟩) 0 0) ∨ (c ≠ k + 1 ∧ sv = .slice (some ⟨O, (k + 1) * 7, none⟩) (c - (k + 1)) (c - (k + 1))) →
          Calls Yba.prog 29 #[sv, .func (.func 30) #[] #[.pointer (some ⟨wr.heap.size, 0, none⟩)]] (wr.alloc (.cells #[.string (nameOf (k + 1))] 9)) fun e w' => e = .returned (.bool false) ∧ Fr (fun _ => False) (wr.alloc (.cells #[.string (nameOf (k + 1))] 9)) w') := by
        rintro sv (⟨hl, rfl⟩ | ⟨hl, rfl⟩)
        · refine (cone_any _ _ _ _).mono ?_
          rintro e w2 ⟨rfl, rfl⟩
          exact ⟨rfl, Fr.refl _ _⟩
        · exact cono_any O c (c - (k + 1)) wr.heap.size (k + 1) L jn rv (wr.alloc (.cells #[.string (nameOf (k + 1))] 9)) (Blk.alloc h1 _) hn (by omega) (by omega)
      clear h1
      obtain ⟨i0, hi0, hz0, hz1, hz2⟩ := info_parts (P := Yba.prog) (e := 87) (z := .pointer none) (size := 1) (bytes := 8) (by kernel_rfl)
      rcases Nat.lt_or_ge (k + 1) c with hl | hl
      · have hlast : ¬ c = k + 1 := by omega
        go_wp2_with fail
        refine (unhide HC _ (.inr ⟨hlast, rfl⟩)).mono ?_
        rintro e w2 ⟨rfl, hF2⟩
        have hF3 := ((unhide hF).alloc _).trans hF2
        have HF3 := hide hF3
        have cT2 : w2.cell? ⟨T, 1, none⟩ = some (.slice (some ⟨O, 0, none⟩) c c) := (World.cell?_of_block (hF3.block T hTl id)).trans hT
        have how := owns_kept (unhide hown) (((Fr.refl (fun _ => False) wr).alloc _).trans hF2) (fun _ _ => id)
        have how2 := hide (owns_kept how ((Fr.refl (fun _ => False) w2).alloc (.cells #[.pointer (some ⟨O, k * 7, none⟩)] 87)) (fun _ _ => id))
        have hT2 : T < w2.heap.size := Nat.lt_of_lt_of_le hTl hF3.size
        have hnews := hide (World.news_of_block (Blk.new w2 87 [.pointer (some ⟨O, k * 7, none⟩)]))
        have hw2 : w.heap.size ≤ w2.heap.size := hF3.size
        clear hF2 hF3 HC hown c0 cT how
        go_wp2_with (at_builtin; refine wpList_append_lies _ (by rfl) _ _ _ (by rfl) w.heap.size 87 i0 (.pointer none) 1 8 Yba.underlying85 hi0 hz0 hz1 hz2 rfl (by omega) _ k (optrs O k) (by rfl) how2.out ⟨w2.heap.size, 0, none⟩ 1 1 [.pointer (some ⟨O, k * 7, none⟩)] (by rfl) (by rfl) hnews.out (by simp [Value.oneCell']) (by omega) (by unfold maxLen; omega) (by omega) (by simp; omega) (w2.heap.size + 1) (by simp) ?_; intro g' c' w3 hown3 hgrow hat hlt)
        have HO3 : Hid (w3.ownsRow w.heap.size 87 1 (.slice (some ⟨g', 0, none⟩) (k + 1) c') (k + 1) (optrs O (k + 1))) := by rw [optrs_succ]; exact hown3
        have HFn := hide (((unhide HF3).alloc _).grown hgrow (fun j hj => .inr (owns_base (unhide how2) j hj)))
        clear hown3 hgrow hat
        go_roundw
        case rel => exact ⟨k + 1, by go_num, by omega, HO3, HFn⟩
        case measure => simp [intOf]; omega
      · have hlast : c = k + 1 := by omega
        go_wp2_with fail
        refine (unhide HC _ (.inl ⟨hlast, rfl⟩)).mono ?_
        rintro e w2 ⟨rfl, hF2⟩
        have hF3 := ((unhide hF).alloc _).trans hF2
        have HF3 := hide hF3
        have cT2 : w2.cell? ⟨T, 1, none⟩ = some (.slice (some ⟨O, 0, none⟩) c c) := (World.cell?_of_block (hF3.block T hTl id)).trans hT
        have how := owns_kept (unhide hown) (((Fr.refl (fun _ => False) wr).alloc _).trans hF2) (fun _ _ => id)
        have how2 := hide (owns_kept how ((Fr.refl (fun _ => False) w2).alloc (.cells #[.pointer (some ⟨O, k * 7, none⟩)] 87)) (fun _ _ => id))
        have hT2 : T < w2.heap.size := Nat.lt_of_lt_of_le hTl hF3.size
        have hnews := hide (World.news_of_block (Blk.new w2 87 [.pointer (some ⟨O, k * 7, none⟩)]))
        have hw2 : w.heap.size ≤ w2.heap.size := hF3.size
        have hkc : k + 1 ≤ c := by omega
        clear hF2 hF3 HC hown c0 cT how hlast hl
        go_wp2_with (at_builtin; refine wpList_append_lies _ (by rfl) _ _ _ (by rfl) w.heap.size 87 i0 (.pointer none) 1 8 Yba.underlying85 hi0 hz0 hz1 hz2 rfl (by omega) _ k (optrs O k) (by rfl) how2.out ⟨w2.heap.size, 0, none⟩ 1 1 [.pointer (some ⟨O, k * 7, none⟩)] (by rfl) (by rfl) hnews.out (by simp [Value.oneCell']) (by omega) (by unfold maxLen; omega) (by omega) (by simp; omega) (w2.heap.size + 1) (by simp) ?_; intro g' c' w3 hown3 hgrow hat hlt)
        have HO3 : Hid (w3.ownsRow w.heap.size 87 1 (.slice (some ⟨g', 0, none⟩) (k + 1) c') (k + 1) (optrs O (k + 1))) := by rw [optrs_succ]; exact hown3
        have HFn := hide (((unhide HF3).alloc _).grown hgrow (fun j hj => .inr (owns_base (unhide how2) j hj)))
        clear hown3 hgrow hat
        go_roundw
        case rel => exact ⟨k + 1, by go_num, by omega, HO3, HFn⟩
        case measure => simp [intOf]; omega
    · obtain rfl : c = k := by omega
      go_wp2_with fail
      go_ret
      exact ⟨_, rfl, unhide hown, unhide hF⟩
end Go.Proofs.Ybulkbrdw
