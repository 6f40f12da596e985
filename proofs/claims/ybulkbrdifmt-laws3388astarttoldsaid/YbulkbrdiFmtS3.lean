/-
  b3388aF: explore.intern, at items, locals and components.
-/
import Derived.Test.YbulkbrdiFmtS2
import Derived.Deep.AppendLies
import Derived.Deep.RegionLaw
import Derived.Deep.OwnRows
namespace Go.Proofs.YbulkbrdiFmt
open Go.RowKit
set_option linter.unusedVariables false
set_option linter.unusedSimpArgs false
set_option maxRecDepth 100000
set_option maxHeartbeats 2000000

/-- the string of a list of bytes -/
def kS (l : List Nat) : ByteArray := strOfNums (l.map fun (x : Nat) => (x : Int))
theorem kS_inj {l m : List Nat} (hl : ∀ x ∈ l, x < 256) (hm : ∀ x ∈ m, x < 256) (h : kS l = kS m) : l = m := by
  have h1 := congrArg (fun b : ByteArray => b.data.toList) h
  unfold kS at h1
  simp only [strOfNums_data, List.map_map] at h1
  clear h
  induction l generalizing m with
  | nil => cases m with
    | nil => rfl
    | cons y m => simp at h1
  | cons x l ih => cases m with
    | nil => simp at h1
    | cons y m =>
      simp only [List.map_cons, List.cons.injEq] at h1
      have hx := hl x (by simp)
      have hy := hm y (by simp)
      have e1 : x = y := by
        have := congrArg UInt8.toNat h1.1
        simp at this
        omega
      rw [e1, ih (fun z hz => hl z (by simp [hz])) (fun z hz => hm z (by simp [hz])) h1.2]
theorem kS_run {w W : World} {B n : Nat} {v : Value} {l : List Nat} (h : OwB w B v n l) (hf : Fr (fun _ => False) w W) : (convert 23 9 v).run Ybaf.prog W = .ok (.string (kS l)) W := by
  have h2 := h.kept hf
  have hlen := h.len
  obtain ⟨a, c, rfl⟩ := h.form
  cases a with
  | none =>
    have : l = [] := by
      rcases h.2 with ⟨_, h0⟩ | ⟨g, cap, cur, e, _⟩
      · rw [h0] at hlen
        cases l with
        | nil => rfl
        | cons => simp at hlen
      · cases e
    subst this
    exact run_convert_bytes_nil W 23 5 Ybaf.underlying23 Ybaf.underlying5 n c 9 Ybaf.underlying9
  | some ad =>
    obtain ⟨g, hg⟩ : ∃ g, ad = ⟨g, 0, none⟩ := by
      rcases h.2 with ⟨e, _⟩ | ⟨g, cap, cur, e, _⟩
      · cases e
      · injection e with e _ _; injection e with e; exact ⟨g, e⟩
    subst hg
    refine run_convert_bytes_arg W 23 5 Ybaf.underlying23 Ybaf.underlying5 g 0 n c (l.map fun (x : Nat) => (x : Int)) (by rw [List.length_map]; exact hlen.symm) (fun i hi => ?_) 9 Ybaf.underlying9
    have hi2 : i < l.length := by omega
    rw [Nat.zero_add, owns_cell h2 rfl i (u := .int .u8 ((l[i] : Nat) : Int)) (by unfold bV; rw [List.getElem?_map, List.getElem?_eq_getElem hi2]; rfl)]
    simp [List.getD, List.getElem?_eq_getElem hi2]

theorem owns_type {w : World} {B e size n g : Nat} {v : Value} {xs : List Value} (h : w.ownsRow B e size v n xs) (hg : v.ownBlock = some g) : ∃ cur, w.heap[g]? = some (.cells cur e (0, 0)) := by
  rcases h.2 with ⟨rfl, _⟩ | ⟨g', cap, cur, rfl, hb, hc, _⟩
  · cases hg
  · have : g' = g := by simpa [Value.ownBlock] using hg
    subst this
    exact ⟨cur, hc⟩
theorem owns_neB {w : World} {B e e' size n g : Nat} {v : Value} {xs l : List Value} (h : w.ownsRow B e size v n xs) (hb : Blk w g e' l) (he : e ≠ e') : v.ownBlock ≠ some g := fun hg => by
  obtain ⟨cur, hc⟩ := owns_type h hg
  have := hc.symm.trans hb
  injection this with this
  injection this with _ h2 _
  exact he h2
theorem owns_neM {w : World} {B e size n g : Nat} {v : Value} {xs : List Value} {l : List (ByteArray × Value)} (h : w.ownsRow B e size v n xs) (hb : SMap w g l) : v.ownBlock ≠ some g := fun hg => by
  obtain ⟨cur, hc⟩ := owns_type h hg
  obtain ⟨es, cl, h1, _⟩ := hb
  have := hc.symm.trans h1
  cases this
theorem owns_lt {w : World} {B e size n g : Nat} {v : Value} {xs : List Value} (h : w.ownsRow B e size v n xs) (hg : v.ownBlock = some g) : g < w.heap.size := by
  obtain ⟨cur, hc⟩ := owns_type h hg
  exact (Array.getElem?_eq_some_iff.1 hc).1
theorem owns_heap {w W : World} {B e size n : Nat} {v : Value} {xs : List Value} (h : w.ownsRow B e size v n xs) (hh : W.heap = w.heap) : W.ownsRow B e size v n xs := by
  unfold World.ownsRow; rw [hh]; exact h
theorem pack {w W w1 : World} {SP IM B nk n g cap e size off H : Nat} {vk vs : Value} {kl : List Nat} {l : List (ByteArray × Value)} {spc xs news : List Value}
    (hm : SMap w IM l) (hk : slook l (kS kl) = none) (ho : OwB w B vk nk kl) (hsp : Blk w SP 42 spc) (hrow : w.ownsRow 0 e size vs n xs) (he : e ≠ 42) (he5 : 5 ≠ e)
    (hF : Fr (fun _ => False) w W) (hgrow : W.grownBy w1 vs.ownBlock) (hown : w1.ownsRow 0 e size (.slice (some ⟨g, 0, none⟩) (n + 1) cap) (n + 1) (xs ++ news)) (hat : vs.ownBlock = some g ∨ g = H) (hH : w.heap.size ≤ H) :
    w1.cell? ⟨SP, off, none⟩ = spc[off]? ∧ w1.frozen? ⟨SP, off, none⟩ = false ∧ (convert 23 9 vk).run Ybaf.prog (w1.setCell ⟨SP, off, none⟩ (.slice (some ⟨g, 0, none⟩) (n + 1) cap)) = .ok (.string (kS kl)) (w1.setCell ⟨SP, off, none⟩ (.slice (some ⟨g, 0, none⟩) (n + 1) cap)) ∧
    ∃ w3, (Instr.mapUpdate 35 (.map (some IM)) (.string (kS kl)) (.int .u32 (n : Int))).run Ybaf.prog (w1.setCell ⟨SP, off, none⟩ (.slice (some ⟨g, 0, none⟩) (n + 1) cap)) = .ok () w3 ∧
    Hid (∃ g cap, SMap w3 IM (l ++ [(kS kl, .int .u32 (n : Int))]) ∧ Blk w3 SP 42 (spc.set off (.slice (some ⟨g, 0, none⟩) (n + 1) cap)) ∧ w3.ownsRow 0 e size (.slice (some ⟨g, 0, none⟩) (n + 1) cap) (n + 1) (xs ++ news) ∧ (vs.ownBlock = some g ∨ w.heap.size ≤ g) ∧ Fr (fun k => k = IM ∨ k = SP ∨ vs.ownBlock = some k) w w3) := by
  have hF1 : Fr (fun k => vs.ownBlock = some k) w w1 := (hF.mono (fun _ _ h => h.elim)).grown hgrow (fun k hk => .inl hk)
  have hsp1 := hsp.kept hF1 (owns_neB hrow hsp he)
  have hm1 := hm.kept hF1 (owns_neM hrow hm)
  have hne : ∀ k, vk.ownBlock = some k → ¬ vs.ownBlock = some k := fun k h1 h2 => by
    obtain ⟨c1, h3⟩ := owns_type ho h1
    obtain ⟨c2, h4⟩ := owns_type hrow h2
    have := h3.symm.trans h4
    injection this with this
    injection this with _ h5 _
    exact he5 h5
  have ho1 : OwB w1 B vk nk kl := owns_kept ho hF1 hne
  have hF2 : Fr (· = SP) w1 (w1.setCell ⟨SP, off, none⟩ (.slice (some ⟨g, 0, none⟩) (n + 1) cap)) := (Fr.refl (· = SP) w1).setCell (p := ⟨SP, off, none⟩) (.inl rfl) _
  have hMS := hm1.ne hsp1
  have hm2 := hm1.kept hF2 hMS
  have ho2 : OwB (w1.setCell ⟨SP, off, none⟩ (.slice (some ⟨g, 0, none⟩) (n + 1) cap)) B vk nk kl := owns_kept ho1 hF2 (fun k h1 h2 => by
    subst h2
    exact owns_neB ho1 hsp1 (by decide) h1)
  have hr2 := owns_kept hown hF2 (fun k h1 h2 => by
    subst h2
    exact owns_neB hown hsp1 he h1)
  have hs2 := hsp1.setCell off (.slice (some ⟨g, 0, none⟩) (n + 1) cap)
  obtain ⟨w3, hrun, hm3, hF3, _⟩ := supdate_run (k := kS kl) Ybaf.underlying35 (.int .u32 (n : Int)) hm2 hk
  refine ⟨hsp1.cell off, hsp1.frozen off, kS_run ho2 (Fr.refl _ _), w3, hrun, g, cap, hm3, hs2.kept hF3 (fun h => hMS h.symm), owns_kept hr2 hF3 (fun k h1 h2 => ?_), ?_, ?_⟩
  · subst h2
    exact owns_neM hr2 hm2 h1
  · rcases hat with h | h
    · exact .inl h
    · exact .inr (by omega)
  · exact ((hF1.mono (fun _ _ h => .inr (.inr h))).trans (hF2.mono (fun _ _ h => .inr (.inl h)))).trans (hF3.mono (fun _ _ h => .inl h))
theorem zero53 (w : World) : (zeroValue 53).run Ybaf.prog w = .ok (.int .u32 0) w := by kernel_rfl

theorem info48' : ∃ i, Ybaf.prog.info? 48 = some i ∧ i.zero = some (.agg #[.int .i64 0, .int .i64 0, .string ⟨#[]⟩, .string ⟨#[]⟩, .int .u64 0, .bool false, .bool false, .int .u64 0, .pointer none]) ∧ i.size = 9 ∧ i.bytes = 80 := info_parts (P := Ybaf.prog) (e := 48) (z := .agg #[.int .i64 0, .int .i64 0, .string ⟨#[]⟩, .string ⟨#[]⟩, .int .u64 0, .bool false, .bool false, .int .u64 0, .pointer none]) (size := 9) (bytes := 80) (by kernel_rfl)
/-- intern of a known item -/
theorem intern_hit_it (SP IM B nk no : Nat) (vk : Value) (kl : List Nat) (l : List (ByteArray × Value)) (td : Nat) (sb : Int) (s1 s2 : ByteArray) (w : World)
    (hm : SMap w IM l) (hk : slook l (kS kl) = some (.int .u32 (no : Int))) (ho : OwB w B vk nk kl) :
    Calls Ybaf.prog 15 #[.pointer (some ⟨SP, 8, none⟩), .map (some IM), vk, .agg #[.int .i64 (td : Int), .int .i64 sb, .string s1, .string s2, .int .u64 0, .bool false, .bool false, .int .u64 0, .pointer none]] w fun e w' => e = .returned (.int .u32 (no : Int)) ∧ Fr (fun _ => False) w w' := by
  have hF := (Fr.refl (fun _ => False) w).alloc (.cells #[.int .i64 (td : Int), .int .i64 sb, .string s1, .string s2, .int .u64 0, .bool false, .bool false, .int .u64 0, .pointer none] 48)
  have hcv := kS_run ho hF
  have hlk := slook_run (c := true) Ybaf.underlying35 (hm.kept hF id) hk
  obtain ⟨a, c, rfl⟩ := ho.form
  have HF := hide hF
  clear hm hk ho hF
  go_enter Ybaf.func15, Ybaf.ntmps15
  go_wp2_with fail
  go_ret
  exact ⟨rfl, HF.out⟩
/-- intern of a new item -/
theorem intern_new_it (SP IM B nk n : Nat) (vk vs : Value) (kl : List Nat) (l : List (ByteArray × Value)) (spc xs : List Value) (td : Nat) (sb : Int) (s1 s2 : ByteArray) (w : World)
    (hm : SMap w IM l) (hk : slook l (kS kl) = none) (ho : OwB w B vk nk kl) (hsp : Blk w SP 42 spc) (hvs : spc[8]? = some vs) (hrow : w.ownsRow 0 48 9 vs n xs) (hn : n ≤ 1000000) :
    Calls Ybaf.prog 15 #[.pointer (some ⟨SP, 8, none⟩), .map (some IM), vk, .agg #[.int .i64 (td : Int), .int .i64 sb, .string s1, .string s2, .int .u64 0, .bool false, .bool false, .int .u64 0, .pointer none]] w fun e w' => e = .returned (.int .u32 (n : Int)) ∧ ∃ g cap, SMap w' IM (l ++ [(kS kl, .int .u32 (n : Int))]) ∧ Blk w' SP 42 (spc.set 8 (.slice (some ⟨g, 0, none⟩) (n + 1) cap)) ∧ w'.ownsRow 0 48 9 (.slice (some ⟨g, 0, none⟩) (n + 1) cap) (n + 1) (xs ++ [.int .i64 (td : Int), .int .i64 sb, .string s1, .string s2, .int .u64 0, .bool false, .bool false, .int .u64 0, .pointer none]) ∧ (vs.ownBlock = some g ∨ w.heap.size ≤ g) ∧ Fr (fun k => k = IM ∨ k = SP ∨ vs.ownBlock = some k) w w' := by
  obtain ⟨i48, hi, hz, hs, hb⟩ := info48'
  have hF := (Fr.refl (fun _ => False) w).alloc (.cells #[.int .i64 (td : Int), .int .i64 sb, .string s1, .string s2, .int .u64 0, .bool false, .bool false, .int .u64 0, .pointer none] 48)
  have hcv := kS_run ho hF
  have hlk := slook_miss (c := true) Ybaf.underlying35 zero53 (hm.kept hF id) hk
  obtain ⟨a, c, rfl⟩ := ho.form
  obtain ⟨va, vc, rfl⟩ := owns_slice hrow
  have s0 : w.cell? ⟨SP, 8, none⟩ = some (.slice va n vc) := by rw [hsp.cell]; exact hvs
  have hSPlt := hsp.lt
  have ew : IntKind.u32.wrap (n : Int) = (n : Int) := by rw [IntKind.wrap_u32]; omega
  have HM := hide hm
  have HK := hide hk
  have HO := hide ho
  have HS := hide hsp
  have HR := hide hrow
  have HF := hide hF
  have HV := hide hvs
  have HX : Hid (∀ W : World, W.heap = ((w.alloc (.cells #[.int .i64 (td : Int), .int .i64 sb, .string s1, .string s2, .int .u64 0, .bool false, .bool false, .int .u64 0, .pointer none] 48)).alloc (.cells #[.int .i64 (td : Int), .int .i64 sb, .string s1, .string s2, .int .u64 0, .bool false, .bool false, .int .u64 0, .pointer none] 48)).heap → W.ownsRow 0 48 9 (.slice va n vc) n xs) := fun W hW => owns_heap (owns_kept hrow (hF.alloc _) (fun _ _ => id)) hW
  have HY : Hid (∀ W : World, W.heap = ((w.alloc (.cells #[.int .i64 (td : Int), .int .i64 sb, .string s1, .string s2, .int .u64 0, .bool false, .bool false, .int .u64 0, .pointer none] 48)).alloc (.cells #[.int .i64 (td : Int), .int .i64 sb, .string s1, .string s2, .int .u64 0, .bool false, .bool false, .int .u64 0, .pointer none] 48)).heap → ∀ (j : Nat) (u : Value), ([.int .i64 (td : Int), .int .i64 sb, .string s1, .string s2, .int .u64 0, .bool false, .bool false, .int .u64 0, .pointer none] : List Value)[j]? = some u → W.cell? ((⟨w.heap.size + 1, 0, none⟩ : Addr).add j) = some u) := fun W hW => by
    have h1 : Blk W (w.heap.size + 1) 48 [.int .i64 (td : Int), .int .i64 sb, .string s1, .string s2, .int .u64 0, .bool false, .bool false, .int .u64 0, .pointer none] := by
      have := Blk.new (w.alloc (.cells #[.int .i64 (td : Int), .int .i64 sb, .string s1, .string s2, .int .u64 0, .bool false, .bool false, .int .u64 0, .pointer none] 48)) 48 [.int .i64 (td : Int), .int .i64 sb, .string s1, .string s2, .int .u64 0, .bool false, .bool false, .int .u64 0, .pointer none]
      rw [World.size_alloc] at this
      show W.heap[w.heap.size + 1]? = _
      rw [hW]; exact this
    exact World.news_of_block h1
  clear hm hk ho hsp hrow hF hvs
  go_enter Ybaf.func15, Ybaf.ntmps15
  go_wp2_with fail
  go_region_law (refine step_append_lies _ (by rfl) _ _ _ (by rfl) 0 48 i48 (.agg #[.int .i64 0, .int .i64 0, .string ⟨#[]⟩, .string ⟨#[]⟩, .int .u64 0, .bool false, .bool false, .int .u64 0, .pointer none]) 9 80 Ybaf.underlying36 hi hz hs hb rfl (by omega) (.slice va n vc) n xs (by rfl) (unhide HX _ (by first | rfl | simp)) ⟨w.heap.size + 1, 0, none⟩ 1 1 [.int .i64 (td : Int), .int .i64 sb, .string s1, .string s2, .int .u64 0, .bool false, .bool false, .int .u64 0, .pointer none] (by rfl) (by rfl) (unhide HY _ (by first | rfl | simp)) (by simp [Value.oneCell']) (by omega) (by unfold maxLen; omega) (by omega) (by omega) (w.heap.size + 1 + 1) (by simp) ?_; intro g cap w1 hown hgrow hat hlt; obtain ⟨k1, k2, k3, w3, k4, HE⟩ := pack (off := 8) (unhide HM) (unhide HK) (unhide HO) (unhide HS) (unhide HR) (by decide) (by decide) (by first | exact ((unhide HF).alloc _).drew | exact ((unhide HF).drew).alloc _) hgrow hown hat (by omega); rw [unhide HV] at k1; clear hown hgrow hat)
  all_goals
    go_wp2_with fail
    go_ret
    exact ⟨rfl, HE.out⟩

theorem info62' : ∃ i, Ybaf.prog.info? 62 = some i ∧ i.zero = some (.agg #[.int .i64 0, .nilIface, .slice none 0 0, .slice none 0 0]) ∧ i.size = 4 ∧ i.bytes = 72 := info_parts (P := Ybaf.prog) (e := 62) (z := .agg #[.int .i64 0, .nilIface, .slice none 0 0, .slice none 0 0]) (size := 4) (bytes := 72) (by kernel_rfl)
/-- intern of a known local state -/
theorem intern_hit_lo (SP IM B nk no : Nat) (vk : Value) (kl : List Nat) (l : List (ByteArray × Value)) (i : Nat) (w : World)
    (hm : SMap w IM l) (hk : slook l (kS kl) = some (.int .u32 (no : Int))) (ho : OwB w B vk nk kl) :
    Calls Ybaf.prog 19 #[.pointer (some ⟨SP, 6, none⟩), .map (some IM), vk, .agg #[.int .i64 (i : Int), .iface 82 (.agg #[]), .slice none 0 0, .slice none 0 0]] w fun e w' => e = .returned (.int .u32 (no : Int)) ∧ Fr (fun _ => False) w w' := by
  have hF := (Fr.refl (fun _ => False) w).alloc (.cells #[.int .i64 (i : Int), .iface 82 (.agg #[]), .slice none 0 0, .slice none 0 0] 62)
  have hcv := kS_run ho hF
  have hlk := slook_run (c := true) Ybaf.underlying35 (hm.kept hF id) hk
  obtain ⟨a, c, rfl⟩ := ho.form
  have HF := hide hF
  clear hm hk ho hF
  go_enter Ybaf.func19, Ybaf.ntmps19
  go_wp2_with fail
  go_ret
  exact ⟨rfl, HF.out⟩
/-- intern of a new local state -/
theorem intern_new_lo (SP IM B nk n : Nat) (vk vs : Value) (kl : List Nat) (l : List (ByteArray × Value)) (spc xs : List Value) (i : Nat) (w : World)
    (hm : SMap w IM l) (hk : slook l (kS kl) = none) (ho : OwB w B vk nk kl) (hsp : Blk w SP 42 spc) (hvs : spc[6]? = some vs) (hrow : w.ownsRow 0 62 4 vs n xs) (hn : n ≤ 1000000) :
    Calls Ybaf.prog 19 #[.pointer (some ⟨SP, 6, none⟩), .map (some IM), vk, .agg #[.int .i64 (i : Int), .iface 82 (.agg #[]), .slice none 0 0, .slice none 0 0]] w fun e w' => e = .returned (.int .u32 (n : Int)) ∧ ∃ g cap, SMap w' IM (l ++ [(kS kl, .int .u32 (n : Int))]) ∧ Blk w' SP 42 (spc.set 6 (.slice (some ⟨g, 0, none⟩) (n + 1) cap)) ∧ w'.ownsRow 0 62 4 (.slice (some ⟨g, 0, none⟩) (n + 1) cap) (n + 1) (xs ++ [.int .i64 (i : Int), .iface 82 (.agg #[]), .slice none 0 0, .slice none 0 0]) ∧ (vs.ownBlock = some g ∨ w.heap.size ≤ g) ∧ Fr (fun k => k = IM ∨ k = SP ∨ vs.ownBlock = some k) w w' := by
  obtain ⟨i62, hi, hz, hs, hb⟩ := info62'
  have hF := (Fr.refl (fun _ => False) w).alloc (.cells #[.int .i64 (i : Int), .iface 82 (.agg #[]), .slice none 0 0, .slice none 0 0] 62)
  have hcv := kS_run ho hF
  have hlk := slook_miss (c := true) Ybaf.underlying35 zero53 (hm.kept hF id) hk
  obtain ⟨a, c, rfl⟩ := ho.form
  obtain ⟨va, vc, rfl⟩ := owns_slice hrow
  have s0 : w.cell? ⟨SP, 6, none⟩ = some (.slice va n vc) := by rw [hsp.cell]; exact hvs
  have hSPlt := hsp.lt
  have ew : IntKind.u32.wrap (n : Int) = (n : Int) := by rw [IntKind.wrap_u32]; omega
  have HM := hide hm
  have HK := hide hk
  have HO := hide ho
  have HS := hide hsp
  have HR := hide hrow
  have HF := hide hF
  have HV := hide hvs
  have HX : Hid (∀ W : World, W.heap = ((w.alloc (.cells #[.int .i64 (i : Int), .iface 82 (.agg #[]), .slice none 0 0, .slice none 0 0] 62)).alloc (.cells #[.int .i64 (i : Int), .iface 82 (.agg #[]), .slice none 0 0, .slice none 0 0] 62)).heap → W.ownsRow 0 62 4 (.slice va n vc) n xs) := fun W hW => owns_heap (owns_kept hrow (hF.alloc _) (fun _ _ => id)) hW
  have HY : Hid (∀ W : World, W.heap = ((w.alloc (.cells #[.int .i64 (i : Int), .iface 82 (.agg #[]), .slice none 0 0, .slice none 0 0] 62)).alloc (.cells #[.int .i64 (i : Int), .iface 82 (.agg #[]), .slice none 0 0, .slice none 0 0] 62)).heap → ∀ (j : Nat) (u : Value), ([.int .i64 (i : Int), .iface 82 (.agg #[]), .slice none 0 0, .slice none 0 0] : List Value)[j]? = some u → W.cell? ((⟨w.heap.size + 1, 0, none⟩ : Addr).add j) = some u) := fun W hW => by
    have h1 : Blk W (w.heap.size + 1) 62 [.int .i64 (i : Int), .iface 82 (.agg #[]), .slice none 0 0, .slice none 0 0] := by
      have := Blk.new (w.alloc (.cells #[.int .i64 (i : Int), .iface 82 (.agg #[]), .slice none 0 0, .slice none 0 0] 62)) 62 [.int .i64 (i : Int), .iface 82 (.agg #[]), .slice none 0 0, .slice none 0 0]
      rw [World.size_alloc] at this
      show W.heap[w.heap.size + 1]? = _
      rw [hW]; exact this
    exact World.news_of_block h1
  clear hm hk ho hsp hrow hF hvs
  go_enter Ybaf.func19, Ybaf.ntmps19
  go_wp2_with fail
  go_region_law (refine step_append_lies _ (by rfl) _ _ _ (by rfl) 0 62 i62 (.agg #[.int .i64 0, .nilIface, .slice none 0 0, .slice none 0 0]) 4 72 Ybaf.underlying34 hi hz hs hb rfl (by omega) (.slice va n vc) n xs (by rfl) (unhide HX _ (by first | rfl | simp)) ⟨w.heap.size + 1, 0, none⟩ 1 1 [.int .i64 (i : Int), .iface 82 (.agg #[]), .slice none 0 0, .slice none 0 0] (by rfl) (by rfl) (unhide HY _ (by first | rfl | simp)) (by simp [Value.oneCell']) (by omega) (by unfold maxLen; omega) (by omega) (by omega) (w.heap.size + 1 + 1) (by simp) ?_; intro g cap w1 hown hgrow hat hlt; obtain ⟨k1, k2, k3, w3, k4, HE⟩ := pack (off := 6) (unhide HM) (unhide HK) (unhide HO) (unhide HS) (unhide HR) (by decide) (by decide) (by first | exact ((unhide HF).alloc _).drew | exact ((unhide HF).drew).alloc _) hgrow hown hat (by omega); rw [unhide HV] at k1; clear hown hgrow hat)
  all_goals
    go_wp2_with fail
    go_ret
    exact ⟨rfl, HE.out⟩

theorem info64' : ∃ i, Ybaf.prog.info? 64 = some i ∧ i.zero = some (.agg #[.int .u32 0, .slice none 0 0, .int .u64 0, .int .i32 0, .int .i32 0, .bool false]) ∧ i.size = 6 ∧ i.bytes = 56 := info_parts (P := Ybaf.prog) (e := 64) (z := .agg #[.int .u32 0, .slice none 0 0, .int .u64 0, .int .i32 0, .int .i32 0, .bool false]) (size := 6) (bytes := 56) (by kernel_rfl)
/-- intern of a known component -/
theorem intern_hit_co (SP IM B nk no : Nat) (vk : Value) (kl : List Nat) (l : List (ByteArray × Value)) (lo bn bc : Nat) (ba : Option Addr) (w : World)
    (hm : SMap w IM l) (hk : slook l (kS kl) = some (.int .u32 (no : Int))) (ho : OwB w B vk nk kl) :
    Calls Ybaf.prog 18 #[.pointer (some ⟨SP, 10, none⟩), .map (some IM), vk, .agg #[.int .u32 (lo : Int), .slice ba bn bc, .int .u64 0, .int .i32 0, .int .i32 0, .bool false]] w fun e w' => e = .returned (.int .u32 (no : Int)) ∧ Fr (fun _ => False) w w' := by
  have hF := (Fr.refl (fun _ => False) w).alloc (.cells #[.int .u32 (lo : Int), .slice ba bn bc, .int .u64 0, .int .i32 0, .int .i32 0, .bool false] 64)
  have hcv := kS_run ho hF
  have hlk := slook_run (c := true) Ybaf.underlying35 (hm.kept hF id) hk
  obtain ⟨a, c, rfl⟩ := ho.form
  have HF := hide hF
  clear hm hk ho hF
  go_enter Ybaf.func18, Ybaf.ntmps18
  go_wp2_with fail
  go_ret
  exact ⟨rfl, HF.out⟩
/-- intern of a new component -/
theorem intern_new_co (SP IM B nk n : Nat) (vk vs : Value) (kl : List Nat) (l : List (ByteArray × Value)) (spc xs : List Value) (lo bn bc : Nat) (ba : Option Addr) (w : World)
    (hm : SMap w IM l) (hk : slook l (kS kl) = none) (ho : OwB w B vk nk kl) (hsp : Blk w SP 42 spc) (hvs : spc[10]? = some vs) (hrow : w.ownsRow 0 64 6 vs n xs) (hn : n ≤ 1000000) :
    Calls Ybaf.prog 18 #[.pointer (some ⟨SP, 10, none⟩), .map (some IM), vk, .agg #[.int .u32 (lo : Int), .slice ba bn bc, .int .u64 0, .int .i32 0, .int .i32 0, .bool false]] w fun e w' => e = .returned (.int .u32 (n : Int)) ∧ ∃ g cap, SMap w' IM (l ++ [(kS kl, .int .u32 (n : Int))]) ∧ Blk w' SP 42 (spc.set 10 (.slice (some ⟨g, 0, none⟩) (n + 1) cap)) ∧ w'.ownsRow 0 64 6 (.slice (some ⟨g, 0, none⟩) (n + 1) cap) (n + 1) (xs ++ [.int .u32 (lo : Int), .slice ba bn bc, .int .u64 0, .int .i32 0, .int .i32 0, .bool false]) ∧ (vs.ownBlock = some g ∨ w.heap.size ≤ g) ∧ Fr (fun k => k = IM ∨ k = SP ∨ vs.ownBlock = some k) w w' := by
  obtain ⟨i64, hi, hz, hs, hb⟩ := info64'
  have hF := (Fr.refl (fun _ => False) w).alloc (.cells #[.int .u32 (lo : Int), .slice ba bn bc, .int .u64 0, .int .i32 0, .int .i32 0, .bool false] 64)
  have hcv := kS_run ho hF
  have hlk := slook_miss (c := true) Ybaf.underlying35 zero53 (hm.kept hF id) hk
  obtain ⟨a, c, rfl⟩ := ho.form
  obtain ⟨va, vc, rfl⟩ := owns_slice hrow
  have s0 : w.cell? ⟨SP, 10, none⟩ = some (.slice va n vc) := by rw [hsp.cell]; exact hvs
  have hSPlt := hsp.lt
  have ew : IntKind.u32.wrap (n : Int) = (n : Int) := by rw [IntKind.wrap_u32]; omega
  have HM := hide hm
  have HK := hide hk
  have HO := hide ho
  have HS := hide hsp
  have HR := hide hrow
  have HF := hide hF
  have HV := hide hvs
  have HX : Hid (∀ W : World, W.heap = ((w.alloc (.cells #[.int .u32 (lo : Int), .slice ba bn bc, .int .u64 0, .int .i32 0, .int .i32 0, .bool false] 64)).alloc (.cells #[.int .u32 (lo : Int), .slice ba bn bc, .int .u64 0, .int .i32 0, .int .i32 0, .bool false] 64)).heap → W.ownsRow 0 64 6 (.slice va n vc) n xs) := fun W hW => owns_heap (owns_kept hrow (hF.alloc _) (fun _ _ => id)) hW
  have HY : Hid (∀ W : World, W.heap = ((w.alloc (.cells #[.int .u32 (lo : Int), .slice ba bn bc, .int .u64 0, .int .i32 0, .int .i32 0, .bool false] 64)).alloc (.cells #[.int .u32 (lo : Int), .slice ba bn bc, .int .u64 0, .int .i32 0, .int .i32 0, .bool false] 64)).heap → ∀ (j : Nat) (u : Value), ([.int .u32 (lo : Int), .slice ba bn bc, .int .u64 0, .int .i32 0, .int .i32 0, .bool false] : List Value)[j]? = some u → W.cell? ((⟨w.heap.size + 1, 0, none⟩ : Addr).add j) = some u) := fun W hW => by
    have h1 : Blk W (w.heap.size + 1) 64 [.int .u32 (lo : Int), .slice ba bn bc, .int .u64 0, .int .i32 0, .int .i32 0, .bool false] := by
      have := Blk.new (w.alloc (.cells #[.int .u32 (lo : Int), .slice ba bn bc, .int .u64 0, .int .i32 0, .int .i32 0, .bool false] 64)) 64 [.int .u32 (lo : Int), .slice ba bn bc, .int .u64 0, .int .i32 0, .int .i32 0, .bool false]
      rw [World.size_alloc] at this
      show W.heap[w.heap.size + 1]? = _
      rw [hW]; exact this
    exact World.news_of_block h1
  clear hm hk ho hsp hrow hF hvs
  go_enter Ybaf.func18, Ybaf.ntmps18
  go_wp2_with fail
  go_region_law (refine step_append_lies _ (by rfl) _ _ _ (by rfl) 0 64 i64 (.agg #[.int .u32 0, .slice none 0 0, .int .u64 0, .int .i32 0, .int .i32 0, .bool false]) 6 56 Ybaf.underlying37 hi hz hs hb rfl (by omega) (.slice va n vc) n xs (by rfl) (unhide HX _ (by first | rfl | simp)) ⟨w.heap.size + 1, 0, none⟩ 1 1 [.int .u32 (lo : Int), .slice ba bn bc, .int .u64 0, .int .i32 0, .int .i32 0, .bool false] (by rfl) (by rfl) (unhide HY _ (by first | rfl | simp)) (by simp [Value.oneCell']) (by omega) (by unfold maxLen; omega) (by omega) (by omega) (w.heap.size + 1 + 1) (by simp) ?_; intro g cap w1 hown hgrow hat hlt; obtain ⟨k1, k2, k3, w3, k4, HE⟩ := pack (off := 10) (unhide HM) (unhide HK) (unhide HO) (unhide HS) (unhide HR) (by decide) (by decide) (by first | exact ((unhide HF).alloc _).drew | exact ((unhide HF).drew).alloc _) hgrow hown hat (by omega); rw [unhide HV] at k1; clear hown hgrow hat)
  all_goals
    go_wp2_with fail
    go_ret
    exact ⟨rfl, HE.out⟩
end Go.Proofs.YbulkbrdiFmt
