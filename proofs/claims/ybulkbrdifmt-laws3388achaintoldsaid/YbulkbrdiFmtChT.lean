import Derived.Test.YbulkbrdiFmtCh3
import Derived.Deep.RegionHeld3
import Derived.Deep.OwnRows
import Derived.Deep.CutRange
namespace Go.Proofs.YbulkbrdiFmt
open Go.RowKit
set_option linter.unusedVariables false
theorem at0 {o : Oper} {l : List Oper} : (o :: l).toArray[0]? = some o := rfl
theorem atS {o x : Oper} {l : List Oper} {n : Nat} (h : l.toArray[n]? = some x) : (o :: l).toArray[n + 1]? = some x := by simpa using h
theorem made_one (z : Value) (n : Nat) : madeCells #[z] n = (List.replicate n z).toArray := by
  apply Array.ext
  · simp [madeCells]
  · intro i h1 h2
    simp [madeCells, Nat.mod_one]

theorem ne_of_lies {v : Value} {g g' H n c : Nat} (hne : v.ownBlock ≠ some g) (hat : v.ownBlock = some g' ∨ g' = H) (hH : g < H) : (Value.slice (some ⟨g', 0, none⟩) n c).ownBlock ≠ some g := by
  intro e
  have e2 : g' = g := by simpa [Value.ownBlock] using e
  rcases hat with h1 | h1
  · exact hne (by rw [h1, e2])
  · omega

set_option maxHeartbeats 0 in
set_option maxRecDepth 100000 in
theorem chT (xb xo N cap M cap1 : Nat) (a0 a1 : Option Addr) (lg : Nat → Bool) (ga : Nat → Option Addr) (gn gc : Nat → Nat) (jp sd : Nat → Nat) (ss : Nat → Bool) (bv : Nat → Nat → Nat) (tov : Nat → Nat) (w : World)
    (h : 0 < N → ChA w xb xo N lg ga gn gc jp sd ss bv ∧ a0 = some ⟨xb, xo, none⟩) (ht : Rd8 w a1 M tov) (htl : ∀ i, tov i ≤ 255) (hN : N ≤ 300) (hM : M ≤ 300) :
    Calls Ybaf.prog 3 #[.slice a0 N cap, .slice a1 M cap1] w fun e w' => e = .returned (.bool true) ∧ Below w.heap.size w w' := by
  have HA := hide h
  have HT := hide ht
  have d0 : decide ((300 : Int) < (N : Int)) = false := by simp; omega
  have d1 : decide ((300 : Int) < (M : Int)) = false := by simp; omega
  clear h ht
  go_enter Ybaf.func3, Ybaf.ntmps3
  go_wp2_with fail
  go_loopw [5] (fun s5 wr => ∃ k : Nat, s5 = .int .i64 k ∧ k ≤ N ∧ Hid (∀ i, i < k → gn i ≤ 1024) ∧ Hid (w = wr)) (fun s5 _ => N - (intOf s5).toNat)
  case atStart => exact ⟨0, rfl, by omega, fun i hi => by omega, rfl⟩
  case round =>
    obtain ⟨k, rfl, hk, HG, hweq⟩ := hrel
    obtain rfl := unhide hweq
    by_cases hkn : k < N
    · obtain ⟨hA0, rfl⟩ := unhide HA (by omega); have H := hide hA0; have hx := hA0.lt; clear hA0
      have c1 : w.cell? ⟨xb, xo + k * 5 + 1, none⟩ = some (.slice (ga k) (gn k) (gc k)) := (unhide H).c1 k hkn
      have z1 : (k : Int) < (N : Int) := by omega
      by_cases hg : 1024 < gn k
      · have z2 : (1024 : Int) < (gn k : Int) := by omega
        go_wp2_with fail
        go_ret
        exact ⟨rfl, Below.refl _ _⟩
      · have z2 : decide ((1024 : Int) < (gn k : Int)) = false := by simp; omega
        have HG2 : Hid (∀ i, i < k + 1 → gn i ≤ 1024) := fun i hi => by
          by_cases e : i = k
          · rw [e]; omega
          · exact unhide HG i (by omega)
        go_wp2_with fail
        go_roundw
        case rel => exact ⟨k + 1, by go_num, by omega, HG2, hide trivial⟩
        case measure => (try simp [intOf]) <;> (try omega)
    · obtain rfl : N = k := by omega
      have z1 : decide ((N : Int) < (N : Int)) = false := by simp
      have hmk := make36 M (by omega)
      have hmm : ∀ w : World, (Instr.makeMap 27 none).run Ybaf.prog w = .ok (.map (some w.heap.size)) (w.alloc (.map #[] 0)) := fun w => rfl
      clear hk hkn hweq
      obtain ⟨K, hK⟩ : ∃ K, K = N + 1 := ⟨_, rfl⟩
      have eK : (N : Int) + 1 = (K : Int) := by omega
      have hK1 : K ≤ 301 := by omega
      have hKN : N < K := by omega
      have hKN2 : K ≤ N + 1 := by omega
      have HK := hide hK
      clear hK
      go_wp2_with fail
      clear hmk hmm
      have H0 : Hid (G2 w M tov 0 (((w.alloc (.map #[] 0)).alloc (.cells (spL w.heap.size (.slice none 0 0) (.slice (some ⟨w.heap.size + 1 + 1, 0, none⟩) M M) (.slice none 0 0)).toArray 42)).alloc (.cells (rowZ zitem.toList M).toArray 48))) := by
        refine ⟨?_, ?_, ?_, by simp, (((Fr.refl _ w).alloc _).alloc _).alloc _⟩
        · refine MapAt.kept (w := w.alloc (.map #[] 0)) ⟨#[], 0, heap_alloc_new w _, rfl⟩ (((Fr.refl (fun _ => False) _).alloc _).alloc _) id
        · have := (Blk.new (w.alloc (.map #[] 0)) 42 (spL w.heap.size (.slice none 0 0) (.slice (some ⟨w.heap.size + 1 + 1, 0, none⟩) M M) (.slice none 0 0))).alloc (.cells (rowZ zitem.toList M).toArray 48)
          rw [World.size_alloc] at this; exact this
        · have := Blk.new ((w.alloc (.map #[] 0)).alloc (.cells (spL w.heap.size (.slice none 0 0) (.slice (some ⟨w.heap.size + 1 + 1, 0, none⟩) M M) (.slice none 0 0)).toArray 42)) 48 (rowZ zitem.toList M)
          rw [World.size_alloc, World.size_alloc] at this
          rw [rowF_zero]; exact this
      go_loopw [9] (fun s9 wr => ∃ k : Nat, s9 = .int .i64 k ∧ k ≤ M ∧ Hid (G2 w M tov k wr)) (fun s9 _ => M - (intOf s9).toNat)
      case atStart => exact ⟨0, rfl, by omega, H0⟩
      case round =>
        clear H0
        obtain ⟨k, rfl, hk, hst⟩ := hrel
        by_cases hkm : k < M
        · obtain ⟨b1, o1, ha1, hb1, hc1⟩ : ∃ b off, a1 = some ⟨b, off, none⟩ ∧ b < w.heap.size ∧ ∀ i, i < M → w.cell? ⟨b, off + i, none⟩ = some (.int .u8 (tov i : Nat)) := by
            rcases unhide HT with h | h
            · omega
            · exact h
          subst ha1
          have t0 : wr.cell? ⟨b1, o1 + k, none⟩ = some (.int .u8 (tov k : Nat)) := cell_kept hb1 (unhide hst).fr id (hc1 k hkm)
          have s8 : wr.cell? ⟨w.heap.size + 1, 8, none⟩ = some (.slice (some ⟨w.heap.size + 1 + 1, 0, none⟩) M M) := (unhide hst).sp.cell 8
          have cc := fun j hj => ((unhide hst).it.cell (k * 9 + j)).trans (rowF_get (z := zitem.toList) (f := itm tov) (s := 9) rfl (fun _ => rfl) (k := k) hkm j hj)
          simp only [Nat.lt_irrefl, if_false] at cc
          have i0 : wr.cell? ⟨w.heap.size + 1 + 1, k * 9, none⟩ = some (.int .i64 0) := cc 0 (by omega)
          have i1 : wr.cell? ⟨w.heap.size + 1 + 1, k * 9 + 1, none⟩ = some (.int .i64 0) := cc 1 (by omega)
          have i2 : wr.cell? ⟨w.heap.size + 1 + 1, k * 9 + 2, none⟩ = some (.string ⟨#[]⟩) := cc 2 (by omega)
          have i3 : wr.cell? ⟨w.heap.size + 1 + 1, k * 9 + 3, none⟩ = some (.string ⟨#[]⟩) := cc 3 (by omega)
          have i4 : wr.cell? ⟨w.heap.size + 1 + 1, k * 9 + 4, none⟩ = some (.int .u64 0) := cc 4 (by omega)
          have i5 : wr.cell? ⟨w.heap.size + 1 + 1, k * 9 + 5, none⟩ = some (.bool false) := cc 5 (by omega)
          have i6 : wr.cell? ⟨w.heap.size + 1 + 1, k * 9 + 6, none⟩ = some (.bool false) := cc 6 (by omega)
          have i7 : wr.cell? ⟨w.heap.size + 1 + 1, k * 9 + 7, none⟩ = some (.int .u64 0) := cc 7 (by omega)
          have i8 : wr.cell? ⟨w.heap.size + 1 + 1, k * 9 + 8, none⟩ = some (.pointer none) := cc 8 (by omega)
          have ff := fun j => (unhide hst).it.frozen (k * 9 + j)
          have j0 : wr.frozen? ⟨w.heap.size + 1 + 1, k * 9, none⟩ = false := ff 0
          have j1 : wr.frozen? ⟨w.heap.size + 1 + 1, k * 9 + 1, none⟩ = false := ff 1
          have j2 : wr.frozen? ⟨w.heap.size + 1 + 1, k * 9 + 2, none⟩ = false := ff 2
          have j3 : wr.frozen? ⟨w.heap.size + 1 + 1, k * 9 + 3, none⟩ = false := ff 3
          have j4 : wr.frozen? ⟨w.heap.size + 1 + 1, k * 9 + 4, none⟩ = false := ff 4
          have j5 : wr.frozen? ⟨w.heap.size + 1 + 1, k * 9 + 5, none⟩ = false := ff 5
          have j6 : wr.frozen? ⟨w.heap.size + 1 + 1, k * 9 + 6, none⟩ = false := ff 6
          have j7 : wr.frozen? ⟨w.heap.size + 1 + 1, k * 9 + 7, none⟩ = false := ff 7
          have j8 : wr.frozen? ⟨w.heap.size + 1 + 1, k * 9 + 8, none⟩ = false := ff 8
          obtain ⟨tm, htm⟩ : ∃ tm, tm = tov k % 64 := ⟨_, rfl⟩
          have et : ((tov k : Nat) : Int) % 64 = (tm : Int) := by rw [htm]; rfl
          have htm2 : tm < 64 := by omega
          have htl2 := htl k
          have HN : Hid (∀ W, W = wr.setCells (w.heap.size + 1 + 1) (k * 9) [.int .i64 (tm : Int), .int .i64 (-1), .string ⟨#[]⟩, .string ⟨#[]⟩, .int .u64 0, .bool false, .bool false, .int .u64 0, .pointer none] → G2 w M tov (k + 1) W) := fun W hW => (unhide hst).next hkm (by rw [hW, htm]; rfl)
          have z2 : (k : Int) < (M : Int) := by omega
          have n1 : b1 < wr.heap.size := Nat.lt_of_lt_of_le hb1 (unhide hst).fr.size
          clear cc ff htm hc1
          go_wp2_with fail
          go_region
          all_goals
            go_wp2_with fail
            go_roundw
            case rel => exact ⟨k + 1, by go_num, by omega, (unhide HN _ rfl).drew⟩
            case measure => (try simp [intOf]) <;> (try omega)
        · obtain rfl : M = k := by omega
          have d2 : decide ((M : Int) < (M : Int)) = false := by simp
          have s6 : wr.cell? ⟨w.heap.size + 1, 6, none⟩ = some (.slice none 0 0) := (unhide hst).sp.cell 6
          have s10 : wr.cell? ⟨w.heap.size + 1, 10, none⟩ = some (.slice none 0 0) := (unhide hst).sp.cell 10
          have f6 : wr.frozen? ⟨w.heap.size + 1, 6, none⟩ = false := (unhide hst).sp.frozen 6
          have f10 : wr.frozen? ⟨w.heap.size + 1, 10, none⟩ = false := (unhide hst).sp.frozen 10
          have hsz := (unhide hst).size
          have hmk1 := make34 K hK1
          have hmk2 := make37 K hK1
          have hmk3 := fun w => run_make_row' (P := Ybaf.prog) 49 50 (.slice none 0 0) 24 Ybaf.underlying49 (by kernel_rfl) rfl .i64 .i64 K (by omega) (by omega) w
          rw [made_one] at hmk3
          clear hk hkm
          go_wp2_with fail
          clear hmk1 hmk2 hmk3
          go_loopw [11] (fun s11 wr => ∃ (c : Nat) (F : Nat → Ci), s11 = .int .i64 c ∧ c ≤ K ∧ Hid (G3 w K M tov F c wr)) (fun s11 _ => K - (intOf s11).toNat)
          case atStart =>
            refine ⟨0, fun _ => ⟨none, 0, none, 0, #[], .slice none 0 0⟩, rfl, by omega, ?_⟩
            exact G3.start (unhide hst)
          case round =>
            clear hst s6 s10 f6 f10 hsz
            rename World => wq
            obtain ⟨c, F, rfl, hcK, hst⟩ := hrel
            have hq6 : w.heap.size + 6 ≤ wq.heap.size := (unhide hst).eb.lt
            by_cases hcK2 : c < K
            · have zc : (c : Int) < (K : Int) := by omega
              have eK2 : (K : Int) - 1 = (N : Int) := by omega
              by_cases hcN : c < N
              · have zn : (c : Int) < (N : Int) := by omega
                obtain ⟨hA0, rfl⟩ := unhide HA (by omega); have H := hide hA0; have hx := hA0.lt; clear hA0
                have hA := (unhide H).kept (unhide hst).fr
                have c0 : wq.cell? ⟨xb, xo + c * 5, none⟩ = some (.bool (lg c)) := hA.c0 c hcN
                have c1 : wq.cell? ⟨xb, xo + c * 5 + 1, none⟩ = some (.slice (ga c) (gn c) (gc c)) := hA.c1 c hcN
                have c2 : wq.cell? ⟨xb, xo + c * 5 + 2, none⟩ = some (.int .u8 (jp c : Nat)) := hA.c2 c hcN
                have c3 : wq.cell? ⟨xb, xo + c * 5 + 3, none⟩ = some (.int .u8 (sd c : Nat)) := hA.c3 c hcN
                have c4 : wq.cell? ⟨xb, xo + c * 5 + 4, none⟩ = some (.bool (ss c)) := hA.c4 c hcN
                have hxq : xb < wq.heap.size := hA.lt
                have hgn := unhide HG c hcN
                obtain ⟨db, hdb⟩ : ∃ db : List Value, db = [.bool (lg c), .slice (ga c) (gn c) (gc c), .int .u8 (jp c : Nat), .int .u8 (sd c : Nat), .bool (ss c)] := ⟨_, rfl⟩
                have HDB := hide hdb
                have HX0 : Hid (Ex wq db (.slice none 0 0) 0 [] (wq.alloc (.cells #[.bool (lg c), .slice (ga c) (gn c) (gc c), .int .u8 (jp c : Nat), .int .u8 (sd c : Nat), .bool (ss c)] 25))) :=
                  ⟨owns_nil _ _ _ _, by rw [hdb]; exact Blk.new wq 25 [.bool (lg c), .slice (ga c) (gn c) (gc c), .int .u8 (jp c : Nat), .int .u8 (sd c : Nat), .bool (ss c)], (Fr.refl _ wq).alloc _⟩
                obtain ⟨i54, hi54, hz54, hs54, hb54⟩ := info_parts (P := Ybaf.prog) (e := 54) (z := .int .u32 0) (size := 1) (bytes := 4) (by kernel_rfl)
                clear hA hdb
                go_upto_if 110 with fail
                clear c0 c1 c2 c3 c4
                go_cut [12, 14] from 105 to 115 (fun s12 s14 wd => ∃ (v : Value) (n ll : Nat) (la : Option Addr), s12 = v ∧ s14 = .slice la ll ll ∧ ll ≤ 1 ∧ Hid (Ex wq db v n (if 0 < ll then [0] else []) wd))
                case first =>
                  cases hlg : lg c with
                  | true =>
                    rw [hlg] at HX0
                    have hnews := hide (World.news_of_block (Blk.new (wq.alloc (.cells #[.bool true, .slice (ga c) (gn c) (gc c), .int .u8 (jp c : Nat), .int .u8 (sd c : Nat), .bool (ss c)] 25)) 54 [.int .u32 0]))
                    have how := hide ((unhide HX0).own2 (.cells #[.int .u32 0] 54))
                    clear hlg
                    go_wp2_with (at_builtin; refine wpList_append_own_at _ (by rfl) _ _ _ (by rfl) (wq.heap.size + 1) 54 i54 (.int .u32 0) 1 4 Ybaf.underlying50 hi54 hz54 hs54 hb54 rfl (by omega) _ 0 [] (by rfl) how.out ⟨wq.heap.size + 1, 0, none⟩ 1 1 [.int .u32 0] (by rfl) (by rfl) (by have := hnews.out; simpa using this) (by simp [Value.oneCell']) (by unfold maxLen; omega) (by omega) (by simp) ?_; intro v' w1 hown1 hgrow hnil hat; obtain ⟨a', c', rfl⟩ := owns_slice hown1; have Hn := hide ((unhide HX0).app (x := 0) hown1 hgrow); clear hown1 hgrow hnil hat)
                    go_meet
                    case rel => exact ⟨_, 1, 1, _, rfl, rfl, by omega, (unhide Hn).grow ((Fr.refl _ _).alloc _)⟩
                  | false =>
                    rw [hlg] at HX0
                    clear hlg
                    go_wp2_with fail
                    go_meet
                    case rel => exact ⟨_, 0, 0, none, rfl, rfl, by omega, HX0⟩
                case rest =>
                  clear HX0
                  obtain ⟨v, n, ll, la, rfl, rfl, hll, hX⟩ := hcut
                  rename World => wv
                  obtain ⟨va, vc, rfl⟩ := owns_slice (unhide hX).own
                  obtain ⟨pre, hpre⟩ : ∃ pre : List Nat, pre = (if 0 < ll then [0] else []) := ⟨_, rfl⟩
                  rw [← hpre] at hX
                  have HPre := hide hpre
                  have hn1 : n ≤ 1 := by rw [(unhide hX).len, hpre]; split <;> simp
                  clear hpre
                  have hwv : wq.heap.size < wv.heap.size := (unhide hX).blk.lt
                  have k1 : wv.cell? ⟨wq.heap.size, 1, none⟩ = some (.slice (ga c) (gn c) (gc c)) := by rw [(unhide hX).blk.cell, unhide HDB]; rfl
                  have HVb : Hid (∀ j, (Value.slice va n vc).ownBlock = some j → j < wv.heap.size) := fun j hj => ((unhide hX).own.lt j hj).2
                  go_upto_if 117 with fail
                  go_cut [12, 13] from 105 to 117 (fun s12 s13 wd => ∃ (v : Value) (n : Nat) (ba : Option Addr) (bn : Nat) (dd : Array Nat), s12 = v ∧ s13 = .slice ba bn bn ∧ bn ≤ 1024 ∧ n ≤ 1025 ∧ Hid (Ex wq db v n (evOf ll dd bn) wd ∧ (0 < bn → ∃ g, wq.heap.size ≤ g ∧ ba = some ⟨g, 0, none⟩ ∧ Blk wd g 53 (rowV dd) ∧ dd.size = bn ∧ (∀ i, i < bn → dd[i]! < 300) ∧ Sort.SortedIn ltN 0 bn dd)))
                  case first =>
                    by_cases hM0 : 0 < M
                    · have zM : decide (0 < M) = true := by simp; omega
                      rw [zM]
                      have hmk := make51 (gn c) hgn
                      by_cases hg0 : gn c = 0
                      · rw [hg0] at k1 hmk
                        have hmk' : ∀ w : World, (Instr.makeSlice 51 (.int .i64 0) (.int .i64 0)).run Ybaf.prog w = .ok (.slice (some ⟨w.heap.size, 0, none⟩) 0 0) (w.alloc (.cells #[] 53)) := hmk
                        have HSo := hide (sort_any wv.heap.size 0 #[] (wv.alloc (.cells #[] 53)) (Blk.new wv 53 []) rfl (by omega))
                        clear hmk hg0
                        go_wp2_with fail
                        refine wp_loop_rounds 1 ?_
                        rw [rounds_succ]
                        go_wp2_with fail
                        refine (unhide HSo).mono ?_
                        rintro e w5 ⟨rfl, d', hR, _, _⟩
                        have HX5 : Hid (Ex wq db (.slice va n vc) n (evOf ll #[] 0) w5) := by
                          have e : evOf ll #[] 0 = pre := by unfold evOf; rw [unhide HPre]; simp [ddl]
                          rw [e]
                          exact ((unhide hX).grow ((Fr.refl _ _).alloc _)).kept hR.fr (fun b hb => by subst hb; exact ⟨hwv, fun hj => by have := unhide HVb _ hj; omega⟩)
                        clear hR HSo
                        go_wp2_with fail
                        refine wp_loop_rounds 1 ?_
                        rw [rounds_succ]
                        go_wp2_with fail
                        go_meet
                        case rel => exact ⟨_, n, _, 0, #[], rfl, rfl, by omega, by omega, unhide HX5, fun h => by omega⟩
                      · obtain ⟨b2, o2, hga, hb2, hc2⟩ : ∃ b off, ga c = some ⟨b, off, none⟩ ∧ b < w.heap.size ∧ ∀ i, i < gn c → w.cell? ⟨b, off + i, none⟩ = some (.int .u8 (bv c i : Nat)) := by
                          rcases (unhide H).rd c hcN with h | h
                          · omega
                          · exact h
                        rw [hga] at k1
                        have HGA := hide hga
                        have HC2 := hide hc2
                        have HOw := hide (own_new wv (wq.heap.size + 1) (gn c) (by omega) hgn)
                        obtain ⟨i53, hi53, hz53, hs53, hb53⟩ := info_parts (P := Ybaf.prog) (e := 53) (z := .int .u32 0) (size := 1) (bytes := 4) (by kernel_rfl)
                        have HXa := hide ((unhide hX).grow ((Fr.refl _ wv).alloc (.cells (List.replicate (gn c) (.int .u32 0)).toArray 53)))
                        clear hc2 hga
                        go_wp2_with fail
                        clear hmk
                        obtain ⟨g, hg⟩ : ∃ g, wv.heap.size = g := ⟨_, rfl⟩
                        rw [hg] at HOw HVb hwv ⊢
                        have hFwq := (unhide hst).fr
                        have HFwq := hide hFwq
                        clear hg hFwq
                        go_loopw [125, 16] (fun s125 s16 wr => ∃ k : Nat, s125 = .int .i64 k ∧ s16 = .slice (some ⟨g, 0, none⟩) k (gn c) ∧ k ≤ gn c ∧ Hid (wr.ownsRow (wq.heap.size + 1) 53 1 (.slice (some ⟨g, 0, none⟩) k (gn c)) k (bagK M (bv c) k) ∧ Ex wq db (.slice va n vc) n pre wr)) (fun s125 _ _ => gn c - (intOf s125).toNat)
                        case atStart => exact ⟨0, rfl, rfl, by omega, HOw, HXa⟩
                        case round =>
                          clear HOw HXa
                          obtain ⟨k, rfl, rfl, hk, hst4⟩ := hrel
                          obtain ⟨hOw, hXr⟩ := unhide hst4
                          have k1r : wr.cell? ⟨wq.heap.size, 1, none⟩ = some (.slice (some ⟨b2, o2, none⟩) (gn c) (gc c)) := (World.cell?_of_block (show wr.heap[wq.heap.size]? = wr.heap[wq.heap.size]? from rfl)).trans (by rw [hXr.blk.cell, unhide HDB]; simp only [List.getElem?_cons_succ, List.getElem?_cons_zero]; rw [HGA.out])
                          by_cases hkg : k < gn c
                          · obtain ⟨x, hx⟩ : ∃ x, x = bv c k := ⟨_, rfl⟩
                            have hxl : x ≤ 255 := by rw [hx]; exact ((unhide H).le c).2.2 k
                            have x0 : wr.cell? ⟨b2, o2 + k, none⟩ = some (.int .u8 (x : Nat)) := by rw [hx]; exact cell_kept hb2 ((unhide HFwq).trans hXr.fr) id (unhide HC2 k hkg)
                            have zk : (k : Int) < (gn c : Int) := by omega
                            obtain ⟨m, hm⟩ : ∃ m, m = x % M := ⟨_, rfl⟩
                            have em : (x : Int) % (M : Int) = (m : Int) := by rw [hm]; rfl
                            have hmM : m < M := by rw [hm]; exact Nat.mod_lt _ hM0
                            have hnews := hide (World.news_of_block (Blk.new wr 53 [.int .u32 (m : Int)]))
                            have how := hide (owns_kept hOw ((Fr.refl (fun _ => False) wr).alloc (.cells #[.int .u32 (m : Int)] 53)) (fun _ _ => id))
                            have HB1 : Hid (bagK M (bv c) (k + 1) = bagK M (bv c) k ++ [.int .u32 (m : Int)]) := by show _ = _; rw [bagK_succ, hm, hx]
                            have HXr := hide hXr
                            have dM : ((M : Int) == 0) = false := by simp; omega
                            clear hOw hXr hst4 hx hm k1r
                            go_wp2_with (at_builtin; refine wpList_append_own_spare _ (by rfl) _ _ _ (by rfl) (wq.heap.size + 1) 53 i53 1 Ybaf.underlying51 hi53 hs53 g k (gn c) (bagK M (bv c) k) (by rfl) how.out ⟨wr.heap.size, 0, none⟩ 1 1 [.int .u32 (m : Int)] (by rfl) (by rfl) hnews.out (by simp [Value.oneCell']) (by omega) ?_; intro w1 hown1 hgrow; have HO2 := hide hown1; have HX2 := hide (((unhide HXr).grow ((Fr.refl _ wr).alloc (.cells #[.int .u32 (m : Int)] 53))).kept (S := (· = g)) ((Fr.refl (· = g) _).grown hgrow (fun j hj => .inl (by injection hj with hj; exact hj.symm))) (fun b hb => by subst hb; exact ⟨hwv, fun hj => by have := unhide HVb _ hj; omega⟩)); clear hown1 hgrow)
                            go_roundw
                            case rel => exact ⟨k + 1, by go_num, rfl, by omega, by rw [unhide HB1]; exact HO2, HX2⟩
                            case measure => (try simp [intOf]) <;> (try omega)
                          · obtain ⟨nb, hnb⟩ : ∃ nb, gn c = nb := ⟨_, rfl⟩
                            obtain rfl : k = nb := by omega
                            rw [hnb] at hOw
                            have hB := own_full hOw
                            rw [bagK_row] at hB
                            have HSo := hide (sort_any g k (bagD M (bv c) k) wr hB (bagD_size _ _ _) (by omega))
                            have HXr := hide hXr
                            have HNB := hide hnb
                            rw [hnb]
                            clear hB hOw hXr hst4 k1r
                            go_wp2_with fail
                            refine (unhide HSo).mono ?_
                            rintro e w5 ⟨rfl, d', hR, hP, hS⟩
                            have hlt : ∀ i, i < k → d'[i]! < M := fun i hi => Sort.permIn_all _ _ 0 k (fun x => x < M) (by rw [bagD_size]; exact Nat.le_refl _) hP (bagD_lt (bv c) k hM0) i (Nat.zero_le _) hi
                            have HX5 : Hid (Ex wq db (.slice va n vc) n pre w5) := (unhide HXr).kept (S := (· = g)) hR.fr (fun b hb => by subst hb; exact ⟨hwv, fun hj => by have := unhide HVb _ hj; omega⟩)
                            have HR5 := hide hR.row
                            have HSz := hide hR.size
                            have HLt := hide hlt
                            have HSr := hide hS
                            clear hR hP hS hlt HSo HXr
                            go_wp2_with fail
                            go_loopw [143, 12] (fun s143 s12 wr => ∃ (q n : Nat) (v : Value), s143 = .int .i64 q ∧ s12 = v ∧ q ≤ k ∧ Hid (v.ownBlock ≠ some g) ∧ Hid (Ex wq db v n (pre ++ ddl d' q) wr ∧ Blk wr g 53 (rowV d'))) (fun s143 _ _ => k - (intOf s143).toNat)
                            case atStart => exact ⟨0, n, _, rfl, rfl, by omega, fun e => by have := unhide HVb _ e; omega, by simpa [ddl] using unhide HX5, HR5⟩
                            case round =>
                              clear HX5 HR5
                              obtain ⟨q, n2, v, rfl, rfl, hq, HNe, hst5⟩ := hrel
                              obtain ⟨hX5, hR5⟩ := unhide hst5
                              obtain ⟨a5, c5, rfl⟩ := owns_slice hX5.own
                              by_cases hqk : q < k
                              · obtain ⟨x, hx⟩ : ∃ x, x = d'[q]! := ⟨_, rfl⟩
                                have hx3 : x < M := by rw [hx]; exact unhide HLt q hqk
                                have x0 : wr.cell? ⟨g, q, none⟩ = some (.int .u32 (x : Int)) := by rw [hx]; exact hR5.get (by rw [unhide HSz]; exact hqk)
                                have z2 : (q : Int) < (k : Int) := by omega
                                obtain ⟨x1, hx1⟩ : ∃ x1, x1 = x + 1 := ⟨_, rfl⟩
                                have e1 : (x : Int) + 1 = (x1 : Int) := by omega
                                have hll2 : n2 ≤ 1025 := by have := ddl_le d' q; have := hX5.len; have hp1 : pre.length ≤ 1 := by rw [unhide HPre]; split <;> simp
                                                            simp at this; omega
                                obtain ⟨L, hL⟩ : ∃ L, L = pre ++ ddl d' q := ⟨_, rfl⟩
                                rw [← hL] at hX5
                                have hgr : g < wr.heap.size := hR5.lt
                                have hwq2 : wq.heap.size < wr.heap.size := hX5.blk.lt
                                have hnews := hide (World.news_of_block (Blk.new wr 54 [.int .u32 (x1 : Int)]))
                                have how := hide (hX5.own2 (.cells #[.int .u32 (x1 : Int)] 54))
                                have HX5 := hide hX5
                                have HR5 := hide hR5
                                by_cases hk0 : q = 0
                                · as_aux_lemma =>
                                    subst hk0
                                    have HD : Hid (pre ++ ddl d' (0 + 1) = L ++ [x1]) := by
                                      show _ = _
                                      rw [hL, hx1, hx]; simp [ddl]
                                    clear hX5 hR5 hst5 hx hx1 hL
                                    go_wp2_with (at_builtin; refine wpList_append_lies _ (by rfl) _ _ _ (by rfl) (wq.heap.size + 1) 54 i54 (.int .u32 0) 1 4 Ybaf.underlying50 hi54 hz54 hs54 hb54 rfl (by omega) _ n2 (evV L) (by rfl) how.out ⟨wr.heap.size, 0, none⟩ 1 1 [.int .u32 (x1 : Int)] (by rfl) (by rfl) hnews.out (by simp [Value.oneCell']) (by omega) (by unfold maxLen; omega) (by omega) (by simp; omega) (wr.heap.size + 1) (by simp) ?_; intro g' c' w1 hown1 hgrow hat hlt'; have Hn := hide ((unhide HX5).app (x := x1) hown1 hgrow); have HNe2 := hide (ne_of_lies (n := n2 + 1) (c := c') (unhide HNe) hat (by omega)); have HRn : Hid (Blk w1 g 53 (rowV d')) := (hgrow.block g (by simp; omega) (fun e => unhide HNe e.symm)).trans ((unhide HR5).alloc _); clear hown1 hgrow hat hlt')
                                    go_roundw
                                    case rel => exact ⟨0 + 1, n2 + 1, _, by go_num, rfl, by omega, HNe2, by rw [unhide HD]; exact Hn, HRn⟩
                                    case measure => (try simp [intOf]) <;> (try omega)
                                · obtain ⟨r, hr⟩ : ∃ r, r = q - 1 := ⟨_, rfl⟩
                                  have er : (q : Int) - 1 = (r : Int) := by omega
                                  obtain ⟨y, hy⟩ : ∃ y, y = d'[r]! := ⟨_, rfl⟩
                                  have y0 : wr.cell? ⟨g, r, none⟩ = some (.int .u32 (y : Int)) := by rw [hy]; exact hR5.get (by rw [unhide HSz]; omega)
                                  have dk : ((q : Int) == 0) = false := by simp; omega
                                  have z3 : (r : Int) < (k : Int) := by omega
                                  by_cases hxy : y = x
                                  · have HD : Hid (pre ++ ddl d' (q + 1) = L) := by
                                      show _ = _
                                      rw [hL, ddl, if_neg (by rw [← hr, ← hy, ← hx]; omega)]
                                    have dxy : ((y : Int) != (x : Int)) = false := by simp [hxy]
                                    clear hX5 hR5 hst5 hx hx1 hL hr hy hxy how hnews
                                    go_wp2_with fail
                                    go_roundw
                                    case rel => exact ⟨q + 1, n2, _, by go_num, rfl, by omega, HNe, by rw [unhide HD]; exact HX5, HR5⟩
                                    case measure => (try simp [intOf]) <;> (try omega)
                                  · have HD : Hid (pre ++ ddl d' (q + 1) = L ++ [x1]) := by
                                      show _ = _
                                      rw [hL, ddl, if_pos (by rw [← hr, ← hy, ← hx]; exact .inr hxy), hx1, hx]; simp
                                    have dxy : ((y : Int) != (x : Int)) = true := by simp; omega
                                    clear hX5 hR5 hst5 hx hx1 hL hr hy
                                    go_wp2_with (at_builtin; refine wpList_append_lies _ (by rfl) _ _ _ (by rfl) (wq.heap.size + 1) 54 i54 (.int .u32 0) 1 4 Ybaf.underlying50 hi54 hz54 hs54 hb54 rfl (by omega) _ n2 (evV L) (by rfl) how.out ⟨wr.heap.size, 0, none⟩ 1 1 [.int .u32 (x1 : Int)] (by rfl) (by rfl) hnews.out (by simp [Value.oneCell']) (by omega) (by unfold maxLen; omega) (by omega) (by simp; omega) (wr.heap.size + 1) (by simp) ?_; intro g' c' w1 hown1 hgrow hat hlt'; have Hn := hide ((unhide HX5).app (x := x1) hown1 hgrow); have HNe2 := hide (ne_of_lies (n := n2 + 1) (c := c') (unhide HNe) hat (by omega)); have HRn : Hid (Blk w1 g 53 (rowV d')) := (hgrow.block g (by simp; omega) (fun e => unhide HNe e.symm)).trans ((unhide HR5).alloc _); clear hown1 hgrow hat hlt')
                                    go_roundw
                                    case rel => exact ⟨q + 1, n2 + 1, _, by go_num, rfl, by omega, HNe2, by rw [unhide HD]; exact Hn, HRn⟩
                                    case measure => (try simp [intOf]) <;> (try omega)
                              · obtain rfl : k = q := by omega
                                have HFIN : Hid (Ex wq db (.slice a5 n2 c5) n2 (evOf ll d' k) wr ∧ (0 < k → ∃ g0, wq.heap.size ≤ g0 ∧ some (⟨g, 0, none⟩ : Addr) = some ⟨g0, 0, none⟩ ∧ Blk wr g0 53 (rowV d') ∧ d'.size = k ∧ (∀ i, i < k → d'[i]! < 300) ∧ Sort.SortedIn ltN 0 k d')) := by
                                  have e : evOf ll d' k = pre ++ ddl d' k := by unfold evOf; rw [unhide HPre]
                                  rw [e]
                                  exact ⟨hX5, fun _ => ⟨g, by omega, rfl, hR5, unhide HSz, fun i hi => by have := unhide HLt i hi; omega, unhide HSr⟩⟩
                                have hll2 : n2 ≤ 1025 := by have := ddl_le d' k; have := hX5.len; have hp1 : pre.length ≤ 1 := by rw [unhide HPre]; split <;> simp
                                                            simp at this; omega
                                clear hX5 hR5 hst5
                                go_wp2_with fail
                                go_meet
                                case rel => exact ⟨_, n2, _, k, d', rfl, rfl, by omega, hll2, HFIN⟩
                    · have zM : decide (0 < M) = false := by simp; omega
                      rw [zM]
                      have HX5 : Hid (Ex wq db (.slice va n vc) n (evOf ll #[] 0) wv) := by
                        have e : evOf ll #[] 0 = pre := by unfold evOf; rw [unhide HPre]; simp [ddl]
                        rw [e]; exact unhide hX
                      go_wp2_with fail
                      go_meet
                      case rel => exact ⟨_, n, none, 0, #[], rfl, rfl, by omega, by omega, unhide HX5, fun h => by omega⟩
                  case rest =>
                    clear hX k1 HVb
                    rename World => wz
                    obtain ⟨v2, n2, ba, bn, dd, rfl, rfl, hbn, hn2, hfin⟩ := hcut
                    obtain ⟨hXz, hbag⟩ := unhide hfin
                    obtain ⟨a2, c2, rfl⟩ := owns_slice hXz.own
                    have HFZ' := hide hXz.fr
                    have hci : CiOk (w.heap.size + 6) wz ⟨la, ll, ba, bn, dd, .slice a2 n2 c2⟩ := by
                      refine ⟨hll, ⟨hbn, fun h0 => ?_⟩, ?_⟩
                      · obtain ⟨g0, h1, h2, h3⟩ := hbag h0
                        exact ⟨g0, by omega, h2, h3⟩
                      · show wz.ownsRow (w.heap.size + 6) 54 1 (.slice a2 n2 c2) (evOf ll dd bn).length (evV (evOf ll dd bn))
                        rw [← hXz.len]; exact owns_weaken hXz.own (by omega)
                    clear hXz hbag hfin
                    have hG := (unhide hst).kept (unhide HFZ')
                    have s6 : wz.cell? ⟨w.heap.size + 1, 6, none⟩ = some (.slice (some ⟨w.heap.size + 3, 0, none⟩) K K) := hG.sp.cell 6
                    have s10 : wz.cell? ⟨w.heap.size + 1, 10, none⟩ = some (.slice (some ⟨w.heap.size + 3 + 1, 0, none⟩) K K) := hG.sp.cell 10
                    have cl := fun j hj => (hG.lo.cell (c * 4 + j)).trans (rowF_get (z := zlocal.toList) (f := fun i => lcl (F i)) (s := 4) rfl (fun _ => rfl) (k := c) hcK2 j hj)
                    have cm := fun j hj => (hG.co.cell (c * 6 + j)).trans (rowF_get (z := zcomp.toList) (f := fun i => cmp i (F i)) (s := 6) rfl (fun _ => rfl) (k := c) hcK2 j hj)
                    have ce := fun j hj => (hG.eb.cell (c * 1 + j)).trans (rowF_get (z := [.slice none 0 0]) (f := fun i => [(F i).ev]) (s := 1) rfl (fun _ => rfl) (k := c) hcK2 j hj)
                    simp only [Nat.lt_irrefl, if_false] at cl cm ce
                    have l0 : wz.cell? ⟨w.heap.size + 3, c * 4, none⟩ = some (.int .i64 0) := cl 0 (by omega)
                    have l1 : wz.cell? ⟨w.heap.size + 3, c * 4 + 1, none⟩ = some (.nilIface) := cl 1 (by omega)
                    have l2 : wz.cell? ⟨w.heap.size + 3, c * 4 + 2, none⟩ = some (.slice none 0 0) := cl 2 (by omega)
                    have l3 : wz.cell? ⟨w.heap.size + 3, c * 4 + 3, none⟩ = some (.slice none 0 0) := cl 3 (by omega)
                    have m0 : wz.cell? ⟨w.heap.size + 3 + 1, c * 6, none⟩ = some (.int .u32 0) := cm 0 (by omega)
                    have m1 : wz.cell? ⟨w.heap.size + 3 + 1, c * 6 + 1, none⟩ = some (.slice none 0 0) := cm 1 (by omega)
                    have m2 : wz.cell? ⟨w.heap.size + 3 + 1, c * 6 + 2, none⟩ = some (.int .u64 0) := cm 2 (by omega)
                    have m3 : wz.cell? ⟨w.heap.size + 3 + 1, c * 6 + 3, none⟩ = some (.int .i32 0) := cm 3 (by omega)
                    have m4 : wz.cell? ⟨w.heap.size + 3 + 1, c * 6 + 4, none⟩ = some (.int .i32 0) := cm 4 (by omega)
                    have m5 : wz.cell? ⟨w.heap.size + 3 + 1, c * 6 + 5, none⟩ = some (.bool false) := cm 5 (by omega)
                    have e0 : wz.cell? ⟨w.heap.size + 3 + 1 + 1, c, none⟩ = some (.slice none 0 0) := by have := ce 0 (by omega); rw [Nat.mul_one] at this; exact this
                    have fl0 : wz.frozen? ⟨w.heap.size + 3, c * 4, none⟩ = false := hG.lo.frozen _
                    have fl1 : wz.frozen? ⟨w.heap.size + 3, c * 4 + 1, none⟩ = false := hG.lo.frozen _
                    have fl2 : wz.frozen? ⟨w.heap.size + 3, c * 4 + 2, none⟩ = false := hG.lo.frozen _
                    have fl3 : wz.frozen? ⟨w.heap.size + 3, c * 4 + 3, none⟩ = false := hG.lo.frozen _
                    have fm0 : wz.frozen? ⟨w.heap.size + 3 + 1, c * 6, none⟩ = false := hG.co.frozen _
                    have fm1 : wz.frozen? ⟨w.heap.size + 3 + 1, c * 6 + 1, none⟩ = false := hG.co.frozen _
                    have fm2 : wz.frozen? ⟨w.heap.size + 3 + 1, c * 6 + 2, none⟩ = false := hG.co.frozen _
                    have fm3 : wz.frozen? ⟨w.heap.size + 3 + 1, c * 6 + 3, none⟩ = false := hG.co.frozen _
                    have fm4 : wz.frozen? ⟨w.heap.size + 3 + 1, c * 6 + 4, none⟩ = false := hG.co.frozen _
                    have fm5 : wz.frozen? ⟨w.heap.size + 3 + 1, c * 6 + 5, none⟩ = false := hG.co.frozen _
                    have fe0 : wz.frozen? ⟨w.heap.size + 3 + 1 + 1, c, none⟩ = false := hG.eb.frozen _
                    have HNx : Hid (∀ W, W = ((wz.setCells (w.heap.size + 3) (c * 4) (lcl (⟨la, ll, ba, bn, dd, .slice a2 n2 c2⟩ : Ci))).setCells (w.heap.size + 3 + 1) (c * 6) (cmp c (⟨la, ll, ba, bn, dd, .slice a2 n2 c2⟩ : Ci))).setCells (w.heap.size + 3 + 1 + 1) c [Ci.ev (⟨la, ll, ba, bn, dd, .slice a2 n2 c2⟩ : Ci)] → G3 w K M tov (fun i => if i = c then (⟨la, ll, ba, bn, dd, .slice a2 n2 c2⟩ : Ci) else F i) (c + 1) W) := fun W hW => hG.next (⟨la, ll, ba, bn, dd, .slice a2 n2 c2⟩ : Ci) hci (fun h => by omega) hcK2 (by rw [hW, Nat.mul_one])
                    clear hG cl cm ce
                    go_wp2_with fail
                    go_roundw
                    case rel => exact ⟨c + 1, _, by go_num, by omega, unhide HNx _ rfl⟩
                    case measure => (try simp [intOf]) <;> (try omega)
              · obtain rfl : N = c := by omega
                have zn : decide ((N : Int) < (N : Int)) = false := by simp
                have hG := unhide hst
                have s6 : wq.cell? ⟨w.heap.size + 1, 6, none⟩ = some (.slice (some ⟨w.heap.size + 3, 0, none⟩) K K) := hG.sp.cell 6
                have s10 : wq.cell? ⟨w.heap.size + 1, 10, none⟩ = some (.slice (some ⟨w.heap.size + 3 + 1, 0, none⟩) K K) := hG.sp.cell 10
                have cl := fun j hj => (hG.lo.cell (N * 4 + j)).trans (rowF_get (z := zlocal.toList) (f := fun i => lcl (F i)) (s := 4) rfl (fun _ => rfl) (k := N) hcK2 j hj)
                have cm := fun j hj => (hG.co.cell (N * 6 + j)).trans (rowF_get (z := zcomp.toList) (f := fun i => cmp i (F i)) (s := 6) rfl (fun _ => rfl) (k := N) hcK2 j hj)
                have ce := fun j hj => (hG.eb.cell (N * 1 + j)).trans (rowF_get (z := [.slice none 0 0]) (f := fun i => [(F i).ev]) (s := 1) rfl (fun _ => rfl) (k := N) hcK2 j hj)
                simp only [Nat.lt_irrefl, if_false] at cl cm ce
                have l0 : wq.cell? ⟨w.heap.size + 3, N * 4, none⟩ = some (.int .i64 0) := cl 0 (by omega)
                have l1 : wq.cell? ⟨w.heap.size + 3, N * 4 + 1, none⟩ = some (.nilIface) := cl 1 (by omega)
                have l2 : wq.cell? ⟨w.heap.size + 3, N * 4 + 2, none⟩ = some (.slice none 0 0) := cl 2 (by omega)
                have l3 : wq.cell? ⟨w.heap.size + 3, N * 4 + 3, none⟩ = some (.slice none 0 0) := cl 3 (by omega)
                have m0 : wq.cell? ⟨w.heap.size + 3 + 1, N * 6, none⟩ = some (.int .u32 0) := cm 0 (by omega)
                have m1 : wq.cell? ⟨w.heap.size + 3 + 1, N * 6 + 1, none⟩ = some (.slice none 0 0) := cm 1 (by omega)
                have m2 : wq.cell? ⟨w.heap.size + 3 + 1, N * 6 + 2, none⟩ = some (.int .u64 0) := cm 2 (by omega)
                have m3 : wq.cell? ⟨w.heap.size + 3 + 1, N * 6 + 3, none⟩ = some (.int .i32 0) := cm 3 (by omega)
                have m4 : wq.cell? ⟨w.heap.size + 3 + 1, N * 6 + 4, none⟩ = some (.int .i32 0) := cm 4 (by omega)
                have m5 : wq.cell? ⟨w.heap.size + 3 + 1, N * 6 + 5, none⟩ = some (.bool false) := cm 5 (by omega)
                have e0 : wq.cell? ⟨w.heap.size + 3 + 1 + 1, N, none⟩ = some (.slice none 0 0) := by have := ce 0 (by omega); rw [Nat.mul_one] at this; exact this
                have fl0 : wq.frozen? ⟨w.heap.size + 3, N * 4, none⟩ = false := hG.lo.frozen _
                have fl1 : wq.frozen? ⟨w.heap.size + 3, N * 4 + 1, none⟩ = false := hG.lo.frozen _
                have fl2 : wq.frozen? ⟨w.heap.size + 3, N * 4 + 2, none⟩ = false := hG.lo.frozen _
                have fl3 : wq.frozen? ⟨w.heap.size + 3, N * 4 + 3, none⟩ = false := hG.lo.frozen _
                have fm0 : wq.frozen? ⟨w.heap.size + 3 + 1, N * 6, none⟩ = false := hG.co.frozen _
                have fm1 : wq.frozen? ⟨w.heap.size + 3 + 1, N * 6 + 1, none⟩ = false := hG.co.frozen _
                have fm2 : wq.frozen? ⟨w.heap.size + 3 + 1, N * 6 + 2, none⟩ = false := hG.co.frozen _
                have fm3 : wq.frozen? ⟨w.heap.size + 3 + 1, N * 6 + 3, none⟩ = false := hG.co.frozen _
                have fm4 : wq.frozen? ⟨w.heap.size + 3 + 1, N * 6 + 4, none⟩ = false := hG.co.frozen _
                have fm5 : wq.frozen? ⟨w.heap.size + 3 + 1, N * 6 + 5, none⟩ = false := hG.co.frozen _
                have fe0 : wq.frozen? ⟨w.heap.size + 3 + 1 + 1, N, none⟩ = false := hG.eb.frozen _
                have HNx : Hid (∀ W, W = ((wq.setCells (w.heap.size + 3) (N * 4) (lcl (⟨none, 0, none, 0, #[], .slice none 0 0⟩ : Ci))).setCells (w.heap.size + 3 + 1) (N * 6) (cmp N (⟨none, 0, none, 0, #[], .slice none 0 0⟩ : Ci))).setCells (w.heap.size + 3 + 1 + 1) N [Ci.ev (⟨none, 0, none, 0, #[], .slice none 0 0⟩ : Ci)] → G3 w K M tov (fun i => if i = N then (⟨none, 0, none, 0, #[], .slice none 0 0⟩ : Ci) else F i) (N + 1) W) := fun W hW => hG.next (⟨none, 0, none, 0, #[], .slice none 0 0⟩ : Ci) ⟨by show 0 ≤ 1; omega, ⟨by show 0 ≤ 1024; omega, fun h0 => absurd h0 (by show ¬ 0 < 0; omega)⟩, owns_nil _ _ _ _⟩ (fun _ => rfl) hcK2 (by rw [hW, Nat.mul_one])
                clear hG cl cm ce
                go_wp2_with fail
                go_roundw
                case rel => exact ⟨N + 1, _, by go_num, by omega, unhide HNx _ rfl⟩
                case measure => (try simp [intOf]) <;> (try omega)
            · obtain rfl : K = c := by omega
              have eK2 : (K : Int) - 1 = (N : Int) := by omega
              obtain ⟨q, hq⟩ : ∃ q : Lw, q = ⟨N, M, jp, sd, ss, tov⟩ := ⟨_, rfl⟩
              have hG3 : G3 w (q.N + 1) q.M q.tov F (q.N + 1) wq := by have := unhide hst; rw [unhide HK] at this; rw [hq]; exact this
              have HGs := hide (Gs.start hG3)
              have hmk4 := fun w => run_make_row' (P := Ybaf.prog) 65 43 (.int .u64 0) 8 Ybaf.underlying65 (by kernel_rfl) rfl .i64 .i64 K (by omega) (by omega) w
              rw [made_one] at hmk4
              have HQ := hide hq
              have e0 : q.N + 1 = K := by rw [hq, unhide HK]
              rw [e0] at HGs
              have HQK := hide e0
              clear hq hG3 hcK2 e0
              go_wp2_with fail
              clear hmk4 hst
              obtain ⟨WB, hWB⟩ : ∃ WB, wq.heap.size = WB := ⟨_, rfl⟩
              rw [hWB] at HGs hq6 ⊢
              clear hWB
              go_loopw [22] (fun s22 wr => ∃ (k : Nat) (W : Nat → Nat) (l : List (Nat × Value)) (sa : Nat → Nat → Option Addr), s22 = .int .i64 ((k : Int) - 1) ∧ k ≤ K ∧ Hid (Gs q w F WB k 0 W l sa wr)) (fun s22 _ => (intOf s22 + 1).toNat)
              case atStart => exact ⟨K, _, _, _, by go_num, by omega, by rw [← unhide HQK]; rw [← unhide HQK] at HGs; simpa using HGs⟩
              case round =>
                clear HGs
                rename World => wa
                obtain ⟨k, W, l, sa, rfl, hk, hst⟩ := hrel
                by_cases hk0 : k = 0
                · subst hk0
                  rw [show ((0 : Nat) : Int) - 1 = -1 from rfl]
                  have hqN : q.N = N := by rw [unhide HQ]
                  have hqM : q.M = M := by rw [unhide HQ]
                  have hS0 := (unhide hst).spOk (by omega) (by omega)
                  have hT0 := (unhide hst).stOk
                  have hwant := (unhide hst).want
                  obtain ⟨s, hs⟩ : ∃ s : Sc, s = mkSc q w.heap.size F W := ⟨_, rfl⟩
                  rw [← hs] at hS0 hT0
                  have hsK : s.K = K := by rw [hs, ← unhide HQK]; rfl
                  have hsSP : s.SP = w.heap.size + 1 := by rw [hs]; rfl
                  have hsCB : s.CB = w.heap.size + 3 + 1 := by rw [hs]; rfl
                  have hsW : ∀ c, s.W c = W c := fun c => by rw [hs]; rfl
                  have HSK := hide hsK
                  have HFA := hide (unhide hst).acc.fr
                  have hWBl := hwant.lt
                  have HWne : Hid (WB ≠ s.CB) := hwant.ne hS0.cells (by decide)
                  have HWc : Hid (∀ c, c < K → wa.cell? ⟨WB, c, none⟩ = some (.int .u64 (W c : Nat))) := fun c hc => by
                    rw [hwant.cell, List.getElem?_map, List.getElem?_range (by rw [unhide HQK]; exact hc)]
                    simp
                  have HDs : Hid (∀ (c : Nat) (A : Nat → Bool) (W1 : World), c < K → SpOk s A W1 → Fr (· = s.CB) wa W1 → Calls Ybaf.prog 6 #[.pointer (some ⟨w.heap.size + 1, 0, none⟩), .int .u32 (c : Int)] W1 fun e w' => e = .returned (.int .u64 (W c : Nat)) ∧ ∃ A', A' c = true ∧ SpOk s A' w' ∧ Fr (· = s.CB) wa w' ∧ w'.cell? ⟨WB, c, none⟩ = some (.int .u64 (W c : Nat)) ∧ w'.cell? ⟨w.heap.size + 1, 10, none⟩ = some (.slice (some ⟨w.heap.size + 3 + 1, 0, none⟩) K K) ∧ w'.cell? ⟨w.heap.size + 3 + 1, c * 6 + 5, none⟩ = some (.bool true) ∧ w'.cell? ⟨w.heap.size + 3 + 1, c * 6 + 2, none⟩ = some (.int .u64 (W c : Nat))) := fun c A W1 hc h1 h2 => by
                    have h3 := dests_any s l q.nx sa q.sn q.sk (s.K - c) c A W1 rfl h1 (hT0.kept h2 hS0.cells) (by rw [hsK]; exact hc)
                    rw [hsSP, hsW] at h3
                    refine h3.mono fun e w' ⟨h4, A', _, h6, h7, h8⟩ => ⟨h4, A', h6, h7, h2.trans h8, cell_kept hWBl (h2.trans h8) (unhide HWne) (unhide HWc c hc), by rw [← hsSP, ← hsCB, ← hsK]; exact h7.comps, by rw [← hsCB, h7.cell (by rw [hsK]; exact hc) 5 (by omega)]; simp [Sc.comp, h6], by rw [← hsCB, h7.cell (by rw [hsK]; exact hc) 2 (by omega)]; simp [Sc.comp, h6, hsW]⟩
                  have HS0 := hide hS0
                  have HCB := hide hsCB
                  have HSP := hide hsSP
                  have HSW := hide hsW
                  have w0 : wa.cell? ⟨WB, 0, none⟩ = some (.int .u64 (W 0 : Nat)) := unhide HWc 0 (by omega)
                  have zK0 : (0 : Int) < (K : Int) := by omega
                  have HD0 : Hid (Calls Ybaf.prog 6 #[.pointer (some ⟨w.heap.size + 1, 0, none⟩), .int .u32 0] wa.drew fun e w' => e = .returned (.int .u64 (W 0 : Nat)) ∧ ∃ A', A' 0 = true ∧ SpOk s A' w' ∧ Fr (· = s.CB) wa w' ∧ w'.cell? ⟨WB, 0, none⟩ = some (.int .u64 (W 0 : Nat))) := (unhide HDs 0 (fun _ => false) wa.drew (by omega) (hS0.kept ((Fr.refl _ wa).drew)) ((Fr.refl _ wa).drew)).mono fun e w' ⟨h1, A', h2, h3, h4, h5, _⟩ => ⟨h1, A', h2, h3, h4, h5⟩
                  clear hS0 hT0 hwant hst hs hsK hsCB hsSP hsW hqN hqM
                  go_wp2_with fail
                  go_cut [283] from 278 to 283 (fun s283 wd => s283 = .bool false ∧ Hid (∃ A, SpOk s A wd ∧ Fr (· = s.CB) wa wd))
                  case first =>
                    go_region_with (go_at_call 6; refine (unhide HD0).mono ?_; rintro e w2 ⟨rfl, A2, hA2, hS2, hF2, k0⟩; have HS2 := hide hS2; have HF2 := hide hF2; clear hS2 hF2)
                    all_goals
                      go_wp2_with fail
                      go_meet
                      case rel => exact ⟨rfl, A2, HS2, HF2⟩
                  case rest =>
                    rename World => wc2
                    obtain ⟨rfl, hst⟩ := hcut
                    clear HD0 w0
                    go_wp2_with fail
                    go_loopw [31] (fun s31 wr => ∃ (c : Nat), s31 = .int .i64 c ∧ c ≤ K ∧ Hid (∃ A, SpOk s A wr ∧ Fr (· = s.CB) wa wr)) (fun s31 _ => K - (intOf s31).toNat)
                    case atStart => exact ⟨0, rfl, by omega, hst⟩
                    case round =>
                      clear hst
                      obtain ⟨c, rfl, hcK, hst⟩ := hrel
                      obtain ⟨A, hS, hF⟩ := unhide hst
                      by_cases hcK3 : c < K
                      · have zc : (c : Int) < (K : Int) := by omega
                        have HD1 := hide (unhide HDs c A wr.drew hcK3 (hS.kept ((Fr.refl _ wr).drew)) hF.drew)
                        have w0 : wr.cell? ⟨WB, c, none⟩ = some (.int .u64 (W c : Nat)) := cell_kept hWBl hF (unhide HWne) (unhide HWc c hcK3)
                        have s10 : wr.cell? ⟨w.heap.size + 1, 10, none⟩ = some (.slice (some ⟨w.heap.size + 3 + 1, 0, none⟩) K K) := by rw [← unhide HSP, ← unhide HCB, ← unhide HSK]; exact hS.comps
                        have HSa := hide hS
                        have ew : IntKind.u32.wrap (c : Int) = (c : Int) := by rw [IntKind.wrap_u32]; omega
                        obtain ⟨Wc, hWc⟩ : ∃ Wc, Wc = W c := ⟨_, rfl⟩
                        rw [← hWc] at HD1 w0
                        clear hS hF hst hWc
                        go_wp2_with fail
                        refine wp_region_held_drew (S := (fun w' => w'.cell? ⟨WB, c, none⟩ = some (.int .u64 (Wc : Int)) ∧ w'.cell? ⟨w.heap.size + 1, 10, none⟩ = some (.slice (some ⟨w.heap.size + 3 + 1, 0, none⟩) K K))) (by kernel_rfl) ⟨w0, s10⟩ (fun hHeld => ?_)
                        refine wpAnyH_take (i := 0) (v := ?_) at0 (by kernel_rfl) (by kernel_rfl) (by kernel_rfl) (fun _ _ _ h => h) (Or.inl ⟨by rfl, ?_⟩) hHeld ?_
                        rotate_left
                        · intro w hSw
                          (try dsimp only at hSw)
                          go_simp
                          all_goals with_reducible rfl
                        (try simp only [Act.put, List.setIfInBounds_toArray, List.set_cons_zero, List.set_cons_succ])
                        refine wpAnyH_take (i := 1) (v := ?_) (atS at0) (by kernel_rfl) (by kernel_rfl) (by kernel_rfl) (fun _ _ _ h => h) (Or.inl ⟨by rfl, ?_⟩) hHeld ?_
                        rotate_left
                        · intro w hSw
                          (try dsimp only at hSw)
                          go_simp
                          all_goals with_reducible rfl
                        (try simp only [Act.put, List.setIfInBounds_toArray, List.set_cons_zero, List.set_cons_succ])
                        refine wpAnyH_take (i := 2) (v := ?_) (atS (atS at0)) (by kernel_rfl) (by kernel_rfl) (by kernel_rfl) (fun _ _ _ h => h) (Or.inl ⟨by rfl, ?_⟩) hHeld ?_
                        rotate_left
                        · intro w hSw
                          (try dsimp only at hSw)
                          go_simp
                          all_goals with_reducible rfl
                        (try simp only [Act.put, List.setIfInBounds_toArray, List.set_cons_zero, List.set_cons_succ])
                        refine wpAnyH_take (i := 4) (v := ?_) (atS (atS (atS (atS at0)))) (by kernel_rfl) (by kernel_rfl) (by kernel_rfl) (fun _ _ _ h => h) (Or.inl ⟨by rfl, ?_⟩) hHeld ?_
                        rotate_left
                        · intro w hSw
                          (try dsimp only at hSw)
                          go_simp
                          all_goals with_reducible rfl
                        (try simp only [Act.put, List.setIfInBounds_toArray, List.set_cons_zero, List.set_cons_succ])
                        refine wpAnyH_take (i := 5) (v := ?_) (atS (atS (atS (atS (atS at0))))) (by kernel_rfl) (by kernel_rfl) (by kernel_rfl) (fun _ _ _ h => h) (Or.inl ⟨by rfl, ?_⟩) hHeld ?_
                        rotate_left
                        · intro w hSw
                          (try dsimp only at hSw)
                          go_simp
                          all_goals with_reducible rfl
                        (try simp only [Act.put, List.setIfInBounds_toArray, List.set_cons_zero, List.set_cons_succ])
                        refine wpAnyH_take (i := 6) (v := ?_) (atS (atS (atS (atS (atS (atS at0)))))) (by kernel_rfl) (by kernel_rfl) (by kernel_rfl) (fun _ _ _ h => h) (Or.inl ⟨by rfl, ?_⟩) hHeld ?_
                        rotate_left
                        · intro w hSw
                          (try dsimp only at hSw)
                          go_simp
                          all_goals with_reducible rfl
                        (try simp only [Act.put, List.setIfInBounds_toArray, List.set_cons_zero, List.set_cons_succ])
                        refine wpAnyH_take (i := 7) (v := ?_) (atS (atS (atS (atS (atS (atS (atS at0))))))) (by kernel_rfl) (by kernel_rfl) (by kernel_rfl) (fun _ _ _ h => h) (Or.inl ⟨by rfl, ?_⟩) hHeld ?_
                        rotate_left
                        · intro w hSw
                          (try dsimp only at hSw)
                          go_simp
                          all_goals with_reducible rfl
                        (try simp only [Act.put, List.setIfInBounds_toArray, List.set_cons_zero, List.set_cons_succ])
                        refine wpAnyH_ready (rs := [3]) (by kernel_rfl) (by simp) ?_
                        refine AllReadyH.cons (atS (atS (atS at0))) (fun K' hK' => ?_) AllReadyH.nil
                        go_simp
                        refine (unhide HD1).mono ?_
                        rintro e w2 ⟨rfl, A2, hA2, hS2, hF2, k0, k1, k5, k2⟩
                        have HS2 := hide hS2
                        have HF2 := hide hF2
                        clear hS2 hF2
                        go_wp2_with fail
                        refine hK'.out _ _ ⟨k0, k1⟩ (fun hHeld => ?_)
                        clear hK' K'
                        (try simp only [Act.put, List.setIfInBounds_toArray, List.set_cons_zero, List.set_cons_succ])
                        refine wpAnyH_take (i := 8) (v := ?_) (atS (atS (atS (atS (atS (atS (atS (atS at0)))))))) (by kernel_rfl) (by kernel_rfl) (by kernel_rfl) (fun _ _ _ h => h) (Or.inl ⟨by rfl, ?_⟩) hHeld ?_
                        rotate_left
                        · intro w hSw
                          (try dsimp only at hSw)
                          go_simp
                          all_goals with_reducible rfl
                        (try simp only [Act.put, List.setIfInBounds_toArray, List.set_cons_zero, List.set_cons_succ])
                        refine wpAnyH_take (i := 9) (v := ?_) (atS (atS (atS (atS (atS (atS (atS (atS (atS at0))))))))) (by kernel_rfl) (by kernel_rfl) (by kernel_rfl) (fun _ _ _ h => h) (Or.inl ⟨by rfl, ?_⟩) hHeld ?_
                        rotate_left
                        · intro w hSw
                          (try dsimp only at hSw)
                          go_simp
                          all_goals with_reducible rfl
                        (try simp only [Act.put, List.setIfInBounds_toArray, List.set_cons_zero, List.set_cons_succ])
                        refine wpAnyH_take (i := 10) (v := ?_) (atS (atS (atS (atS (atS (atS (atS (atS (atS (atS at0)))))))))) (by kernel_rfl) (by kernel_rfl) (by kernel_rfl) (fun _ _ _ h => h) (Or.inl ⟨by rfl, ?_⟩) hHeld ?_
                        rotate_left
                        · intro w hSw
                          (try dsimp only at hSw)
                          go_simp
                          all_goals with_reducible rfl
                        (try simp only [Act.put, List.setIfInBounds_toArray, List.set_cons_zero, List.set_cons_succ])
                        refine wpAnyH_take (i := 11) (v := ?_) (atS (atS (atS (atS (atS (atS (atS (atS (atS (atS (atS at0))))))))))) (by kernel_rfl) (by kernel_rfl) (by kernel_rfl) (fun _ _ _ h => h) (Or.inl ⟨by rfl, ?_⟩) hHeld ?_
                        rotate_left
                        · intro w hSw
                          (try dsimp only at hSw)
                          go_simp
                          all_goals with_reducible rfl
                        (try simp only [Act.put, List.setIfInBounds_toArray, List.set_cons_zero, List.set_cons_succ])
                        refine wpAnyH_take (i := 12) (v := ?_) (atS (atS (atS (atS (atS (atS (atS (atS (atS (atS (atS (atS at0)))))))))))) (by kernel_rfl) (by kernel_rfl) (by kernel_rfl) (fun _ _ _ h => h) (Or.inl ⟨by rfl, ?_⟩) hHeld ?_
                        rotate_left
                        · intro w hSw
                          (try dsimp only at hSw)
                          go_simp
                          all_goals with_reducible rfl
                        (try simp only [Act.put, List.setIfInBounds_toArray, List.set_cons_zero, List.set_cons_succ])
                        refine wpAnyH_take (i := 13) (v := ?_) (atS (atS (atS (atS (atS (atS (atS (atS (atS (atS (atS (atS (atS at0))))))))))))) (by kernel_rfl) (by kernel_rfl) (by kernel_rfl) (fun _ _ _ h => h) (Or.inl ⟨by rfl, ?_⟩) hHeld ?_
                        rotate_left
                        · intro w hSw
                          (try dsimp only at hSw)
                          go_simp
                          all_goals with_reducible rfl
                        (try simp only [Act.put, List.setIfInBounds_toArray, List.set_cons_zero, List.set_cons_succ])
                        refine wpAnyH_take (i := 14) (v := ?_) (atS (atS (atS (atS (atS (atS (atS (atS (atS (atS (atS (atS (atS (atS at0)))))))))))))) (by kernel_rfl) (by kernel_rfl) (by kernel_rfl) (fun _ _ _ h => h) (Or.inl ⟨by rfl, ?_⟩) hHeld ?_
                        rotate_left
                        · intro w hSw
                          (try dsimp only at hSw)
                          go_simp
                          all_goals with_reducible rfl
                        (try simp only [Act.put, List.setIfInBounds_toArray, List.set_cons_zero, List.set_cons_succ])
                        refine wpAnyH_take (i := 15) (v := ?_) (atS (atS (atS (atS (atS (atS (atS (atS (atS (atS (atS (atS (atS (atS (atS at0))))))))))))))) (by kernel_rfl) (by kernel_rfl) (by kernel_rfl) (fun _ _ _ h => h) (Or.inl ⟨by rfl, ?_⟩) hHeld ?_
                        rotate_left
                        · intro w hSw
                          (try dsimp only at hSw)
                          go_simp
                          all_goals with_reducible rfl
                        (try simp only [Act.put, List.setIfInBounds_toArray, List.set_cons_zero, List.set_cons_succ])
                        refine wpAnyH_take (i := 16) (v := ?_) (atS (atS (atS (atS (atS (atS (atS (atS (atS (atS (atS (atS (atS (atS (atS (atS at0)))))))))))))))) (by kernel_rfl) (by kernel_rfl) (by kernel_rfl) (fun _ _ _ h => h) (Or.inl ⟨by rfl, ?_⟩) hHeld ?_
                        rotate_left
                        · intro w hSw
                          (try dsimp only at hSw)
                          go_simp
                          all_goals with_reducible rfl
                        (try simp only [Act.put, List.setIfInBounds_toArray, List.set_cons_zero, List.set_cons_succ])
                        refine wpAnyH_ready (rs := [17]) (by kernel_rfl) (by simp) ?_
                        refine AllReadyH.cons (atS (atS (atS (atS (atS (atS (atS (atS (atS (atS (atS (atS (atS (atS (atS (atS (atS at0))))))))))))))))) (fun K' hK' => ?_) AllReadyH.nil
                        go_simp
                        refine hK'.out _ _ ⟨k0, k1⟩ (fun hHeld => ?_)
                        clear hK' K'
                        (try simp only [Act.put, List.setIfInBounds_toArray, List.set_cons_zero, List.set_cons_succ])
                        refine wpAnyH_take (i := 18) (v := ?_) (atS (atS (atS (atS (atS (atS (atS (atS (atS (atS (atS (atS (atS (atS (atS (atS (atS (atS at0)))))))))))))))))) (by kernel_rfl) (by kernel_rfl) (by kernel_rfl) (fun _ _ _ h => h) (Or.inl ⟨by rfl, ?_⟩) hHeld ?_
                        rotate_left
                        · intro w hSw
                          (try dsimp only at hSw)
                          go_simp
                          all_goals with_reducible rfl
                        (try simp only [Act.put, List.setIfInBounds_toArray, List.set_cons_zero, List.set_cons_succ])
                        refine wpAnyH_take (i := 19) (v := ?_) (atS (atS (atS (atS (atS (atS (atS (atS (atS (atS (atS (atS (atS (atS (atS (atS (atS (atS (atS at0))))))))))))))))))) (by kernel_rfl) (by kernel_rfl) (by kernel_rfl) (fun _ _ _ h => h) (Or.inl ⟨by rfl, ?_⟩) hHeld ?_
                        rotate_left
                        · intro w hSw
                          (try dsimp only at hSw)
                          go_simp
                          all_goals with_reducible rfl
                        (try simp only [Act.put, List.setIfInBounds_toArray, List.set_cons_zero, List.set_cons_succ])
                        refine wpAnyH_take (i := 20) (v := ?_) (atS (atS (atS (atS (atS (atS (atS (atS (atS (atS (atS (atS (atS (atS (atS (atS (atS (atS (atS (atS at0)))))))))))))))))))) (by kernel_rfl) (by kernel_rfl) (by kernel_rfl) (fun _ _ _ h => h) (Or.inl ⟨by rfl, ?_⟩) hHeld ?_
                        rotate_left
                        · intro w hSw
                          (try dsimp only at hSw)
                          go_simp
                          all_goals with_reducible rfl
                        (try simp only [Act.put, List.setIfInBounds_toArray, List.set_cons_zero, List.set_cons_succ])
                        refine wpAnyH_take (i := 21) (v := ?_) (atS (atS (atS (atS (atS (atS (atS (atS (atS (atS (atS (atS (atS (atS (atS (atS (atS (atS (atS (atS (atS at0))))))))))))))))))))) (by kernel_rfl) (by kernel_rfl) (by kernel_rfl) (fun _ _ _ h => h) (Or.inl ⟨by rfl, ?_⟩) hHeld ?_
                        rotate_left
                        · intro w hSw
                          (try dsimp only at hSw)
                          go_simp
                          all_goals with_reducible rfl
                        (try simp only [Act.put, List.setIfInBounds_toArray, List.set_cons_zero, List.set_cons_succ])
                        refine wpAnyH_take (i := 22) (v := ?_) (atS (atS (atS (atS (atS (atS (atS (atS (atS (atS (atS (atS (atS (atS (atS (atS (atS (atS (atS (atS (atS (atS at0)))))))))))))))))))))) (by kernel_rfl) (by kernel_rfl) (by kernel_rfl) (fun _ _ _ h => h) (Or.inl ⟨by rfl, ?_⟩) hHeld ?_
                        rotate_left
                        · intro w hSw
                          (try dsimp only at hSw)
                          go_simp
                          all_goals with_reducible rfl
                        (try simp only [Act.put, List.setIfInBounds_toArray, List.set_cons_zero, List.set_cons_succ])
                        refine wpAnyH_take (i := 23) (v := ?_) (atS (atS (atS (atS (atS (atS (atS (atS (atS (atS (atS (atS (atS (atS (atS (atS (atS (atS (atS (atS (atS (atS (atS at0))))))))))))))))))))))) (by kernel_rfl) (by kernel_rfl) (by kernel_rfl) (fun _ _ _ h => h) (Or.inl ⟨by rfl, ?_⟩) hHeld ?_
                        rotate_left
                        · intro w hSw
                          (try dsimp only at hSw)
                          go_simp
                          all_goals with_reducible rfl
                        (try simp only [Act.put, List.setIfInBounds_toArray, List.set_cons_zero, List.set_cons_succ])
                        refine wpAnyH_take (i := 24) (v := ?_) (atS (atS (atS (atS (atS (atS (atS (atS (atS (atS (atS (atS (atS (atS (atS (atS (atS (atS (atS (atS (atS (atS (atS (atS at0)))))))))))))))))))))))) (by kernel_rfl) (by kernel_rfl) (by kernel_rfl) (fun _ _ _ h => h) (Or.inl ⟨by rfl, ?_⟩) hHeld ?_
                        rotate_left
                        · intro w hSw
                          (try dsimp only at hSw)
                          go_simp
                          all_goals with_reducible rfl
                        (try simp only [Act.put, List.setIfInBounds_toArray, List.set_cons_zero, List.set_cons_succ])
                        refine wpAnyH_take (i := 25) (v := ?_) (atS (atS (atS (atS (atS (atS (atS (atS (atS (atS (atS (atS (atS (atS (atS (atS (atS (atS (atS (atS (atS (atS (atS (atS (atS at0))))))))))))))))))))))))) (by kernel_rfl) (by kernel_rfl) (by kernel_rfl) (fun _ _ _ h => h) (Or.inl ⟨by rfl, ?_⟩) hHeld ?_
                        rotate_left
                        · intro w hSw
                          (try dsimp only at hSw)
                          go_simp
                          all_goals with_reducible rfl
                        (try simp only [Act.put, List.setIfInBounds_toArray, List.set_cons_zero, List.set_cons_succ])
                        refine wpAnyH_take (i := 26) (v := ?_) (atS (atS (atS (atS (atS (atS (atS (atS (atS (atS (atS (atS (atS (atS (atS (atS (atS (atS (atS (atS (atS (atS (atS (atS (atS (atS at0)))))))))))))))))))))))))) (by kernel_rfl) (by kernel_rfl) (by kernel_rfl) (fun _ _ _ h => h) (Or.inl ⟨by rfl, ?_⟩) hHeld ?_
                        rotate_left
                        · intro w hSw
                          (try dsimp only at hSw)
                          go_simp
                          all_goals with_reducible rfl
                        (try simp only [Act.put, List.setIfInBounds_toArray, List.set_cons_zero, List.set_cons_succ])
                        refine wpAnyH_take (i := 27) (v := ?_) (atS (atS (atS (atS (atS (atS (atS (atS (atS (atS (atS (atS (atS (atS (atS (atS (atS (atS (atS (atS (atS (atS (atS (atS (atS (atS (atS at0))))))))))))))))))))))))))) (by kernel_rfl) (by kernel_rfl) (by kernel_rfl) (fun _ _ _ h => h) (Or.inl ⟨by rfl, ?_⟩) hHeld ?_
                        rotate_left
                        · intro w hSw
                          (try dsimp only at hSw)
                          go_simp
                          all_goals with_reducible rfl
                        (try simp only [Act.put, List.setIfInBounds_toArray, List.set_cons_zero, List.set_cons_succ])
                        refine wpAnyH_take (i := 29) (v := ?_) (atS (atS (atS (atS (atS (atS (atS (atS (atS (atS (atS (atS (atS (atS (atS (atS (atS (atS (atS (atS (atS (atS (atS (atS (atS (atS (atS (atS (atS at0))))))))))))))))))))))))))))) (by kernel_rfl) (by kernel_rfl) (by kernel_rfl) (fun _ _ _ h => h) (Or.inl ⟨by rfl, ?_⟩) hHeld ?_
                        rotate_left
                        · intro w hSw
                          (try dsimp only at hSw)
                          go_simp
                          all_goals with_reducible rfl
                        (try simp only [Act.put, List.setIfInBounds_toArray, List.set_cons_zero, List.set_cons_succ])
                        refine wpAnyH_take (i := 30) (v := ?_) (atS (atS (atS (atS (atS (atS (atS (atS (atS (atS (atS (atS (atS (atS (atS (atS (atS (atS (atS (atS (atS (atS (atS (atS (atS (atS (atS (atS (atS (atS at0)))))))))))))))))))))))))))))) (by kernel_rfl) (by kernel_rfl) (by kernel_rfl) (fun _ _ _ h => h) (Or.inl ⟨by rfl, ?_⟩) hHeld ?_
                        rotate_left
                        · intro w hSw
                          (try dsimp only at hSw)
                          go_simp
                          all_goals with_reducible rfl
                        (try simp only [Act.put, List.setIfInBounds_toArray, List.set_cons_zero, List.set_cons_succ])
                        refine wpAnyH_take (i := 31) (v := ?_) (atS (atS (atS (atS (atS (atS (atS (atS (atS (atS (atS (atS (atS (atS (atS (atS (atS (atS (atS (atS (atS (atS (atS (atS (atS (atS (atS (atS (atS (atS (atS at0))))))))))))))))))))))))))))))) (by kernel_rfl) (by kernel_rfl) (by kernel_rfl) (fun _ _ _ h => h) (Or.inl ⟨by rfl, ?_⟩) hHeld ?_
                        rotate_left
                        · intro w hSw
                          (try dsimp only at hSw)
                          go_simp
                          all_goals with_reducible rfl
                        (try simp only [Act.put, List.setIfInBounds_toArray, List.set_cons_zero, List.set_cons_succ])
                        refine wpAnyH_take (i := 32) (v := ?_) (atS (atS (atS (atS (atS (atS (atS (atS (atS (atS (atS (atS (atS (atS (atS (atS (atS (atS (atS (atS (atS (atS (atS (atS (atS (atS (atS (atS (atS (atS (atS (atS at0)))))))))))))))))))))))))))))))) (by kernel_rfl) (by kernel_rfl) (by kernel_rfl) (fun _ _ _ h => h) (Or.inl ⟨by rfl, ?_⟩) hHeld ?_
                        rotate_left
                        · intro w hSw
                          (try dsimp only at hSw)
                          go_simp
                          all_goals with_reducible rfl
                        (try simp only [Act.put, List.setIfInBounds_toArray, List.set_cons_zero, List.set_cons_succ])
                        refine wpAnyH_ready (rs := [28]) (by kernel_rfl) (by simp) ?_
                        refine AllReadyH.cons (atS (atS (atS (atS (atS (atS (atS (atS (atS (atS (atS (atS (atS (atS (atS (atS (atS (atS (atS (atS (atS (atS (atS (atS (atS (atS (atS (atS at0)))))))))))))))))))))))))))) (fun K' hK' => ?_) AllReadyH.nil
                        go_simp
                        refine hK'.out _ _ ⟨k0, k1⟩ (fun hHeld => ?_)
                        clear hK' K'
                        (try simp only [Act.put, List.setIfInBounds_toArray, List.set_cons_zero, List.set_cons_succ])
                        refine wpAnyH_take (i := 33) (v := ?_) (atS (atS (atS (atS (atS (atS (atS (atS (atS (atS (atS (atS (atS (atS (atS (atS (atS (atS (atS (atS (atS (atS (atS (atS (atS (atS (atS (atS (atS (atS (atS (atS (atS at0))))))))))))))))))))))))))))))))) (by kernel_rfl) (by kernel_rfl) (by kernel_rfl) (fun _ _ _ h => h) (Or.inl ⟨by rfl, ?_⟩) hHeld ?_
                        rotate_left
                        · intro w hSw
                          (try dsimp only at hSw)
                          go_simp
                          all_goals with_reducible rfl
                        (try simp only [Act.put, List.setIfInBounds_toArray, List.set_cons_zero, List.set_cons_succ])
                        refine wpAnyH_take (i := 34) (v := ?_) (atS (atS (atS (atS (atS (atS (atS (atS (atS (atS (atS (atS (atS (atS (atS (atS (atS (atS (atS (atS (atS (atS (atS (atS (atS (atS (atS (atS (atS (atS (atS (atS (atS (atS at0)))))))))))))))))))))))))))))))))) (by kernel_rfl) (by kernel_rfl) (by kernel_rfl) (fun _ _ _ h => h) (Or.inl ⟨by rfl, ?_⟩) hHeld ?_
                        rotate_left
                        · intro w hSw
                          (try dsimp only at hSw)
                          go_simp
                          all_goals with_reducible rfl
                        (try simp only [Act.put, List.setIfInBounds_toArray, List.set_cons_zero, List.set_cons_succ])
                        refine wpAnyH_done (by kernel_rfl) ?_ _
                        all_goals
                          go_wp2_with fail
                          go_roundw
                          case rel => exact ⟨c + 1, by go_num, by omega, A2, HS2, HF2⟩
                          case measure => (try simp [intOf]) <;> (try omega)
                      · have zc : decide ((c : Int) < (K : Int)) = false := by simp; omega
                        have HE : Hid (Below w.heap.size w wr) := by
                          refine Below.trans ((unhide HFA).below (Nat.le_refl _) (fun _ h => h.elim)) ?_
                          exact ⟨hF.os, hF.tape, hF.output, hF.size, fun k hk => hF.block k (Nat.lt_of_lt_of_le hk (unhide HFA).size) (by have := unhide HCB; omega)⟩
                        clear hS hF hst
                        go_wp2_with fail
                        go_ret
                        exact ⟨rfl, HE.out⟩
                · obtain ⟨c, rfl⟩ : ∃ c, k = c + 1 := ⟨k - 1, by omega⟩
                  rw [show ((c + 1 : Nat) : Int) - 1 = (c : Int) from by omega]
                  have d1 : decide ((0 : Int) ≤ (c : Int)) = true := by simp
                  have hqN : q.N = N := by rw [unhide HQ]
                  by_cases hcN : c = N
                  · have d2 : ((c : Int) == (N : Int)) = true := by simp; omega
                    have HN : Hid (Gs q w F WB c 0 (fun x => if x = q.N then 0 else W x) l sa wa) := by
                      have h := unhide hst
                      have e1 : c + 1 = q.N + 1 := by omega
                      rw [e1] at h
                      have e2 : c = q.N := by omega
                      rw [e2]; exact h.last
                    clear hqN hst
                    subst hcN
                    go_wp2_with fail
                    go_roundw
                    case rel => exact ⟨c, _, _, _, by go_num, by omega, HN⟩
                    case measure => (try simp [intOf]) <;> (try omega)
                  · as_aux_lemma =>
                      have hcN2 : c < N := by omega
                      have d2 : ((c : Int) == (N : Int)) = false := by simp; omega
                      have hacc := (unhide hst).acc
                      obtain ⟨hA0, rfl⟩ := unhide HA (by omega); have H := hide hA0; have hx := hA0.lt; clear hA0
                      have hA := (unhide H).kept hacc.fr
                      have c0 : wa.cell? ⟨xb, xo + c * 5, none⟩ = some (.bool (lg c)) := hA.c0 c hcN2
                      have c1 : wa.cell? ⟨xb, xo + c * 5 + 1, none⟩ = some (.slice (ga c) (gn c) (gc c)) := hA.c1 c hcN2
                      have c2 : wa.cell? ⟨xb, xo + c * 5 + 2, none⟩ = some (.int .u8 (jp c : Nat)) := hA.c2 c hcN2
                      have c3 : wa.cell? ⟨xb, xo + c * 5 + 3, none⟩ = some (.int .u8 (sd c : Nat)) := hA.c3 c hcN2
                      have c4 : wa.cell? ⟨xb, xo + c * 5 + 4, none⟩ = some (.bool (ss c)) := hA.c4 c hcN2
                      have hxq : xb < wa.heap.size := hA.lt
                      have zcN : (c : Int) < (N : Int) := by omega
                      have zcK : (c : Int) < (K : Int) := by omega
                      obtain ⟨sp, hsp⟩ : ∃ sp, sp = N - c := ⟨_, rfl⟩
                      have esp : (N : Int) - (c : Int) = (sp : Int) := by omega
                      have hsp0 : 0 < sp := by omega
                      have hspN : c + sp = N := by omega
                      have ke : wa.cell? ⟨w.heap.size + 3 + 1 + 1, c, none⟩ = some (F c).ev := by
                        have h1 := (hacc.eb.cell (c * 1 + 0)).trans (rowF_get (z := [.slice none 0 0]) (f := fun i => [(F i).ev]) (s := 1) rfl (fun _ => rfl) (k := q.N + 1) (show c < q.N + 1 by omega) 0 (by omega))
                        rw [if_pos (by omega)] at h1
                        simpa using h1
                      have hEB : w.heap.size + 3 + 1 + 1 < wa.heap.size := hacc.eb.lt
                      obtain ⟨ea, ec, hev⟩ := owns_slice (hacc.ci c (by omega)).ev
                      obtain ⟨en, hen⟩ : ∃ en, en = (F c).E.length := ⟨_, rfl⟩
                      rw [← hen] at hev
                      rw [hev] at ke
                      have hen2 : en ≤ 1025 := by
                        have h1 := ddl_le (F c).dd (F c).bn
                        have h2 := (hacc.ci c (by omega)).bag.1
                        rw [hen]; show (evOf _ _ _).length ≤ _
                        unfold evOf
                        rw [List.length_append]
                        split <;> simp <;> omega
                      obtain ⟨db, hdb⟩ : ∃ db : List Value, db = [.bool (lg c), .slice (ga c) (gn c) (gc c), .int .u8 (jp c : Nat), .int .u8 (sd c : Nat), .bool (ss c)] := ⟨_, rfl⟩
                      have HDB := hide hdb
                      obtain ⟨D0, hD0⟩ : ∃ D0, wa.heap.size = D0 := ⟨_, rfl⟩
                      have H7 : Hid (Gs q w F WB (c + 1) 0 W l sa (wa.alloc (.cells #[.bool (lg c), .slice (ga c) (gn c) (gc c), .int .u8 (jp c : Nat), .int .u8 (sd c : Nat), .bool (ss c)] 25)) ∧ Blk (wa.alloc (.cells #[.bool (lg c), .slice (ga c) (gn c) (gc c), .int .u8 (jp c : Nat), .int .u8 (sd c : Nat), .bool (ss c)] 25)) D0 25 db) := by
                        refine ⟨(unhide hst).kept ((Fr.refl _ wa).alloc _), ?_⟩
                        rw [← hD0, hdb]; exact Blk.new wa 25 [.bool (lg c), .slice (ga c) (gn c) (gc c), .int .u8 (jp c : Nat), .int .u8 (sd c : Nat), .bool (ss c)]
                      have hD6 : w.heap.size + 6 ≤ D0 := by rw [← hD0]; exact hacc.eb.lt
                      have hjp := ((unhide H).le c).1
                      have hsd := ((unhide H).le c).2.1
                      have HEN := hide hen
                      have HD0 := hide hD0
                      have HEV := hide hev
                      have HQN := hide hqN
                      clear hacc hA hdb hst hen hev hqN hcN hsp hD0
                      go_wp2_with fail
                      rw [unhide HD0]
                      clear c0 c1 c2 c3 c4 ke hxq hEB HD0
                      go_loopw [212, 25] (fun s212 s25 wr => ∃ (e : Nat) (l : List (Nat × Value)) (sa : Nat → Nat → Option Addr), s212 = .int .i64 e ∧ s25 = .int .u64 (q.w W c e : Nat) ∧ e ≤ en ∧ Hid (Gs q w F WB (c + 1) e W l sa wr ∧ Blk wr D0 25 db)) (fun s212 _ _ => en - (intOf s212).toNat)
                      case atStart => exact ⟨0, l, sa, rfl, rfl, by omega, H7⟩
                      case round =>
                        clear H7
                        rename World => wb
                        obtain ⟨e, l, sa, rfl, rfl, he, hst⟩ := hrel
                        by_cases hee : e < en
                        · obtain ⟨hGs, hDb⟩ := unhide hst
                          have hacc := hGs.acc
                          obtain ⟨ev, hev⟩ : ∃ ev, (F c).E[e]? = some ev := ⟨(F c).E[e]'(by rw [← unhide HEN]; exact hee), List.getElem?_eq_getElem _⟩
                          have hci := hacc.ci c (by have := unhide HQN; omega)
                          have hown := hci.ev
                          rw [unhide HEV, ← unhide HEN] at hown
                          obtain ⟨eg, ec', hea, hg1, hg2⟩ := hown.form (by omega)
                          injection hea with hea _ hec
                          subst hea
                          clear hec
                          have x0 : wb.cell? ⟨eg, e, none⟩ = some (.int .u32 (ev : Int)) := by
                            refine owns_cell hown rfl e ?_
                            unfold evV; rw [List.getElem?_map, hev]; rfl
                          have hev3 : ev ≤ 300 := (E_ok hci).2 ev (List.mem_of_getElem? hev)
                          have k2 : wb.cell? ⟨D0, 2, none⟩ = some (.int .u8 (jp c : Nat)) := by rw [hDb.cell, unhide HDB]; rfl
                          have k3 : wb.cell? ⟨D0, 3, none⟩ = some (.int .u8 (sd c : Nat)) := by rw [hDb.cell, unhide HDB]; rfl
                          have k4 : wb.cell? ⟨D0, 4, none⟩ = some (.bool (ss c)) := by rw [hDb.cell, unhide HDB]; rfl
                          have hDl := hDb.lt
                          obtain ⟨cur, hcur⟩ : ∃ cur, cur = q.w W c e := ⟨_, rfl⟩
                          rw [← hcur]
                          have hcl : cur < 18446744073709551616 := by rw [hcur]; exact q.w_lt hGs.Wlt c e
                          obtain ⟨je, hje⟩ : ∃ je, je = jp c + e := ⟨_, rfl⟩
                          obtain ⟨r, hr⟩ : ∃ r, r = je % sp := ⟨_, rfl⟩
                          obtain ⟨nxt, hnx⟩ : ∃ nxt, nxt = c + 1 + r := ⟨_, rfl⟩
                          have q1 : ((jp c : Nat) : Int) + (e : Int) = (je : Int) := by omega
                          have q2 : (je : Int) % (sp : Int) = (r : Int) := by rw [hr]; rfl
                          have q3 : (c : Int) + 1 + (r : Int) = (nxt : Int) := by omega
                          have hrs : r < sp := by rw [hr]; exact Nat.mod_lt _ hsp0
                          have hnx1 : c < nxt := by omega
                          have hnx2 : nxt ≤ N := by omega
                          have dsp : ((sp : Int) == 0) = false := by simp; omega
                          have HNX : Hid (nxt = q.nx c e) := by
                            show nxt = _
                            unfold Lw.nx
                            have h1 : q.jp c = jp c := by rw [unhide HQ]
                            have h2 : q.N - c = sp := by have := unhide HQN; omega
                            rw [hnx, hr, hje, h1, h2]
                          have kw : wb.cell? ⟨WB, nxt, none⟩ = some (.int .u64 (W nxt : Nat)) := by
                            rw [hGs.want.cell, List.getElem?_map, List.getElem?_range (by have := unhide HQN; omega)]
                            simp only [Option.map_some]
                            rw [if_pos (by omega)]
                          have hWl := hGs.Wlt nxt
                          have hWBl := hGs.want.lt
                          have HG := hide hGs
                          have HDb := hide hDb
                          have HEv := hide hev
                          have HCur := hide hcur
                          have zee : (e : Int) < (en : Int) := by omega
                          have he9 : e ≤ 1025 := by omega
                          obtain ⟨b, hb⟩ : ∃ b : Bool, b = (ss c && decide (0 < M)) := ⟨_, rfl⟩
                          have HBb := hide hb
                          clear hGs hDb hacc hown hci hev hcur hje hr hnx hst hb
                          go_upto_region 61 with fail
                          go_cut [235] from 213 to 235 (fun s235 wd => s235 = .bool b ∧ Hid (wd = wb.alloc (.cells #[.int .u32 (nxt : Int), .slice none 0 0, .slice none 0 0] 67)))
                          case first =>
                            by_cases hss : ss c = true
                            · rw [hss] at k4
                              by_cases hM0 : 0 < M
                              · have HB2 : Hid (b = true) := by show b = true; rw [unhide HBb, hss]; simp [hM0]
                                have dM : decide ((0 : Int) < (M : Int)) = true := by simp; omega
                                clear hss
                                go_wp2_with fail
                                go_meet
                                case rel => exact ⟨by rw [unhide HB2], rfl⟩
                              · have HB2 : Hid (b = false) := by show b = false; rw [unhide HBb, hss]; simp [hM0]
                                have dM : decide ((0 : Int) < (M : Int)) = false := by simp; omega
                                clear hss
                                go_wp2_with fail
                                go_meet
                                case rel => exact ⟨by rw [unhide HB2], rfl⟩
                            · have hss2 : ss c = false := by simpa using hss
                              rw [hss2] at k4
                              have HB2 : Hid (b = false) := by show b = false; rw [unhide HBb, hss2]; rfl
                              clear hss hss2
                              go_wp2_with fail
                              go_meet
                              case rel => exact ⟨by rw [unhide HB2], rfl⟩
                          case rest =>
                            rename World => w5
                            obtain ⟨rfl, hw5⟩ := hcut
                            obtain rfl := unhide hw5
                            clear hw5
                            obtain ⟨sn, hsn⟩ : ∃ sn : Nat, sn = q.sn c e := ⟨_, rfl⟩
                            have HSN := hide hsn
                            have HSb : Hid (sn = if b = true then 1 else 0) := by
                              show sn = _
                              rw [hsn, unhide HBb]
                              unfold Lw.sn
                              have h1 : q.ss c = ss c := by rw [unhide HQ]
                              have h2 : q.M = M := by rw [unhide HQ]
                              rw [h1, h2]
                              by_cases h3 : ss c = true <;> by_cases h4 : 0 < M <;> simp [h3, h4]
                            clear hsn
                            go_upto_if 235 with fail
                            go_cut [25] from 213 to 235 (fun s25 wd => ∃ (cur2 : Nat) (a : Option Addr), s25 = .int .u64 (cur2 : Int) ∧ cur2 < 18446744073709551616 ∧ Hid (cur2 = cur ||| (if sn = 1 then 2 ^ q.tt (q.sk c e) else 0)) ∧ Hid (Gs q w F WB (c + 1) e W l sa wd ∧ Blk wd D0 25 db ∧ Blk wd wb.heap.size 67 [.int .u32 (nxt : Int), .slice a sn sn, .slice none 0 0] ∧ (sn = 1 → ∃ g, w.heap.size + 6 ≤ g ∧ a = some ⟨g, 0, none⟩ ∧ Blk wd g 53 [.int .u32 (q.sk c e : Nat)])))
                            case first =>
                              cases b with
                              | false =>
                                have HS0 : Hid (sn = 0) := by show sn = 0; rw [unhide HSb]; rfl
                                have HE : Hid (Gs q w F WB (c + 1) e W l sa (wb.alloc (.cells #[.int .u32 (nxt : Int), .slice none 0 0, .slice none 0 0] 67)) ∧ Blk (wb.alloc (.cells #[.int .u32 (nxt : Int), .slice none 0 0, .slice none 0 0] 67)) D0 25 db ∧ Blk (wb.alloc (.cells #[.int .u32 (nxt : Int), .slice none 0 0, .slice none 0 0] 67)) wb.heap.size 67 [.int .u32 (nxt : Int), .slice none sn sn, .slice none 0 0] ∧ (sn = 1 → ∃ g, w.heap.size + 6 ≤ g ∧ (none : Option Addr) = some ⟨g, 0, none⟩ ∧ Blk (wb.alloc (.cells #[.int .u32 (nxt : Int), .slice none 0 0, .slice none 0 0] 67)) g 53 [.int .u32 (q.sk c e : Nat)])) := by
                                  rw [unhide HS0]
                                  exact ⟨(unhide HG).kept ((Fr.refl _ wb).alloc _), (unhide HDb).alloc _, Blk.new wb 67 [.int .u32 (nxt : Int), .slice none 0 0, .slice none 0 0], fun h => by omega⟩
                                go_wp2_with fail
                                go_meet
                                case rel => exact ⟨cur, none, rfl, hcl, by show _ = _; rw [unhide HS0]; simp, HE⟩
                              | true =>
                                have HS1 : Hid (sn = 1) := by show sn = 1; rw [unhide HSb]; rfl
                                have hM0 : 0 < M := by
                                  have := unhide HBb
                                  rcases Nat.eq_zero_or_pos M with h | h
                                  · rw [h] at this; simp at this
                                  · exact h
                                obtain ⟨b1, o1, ha1, hb1, hc1⟩ : ∃ b off, a1 = some ⟨b, off, none⟩ ∧ b < w.heap.size ∧ ∀ i, i < M → w.cell? ⟨b, off + i, none⟩ = some (.int .u8 (tov i : Nat)) := by
                                  rcases unhide HT with h | h
                                  · omega
                                  · exact h
                                subst ha1
                                obtain ⟨se, hse⟩ : ∃ se, se = sd c + e := ⟨_, rfl⟩
                                obtain ⟨kk, hkk⟩ : ∃ kk, kk = se % M := ⟨_, rfl⟩
                                have r1 : ((sd c : Nat) : Int) + (e : Int) = (se : Int) := by omega
                                have r2 : (se : Int) % (M : Int) = (kk : Int) := by rw [hkk]; rfl
                                have hkM : kk < M := by rw [hkk]; exact Nat.mod_lt _ hM0
                                have dM : ((M : Int) == 0) = false := by simp; omega
                                have HKK : Hid (kk = q.sk c e) := by
                                  show kk = _
                                  unfold Lw.sk
                                  have h1 : q.sd c = sd c := by rw [unhide HQ]
                                  have h2 : q.M = M := by rw [unhide HQ]
                                  rw [hkk, hse, h1, h2]
                                have t0 : wb.cell? ⟨b1, o1 + kk, none⟩ = some (.int .u8 (tov kk : Nat)) := cell_kept hb1 (unhide HG).acc.fr id (hc1 kk hkM)
                                have n1 : b1 < wb.heap.size := Nat.lt_of_lt_of_le hb1 (unhide HG).acc.fr.size
                                obtain ⟨t, ht⟩ : ∃ t, t = tov kk % 64 := ⟨_, rfl⟩
                                have et : ((tov kk : Nat) : Int) % 64 = (t : Int) := by rw [ht]; rfl
                                have ht64 : t < 64 := by omega
                                have htl2 := htl kk
                                obtain ⟨bt, hbt⟩ : ∃ bt : Nat, bt = 2 ^ t := ⟨_, rfl⟩
                                have hbt2 : bt < 18446744073709551616 := by rw [hbt]; exact pow_nat ht64
                                have e4 : (2 : Int) ^ t = (bt : Int) := by rw [hbt]; simp
                                have e5 : IntKind.u64.wrap (bt : Int) = (bt : Int) := by rw [IntKind.wrap_u64]; omega
                                obtain ⟨hor1, hor2⟩ := or_nat cur bt hcl hbt2
                                obtain ⟨cur2, hcur2⟩ : ∃ cur2, cur2 = cur ||| bt := ⟨_, rfl⟩
                                rw [← hcur2] at hor1 hor2
                                have HC2 : Hid (cur2 = cur ||| (if sn = 1 then 2 ^ q.tt (q.sk c e) else 0)) := by
                                  show cur2 = _
                                  rw [if_pos (unhide HS1), hcur2, hbt, ht, ← unhide HKK]
                                  unfold Lw.tt
                                  rw [unhide HQ]
                                have zkM : (kk : Int) < (M : Int) := by omega
                                have HE : Hid (∀ W', W' = (wb.alloc (.cells #[.int .u32 (nxt : Int), .slice (some ⟨wb.heap.size + 1, 0, none⟩) 1 1, .slice none 0 0] 67)).alloc (.cells #[.int .u32 (kk : Int)] 53) → Gs q w F WB (c + 1) e W l sa W' ∧ Blk W' D0 25 db ∧ Blk W' wb.heap.size 67 [.int .u32 (nxt : Int), .slice (some ⟨wb.heap.size + 1, 0, none⟩) sn sn, .slice none 0 0] ∧ (sn = 1 → ∃ g, w.heap.size + 6 ≤ g ∧ (some ⟨wb.heap.size + 1, 0, none⟩ : Option Addr) = some ⟨g, 0, none⟩ ∧ Blk W' g 53 [.int .u32 (q.sk c e : Nat)])) := fun W' hW' => by
                                  rw [hW', unhide HS1, ← unhide HKK]
                                  refine ⟨(unhide HG).kept (((Fr.refl _ wb).alloc _).alloc _), ((unhide HDb).alloc _).alloc _, (Blk.new wb 67 [.int .u32 (nxt : Int), .slice (some ⟨wb.heap.size + 1, 0, none⟩) 1 1, .slice none 0 0]).alloc _, fun _ => ⟨wb.heap.size + 1, by omega, rfl, ?_⟩⟩
                                  have := Blk.new (wb.alloc (.cells #[.int .u32 (nxt : Int), .slice (some ⟨wb.heap.size + 1, 0, none⟩) 1 1, .slice none 0 0] 67)) 53 [.int .u32 (kk : Int)]
                                  rw [World.size_alloc] at this; exact this
                                clear hc1 hse hkk ht hbt hcur2
                                go_wp2_with fail
                                go_meet
                                case rel => exact ⟨cur2, _, rfl, hor2, HC2, unhide HE _ rfl⟩
                            case rest =>
                              rename World => w6
                              obtain ⟨cur2, a, rfl, hc2l, HC2, hfin⟩ := hcut
                              obtain ⟨hG6, hD6b, hT6, hs6⟩ := unhide hfin
                              have kw6 : w6.cell? ⟨WB, nxt, none⟩ = some (.int .u64 (W nxt : Nat)) := by
                                rw [hG6.want.cell, List.getElem?_map, List.getElem?_range (by have := unhide HQN; omega)]
                                simp only [Option.map_some]
                                rw [if_pos (by omega)]
                              obtain ⟨Wn, hWn⟩ : ∃ Wn, Wn = W nxt := ⟨_, rfl⟩
                              rw [← hWn] at kw6 hWl
                              obtain ⟨hor3, hor4⟩ := or_nat cur2 Wn hc2l hWl
                              obtain ⟨cur3, hcur3⟩ : ∃ cur3, cur3 = cur2 ||| Wn := ⟨_, rfl⟩
                              rw [← hcur3] at hor3 hor4
                              have HC3 : Hid (cur3 = q.w W c (e + 1)) := by
                                show cur3 = (wTo W q.tt q.nx q.sn q.sk c e ||| (if q.sn c e = 1 then 2 ^ q.tt (q.sk c e) else 0)) ||| W (q.nx c e)
                                rw [hcur3, hWn, unhide HC2, unhide HNX, unhide HSN, unhide HCur]; rfl
                              have t0 : w6.cell? ⟨wb.heap.size, 0, none⟩ = some (.int .u32 (nxt : Int)) := hT6.cell 0
                              have t1 : w6.cell? ⟨wb.heap.size, 1, none⟩ = some (.slice a sn sn) := hT6.cell 1
                              have t2 : w6.cell? ⟨wb.heap.size, 2, none⟩ = some (.slice none 0 0) := hT6.cell 2
                              have s13 : w6.cell? ⟨w.heap.size + 1, 13, none⟩ = some (.map (some w.heap.size)) := hG6.acc.sp.cell 13
                              obtain ⟨p, hp⟩ : ∃ p, p = c * 4294967296 := ⟨_, rfl⟩
                              obtain ⟨ky, hky⟩ : ∃ ky, ky = key c ev := ⟨_, rfl⟩
                              have e1 : IntKind.u64.wrap ((c : Int) * 4294967296) = (p : Int) := by rw [IntKind.wrap_u64, hp]; omega
                              have e1' : (c : Int) * 4294967296 = (p : Int) := by rw [hp]; omega
                              have e2 : bits .or .u64 (p : Int) (ev : Int) = (ky : Int) := by rw [bits_or_u64_nat p ev (by omega) (by omega), hky, hp]; rfl
                              have e3 : IntKind.u64.wrap (c : Int) = (c : Int) := by rw [IntKind.wrap_u64]; omega
                              have e3' : IntKind.u64.wrap (ev : Int) = (ev : Int) := by rw [IntKind.wrap_u64]; omega
                              have hci6 := hG6.acc.ci c (by have := unhide HQN; omega)
                              have hnone : look l (key c ev) = none := by
                                refine hG6.dom c ev hev3 (.inr ⟨rfl, fun i hi h3 => ?_⟩)
                                obtain ⟨hl1, h4⟩ := List.getElem?_eq_some_iff.1 h3
                                obtain ⟨hl2, h5⟩ := List.getElem?_eq_some_iff.1 (unhide HEv)
                                have := (List.getElem_inj (E_ok hci6).1).1 (h4.trans h5.symm)
                                omega
                              have hGd := hG6.kept ((Fr.refl (fun _ => False) w6).drew)
                              obtain ⟨w7, hrun, hmap7, hF7, hsz7⟩ := update_run (.agg #[.int .u32 (nxt : Int), .slice a sn sn, .slice none 0 0]) hGd.map hnone
                              have HG7 := hide (hGd.step (a := a) (by have := unhide HQN; omega) (unhide HEv) (by rw [unhide HNX, unhide HSN]) (fun h => by
                                obtain ⟨g, h1, h2, h3⟩ := hs6 (by rw [unhide HSN]; exact h)
                                exact ⟨g, h1, h2, h3⟩) hmap7 hF7)
                              have HD7 : Hid (Blk w7 D0 25 db) := (show Blk w6.drew D0 25 db from hD6b).kept hF7 (by omega)
                              rw [← hky] at hrun
                              clear hG6 hD6b hT6 hs6 hfin hGd hmap7 hF7 hsz7 hci6 hnone hcur3 hWn hp hky kw k2 k3 k4 x0
                              go_wp2_with fail
                              go_region
                              all_goals
                                go_wp2_with fail
                                go_roundw
                                case rel => exact ⟨e + 1, _, _, by go_num, by rw [← unhide HC3], by omega, HG7, HD7⟩
                                case measure => (try simp [intOf]) <;> (try omega)
                        · obtain rfl : en = e := by omega
                          obtain ⟨hGs, hDb⟩ := unhide hst
                          obtain ⟨cur, hcur⟩ : ∃ cur, cur = q.w W c en := ⟨_, rfl⟩
                          rw [← hcur]
                          have kw : wb.cell? ⟨WB, c, none⟩ = some (.int .u64 0) := by
                            rw [hGs.want.cell, List.getElem?_map, List.getElem?_range (by have := unhide HQN; omega)]
                            simp only [Option.map_some]
                            rw [if_neg (by omega)]; rfl
                          have fw : wb.frozen? ⟨WB, c, none⟩ = false := hGs.want.frozen _
                          have HN : Hid (∀ W', W' = wb.setCell ⟨WB, c, none⟩ (.int .u64 (cur : Nat)) → Gs q w F WB c 0 (fun x => if x = c then q.w W c en else W x) l sa W') := fun W' hW' => hGs.fin (by have := unhide HQN; omega) (unhide HEN) (by rw [hW', hcur])
                          clear hGs hDb hst hcur
                          go_wp2_with fail
                          go_roundw
                          case rel => exact ⟨c, _, _, _, by go_num, by omega, unhide HN _ rfl⟩
                          case measure => (try simp [intOf]) <;> (try omega)
end Go.Proofs.YbulkbrdiFmt
