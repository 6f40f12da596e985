/-
  b3388aF: math/bits.Len off the shelf; slices.nextPowerOfTwo; (*slices.xorshift).Next.
-/
import Derived.Test.YbulkbrdiFmtRev
import Derived.Shelf.Small.Bits
import Derived.Shelf.Lay
import Derived.Laws.Closers25b
import Derived.Laws.Bits64b
import Derived.Ground.NamesProg
namespace Go.Proofs.YbulkbrdiFmt
open Go.Shelf Go.RowKit
set_option linter.unusedVariables false
set_option linter.unusedSimpArgs false

shelf_lay Lays.n125 Nm 125 at Ybaf as Ybaf.laysLen
theorem Ybaf.fLen : Ybaf.laysLen_ren.f 125 = 12 := by kernel_rfl

theorem len_any (x : Nat) (w : World) (h1 : x ≤ 1024) : Calls Ybaf.prog 12 #[.int .u64 (x : Int)] w fun e w' => e = .returned (.int .i64 (Lib.bitLen x)) ∧ w' = w := by
  have h := Any.bits_Len Ybaf.laysLen (x : Int) w (by omega) (by omega)
  rw [Ybaf.fLen] at h
  exact h

set_option maxRecDepth 100000 in
theorem pow_any (x : Nat) (w : World) (h1 : x ≤ 1024) (hl : Lib.bitLen x ≤ 11) : Calls Ybaf.prog 41 #[.int .i64 (x : Int)] w fun e w' => e = .returned (.int .u64 ((2 ^ Lib.bitLen x : Nat) : Int)) ∧ w' = w := by
  go_enter Ybaf.func41, Ybaf.ntmps41
  go_wp2_with fail
  refine (len_any x _ h1).mono ?_
  rintro e w2 ⟨rfl, rfl⟩
  obtain ⟨m, hm⟩ : ∃ m : Nat, m = 2 ^ Lib.bitLen x := ⟨_, rfl⟩
  have h2 : m ≤ 2 ^ 11 := by rw [hm]; exact Nat.pow_le_pow_right (by omega) hl
  have hc : ((2 : Int) ^ Lib.bitLen x) = (m : Int) := by rw [hm]; simp
  have e : IntKind.u64.wrap (m : Int) = (m : Int) := by rw [IntKind.wrap_u64]; omega
  have HM := hide hm
  clear hm
  go_wp2_with fail
  go_ret
  exact ⟨by rw [← unhide HM]; rfl, rfl⟩

theorem xor_nat (a b : Int) : ∃ y : Nat, bits .xor .u64 a b = (y : Int) ∧ y < 18446744073709551616 := by
  have h1 := bits_lo_u64 .xor a b
  have h2 := bits_hi_u64 .xor a b
  exact ⟨(bits .xor .u64 a b).toNat, by omega, by omega⟩

set_option maxHeartbeats 1000000 in
set_option maxRecDepth 100000 in
theorem next_any (R x : Nat) (w : World) (h : Blk w R 116 [.int .u64 (x : Int)]) (hx : x < 18446744073709551616) :
    Calls Ybaf.prog 42 #[.pointer (some ⟨R, 0, none⟩)] w fun e w' => ∃ y : Nat, y < 18446744073709551616 ∧ e = .returned (.int .u64 (y : Int)) ∧ Blk w' R 116 [.int .u64 (y : Int)] ∧ Fr (· = R) w w' := by
  obtain ⟨y1, hy1, l1⟩ := xor_nat (x : Int) (IntKind.u64.wrap ((x : Int) * 8192))
  obtain ⟨y2, hy2, l2⟩ := xor_nat (y1 : Int) ((y1 : Int) / 128)
  obtain ⟨y3, hy3, l3⟩ := xor_nat (y2 : Int) (IntKind.u64.wrap ((y2 : Int) * 131072))
  have c0 : w.cell? ⟨R, 0, none⟩ = some (.int .u64 (x : Int)) := h.cell 0
  have f0 : w.frozen? ⟨R, 0, none⟩ = false := h.frozen 0
  have K1 : Hid (Blk (w.setCell ⟨R, 0, none⟩ (.int .u64 (y1 : Int))) R 116 [.int .u64 (y1 : Int)] ∧ Fr (· = R) w (w.setCell ⟨R, 0, none⟩ (.int .u64 (y1 : Int)))) := ⟨h.setCell 0 _, (Fr.refl (· = R) w).setCell (p := ⟨R, 0, none⟩) (.inl rfl) _⟩
  clear h
  go_enter Ybaf.func42, Ybaf.ntmps42
  go_wp2_with fail
  go_cut [] (fun wd => Hid (Blk wd R 116 [.int .u64 (y1 : Int)] ∧ Fr (· = R) w wd))
  case first =>
    go_region
    all_goals
      go_wp2_with fail
      go_meet
      case rel => exact ⟨(unhide K1).1, (unhide K1).2.drew⟩
  case rest =>
    rename World => w1
    obtain ⟨hB, hF⟩ := unhide hcut
    have c1 : w1.cell? ⟨R, 0, none⟩ = some (.int .u64 (y1 : Int)) := hB.cell 0
    have f1 : w1.frozen? ⟨R, 0, none⟩ = false := hB.frozen 0
    have K2 : Hid (Blk (w1.setCell ⟨R, 0, none⟩ (.int .u64 (y2 : Int))) R 116 [.int .u64 (y2 : Int)] ∧ Fr (· = R) w (w1.setCell ⟨R, 0, none⟩ (.int .u64 (y2 : Int)))) := ⟨hB.setCell 0 _, hF.setCell (.inl rfl) _⟩
    clear hB hF hcut c0 f0 K1
    go_wp2_with fail
    go_cut [] (fun wd => Hid (Blk wd R 116 [.int .u64 (y2 : Int)] ∧ Fr (· = R) w wd))
    case first =>
      go_region
      all_goals
        go_wp2_with fail
        go_meet
        case rel => exact ⟨(unhide K2).1, (unhide K2).2.drew⟩
    case rest =>
      rename World => w2
      obtain ⟨hB, hF⟩ := unhide hcut
      have c2 : w2.cell? ⟨R, 0, none⟩ = some (.int .u64 (y2 : Int)) := hB.cell 0
      have f2 : w2.frozen? ⟨R, 0, none⟩ = false := hB.frozen 0
      have K3 : Hid (Blk (w2.setCell ⟨R, 0, none⟩ (.int .u64 (y3 : Int))) R 116 [.int .u64 (y3 : Int)] ∧ Fr (· = R) w (w2.setCell ⟨R, 0, none⟩ (.int .u64 (y3 : Int)))) := ⟨hB.setCell 0 _, hF.setCell (.inl rfl) _⟩
      clear hB hF hcut c1 f1 K2
      go_wp2_with fail
      go_cut [] (fun wd => Hid (Blk wd R 116 [.int .u64 (y3 : Int)] ∧ Fr (· = R) w wd))
      case first =>
        go_region
        all_goals
          go_wp2_with fail
          go_meet
          case rel => exact ⟨(unhide K3).1, (unhide K3).2.drew⟩
      case rest =>
        rename World => w3
        obtain ⟨hB, hF⟩ := unhide hcut
        have c3 : w3.cell? ⟨R, 0, none⟩ = some (.int .u64 (y3 : Int)) := hB.cell 0
        have HB := hide hB
        have HF := hide hF
        clear hB hF hcut c2 f2 K3
        go_wp2_with fail
        go_ret
        exact ⟨y3, l3, rfl, unhide HB, unhide HF⟩

theorem bitLen_pow : ∀ (x : Nat), 0 < x → x < 2 ^ 64 → 2 ^ Lib.bitLen x ≤ 2 * x := by
  intro x
  induction x using Nat.strongRecOn with
  | _ x ih =>
    intro h0 hx
    rw [Lib.bitLen_half x (by omega) hx, Nat.pow_add]
    by_cases h2 : 2 ≤ x
    · have := ih (x / 2) (by omega) (by omega) (by omega)
      omega
    · obtain rfl : x = 1 := by omega
      decide
theorem bitLen_two (x : Nat) (h : 0 < x) (hx : x ≤ 1024) : 2 ^ Lib.bitLen x ≤ 2 * x ∧ Lib.bitLen x ≤ 11 :=
  ⟨bitLen_pow x h (by omega), Lib.bitLen_le x 11 (by omega) (by omega)⟩
theorem and_nat (a b : Nat) (ha : a < 18446744073709551616) (hb : b < 18446744073709551616) : ∃ y : Nat, bits .and .u64 (a : Int) (b : Int) = (y : Int) ∧ y ≤ b := by
  refine ⟨a &&& b, bits_and_u64_nat a b ha hb, Nat.and_le_right⟩

set_option maxHeartbeats 1000000 in
set_option maxRecDepth 100000 in
theorem brk_any (g n a b : Nat) (d : Array Nat) (w : World) (h : Blk w g 53 (rowV d)) (hd : d.size = n) (hn : n ≤ 1024) (hab : a + 8 ≤ b) (hb : b ≤ n) :
    Calls Ybaf.prog 23 #[.slice (some ⟨g, 0, none⟩) n n, .int .i64 a, .int .i64 b] w fun e w' => e = .returned (.tuple #[]) ∧ ∃ d', Pm w g n a b d d' w' := by
  obtain ⟨m, hm⟩ : ∃ m, m = b - a := ⟨_, rfl⟩
  have e1 : (b : Int) - (a : Int) = (m : Int) := by omega
  have hm8 : 8 ≤ m := by omega
  have hmn : m ≤ 1024 := by omega
  have d1 : decide ((8 : Int) ≤ (m : Int)) = true := by simp; omega
  have hbl := bitLen_two m (by omega) hmn
  obtain ⟨M, hM⟩ : ∃ M, M = 2 ^ Lib.bitLen m := ⟨_, rfl⟩
  rw [← hM] at hbl
  have hM2 : M ≤ 2 * m := hbl.1
  have hM0 : 0 < M := by rw [hM]; exact Nat.pow_pos (by omega)
  have HP : Hid (∀ W : World, Calls Ybaf.prog 41 #[.int .i64 (m : Int)] W fun e w' => e = .returned (.int .u64 (M : Int)) ∧ w' = W) := fun W => by
    rw [hM]; exact pow_any m W hmn hbl.2
  obtain ⟨c, hc⟩ : ∃ c, c = a + m / 4 * 2 := ⟨_, rfl⟩
  have e2 : (m : Int).tdiv 4 = ((m / 4 : Nat) : Int) := rfl
  have e3 : (a : Int) + ((m / 4 : Nat) : Int) * 2 = (c : Int) := by rw [hc]; omega
  have hca : a + 2 ≤ c := by omega
  have hcb : c + 2 ≤ b := by omega
  have HR : Hid (Rw w g n d (w.alloc (.cells #[.int .u64 (m : Int)] 116))) := ⟨h.alloc _, hd, (Fr.refl _ w).alloc _⟩
  have HB : Hid (Blk (w.alloc (.cells #[.int .u64 (m : Int)] 116)) w.heap.size 116 [.int .u64 (m : Int)]) := Blk.new w 116 [.int .u64 (m : Int)]
  have hg := h.lt
  have hgn : g ≠ w.heap.size := by omega
  have HMe := hide hm
  clear hbl hM hc hm h hd
  go_enter Ybaf.func23, Ybaf.ntmps23
  go_wp2_with fail
  refine (unhide HP _).mono ?_
  rintro e w2 ⟨rfl, rfl⟩
  go_wp2_with fail
  go_loopw [9] (fun s9 wr => ∃ (i y : Nat) (dc : Array Nat), s9 = .int .i64 i ∧ c ≤ i + 1 ∧ i ≤ c + 2 ∧ y < 18446744073709551616 ∧ Hid (Pm w g n a b d dc wr) ∧ Hid (Blk wr w.heap.size 116 [.int .u64 (y : Int)])) (fun s9 _ => c + 2 - (intOf s9).toNat)
  case atStart => exact ⟨c - 1, m, d, by go_num, by omega, by omega, by omega, ⟨unhide HR, Sort.permIn_refl _ _ _⟩, HB⟩
  case round =>
    clear HR HB
    obtain ⟨i, y, dc, rfl, hi1, hi2, hy, HPm, HBl⟩ := hrel
    by_cases hic : i ≤ c + 1
    · have d2 : decide ((i : Int) ≤ (c : Int) + 1) = true := by simp; omega
      have HN := hide (next_any w.heap.size y wr (unhide HBl) hy)
      go_wp2_with fail
      refine (unhide HN).mono ?_
      rintro e w3 ⟨y', hy', rfl, hB3, hF3⟩
      have HP3 : Hid (Pm w g n a b d dc w3) := ⟨(unhide HPm).rw.beside hF3 (Nat.le_refl _) hgn, (unhide HPm).perm⟩
      have HB3 := hide hB3
      clear hB3 hF3 HN HPm HBl
      obtain ⟨M1, hM1⟩ : ∃ M1, M1 = M - 1 := ⟨_, rfl⟩
      have e4 : (M : Int) - 1 = (M1 : Int) := by omega
      obtain ⟨o, ho, hoM⟩ := and_nat y' M1 hy' (by omega)
      have ho2 : o < 2 * m := by omega
      clear hM1
      by_cases hom : m ≤ o
      · have d3 : decide ((m : Int) ≤ (o : Int)) = true := by simp; omega
        obtain ⟨o2, ho3⟩ : ∃ o2, o2 = o - m := ⟨_, rfl⟩
        have e5 : (o : Int) - (m : Int) = (o2 : Int) := by omega
        have hom2 : o2 < m := by omega
        clear ho3
        obtain ⟨p, hp⟩ : ∃ p, p = a + o2 := ⟨_, rfl⟩
        have e7 : IntKind.i64.wrap ((a : Int) + (o2 : Int)) = (p : Int) := by rw [IntKind.wrap_i64] <;> omega
        obtain ⟨x, hx⟩ : ∃ x, x = dc[i]! := ⟨_, rfl⟩
        obtain ⟨u, hu⟩ : ∃ u, u = dc[p]! := ⟨_, rfl⟩
        have k0 : w3.cell? ⟨g, i, none⟩ = some (.int .u32 (x : Int)) := by rw [hx]; exact (unhide HP3).rw.get (by omega)
        have k1 : w3.cell? ⟨g, p, none⟩ = some (.int .u32 (u : Int)) := by rw [hu]; exact (unhide HP3).rw.get (by omega)
        have f0 : w3.frozen? ⟨g, i, none⟩ = false := (unhide HP3).rw.frozen _
        have f1 : w3.frozen? ⟨g, p, none⟩ = false := (unhide HP3).rw.frozen _
        have z3 : (i : Int) < (n : Int) := by omega
        have z4 : (p : Int) < (n : Int) := by omega
        have HX := hide hx
        have HY := hide hu
        have hpa : a ≤ p := by omega
        have hpb : p < b := by have := unhide HMe; omega
        clear hx hu hp
        by_cases hip : i = p
        · subst hip
          obtain rfl : x = u := by rw [unhide HX, unhide HY]
          go_wp2_with fail
          go_region
          all_goals
            go_wp2_with fail
            go_roundw
            case rel => exact ⟨i + 1, y', _, by go_num, by omega, by omega, hy', by first | exact ((unhide HP3).swp ⟨by omega, by omega⟩ ⟨by omega, by omega⟩ hb (unhide HX) (unhide HY)).drew | exact ((unhide HP3).swp' ⟨by omega, by omega⟩ ⟨by omega, by omega⟩ hb (unhide HX) (unhide HY)).drew, by first | exact ((unhide HB3).setCell_other (by show g ≠ w.heap.size; omega) _).setCell_other (by show g ≠ w.heap.size; omega) _⟩
            case measure => (try simp [intOf]) <;> (try omega)
        · go_wp2_with fail
          go_region
          all_goals
            go_wp2_with fail
            go_roundw
            case rel => exact ⟨i + 1, y', _, by go_num, by omega, by omega, hy', by first | exact ((unhide HP3).swp ⟨by omega, by omega⟩ ⟨by omega, by omega⟩ hb (unhide HX) (unhide HY)).drew | exact ((unhide HP3).swp' ⟨by omega, by omega⟩ ⟨by omega, by omega⟩ hb (unhide HX) (unhide HY)).drew, by first | exact ((unhide HB3).setCell_other (by show g ≠ w.heap.size; omega) _).setCell_other (by show g ≠ w.heap.size; omega) _⟩
            case measure => (try simp [intOf]) <;> (try omega)
      · have d3 : decide ((m : Int) ≤ (o : Int)) = false := by simp; omega
        have hom2 : o < m := by omega
        obtain ⟨p, hp⟩ : ∃ p, p = a + o := ⟨_, rfl⟩
        have e7 : IntKind.i64.wrap ((a : Int) + (o : Int)) = (p : Int) := by rw [IntKind.wrap_i64] <;> omega
        obtain ⟨x, hx⟩ : ∃ x, x = dc[i]! := ⟨_, rfl⟩
        obtain ⟨u, hu⟩ : ∃ u, u = dc[p]! := ⟨_, rfl⟩
        have k0 : w3.cell? ⟨g, i, none⟩ = some (.int .u32 (x : Int)) := by rw [hx]; exact (unhide HP3).rw.get (by omega)
        have k1 : w3.cell? ⟨g, p, none⟩ = some (.int .u32 (u : Int)) := by rw [hu]; exact (unhide HP3).rw.get (by omega)
        have f0 : w3.frozen? ⟨g, i, none⟩ = false := (unhide HP3).rw.frozen _
        have f1 : w3.frozen? ⟨g, p, none⟩ = false := (unhide HP3).rw.frozen _
        have z3 : (i : Int) < (n : Int) := by omega
        have z4 : (p : Int) < (n : Int) := by omega
        have HX := hide hx
        have HY := hide hu
        have hpa : a ≤ p := by omega
        have hpb : p < b := by have := unhide HMe; omega
        clear hx hu hp
        by_cases hip : i = p
        · subst hip
          obtain rfl : x = u := by rw [unhide HX, unhide HY]
          go_wp2_with fail
          go_region
          all_goals
            go_wp2_with fail
            go_roundw
            case rel => exact ⟨i + 1, y', _, by go_num, by omega, by omega, hy', by first | exact ((unhide HP3).swp ⟨by omega, by omega⟩ ⟨by omega, by omega⟩ hb (unhide HX) (unhide HY)).drew | exact ((unhide HP3).swp' ⟨by omega, by omega⟩ ⟨by omega, by omega⟩ hb (unhide HX) (unhide HY)).drew, by first | exact ((unhide HB3).setCell_other (by show g ≠ w.heap.size; omega) _).setCell_other (by show g ≠ w.heap.size; omega) _⟩
            case measure => (try simp [intOf]) <;> (try omega)
        · go_wp2_with fail
          go_region
          all_goals
            go_wp2_with fail
            go_roundw
            case rel => exact ⟨i + 1, y', _, by go_num, by omega, by omega, hy', by first | exact ((unhide HP3).swp ⟨by omega, by omega⟩ ⟨by omega, by omega⟩ hb (unhide HX) (unhide HY)).drew | exact ((unhide HP3).swp' ⟨by omega, by omega⟩ ⟨by omega, by omega⟩ hb (unhide HX) (unhide HY)).drew, by first | exact ((unhide HB3).setCell_other (by show g ≠ w.heap.size; omega) _).setCell_other (by show g ≠ w.heap.size; omega) _⟩
            case measure => (try simp [intOf]) <;> (try omega)
    · have d2 : decide ((i : Int) ≤ (c : Int) + 1) = false := by simp; omega
      go_wp2_with fail
      go_returns
      exact ⟨rfl, dc, unhide HPm⟩
end Go.Proofs.YbulkbrdiFmt
