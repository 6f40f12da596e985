/-
  b3388aF: plain matter for LawS3388AChain.
-/
import Derived.Test.YbulkbrdiFmtDes
import Derived.Deep.DeepAppendRoom
namespace Go.Proofs.YbulkbrdiFmt
open Go.RowKit
set_option linter.unusedVariables false
set_option linter.unusedSimpArgs false

/-- a slice of bytes that came in -/
def Rd8 (w : World) (a : Option Addr) (len : Nat) (f : Nat → Nat) : Prop :=
  len = 0 ∨ ∃ b off, a = some ⟨b, off, none⟩ ∧ b < w.heap.size ∧ ∀ i, i < len → w.cell? ⟨b, off + i, none⟩ = some (.int .u8 (f i : Nat))
theorem Rd8.kept {w wr : World} {a : Option Addr} {len : Nat} {f : Nat → Nat} (h : Rd8 w a len f) (hf : Fr (fun _ => False) w wr) : Rd8 wr a len f := by
  rcases h with h | ⟨b, o, e, hb, hc⟩
  · exact .inl h
  · exact .inr ⟨b, o, e, Nat.lt_of_lt_of_le hb hf.size, fun i hi => cell_kept hb hf id (hc i hi)⟩
/-- the components that came in -/
structure ChA (w : World) (xb xo N : Nat) (lg : Nat → Bool) (ga : Nat → Option Addr) (gn gc : Nat → Nat) (jp sd : Nat → Nat) (ss : Nat → Bool) (bv : Nat → Nat → Nat) : Prop where
  lt : xb < w.heap.size
  c0 : ∀ k, k < N → w.cell? ⟨xb, xo + k * 5, none⟩ = some (.bool (lg k))
  c1 : ∀ k, k < N → w.cell? ⟨xb, xo + k * 5 + 1, none⟩ = some (.slice (ga k) (gn k) (gc k))
  c2 : ∀ k, k < N → w.cell? ⟨xb, xo + k * 5 + 2, none⟩ = some (.int .u8 (jp k : Nat))
  c3 : ∀ k, k < N → w.cell? ⟨xb, xo + k * 5 + 3, none⟩ = some (.int .u8 (sd k : Nat))
  c4 : ∀ k, k < N → w.cell? ⟨xb, xo + k * 5 + 4, none⟩ = some (.bool (ss k))
  rd : ∀ k, k < N → Rd8 w (ga k) (gn k) (bv k)
  le : ∀ k, jp k ≤ 255 ∧ sd k ≤ 255 ∧ ∀ i, bv k i ≤ 255
theorem ChA.kept {w wr : World} {xb xo N : Nat} {lg : Nat → Bool} {ga : Nat → Option Addr} {gn gc : Nat → Nat} {jp sd : Nat → Nat} {ss : Nat → Bool} {bv : Nat → Nat → Nat} (h : ChA w xb xo N lg ga gn gc jp sd ss bv) (hf : Fr (fun _ => False) w wr) : ChA wr xb xo N lg ga gn gc jp sd ss bv :=
  ⟨Nat.lt_of_lt_of_le h.lt hf.size, fun k hk => cell_kept h.lt hf id (h.c0 k hk), fun k hk => cell_kept h.lt hf id (h.c1 k hk), fun k hk => cell_kept h.lt hf id (h.c2 k hk), fun k hk => cell_kept h.lt hf id (h.c3 k hk), fun k hk => cell_kept h.lt hf id (h.c4 k hk), fun k hk => (h.rd k hk).kept hf, h.le⟩

theorem made_flat (zs : List Value) (s l : Nat) (hs : zs.length = s) (h0 : 0 < s) : madeCells zs.toArray (l * s) = ((List.range l).flatMap fun _ => zs).toArray := by
  apply Array.ext
  · rw [size_madeCells, List.size_toArray, flatS_length _ s (fun _ => hs)]
  · intro i h1 h2
    rw [size_madeCells] at h1
    have hx : i / s < l := Nat.div_lt_of_lt_mul (by rw [Nat.mul_comm]; exact h1)
    have hy : i % s < s := Nat.mod_lt _ h0
    have hi : i = i / s * s + i % s := by rw [Nat.mul_comm]; exact (Nat.div_add_mod i s).symm
    have hg := flatS_get (fun _ => zs) s (fun _ => hs) l (i / s) (i % s) hx hy
    rw [← hi] at hg
    have h2' : i < ((List.range l).flatMap fun _ => zs).length := by simpa using h2
    rw [List.getElem?_eq_getElem h2', List.getElem?_eq_getElem (by omega)] at hg
    have h3 := Option.some.inj hg
    rw [show ((List.range l).flatMap fun _ => zs).toArray[i]'h2 = ((List.range l).flatMap fun _ => zs)[i]'h2' from rfl, h3]
    have hc : ∀ (h : i < (madeCells zs.toArray (l * s)).size), (madeCells zs.toArray (l * s))[i]'h = zs.toArray[i % zs.toArray.size]! := fun h => by simp [madeCells]
    rw [hc]
    have : zs.toArray.size = s := by simpa using hs
    rw [this, getElem!_pos zs.toArray (i % s) (by simp; omega)]
    rfl
/-- a row of l pieces -/
def rowZ (z : List Value) (l : Nat) : List Value := (List.range l).flatMap fun _ => z
/-- .. of which the first k are laid -/
def rowF (z : List Value) (f : Nat → List Value) (l k : Nat) : List Value := (List.range l).flatMap fun i => if i < k then f i else z
theorem make_flat {t e : TypeId} (z : Array Value) (size bytes : Nat) (ht : Ybaf.prog.underlying t = some (.slice e)) (hi : (Ybaf.prog.info? e).map (fun i => (i.zero, i.size, i.bytes)) = some (some (.agg z), size, bytes)) (hz : z.size = size) (h0 : 0 < size) (hc : (Value.agg z).cells = z) (l : Nat) (hl : l ≤ 301) (hb : bytes ≤ 1000) (w : World) :
    (Instr.makeSlice t (.int .i64 (l : Int)) (.int .i64 (l : Int))).run Ybaf.prog w = .ok (.slice (some ⟨w.heap.size, 0, none⟩) l l) (w.alloc (.cells (rowZ z.toList l).toArray e)) := by
  obtain ⟨i, hi1, hi2, hi3, hi4⟩ := info_parts hi
  have hlb : l * bytes ≤ 301 * 1000 := Nat.mul_le_mul hl hb
  have hr := run_make (P := Ybaf.prog) w t e i _ ht hi1 hi2 .i64 .i64 l l (by omega) (Int.le_refl _) (by rw [hi4]; have := Nat.mul_comm l bytes; omega) (by omega)
  simp only [Int.toNat_natCast, hi3] at hr
  rw [hc] at hr
  have := made_flat z.toList size l (by simpa using hz) h0
  rw [show z.toList.toArray = z from by simp] at this
  rw [this] at hr
  exact hr
def zitem : Array Value := #[.int .i64 0, .int .i64 0, .string ⟨#[]⟩, .string ⟨#[]⟩, .int .u64 0, .bool false, .bool false, .int .u64 0, .pointer none]
def zlocal : Array Value := #[.int .i64 0, .nilIface, .slice none 0 0, .slice none 0 0]
def zcomp : Array Value := #[.int .u32 0, .slice none 0 0, .int .u64 0, .int .i32 0, .int .i32 0, .bool false]
theorem make36 (l : Nat) (hl : l ≤ 301) (w : World) : (Instr.makeSlice 36 (.int .i64 (l : Int)) (.int .i64 (l : Int))).run Ybaf.prog w = .ok (.slice (some ⟨w.heap.size, 0, none⟩) l l) (w.alloc (.cells (rowZ zitem.toList l).toArray 48)) := make_flat (t := 36) (e := 48) zitem 9 80 Ybaf.underlying36 (by kernel_rfl) rfl (by omega) rfl l hl (by omega) w
theorem make34 (l : Nat) (hl : l ≤ 301) (w : World) : (Instr.makeSlice 34 (.int .i64 (l : Int)) (.int .i64 (l : Int))).run Ybaf.prog w = .ok (.slice (some ⟨w.heap.size, 0, none⟩) l l) (w.alloc (.cells (rowZ zlocal.toList l).toArray 62)) := make_flat (t := 34) (e := 62) zlocal 4 72 Ybaf.underlying34 (by kernel_rfl) rfl (by omega) rfl l hl (by omega) w
theorem make37 (l : Nat) (hl : l ≤ 301) (w : World) : (Instr.makeSlice 37 (.int .i64 (l : Int)) (.int .i64 (l : Int))).run Ybaf.prog w = .ok (.slice (some ⟨w.heap.size, 0, none⟩) l l) (w.alloc (.cells (rowZ zcomp.toList l).toArray 64)) := make_flat (t := 37) (e := 64) zcomp 6 56 Ybaf.underlying37 (by kernel_rfl) rfl (by omega) rfl l hl (by omega) w
end Go.Proofs.YbulkbrdiFmt
