/-
  b3389a: strings.Repeat's contract, laid at this dump.
-/
import Derived.Test.YbulkbrdwRows
import Derived.Test.YbulkbrdwBase
import Derived.Shelf.Strings.Repeat
import Derived.Shelf.Lay
import Derived.Ground.NamesProg
namespace Go.Proofs.Ybulkbrdw
open Go.Shelf Go.RowKit

shelf_lay Lays.n105 Nm 105 at Yba as Yba.laysRepeat

theorem Yba.extra : Builder.Extra Yba.prog Yba.laysRepeat_ren where
  sizeBuilder := by kernel_rfl
  liesBuilder := by kernel_rfl
  t5 := Yba.laysRepeat.t5
  a5 := Yba.laysRepeat.a5
  z5 := Yba.laysRepeat.z5
  v5 := Yba.laysRepeat.v5
  infoByte := by kernel_rfl
  cellsByte := by kernel_rfl
  sizeByte := by kernel_rfl
  neB5 := by decide

theorem Yba.fRepeat : Yba.laysRepeat_ren.f 105 = 7 := by kernel_rfl

/-- "a" c times -/
def nameOf (c : Nat) : ByteArray := ⟨(List.replicate c 97).toArray⟩
theorem repeat_any (c : Nat) (w : World) (hc : c ≤ 1000) :
    Calls Yba.prog 7 #[.string ⟨#[97]⟩, .int .i64 c] w fun e w' => e = .returned (.string (nameOf c)) ∧ Below w.heap.size w w' := by
  have h := Any.strings_Repeat Yba.laysRepeat Yba.extra ⟨#[97]⟩ c w (by omega) (by show 1 * c ≤ _; omega)
  rw [Yba.fRepeat] at h
  refine h.mono fun e w' ⟨he, hw⟩ => ⟨?_, hw⟩
  rw [he]
  have e : Lib.repeatL (ByteArray.mk #[97]).data.toList c = List.replicate c 97 := by
    have := Lib.repeatL_replicate 97 1 c
    rw [Nat.mul_one] at this
    simpa using this
  rw [e]; rfl
end Go.Proofs.Ybulkbrdw
