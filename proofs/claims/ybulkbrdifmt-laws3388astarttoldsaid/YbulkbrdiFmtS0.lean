/-
  b3388aF: rows of bytes that grow; the encodings' small parts.
-/
import Derived.Test.YbulkbrdiFmtMap
import Derived.Lib.AppendStr
import Derived.Laws.BytesArg
import Derived.Maps.AppendAt
namespace Go.Proofs.YbulkbrdiFmt
open Go.RowKit
set_option linter.unusedVariables false
set_option linter.unusedSimpArgs false
set_option maxRecDepth 100000
set_option maxHeartbeats 2000000

/-- bytes as cells -/
def bV (l : List Nat) : List Value := l.map fun (z : Nat) => .int .u8 (z : Int)
theorem bV_length (l : List Nat) : (bV l).length = l.length := by unfold bV; simp
theorem bV_app (l m : List Nat) : bV (l ++ m) = bV l ++ bV m := by unfold bV; simp
/-- v is a row of bytes of ours, at B or above -/
def OwB (w : World) (B : Nat) (v : Value) (n : Nat) (l : List Nat) : Prop := w.ownsRow B 5 1 v n (bV l)
/-- all is as it was but for rows of bytes at B and above -/
structure FrB (B : Nat) (w w' : World) : Prop where
  os : w'.os = w.os
  tape : w'.tape = w.tape
  output : w'.output = w.output
  size : w.heap.size ≤ w'.heap.size
  block : ∀ k, k < w.heap.size → (k < B ∨ ∀ c f, w.heap[k]? ≠ some (.cells c 5 f)) → w'.heap[k]? = w.heap[k]?
theorem FrB.refl (B : Nat) (w : World) : FrB B w w := ⟨rfl, rfl, rfl, Nat.le_refl _, fun _ _ _ => rfl⟩
theorem FrB.trans {B : Nat} {a b c : World} (h : FrB B a b) (k : FrB B b c) : FrB B a c :=
  ⟨k.os.trans h.os, k.tape.trans h.tape, k.output.trans h.output, Nat.le_trans h.size k.size, fun i hi hn => by
    have h1 := h.block i hi hn
    exact (k.block i (Nat.lt_of_lt_of_le hi h.size) (by rw [h1]; exact hn)).trans h1⟩
theorem FrB.of_fr {B : Nat} {w w' : World} (h : Fr (fun _ => False) w w') : FrB B w w' := ⟨h.os, h.tape, h.output, h.size, fun k hk _ => h.block k hk id⟩
theorem FrB.alloc {B : Nat} {a w : World} (h : FrB B a w) (o : Obj) : FrB B a (w.alloc o) := h.trans (.of_fr ((Fr.refl _ w).alloc o))
theorem FrB.drew {B : Nat} {a w : World} (h : FrB B a w) : FrB B a w.drew := h.trans (.of_fr (Fr.refl _ w).drew)
theorem FrB.fr {B : Nat} {w w' : World} (h : FrB B w w') (hB : w.heap.size ≤ B) : Fr (fun _ => False) w w' := ⟨h.os, h.tape, h.output, h.size, fun k hk _ => h.block k hk (.inl (by omega))⟩
theorem FrB.blk {B : Nat} {w w' : World} {g e : Nat} {l : List Value} (h : FrB B w w') (hb : Blk w g e l) (he : e ≠ 5) : Blk w' g e l :=
  (h.block g hb.lt (.inr fun c f hc => he (by
    have := hb.symm.trans hc
    injection this with this
    injection this with _ h2 _))).trans hb
theorem FrB.low {B : Nat} {w w' : World} {g e : Nat} {l : List Value} (h : FrB B w w') (hb : Blk w g e l) (he : g < B) : Blk w' g e l := (h.block g hb.lt (.inl he)).trans hb
theorem FrB.map {B : Nat} {w w' : World} {g c : Nat} {es : Array MapEntry} (h : FrB B w w') (hb : w.heap[g]? = some (.map es c)) : w'.heap[g]? = some (.map es c) :=
  (h.block g (Array.getElem?_eq_some_iff.1 hb).1 (.inr fun c f hc => by rw [hb] at hc; cases hc)).trans hb
theorem FrB.grown {B : Nat} {w w' : World} {v : Value} {n : Nat} {xs : List Value} (ho : w.ownsRow B 5 1 v n xs) (h : w.grownBy w' v.ownBlock) : FrB B w w' := by
  refine ⟨h.os, h.tape, h.output, h.size, fun k hk hn => h.block k hk fun e => ?_⟩
  rcases ho.2 with ⟨rfl, _⟩ | ⟨g, cap, cur, rfl, hb, hg, _⟩
  · cases e
  · have : k = g := by simpa [Value.ownBlock] using e
    subst this
    rcases hn with h1 | h1
    · omega
    · exact h1 _ _ hg
section
variable {w w' : World} {B n x : Nat} {v v' : Value} {l : List Nat}
theorem OwB.nil (w : World) (B : Nat) : OwB w B (.slice none 0 0) 0 [] := owns_nil _ _ _ _
theorem OwB.len (h : OwB w B v n l) : n = l.length := by
  have := h.1
  rw [bV_length] at this
  omega
theorem OwB.form (h : OwB w B v n l) : ∃ a c, v = .slice a n c := owns_slice h
theorem OwB.kept (h : OwB w B v n l) (hf : Fr (fun _ => False) w w') : OwB w' B v n l := owns_kept h hf (fun _ _ => id)
theorem OwB.put {o : Obj} (h : OwB w B v n l) (ho : w'.ownsRow B 5 1 v' (n + 1) (bV l ++ [.int .u8 (x : Int)])) (hg : (w.alloc o).grownBy w' v.ownBlock) : OwB w' B v' (n + 1) (l ++ [x]) ∧ FrB B w w' := by
  refine ⟨?_, FrB.trans ((FrB.refl B w).alloc _) (FrB.grown (h.kept ((Fr.refl _ w).alloc o)) hg)⟩
  unfold OwB
  rw [bV_app]
  exact ho
end
theorem info5 : ∃ i, Ybaf.prog.info? 5 = some i ∧ i.zero = some (.int .u8 0) ∧ i.size = 1 ∧ i.bytes = 1 := info_parts (P := Ybaf.prog) (e := 5) (z := .int .u8 0) (size := 1) (bytes := 1) (by kernel_rfl)

/-- encoding/binary.AppendUvarint of a number that fits one byte -/
theorem uv_any (B n x : Nat) (v : Value) (l : List Nat) (w : World) (hx : x < 128) (h : OwB w B v n l) (hB : B ≤ w.heap.size) (hl : n ≤ 1000) :
    Calls Ybaf.prog 17 #[v, .int .u64 (x : Int)] w fun e w' => ∃ v', e = .returned v' ∧ OwB w' B v' (n + 1) (l ++ [x]) ∧ FrB B w w' := by
  obtain ⟨i5, hi5, hz5, hs5, hb5⟩ := info5
  have ew : IntKind.u8.wrap (x : Int) = (x : Int) := by rw [IntKind.wrap_u8] <;> omega
  obtain ⟨a, c, rfl⟩ := h.form
  have hown := hide (h.kept ((Fr.refl (fun _ => False) w).alloc (.cells #[.int .u8 (x : Int)] 5)))
  have d1 : decide ((128 : Int) ≤ (x : Int)) = false := by simp; omega
  have HB := hide hB
  have H := hide h
  clear h
  go_enter Ybaf.func17, Ybaf.ntmps17
  go_wp2_with fail
  refine wp_loop_rounds 1 ?_
  rw [rounds_succ]
  go_wp2_with (at_builtin; refine wpList_append_own_at _ (by rfl) _ _ _ (by rfl) B 5 i5 (.int .u8 0) 1 1 Ybaf.underlying23 hi5 hz5 hs5 hb5 rfl (by omega) (.slice a n c) n (bV l) (by rfl) hown.out ⟨w.heap.size, 0, none⟩ 1 1 [.int .u8 (x : Int)] (by rfl) (by rfl) (cell_one_new _ _ _) (by simp [Value.oneCell']) (by unfold maxLen; omega) (by omega) (by rw [World.size_alloc]; omega) ?_; intro v' w1 hown1 hgrow hnil hat; have HO := hide ((unhide H).put hown1 hgrow); obtain ⟨a', c', rfl⟩ := owns_slice hown1; clear hown1 hgrow hnil hat)
  go_ret
  exact ⟨_, rfl, HO.out⟩
end Go.Proofs.YbulkbrdiFmt
