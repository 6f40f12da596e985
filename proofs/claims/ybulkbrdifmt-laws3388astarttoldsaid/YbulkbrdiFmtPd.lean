/-
  b3388aF: the plain matter of pdqsort's loop.
-/
import Derived.Test.YbulkbrdiFmtPar2
import Derived.Test.YbulkbrdiFmtPis
import Derived.Test.YbulkbrdiFmtPiv
import Derived.Test.YbulkbrdiFmtLen
namespace Go.Proofs.YbulkbrdiFmt
open Go.RowKit
set_option linter.unusedVariables false
set_option linter.unusedSimpArgs false

/-- pdqsort's loop at [a1, b1): whatever sorts that part sorts the whole -/
structure Pd (w : World) (g n a b : Nat) (d : Array Nat) (a1 b1 : Nat) (dc : Array Nat) (wr : World) : Prop where
  rw : Rw w g n dc wr
  below : Sort.Below ltN a1 b1 dc
  fin : ∀ R, Sort.PermIn a1 b1 dc R → Sort.SortedIn ltN a1 b1 R → Sort.PermIn a b d R ∧ Sort.SortedIn ltN a b R
section
variable {w wr W : World} {g n a b a1 b1 mid : Nat} {d dc d1 : Array Nat}
theorem Pd.perm (h : Pd w g n a b d a1 b1 dc wr) (hW : Rw wr g n d1 W) (hp : Sort.PermIn a1 b1 dc d1) (hb : b1 ≤ n) : Pd w g n a b d a1 b1 d1 W :=
  ⟨h.rw.trans hW, h.below.perm (by rw [h.rw.size]; exact hb) hp, fun R h1 h2 => h.fin R (Sort.permIn_trans _ _ _ _ _ hp h1) h2⟩
theorem Pd.drewN (h : Pd w g n a b d a1 b1 dc wr) (q : Nat) : Pd w g n a b d a1 b1 dc (wr.drewN q) := ⟨h.rw.drewN q, h.below, h.fin⟩
theorem Pd.equal {p : Nat} (h : Pd w g n a b d a1 b1 dc wr) (hW : Rw wr g n d1 W) (ho : PeOk a1 b1 mid dc[p]! dc d1) (hb : b1 ≤ n) (h0 : 0 < a1) (hnl : ltN dc[a1 - 1]! dc[p]! = false) : Pd w g n a b d mid b1 d1 W := by
  have hsz := h.rw.size
  have hsz1 := hW.size
  have hlo := ho.lo
  have hhi := ho.hi
  have hge : ∀ i, a1 ≤ i → i < b1 → ltN dc[i]! dc[p]! = false := fun i h1 h2 => by
    rcases h.below with hh | hh
    · omega
    · exact swo.ntrans _ _ _ (hh i h1 h2) hnl
  have hge1 := Sort.permIn_all dc d1 a1 b1 (fun x => ltN x dc[p]! = false) (by omega) ho.perm hge
  refine ⟨h.rw.trans hW, .inr fun i h1 h2 => ?_, fun R h1 h2 => ?_⟩
  · cases hc : ltN d1[i]! d1[mid - 1]! with
    | false => rfl
    | true =>
      have := swo.trans _ _ _ (ho.right i h1 h2) hc
      rw [ho.left (mid - 1) (by omega) (by omega)] at this; cases this
  · refine h.fin R (Sort.permIn_trans _ _ _ _ _ ho.perm (Sort.permIn_mono _ _ mid b1 a1 b1 (by omega) (Nat.le_refl _) (by omega) h1)) ?_
    refine Sort.sorted_glue_eq swo dc[p]! h2 (fun i h3 h4 => ?_) (fun i h3 h4 => ?_) (Sort.permIn_all d1 R mid b1 (fun x => ltN dc[p]! x = true) (by omega) h1 ho.right)
    · rw [h1.2.1 i (.inl h4)]; exact ho.left i h3 h4
    · rw [h1.2.1 i (.inl h4)]; exact hge1 i h3 (by omega)
theorem Pd.belowL (h : Pd w g n a b d a1 b1 dc wr) (ho : PaOk a1 b1 mid dc d1) (hb : b1 ≤ n) : Sort.Below ltN a1 mid d1 :=
  (h.below.perm (by rw [h.rw.size]; exact hb) ho.perm).mono (Nat.le_of_lt ho.hi)
theorem Pd.belowR (ho : PaOk a1 b1 mid dc d1) : Sort.Below ltN (mid + 1) b1 d1 :=
  .inr fun i h1 h2 => by rw [Nat.add_sub_cancel]; exact ho.right i (by omega) h2
/-- the left part sorted: on with the right one -/
theorem Pd.left {L : Array Nat} {W2 : World} (h : Pd w g n a b d a1 b1 dc wr) (hW : Rw wr g n d1 W) (ho : PaOk a1 b1 mid dc d1) (hb : b1 ≤ n) (hW2 : Rw W g n L W2) (hp : Sort.PermIn a1 mid d1 L) (hs : Sort.SortedIn ltN a1 mid L) : Pd w g n a b d (mid + 1) b1 L W2 := by
  have hsz1 := hW.size
  have hszL := hW2.size
  have hlo := ho.lo
  have hhi := ho.hi
  have eL : ∀ i, mid ≤ i → L[i]! = d1[i]! := fun i hi => hp.2.1 i (.inr hi)
  refine ⟨(h.rw.trans hW).trans hW2, .inr fun i h1 h2 => ?_, fun R h1 h2 => ?_⟩
  · rw [Nat.add_sub_cancel, eL i (by omega), eL mid (Nat.le_refl _)]; exact ho.right i (by omega) h2
  · have eR : ∀ i, i ≤ mid → R[i]! = L[i]! := fun i hi => h1.2.1 i (.inl (by omega))
    refine h.fin R (Sort.permIn_trans _ _ _ _ _ ho.perm (Sort.permIn_trans _ _ _ _ _ (Sort.permIn_mono _ _ a1 mid a1 b1 (Nat.le_refl _) (by omega) (by omega) hp) (Sort.permIn_mono _ _ (mid + 1) b1 a1 b1 (by omega) (Nat.le_refl _) (by omega) h1))) ?_
    refine Sort.sorted_glue swo (hs.congr fun i _ hi => eR i (by omega)) h2 (fun i h3 h4 => ?_) (fun i h3 h4 => ?_)
    · rw [eR i (by omega), eR mid (Nat.le_refl _), eL mid (Nat.le_refl _)]
      exact Sort.permIn_all d1 L a1 mid (fun x => ltN x d1[mid]! = true) (by omega) hp ho.left i h3 h4
    · rw [eR mid (Nat.le_refl _), eL mid (Nat.le_refl _)]
      exact Sort.permIn_all L R (mid + 1) b1 (fun x => ltN x d1[mid]! = false) (by omega) h1 (fun k hk hk' => by rw [eL k (by omega)]; exact ho.right k (by omega) hk') i (by omega) h4
/-- the right part sorted: on with the left one -/
theorem Pd.right {L : Array Nat} {W2 : World} (h : Pd w g n a b d a1 b1 dc wr) (hW : Rw wr g n d1 W) (ho : PaOk a1 b1 mid dc d1) (hb : b1 ≤ n) (hW2 : Rw W g n L W2) (hp : Sort.PermIn (mid + 1) b1 d1 L) (hs : Sort.SortedIn ltN (mid + 1) b1 L) : Pd w g n a b d a1 mid L W2 := by
  have hsz1 := hW.size
  have hszL := hW2.size
  have hlo := ho.lo
  have hhi := ho.hi
  have eL : ∀ i, i ≤ mid → L[i]! = d1[i]! := fun i hi => hp.2.1 i (.inl (by omega))
  refine ⟨(h.rw.trans hW).trans hW2, ?_, fun R h1 h2 => ?_⟩
  · rcases h.belowL ho hb with h0 | hB
    · exact .inl h0
    · by_cases ha : a1 = 0
      · exact .inl ha
      · exact .inr fun i h1 h2 => by rw [eL i (by omega), eL (a1 - 1) (by omega)]; exact hB i h1 h2
  · have eR : ∀ i, mid ≤ i → R[i]! = L[i]! := fun i hi => h1.2.1 i (.inr hi)
    refine h.fin R (Sort.permIn_trans _ _ _ _ _ ho.perm (Sort.permIn_trans _ _ _ _ _ (Sort.permIn_mono _ _ (mid + 1) b1 a1 b1 (by omega) (Nat.le_refl _) (by omega) hp) (Sort.permIn_mono _ _ a1 mid a1 b1 (Nat.le_refl _) (by omega) (by omega) h1))) ?_
    refine Sort.sorted_glue swo h2 (hs.congr fun i hi _ => eR i (by omega)) (fun i h3 h4 => ?_) (fun i h3 h4 => ?_)
    · rw [eR mid (Nat.le_refl _), eL mid (Nat.le_refl _)]
      exact Sort.permIn_all L R a1 mid (fun x => ltN x d1[mid]! = true) (by omega) h1 (fun k hk hk' => by rw [eL k (by omega)]; exact ho.left k hk hk') i h3 h4
    · rw [eR i (by omega), eR mid (Nat.le_refl _), eL mid (Nat.le_refl _)]
      exact Sort.permIn_all d1 L (mid + 1) b1 (fun x => ltN x d1[mid]! = false) (by omega) hp (fun k hk hk' => ho.right k (by omega) hk') i (by omega) h4
theorem Pd.start (hB : Blk w g 53 (rowV d)) (hd : d.size = n) (hBel : Sort.Below ltN a b d) : Pd w g n a b d a b d w := ⟨Rw.start hB hd, hBel, fun R h1 h2 => ⟨h1, h2⟩⟩
end
end Go.Proofs.YbulkbrdiFmt
