/-
  b3388aF: slices.Sort at []uint32.
-/
import Derived.Test.YbulkbrdiFmtPdq
namespace Go.Proofs.YbulkbrdiFmt
open Go.RowKit
set_option linter.unusedVariables false
set_option linter.unusedSimpArgs false

set_option maxHeartbeats 1000000 in
set_option maxRecDepth 100000 in
theorem sort_any (g n : Nat) (d : Array Nat) (w : World) (h : Blk w g 53 (rowV d)) (hd : d.size = n) (hn : n ≤ 1024) :
    Calls Ybaf.prog 5 #[.slice (some ⟨g, 0, none⟩) n n] w fun e w' => e = .returned (.tuple #[]) ∧ ∃ d', Rw w g n d' w' ∧ Sort.PermIn 0 n d d' ∧ Sort.SortedIn ltN 0 n d' := by
  have hl : Lib.bitLen n ≤ 64 := Lib.bitLen_le n 64 (by omega) (by omega)
  have HP := hide (pdq_any n g n 0 n (Lib.bitLen n) d w (by omega) h hd hn (by omega) (Nat.le_refl _) (.inl rfl) hl)
  clear h hd
  go_enter Ybaf.func5, Ybaf.ntmps5
  go_wp2_with fail
  refine (len_any n _ hn).mono ?_
  rintro e w2 ⟨rfl, rfl⟩
  go_wp2_with fail
  refine (unhide HP).mono ?_
  rintro e w3 ⟨rfl, d', h1, h2, h3⟩
  have HE : Hid (∃ d', Rw w2 g n d' w3 ∧ Sort.PermIn 0 n d d' ∧ Sort.SortedIn ltN 0 n d') := ⟨d', h1, h2, h3⟩
  clear h1 h2 h3 HP
  go_wp2_with fail
  go_returns
  exact ⟨rfl, HE.out⟩
end Go.Proofs.YbulkbrdiFmt
