/-
  b3389a: plain matter for fidelity.New's last loops.
-/
import Derived.Test.YbulkbrdwNewT
namespace Go.Proofs.Ybulkbrdw
open Go.RowKit
set_option linter.unusedVariables false
set_option linter.unusedSimpArgs false

/-- 0, 1, .. -/
def ints (k : Nat) : List Value := (List.range k).map fun (i : Nat) => .int .i64 (i : Int)
theorem ints_succ (k : Nat) : ints (k + 1) = ints k ++ [.int .i64 (k : Int)] := by unfold ints; rw [List.range_succ, List.map_append]; rfl

/-- behind so many outputs: B is M's block, W5 the world behind Outputs -/
structure N4 (W5 : World) (M : Nat) (st sr : Value) (cnt : Nat) (so : Value) (wr : World) : Prop where
  m : Blk wr M 59 [st, so, sr]
  own : wr.ownsRow W5.heap.size 3 1 so cnt (ints cnt)
  lt : M < W5.heap.size
  fr : Fr (· = M) W5 wr
theorem n4_start {W5 : World} {M : Nat} {st sr : Value} (h : Blk W5 M 59 [st, .slice none 0 0, sr]) : N4 W5 M st sr 0 (.slice none 0 0) W5 :=
  ⟨h, (by exact owns_nil _ _ _ _), h.lt, Fr.refl _ _⟩
theorem N4.next {W5 : World} {M : Nat} {st sr : Value} {cnt : Nat} {so v' : Value} {wr W w1 : World} {o : Obj} (h : N4 W5 M st sr cnt so wr) (hW : W.heap = (wr.alloc o).heap ∧ W.os = wr.os ∧ W.tape = wr.tape ∧ W.output = wr.output)
    (hown : w1.ownsRow W5.heap.size 3 1 v' (cnt + 1) (ints cnt ++ [.int .i64 (cnt : Int)])) (hg : W.grownBy w1 so.ownBlock) : N4 W5 M st sr (cnt + 1) v' (w1.setCell ⟨M, 1, none⟩ v') := by
  have hb := owns_base h.own
  have hlt := h.lt
  have hWfr : Fr (· = M) W5 W := by
    obtain ⟨q1, q2, q3, q4⟩ := hW
    have hf := h.fr.alloc o
    exact ⟨q2.trans hf.os, q3.trans hf.tape, q4.trans hf.output, by rw [q1]; exact hf.size, fun k hk hn => by rw [q1]; exact hf.block k hk hn⟩
  have hf1 : Fr (· = M) W5 w1 := hWfr.grown hg (fun j hj => .inr (hb j hj))
  have hm1 : Blk w1 M 59 [st, so, sr] := by
    have hmW : Blk W M 59 [st, so, sr] := blk_heap (h.m.alloc o) hW.1
    refine (hg.block _ hmW.lt (fun e => ?_)).trans hmW
    have := hb _ e.symm; omega
  refine ⟨hm1.setCell 1 v', ?_, hlt, hf1.setCell (.inl rfl) _⟩
  rw [ints_succ]
  refine owns_kept (S := (· = M)) hown ((Fr.refl (· = M) w1).setCell (.inl rfl) _) (fun j hj e => ?_)
  have := owns_base hown j hj
  omega
theorem N4.kept {W5 : World} {M : Nat} {st sr : Value} {cnt : Nat} {so : Value} {wr w' : World} (h : N4 W5 M st sr cnt so wr) (hf : Fr (fun _ => False) wr w') : N4 W5 M st sr cnt so w' :=
  ⟨h.m.kept hf id, owns_kept h.own hf (fun _ _ => id), h.lt, h.fr.trans (hf.mono (fun _ _ h => h.elim))⟩
/-- what New leaves: the model's block at w's end -/
structure NewOk (w : World) (L : Nat → Nat) (jn : Nat → Bool) (rt : Nat → Nat → Nat) (n mx tg ct og co g c : Nat) (w' : World) : Prop where
  m : Blk w' w.heap.size 59 [.slice (some ⟨tg, 0, none⟩) (sL L n) ct, .slice (some ⟨og, 0, none⟩) (sL L n) co, .slice (some ⟨g, 0, none⟩) (sL L n) c]
  tasks : ∃ tl, Blk w' tg 62 (tasksL L jn n ++ tl)
  outs : ∃ tl, Blk w' og 3 (ints (sL L n) ++ tl)
  rates : ∃ tl, Blk w' g 27 ((List.range (sL L n)).map (fun i => .float .f64 (rFin mx (rAt L rt n i))) ++ tl)
  fr : Fr (fun _ => False) w w'
theorem new_done {w w3 w5 wr : World} {L : Nat → Nat} {jn : Nat → Bool} {rt : Nat → Nat → Nat} {n mx g c FB : Nat} {tl : List Value} {st so : Value}
    (h3 : N3 w L jn rt n mx g c tl FB n st w3) (hF5 : Fr (fun _ => False) w3 w5) (h4 : N4 w5 w.heap.size st (.slice (some ⟨g, 0, none⟩) (sL L n) c) (sL L n) so wr) (hpos : 0 < sL L n) :
    ∃ tg ct og co, NewOk w L jn rt n mx tg ct og co g c wr := by
  obtain ⟨o1, o2, o3⟩ := h3.ord
  have hT := owns_kept (owns_kept h3.own hF5 (fun _ _ => id)) h4.fr (fun j hj e => by have := owns_base h3.own j hj; omega)
  obtain ⟨tg, ct, rfl, _, _⟩ := hT.form hpos
  obtain ⟨ttl, hB, _⟩ := blk_of_owns hT
  have hO := h4.own
  obtain ⟨og, co, rfl, _, _⟩ := hO.form hpos
  obtain ⟨otl, hB2, _⟩ := blk_of_owns hO
  refine ⟨tg, ct, og, co, h4.m, ⟨ttl, hB⟩, ⟨otl, hB2⟩, ⟨tl, (h3.rates.kept hF5 id).kept h4.fr (by omega)⟩, ?_⟩
  have hf := h3.fr.trans hF5
  refine ⟨h4.fr.os.trans hf.os, h4.fr.tape.trans hf.tape, h4.fr.output.trans hf.output, Nat.le_trans hf.size h4.fr.size, fun k hk _ => ?_⟩
  exact (h4.fr.block k (Nat.lt_of_lt_of_le hk hf.size) (by omega)).trans (hf.block k hk id)
end Go.Proofs.Ybulkbrdw
