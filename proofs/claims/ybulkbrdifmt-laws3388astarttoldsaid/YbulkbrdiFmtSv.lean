/-
  b3388aF: LawS3388AStart: the space as it stands before the first process.
-/
import Derived.Test.YbulkbrdiFmtSu
namespace Go.Proofs.YbulkbrdiFmt
open Go.RowKit
set_option linter.unusedVariables false
set_option linter.unusedSimpArgs false
set_option maxRecDepth 100000
set_option maxHeartbeats 4000000

/-- the given, of the law's own space -/
def mkP (b : Bl) (np n PB MB : Nat) (ma : Option Addr) (mc : Nat) (f : Nat → Nat) (nv : Value) (pl : Nat → Nat) : Pr :=
  ⟨b.SP, b.IX, b.BY, b.LM, b.IM, b.CM, b.LS, b.ST, PB, b.ID, b.GM, np, MB, ma, n, mc, nv, nmL (fun d => .string (nm d)) nm np, nmL (fun d => .int .i64 (d : Int)) nm np, f, pl⟩
def t00 : St := ⟨[], 0, [], .slice none 0 0, .slice none 0 0, .slice none 0 0, [], []⟩
theorem idL_full (np : Nat) : idL np np = (List.range np).map fun (i : Nat) => .int .i64 (i : Int) := by
  unfold idL
  apply List.map_congr_left
  intro d hd
  rw [if_pos (List.mem_range.1 hd)]
theorem BlOk.dis {b : Bl} {H : Nat} (h : BlOk b H) (np n PB MB : Nat) (ma : Option Addr) (mc : Nat) (f : Nat → Nat) (nv : Value) (pl : Nat → Nat) : Dis (mkP b np n PB MB ma mc f nv pl) := by
  obtain ⟨n1, n2, n3, n4, n5, n6, n7, n8, n9, n10⟩ := h.lt
  constructor <;> (simp only [mkP]; omega)
theorem prok {b : Bl} {np n PB MB mc : Nat} {ma : Option Addr} {f : Nat → Nat} {nv : Value} {pl : Nat → Nat} (hnp : np ≤ 8) (hn : n ≤ 8) (hma : 0 < n → ma = some ⟨MB, 0, none⟩) (hf : ∀ j, f j < 2 ^ np) : PrOk (mkP b np n PB MB ma mc f nv pl) := by
  refine ⟨hma, hnp, hn, fun d hd => ?_, fun d hd => ?_, ?_, hf⟩
  · show slook (nmL _ nm np) (nm d) = _
    rw [nmL_look (fun a c ha hc e => nm_inj ha hc e) np d hnp (by have : d < np := hd; omega), if_pos (show d < np from hd)]
  · show slook (nmL _ nm np) (nm d) = _
    rw [nmL_look (fun a c ha hc e => nm_inj ha hc e) np d hnp (by have : d < np := hd; omega), if_pos (show d < np from hd)]
  · show slook (nmL _ nm np) ⟨#[]⟩ = none
    have h1 : ∀ i, slook (nmL (fun d => Value.string (nm d)) nm i) ⟨#[]⟩ = none := fun i => by
      induction i with
      | zero => rfl
      | succ i ih =>
        have key : ∀ (l : List (ByteArray × Value)), (∀ e ∈ l, e.1 ≠ ⟨#[]⟩) → slook l ⟨#[]⟩ = none := fun l => by
          induction l with
          | nil => intro _; rfl
          | cons e l ih2 =>
            intro hl
            rw [slook_cons, if_neg (hl e (by simp))]
            exact ih2 (fun e he => hl e (by simp [he]))
        refine key _ (fun e he => ?_)
        unfold nmL at he
        obtain ⟨d, _, rfl⟩ := List.mem_map.1 he
        intro e2
        have := congrArg ByteArray.size e2
        simp [nm, ByteArray.size] at this
    exact h1 np
/-- the space before the first process -/
theorem Q2.inv {b : Bl} {w wr : World} {np n PB MS mc : Nat} {f : Nat → Nat} {nv : Value} {ma : Option Addr} {pl : Nat → Nat} (h : Q2 b w np n PB MS f n nv (.slice ma n mc) pl wr) (hnp : np ≤ 8) :
    ∃ MB, Inv (mkP b np n PB MB ma mc f nv pl) t00 wr ∧ (0 < n → ma = some ⟨MB, 0, none⟩) := by
  obtain ⟨MB, hMB, hcell⟩ : ∃ MB, (0 < n → ma = some ⟨MB, 0, none⟩) ∧ (0 < n → (∃ l, Blk wr MB 77 l) ∧ ∀ j k, j < n → k < 4 → wr.cell? ⟨MB, j * 4 + k, none⟩ = (msgC pl j)[k]?) := by
    rcases Nat.eq_zero_or_pos n with h0 | h0
    · exact ⟨0, fun h => by omega, fun h => by omega⟩
    · obtain ⟨g, c, hv, hg, _, hc⟩ := owns_at (C := msgC pl) (s := 4) (n := n) (fun _ => rfl) (owns_weaken h.mv (Nat.zero_le _)) h0
      injection hv with hv _ _
      obtain ⟨cur, hcur⟩ := owns_type h.mv (g := g) (by rw [hv]; rfl)
      exact ⟨g, fun _ => hv, fun _ => ⟨⟨cur.toList, by show wr.heap[g]? = _; rw [hcur]⟩, fun j k hj hk => hc j j k (by rw [List.getElem?_range hj]) hk⟩⟩
  refine ⟨MB, { sp := ⟨h.sp, rfl, h.pb, ⟨hnp, by show Blk wr b.ID 3 _; rw [← idL_full]; exact h.iD, h.gm⟩⟩, ix := h.ix, msg := fun j hj => ?_, mty := fun j hj => ?_, im := h.imm, ir := owns_nil _ _ _ _, lm := h.lm, lr := owns_nil _ _ _ _, cm := h.cm, cr := owns_nil _ _ _ _, bag := (fun c hc => by cases hc), ls := h.ls, lso := (fun e he => by cases he), st := h.st, sto := (fun e he => by cases he), ok := ⟨(fun q hq => by cases hq), List.nodup_nil, Nat.zero_le _, (fun c hc => by cases hc)⟩, ne := h.ok.dis _ _ _ _ _ _ _ _ _ }, hMB⟩
  · have hj' : j < n := hj
    obtain ⟨_, hc⟩ := hcell (by omega)
    obtain ⟨k1, _⟩ := h.pls j hj'
    exact ⟨hc j 0 hj' (by omega), hc j 1 hj' (by omega), hc j 2 hj' (by omega), hc j 3 hj' (by omega), k1.cell 0, k1.cell 1⟩
  · have hj' : j < n := hj
    obtain ⟨⟨l, hl⟩, _⟩ := hcell (by omega)
    exact ⟨l, _, hl, (h.pls j hj').1⟩
end Go.Proofs.YbulkbrdiFmt
