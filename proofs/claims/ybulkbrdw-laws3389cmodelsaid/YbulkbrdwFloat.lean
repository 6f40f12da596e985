/-
  b3389a: float64 over whole numbers below 2^53 is exact.
-/
import Derived.Laws.FloatArith
namespace Go.Proofs.Ybulkbrdw
set_option linter.unusedVariables false
set_option linter.unusedSimpArgs false
open Ieee

/-- the significand of n (n below 2^53, not 0): 53 digits -/
def sig (n : Nat) : Nat := n * 2 ^ (52 - n.log2)

theorem log2_le {n : Nat} (h0 : n ≠ 0) (h : n < 2 ^ 53) : n.log2 ≤ 52 := by
  have := Nat.log2_lt h0 |>.2 h
  omega
theorem sig_bd {n : Nat} (h0 : n ≠ 0) (h : n < 2 ^ 53) : 2 ^ 52 ≤ sig n ∧ sig n < 2 ^ 53 := by
  have hl := log2_le h0 h
  have h1 := Nat.log2_self_le h0
  have h2 : n < 2 ^ (n.log2 + 1) := Nat.lt_log2_self
  unfold sig
  constructor
  · calc 2 ^ 52 = 2 ^ n.log2 * 2 ^ (52 - n.log2) := by rw [← Nat.pow_add]; congr 1; omega
      _ ≤ _ := Nat.mul_le_mul_right _ h1
  · calc n * 2 ^ (52 - n.log2) < 2 ^ (n.log2 + 1) * 2 ^ (52 - n.log2) := Nat.mul_lt_mul_of_pos_right h2 (Nat.two_pow_pos _)
      _ = 2 ^ 53 := by rw [← Nat.pow_add]; congr 1; omega

theorem log2_mul_pow {n : Nat} (h0 : n ≠ 0) (k : Nat) : (n * 2 ^ k).log2 = n.log2 + k := by
  have hp : 0 < 2 ^ k := Nat.two_pow_pos k
  have hne : n * 2 ^ k ≠ 0 := Nat.mul_ne_zero h0 (by omega)
  have h1 := Nat.log2_self_le h0
  have h2 : n < 2 ^ (n.log2 + 1) := Nat.lt_log2_self
  apply Nat.le_antisymm
  · have : n * 2 ^ k < 2 ^ (n.log2 + k + 1) := by
      rw [show n.log2 + k + 1 = (n.log2 + 1) + k by omega, Nat.pow_add]
      exact Nat.mul_lt_mul_of_pos_right h2 hp
    have := (Nat.log2_lt hne).2 this
    omega
  · rw [Nat.le_log2 hne, Nat.pow_add]
    exact Nat.mul_le_mul_right _ h1

/-- a cut that loses nothing -/
theorem cut_exact (neg : Bool) (m d : Nat) (h0 : m ≠ 0) : Toward.even.cut neg (m * 2 ^ d) d = m := by
  have hne : m * 2 ^ d ≠ 0 := Nat.mul_ne_zero h0 (by have := Nat.two_pow_pos d; omega)
  unfold Toward.cut
  have hmin : min d ((m * 2 ^ d).log2 + 2) = d := by rw [log2_mul_pow h0]; omega
  rw [hmin]
  simp only [Nat.one_shiftLeft, Nat.mul_mod_left, Nat.mul_div_cancel _ (Nat.two_pow_pos d)]
  have := Nat.two_pow_pos d
  simp

theorem double_fb : double.fractionBits = 52 := rfl
theorem double_lp : double.leastPlace = -1074 := rfl
theorem double_bin : double.binade = 2 ^ 52 := rfl
theorem double_inf : double.infRung = 2047 * 2 ^ 52 := rfl
theorem double_sw : double.signWeight = 2 ^ 63 := rfl

/-- THE WORD OF A WHOLE NUMBER, however it is scaled. -/
theorem nearest_int (neg : Bool) (n k : Nat) (h0 : n ≠ 0) (h : n < 2 ^ 53) :
    double.nearest neg (n * 2 ^ k) (-(k : Int)) = double.word neg ((n.log2 + 1022) * 2 ^ 52 + sig n) := by
  have hne : n * 2 ^ k ≠ 0 := Nat.mul_ne_zero h0 (by have := Nat.two_pow_pos k; omega)
  have hl := log2_le h0 h
  have hb := sig_bd h0 h
  unfold Format.nearest
  rw [if_neg hne, log2_mul_pow h0, double_fb, double_lp]
  simp only []
  have e1 : max (-(k : Int) + ((n.log2 + k : Nat) : Int) - ((52 : Nat) : Int)) (-1074) = (n.log2 : Int) - 52 := by omega
  rw [e1]
  have hkept : Toward.even.cut neg ((n * 2 ^ k) <<< (-(k : Int) - ((n.log2 : Int) - 52)).toNat) (((n.log2 : Int) - 52) - -(k : Int)).toNat = sig n := by
    rcases Nat.lt_or_ge (52 - n.log2) k with hk | hk
    · have e2 : (-(k : Int) - ((n.log2 : Int) - 52)).toNat = 0 := by omega
      have e3 : (((n.log2 : Int) - 52) - -(k : Int)).toNat = k - (52 - n.log2) := by omega
      rw [e2, e3, Nat.shiftLeft_zero]
      have e4 : n * 2 ^ k = sig n * 2 ^ (k - (52 - n.log2)) := by
        unfold sig
        rw [Nat.mul_assoc, ← Nat.pow_add]
        congr 2; omega
      rw [e4]
      exact cut_exact neg (sig n) _ (by omega)
    · have e2 : (-(k : Int) - ((n.log2 : Int) - 52)).toNat = 52 - n.log2 - k := by omega
      have e3 : (((n.log2 : Int) - 52) - -(k : Int)).toNat = 0 := by omega
      rw [e2, e3, Nat.shiftLeft_eq]
      have e4 : n * 2 ^ k * 2 ^ (52 - n.log2 - k) = sig n * 2 ^ 0 := by
        unfold sig
        rw [Nat.mul_assoc, ← Nat.pow_add, Nat.pow_zero, Nat.mul_one]
        congr 2; omega
      rw [e4]
      exact cut_exact neg (sig n) 0 (by omega)
  rw [hkept, double_bin, double_inf]
  have e5 : ((n.log2 : Int) - 52 - -1074).toNat = n.log2 + 1022 := by omega
  rw [e5]
  have hle : (n.log2 + 1022) * 2 ^ 52 + sig n ≤ 2047 * 2 ^ 52 := by omega
  rw [Nat.min_def, if_pos hle]

/-- .. and what it reads as. -/
theorem read_int (neg : Bool) (n : Nat) (h0 : n ≠ 0) (h : n < 2 ^ 53) :
    double.read (double.word neg ((n.log2 + 1022) * 2 ^ 52 + sig n)) = .number neg (n * 2 ^ (52 - n.log2)) (-((52 - n.log2 : Nat) : Int)) := by
  have hl := log2_le h0 h
  have hb := sig_bd h0 h
  obtain ⟨r, hr⟩ : ∃ r, r = (n.log2 + 1022) * 2 ^ 52 + sig n := ⟨_, rfl⟩
  have hr1 : r < 2 ^ 63 := by omega
  have hr2 : ¬ r < 2 ^ 52 := by omega
  have hr3 : r < 2047 * 2 ^ 52 := by omega
  have hdiv : r / 2 ^ 52 = n.log2 + 1023 := by
    rw [hr]; omega
  have hmod : r % 2 ^ 52 = sig n - 2 ^ 52 := by
    rw [hr]; omega
  rw [← hr]
  unfold Format.read Format.word
  rw [double_bin, double_lp, double_inf, double_sw]
  have hm : (if neg then 2 ^ 63 + r else r) % 2 ^ 63 = r := by
    cases neg
    · simp only [Bool.false_eq_true, if_false]; omega
    · simp only [if_true]; omega
  have hs : ((if neg then 2 ^ 63 + r else r) / 2 ^ 63 % 2 == 1) = neg := by
    cases neg
    · simp only [Bool.false_eq_true, if_false]
      have : r / 2 ^ 63 = 0 := by omega
      rw [this]; rfl
    · simp only [if_true]
      have : (2 ^ 63 + r) / 2 ^ 63 = 1 := by omega
      rw [this]; rfl
  simp only [hm, hs]
  rw [if_neg hr2, if_pos hr3, hdiv, hmod]
  have q1 : 2 ^ 52 + (sig n - 2 ^ 52) = n * 2 ^ (52 - n.log2) := by
    have : sig n = n * 2 ^ (52 - n.log2) := rfl
    omega
  have q2 : (-1074 : Int) + ((n.log2 + 1023 - 1 : Nat) : Int) = -((52 - n.log2 : Nat) : Int) := by omega
  rw [q1, q2]

/-- the bits of float64(z) -/
def fi (z : Int) : Nat := floatOfInt .f64 z
theorem fi_eq (z : Int) : fi z = double.nearest (decide (z < 0)) z.natAbs 0 := rfl

/-- bits b stand for the whole number z (a zero of either sign) -/
def IsI (b : Nat) (z : Int) : Prop := ∃ (s : Bool) (k : Nat), double.read b = .number s (z.natAbs * 2 ^ k) (-(k : Int)) ∧ (z ≠ 0 → s = decide (z < 0))

theorem nearest_zero (s : Bool) (p : Int) : double.nearest s 0 p = double.word s 0 := by unfold Format.nearest; rw [if_pos rfl]
theorem read_zero (s : Bool) : ∃ q : Nat, double.read (double.word s 0) = .number s 0 (-(q : Int)) := ⟨1074, by cases s <;> rfl⟩

theorem near_scale (s : Bool) (n k : Nat) (h : n < 2 ^ 53) : double.nearest s (n * 2 ^ k) (-(k : Int)) = double.nearest s n 0 := by
  by_cases h0 : n = 0
  · subst h0; rw [Nat.zero_mul, nearest_zero, nearest_zero]
  · rw [nearest_int s n k h0 h]
    have := nearest_int s n 0 h0 h
    rw [Nat.pow_zero, Nat.mul_one] at this
    exact this.symm

theorem near_is (s : Bool) (z : Int) (h : z.natAbs < 2 ^ 53) (hs : z ≠ 0 → s = decide (z < 0)) : IsI (double.nearest s z.natAbs 0) z := by
  by_cases h0 : z = 0
  · subst h0
    obtain ⟨q, hq⟩ := read_zero s
    refine ⟨s, q, ?_, fun h => absurd rfl h⟩
    have : double.nearest s (0 : Int).natAbs 0 = double.word s 0 := nearest_zero s 0
    rw [this, hq]
    rw [show (0 : Int).natAbs = 0 from rfl, Nat.zero_mul]
  · have hn : z.natAbs ≠ 0 := by omega
    have := nearest_int s z.natAbs 0 hn h
    rw [Nat.pow_zero, Nat.mul_one] at this
    have e : double.nearest s z.natAbs 0 = double.word s ((z.natAbs.log2 + 1022) * 2 ^ 52 + sig z.natAbs) := this
    rw [e]
    exact ⟨s, _, read_int s z.natAbs hn h, hs⟩

theorem fi_is {z : Int} (h : z.natAbs < 2 ^ 53) : IsI (fi z) z := by rw [fi_eq]; exact near_is _ _ h (fun _ => rfl)

theorem mul_is {a b : Nat} {x y : Int} (ha : IsI a x) (hb : IsI b y) (h : (x * y).natAbs < 2 ^ 53) : ∃ r, floatBits .mul .f64 a b = some r ∧ IsI r (x * y) := by
  obtain ⟨s, k, e1, h1⟩ := ha
  obtain ⟨t, l, e2, h2⟩ := hb
  refine ⟨double.nearest (s ^^ t) (x * y).natAbs 0, ?_, near_is _ _ h ?_⟩
  · show double.mul a b = _
    unfold Format.mul
    rw [e1, e2]
    simp only [Datum.product, Option.map_some, Format.write]
    have e3 : x.natAbs * 2 ^ k * (y.natAbs * 2 ^ l) = (x * y).natAbs * 2 ^ (k + l) := by
      rw [Int.natAbs_mul, Nat.pow_add]
      simp only [Nat.mul_assoc, Nat.mul_left_comm, Nat.mul_comm]
    have e4 : (-(k : Int) + -(l : Int)) = -((k + l : Nat) : Int) := by omega
    rw [e3, e4, near_scale _ _ _ h]
  · intro hne
    have hx : x ≠ 0 := fun e => hne (by rw [e, Int.zero_mul])
    have hy : y ≠ 0 := fun e => hne (by rw [e, Int.mul_zero])
    rw [h1 hx, h2 hy]
    have neg : ∀ {a : Int}, a < 0 → decide (a < 0) = true := fun h => by simpa using h
    have pos : ∀ {a : Int}, 0 < a → decide (a < 0) = false := fun h => by simp; omega
    rcases Int.lt_or_gt_of_ne hx with a1 | a1 <;> rcases Int.lt_or_gt_of_ne hy with b1 | b1
    · rw [neg a1, neg b1, pos (Int.mul_pos_of_neg_of_neg a1 b1)]; rfl
    · rw [neg a1, pos b1, neg (Int.mul_neg_of_neg_of_pos a1 b1)]; rfl
    · rw [pos a1, neg b1, neg (Int.mul_neg_of_pos_of_neg a1 b1)]; rfl
    · rw [pos a1, pos b1, pos (Int.mul_pos a1 b1)]; rfl

theorem signed_eq {s : Bool} {x : Int} {k u K : Nat} (hs : x ≠ 0 → s = decide (x < 0)) (hu : k + u = K) : signed s (x.natAbs * 2 ^ k) u = x * ((2 ^ K : Nat) : Int) := by
  unfold signed
  have e : (x.natAbs * 2 ^ k) <<< u = x.natAbs * 2 ^ K := by rw [Nat.shiftLeft_eq, Nat.mul_assoc, ← Nat.pow_add, hu]
  rw [e]
  by_cases h0 : x = 0
  · subst h0; cases s <;> simp
  · rw [hs h0]
    by_cases hn : x < 0
    · rw [if_pos (by simpa using hn), Int.natCast_mul, show (x.natAbs : Int) = -x by omega, Int.neg_mul, Int.neg_neg]
    · rw [if_neg (by simpa using hn), Int.natCast_mul, show (x.natAbs : Int) = x by omega]

theorem add_fi {b : Nat} {x y : Int} (hx : x.natAbs < 2 ^ 53) (hb : IsI b y) (h : (x + y).natAbs < 2 ^ 53) : floatBits .add .f64 (fi x) b = some (fi (x + y)) := by
  obtain ⟨s, k, e1, h1⟩ := fi_is hx
  obtain ⟨t, l, e2, h2⟩ := hb
  show double.add (fi x) b = _
  unfold Format.add
  rw [e1, e2]
  simp only [Datum.sum, Option.map_some, Format.write]
  obtain ⟨K, hK⟩ : ∃ K, K = max k l := ⟨_, rfl⟩
  have hbase : min (-(k : Int)) (-(l : Int)) = -(K : Int) := by omega
  rw [hbase]
  rw [signed_eq (K := K) h1 (by omega), signed_eq (K := K) h2 (by omega), ← Int.add_mul]
  have hp : (0 : Int) < ((2 ^ K : Nat) : Int) := by have := Nat.two_pow_pos K; omega
  have habs : ((x + y) * ((2 ^ K : Nat) : Int)).natAbs = (x + y).natAbs * 2 ^ K := by rw [Int.natAbs_mul]; rfl
  rw [habs, near_scale _ _ _ h, fi_eq]
  congr 2
  by_cases h0 : x + y = 0
  · rw [h0, Int.zero_mul, if_pos rfl]
    by_cases hx0 : x = 0
    · subst hx0
      have : s = false := by
        obtain ⟨q, hq⟩ := read_zero false
        have h3 : double.read (fi 0) = .number false 0 (-(q : Int)) := by rw [fi_eq]; exact hq
        rw [h3] at e1
        injection e1 with e1
        exact e1.symm
      rw [this]; rfl
    · rw [h1 hx0, h2 (by omega)]
      by_cases hn : x < 0
      · have : ¬ y < 0 := by omega
        simp [hn, this]
      · simp [hn]
  · have hne : (x + y) * ((2 ^ K : Nat) : Int) ≠ 0 := Int.mul_ne_zero h0 (by omega)
    rw [if_neg hne]
    by_cases hn : x + y < 0
    · have := Int.mul_neg_of_neg_of_pos hn hp
      simp only [this, hn]
    · have := Int.mul_nonneg (by omega : 0 ≤ x + y) (Int.le_of_lt hp)
      have h4 : ¬ ((x + y) * ((2 ^ K : Nat) : Int) < 0) := by omega
      simp only [h4, hn]

/-- what is no NaN equals itself -/
theorem order_self {b : Nat} {d : Datum} (h : double.read b = d) (hd : d.isNaN = false) : double.order b b = some .eq := by
  unfold Format.order
  rw [h]
  cases d with
  | number s m i => simp [Datum.order]
  | infinity s => simp [Datum.order]
  | nan s f => simp [Datum.isNaN] at hd

theorem read_near (s : Bool) (m : Nat) (p : Int) : (double.read (double.nearest s m p)).isNaN = false := by
  unfold Format.nearest
  have key : ∀ r, r ≤ double.infRung → (double.read (double.word s r)).isNaN = false := by
    intro r hr
    rw [double_inf] at hr
    unfold Format.read Format.word
    rw [double_bin, double_lp, double_inf, double_sw]
    have hm : (if s then 2 ^ 63 + r else r) % 2 ^ 63 = r := by
      cases s
      · simp only [Bool.false_eq_true, if_false]; omega
      · simp only [if_true]; omega
    simp only [hm]
    by_cases h1 : r < 2 ^ 52
    · rw [if_pos h1]; rfl
    · rw [if_neg h1]
      by_cases h2 : r < 2047 * 2 ^ 52
      · rw [if_pos h2]; rfl
      · rw [if_neg h2, if_pos (by omega)]; rfl
  simp only []
  split
  · exact key 0 (Nat.zero_le _)
  · exact key _ (Nat.min_le_right _ _)

theorem order_fi (z : Int) : double.order (fi z) (fi z) = some .eq := order_self rfl (by rw [fi_eq]; exact read_near _ _ _)

/-- a quotient of whole numbers, the second not 0: valid, and no NaN -/
theorem div_fi {x y : Int} (hx : x.natAbs < 2 ^ 53) (hy : y.natAbs < 2 ^ 53) (h0 : y ≠ 0) : ∃ r, floatBits .quo .f64 (fi x) (fi y) = some r ∧ double.order r r = some .eq := by
  obtain ⟨s, k, e1, h1⟩ := fi_is hx
  obtain ⟨t, l, e2, h2⟩ := fi_is hy
  show ∃ r, double.div (fi x) (fi y) = some r ∧ _
  unfold Format.div
  rw [e1, e2]
  have hn : y.natAbs * 2 ^ l ≠ 0 := Nat.mul_ne_zero (by omega) (by have := Nat.two_pow_pos l; omega)
  simp only [Datum.quotient, if_neg hn, Option.map_some, Format.write]
  exact ⟨_, rfl, order_self rfl (read_near _ _ _)⟩

/-- a whole number against 0 -/
theorem order_zero {z : Int} (h : z.natAbs < 2 ^ 53) : (double.order (fi z) 0 == some .gt) = decide (0 < z) := by
  obtain ⟨s, k, e1, h1⟩ := fi_is h
  obtain ⟨q, hq⟩ := read_zero false
  have e2 : double.read 0 = .number false 0 (-(q : Int)) := hq
  unfold Format.order
  rw [e1, e2]
  simp only [Datum.order]
  obtain ⟨K, hK⟩ : ∃ K, K = max k q := ⟨_, rfl⟩
  have hbase : min (-(k : Int)) (-(q : Int)) = -(K : Int) := by omega
  rw [hbase, signed_eq (K := K) h1 (by omega)]
  have e3 : signed false 0 (-(q : Int) - -(K : Int)).toNat = 0 := by unfold signed; simp
  rw [e3]
  have hp : (0 : Int) < ((2 ^ K : Nat) : Int) := by have := Nat.two_pow_pos K; omega
  rw [Bool.eq_iff_iff, beq_iff_eq, Option.some.injEq, decide_eq_true_iff]
  rw [Int.compare_eq_gt]
  constructor
  · intro h3
    apply Classical.byContradiction
    intro h4
    have := Int.mul_nonpos_of_nonpos_of_nonneg (by omega : z ≤ 0) (Int.le_of_lt hp)
    omega
  · intro h3
    exact Int.mul_pos h3 hp
end Go.Proofs.Ybulkbrdw
