/-
  Plain mathematics: doubles that are not negative, by their rungs: sums, products, conversions and comparisons of words. No Go in sight.
-/
import Derived.Test.Qxb6616071aRound
namespace Go.Proofs.Qxb6616071a.Rnd
open Ieee

theorem lp : double.leastPlace = -1074 := by decide
theorem bin : double.binade = 2 ^ 52 := rfl
theorem frb : (double.fractionBits : Int) = 52 := rfl

theorem log2_shift {m : Nat} (hm : m ≠ 0) (k : Nat) : (m * 2 ^ k).log2 = m.log2 + k := by
  refine log2_eq ?_ ?_
  · rw [Nat.pow_add]
    exact Nat.mul_le_mul_right _ (Nat.log2_self_le hm)
  · rw [show m.log2 + k + 1 = m.log2 + 1 + k by omega, Nat.pow_add]
    exact Nat.mul_lt_mul_of_pos_right (lt_two_log m) (two_pos k)

theorem inner (L mag : Nat) (place last : Int) (h0 : mag ≠ 0) (hp : 0 ≤ place + 1074 + L) (hlast : last = max (place + mag.log2 - 52) (-1074)) :
    (last - -1074).toNat * 2 ^ 52 + rne (mag <<< (place - last).toNat) (2 ^ (last - place).toNat) = RN L (mag * 2 ^ (place + 1074 + L).toNat) := by
  unfold RN
  rw [log2_shift h0]
  have he : mag.log2 + (place + 1074 + (L : Int)).toNat - (52 + L) = (last - -1074).toNat := by omega
  rw [he, Nat.shiftLeft_eq]
  congr 1
  have hlp : -1074 ≤ last := by omega
  by_cases hpl : last ≤ place
  · rw [show (last - place).toNat = 0 by omega, Nat.pow_zero]
    have e : (place + 1074 + (L : Int)).toNat = (place - last).toNat + ((last - -1074).toNat + L) := by omega
    rw [e, Nat.pow_add, ← Nat.mul_assoc, rne_mul _ _ (two_pos _)]
    have := rne_mul (mag * 2 ^ (place - last).toNat) 1 (by omega)
    rwa [Nat.mul_one] at this
  · rw [show (place - last).toNat = 0 by omega, Nat.pow_zero, Nat.mul_one]
    have e : (last - -1074).toNat + L = (last - place).toNat + (place + 1074 + (L : Int)).toNat := by omega
    rw [e, Nat.pow_add, rne_scale _ _ _ (two_pos _)]

/-- 'nearest', by the exact value in units of '2 ^ (-1074 - L)'. -/
theorem nearest_eq (L : Nat) (neg : Bool) (mag : Nat) (place : Int) (hp : 0 ≤ place + 1074 + L) :
    double.nearest neg mag place = double.word neg (min (RN L (mag * 2 ^ (place + 1074 + L).toNat)) double.infRung) := by
  unfold Format.nearest
  by_cases h0 : mag = 0
  · rw [if_pos h0, h0]
    have : RN L (0 * 2 ^ (place + 1074 + (L : Int)).toNat) = 0 := by
      rw [Nat.zero_mul]
      have := RN_V L 0
      rwa [V_zero, Nat.zero_mul] at this
    rw [this, Nat.zero_min]
  · rw [if_neg h0]
    simp only [lp, bin, cut_eq, frb]
    rw [inner L mag place _ h0 hp rfl]

/-- What a datum is worth, in units of '2 ^ -1074'. -/
def DZ (d : Datum) (z : Int) : Prop := ∃ s m i, d = .number s m i ∧ -1074 ≤ i ∧ z = signed s m (i + 1074).toNat

theorem signed_shift (s : Bool) (m a b : Nat) : signed s m (a + b) = signed s m a * 2 ^ b := by
  have e : m <<< (a + b) = m <<< a * 2 ^ b := by rw [Nat.shiftLeft_eq, Nat.shiftLeft_eq, Nat.pow_add, Nat.mul_assoc]
  have e2 : ((m <<< (a + b) : Nat) : Int) = ((m <<< a : Nat) : Int) * 2 ^ b := by rw [e]; simp
  unfold signed
  split
  · rw [e2, Int.neg_mul]
  · exact e2

theorem compare_mul (a b : Int) (k : Nat) : compare (a * 2 ^ k) (b * 2 ^ k) = compare a b := by
  have hk : (0 : Int) < 2 ^ k := by
    have := two_pos k
    have e : ((2 ^ k : Nat) : Int) = 2 ^ k := by simp
    omega
  rcases Int.lt_trichotomy a b with h | h | h
  · rw [Int.compare_eq_lt.2 h, Int.compare_eq_lt.2 (Int.mul_lt_mul_of_pos_right h hk)]
  · rw [h, Int.compare_eq_eq.2 rfl, Int.compare_eq_eq.2 rfl]
  · rw [Int.compare_eq_gt.2 h, Int.compare_eq_gt.2 (Int.mul_lt_mul_of_pos_right h hk)]

theorem order_DZ {d d' : Datum} {z z' : Int} (h : DZ d z) (h' : DZ d' z') : d.order d' = some (compare z z') := by
  obtain ⟨s, m, i, rfl, hi, rfl⟩ := h
  obtain ⟨t, n, j, rfl, hj, rfl⟩ := h'
  show some (compare (signed s m (i - min i j).toNat) (signed t n (j - min i j).toNat)) = _
  congr 1
  have e1 : (i + 1074).toNat = (i - min i j).toNat + (min i j + 1074).toNat := by omega
  have e2 : (j + 1074).toNat = (j - min i j).toNat + (min i j + 1074).toNat := by omega
  rw [e1, e2, signed_shift, signed_shift, compare_mul]

theorem sw : double.signWeight = 2 ^ 63 := by decide
theorem infv : double.infRung = 2047 * 2 ^ 52 := by decide

/-- The word x is a double that is not negative (a negative zero among them), of rung r. -/
def NN (x r : Nat) : Prop := (x = r ∧ r ≤ double.infRung) ∨ (x = double.signWeight ∧ r = 0)

theorem NN.le {x r : Nat} (h : NN x r) : r ≤ double.infRung := by
  rcases h with ⟨_, h⟩ | ⟨_, h⟩
  · exact h
  · rw [h]; exact Nat.zero_le _

/-- The datum of a sign and a rung. -/
theorem read_parts (neg : Bool) (r : Nat) (hr : r < double.signWeight) : double.read (double.word neg r) =
    if r < double.binade then .number neg r double.leastPlace
    else if r < double.infRung then .number neg (double.binade + r % double.binade) (double.leastPlace + (r / double.binade - 1 : Nat))
    else if r = double.infRung then .infinity neg else .nan neg (r - double.infRung) := by
  have h1 : (double.word neg r) % double.signWeight = r := by
    unfold Format.word
    split
    · rw [Nat.add_mod_left, Nat.mod_eq_of_lt hr]
    · exact Nat.mod_eq_of_lt hr
  have h2 : ((double.word neg r) / double.signWeight % 2 == 1) = neg := by
    unfold Format.word
    cases neg
    · simp only [Bool.false_eq_true, if_false]
      rw [Nat.div_eq_of_lt hr]
      rfl
    · simp only [if_true]
      rw [Nat.add_div_left _ (by rw [sw]; omega), Nat.div_eq_of_lt hr]
      rfl
  unfold Format.read
  simp only [h1, h2]

theorem read_fin (neg : Bool) (r : Nat) (hr : r < double.infRung) : ∃ m i, double.read (double.word neg r) = .number neg m i ∧ -1074 ≤ i ∧ m * 2 ^ (i + 1074).toNat = V r := by
  rw [read_parts neg r (by rw [sw]; rw [infv] at hr; omega)]
  by_cases h : r < double.binade
  · rw [if_pos h]
    refine ⟨r, _, rfl, by rw [lp]; omega, ?_⟩
    rw [lp, bin] at *
    unfold V
    rw [if_pos h]
    simp
  · rw [if_neg h, if_pos hr]
    refine ⟨_, _, rfl, by rw [lp]; omega, ?_⟩
    rw [bin] at *
    rw [lp]
    unfold V
    rw [if_neg h]
    congr 2
    omega

theorem read_inf (neg : Bool) : double.read (double.word neg double.infRung) = .infinity neg := by
  rw [read_parts neg _ (by rw [sw, infv]; omega), if_neg (by rw [infv, bin]; omega), if_neg (by omega), if_pos rfl]

theorem word_false (r : Nat) : double.word false r = r := rfl
theorem word_true (r : Nat) : double.word true r = double.signWeight + r := rfl

theorem NN.mk {r : Nat} (h : r ≤ double.infRung) : NN r r := .inl ⟨rfl, h⟩
theorem NN.word {neg : Bool} {r : Nat} (h : r ≤ double.infRung) (hn : neg = true → r = 0) : NN (double.word neg r) r := by
  cases neg
  · exact .inl ⟨rfl, h⟩
  · have := hn rfl
    subst this
    exact .inr ⟨rfl, rfl⟩

theorem NN.read {x r : Nat} (h : NN x r) (hr : r < double.infRung) : ∃ s m i, double.read x = .number s m i ∧ -1074 ≤ i ∧ m * 2 ^ (i + 1074).toNat = V r ∧ (s = true → m = 0) := by
  rcases h with ⟨rfl, _⟩ | ⟨rfl, rfl⟩
  · obtain ⟨m, i, h1, h2, h3⟩ := read_fin false x hr
    exact ⟨false, m, i, h1, h2, h3, by simp⟩
  · obtain ⟨m, i, h1, h2, h3⟩ := read_fin true 0 hr
    refine ⟨true, m, i, h1, h2, h3, fun _ => ?_⟩
    rw [V_zero] at h3
    rcases Nat.mul_eq_zero.1 h3 with h | h
    · exact h
    · have := two_pos (i + 1074).toNat
      omega

theorem signed_of {s : Bool} {m k v : Nat} (h : m * 2 ^ k = v) (hs : s = true → m = 0) : signed s m k = (v : Int) := by
  unfold signed
  rw [Nat.shiftLeft_eq, h]
  split
  · rename_i h'
    have := hs h'
    rw [this, Nat.zero_mul] at h
    omega
  · rfl

theorem NN.dz {x r : Nat} (h : NN x r) (hr : r < double.infRung) : DZ (double.read x) (V r) := by
  obtain ⟨s, m, i, h1, h2, h3, h4⟩ := h.read hr
  exact ⟨s, m, i, h1, h2, (signed_of h3 h4).symm⟩

theorem NN.inf {x r : Nat} (h : NN x r) (hr : ¬ r < double.infRung) : double.read x = .infinity false := by
  rcases h with ⟨rfl, h⟩ | ⟨rfl, rfl⟩
  · obtain rfl : x = double.infRung := by omega
    exact read_inf false
  · rw [infv] at hr
    omega

theorem cmp_cast (a b : Nat) : compare (V a : Int) (V b : Int) = compare a b := by
  rcases Nat.lt_trichotomy a b with h | h | h
  · rw [Nat.compare_eq_lt.2 h, Int.compare_eq_lt.2 (by have := V_lt_iff.2 h; omega)]
  · rw [h, Int.compare_eq_eq.2 rfl, Nat.compare_eq_eq.2 rfl]
  · rw [Nat.compare_eq_gt.2 h, Int.compare_eq_gt.2 (by have := V_lt_iff.2 h; omega)]

/-- Doubles that are not negative stand to each other as their rungs do. -/
theorem order_nn {x y a b : Nat} (hx : NN x a) (hy : NN y b) : double.order x y = some (compare a b) := by
  unfold Format.order
  have la := hx.le
  have lb := hy.le
  by_cases ha : a < double.infRung
  · by_cases hb : b < double.infRung
    · rw [order_DZ (hx.dz ha) (hy.dz hb), cmp_cast]
    · obtain ⟨s, m, i, h1, _⟩ := hx.dz ha
      rw [h1, hy.inf hb, Nat.compare_eq_lt.2 (by omega)]
      rfl
  · by_cases hb : b < double.infRung
    · obtain ⟨s, m, i, h1, _⟩ := hy.dz hb
      rw [h1, hx.inf ha, Nat.compare_eq_gt.2 (by omega)]
      rfl
    · rw [hx.inf ha, hy.inf hb, Nat.compare_eq_eq.2 (by omega)]
      rfl

theorem gt_iff {x y a b : Nat} (hx : NN x a) (hy : NN y b) : double.order x y = some .gt ↔ b < a := by
  rw [order_nn hx hy]
  simp only [Option.some.injEq]
  exact Nat.compare_eq_gt

end Go.Proofs.Qxb6616071a.Rnd
