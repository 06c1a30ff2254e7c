/-
  Plain mathematics: rounding to nearest, ties to even, as a monotone function of the exact value; the order of doubles by their rungs. No Go in sight.
-/
import GoSem.Core.Float
namespace Go.Proofs.Qxb6616071a.Rnd
open Ieee

/-! ### Rounding a quotient -/
/-- 'n / g', rounded to nearest, ties to even. -/
def rne (n g : Nat) : Nat := n / g + (if g < 2 * (n % g) ∨ (g = 2 * (n % g) ∧ n / g % 2 = 1) then 1 else 0)

theorem rne_mono {n m g : Nat} (hg : 0 < g) (h : n ≤ m) : rne n g ≤ rne m g := by
  have h1 : n / g ≤ m / g := Nat.div_le_div_right h
  have e1 := Nat.div_add_mod n g
  have e2 := Nat.div_add_mod m g
  have l1 := Nat.mod_lt n hg
  unfold rne
  by_cases hq : n / g = m / g
  · rw [← hq] at e2 ⊢
    have hr : n % g ≤ m % g := by omega
    split
    · rename_i hc
      rw [if_pos (by omega)]
      exact Nat.le_refl _
    · omega
  · have : n / g + 1 ≤ m / g := by omega
    split <;> split <;> omega

theorem rne_mul (a g : Nat) (hg : 0 < g) : rne (a * g) g = a := by
  unfold rne
  rw [Nat.mul_mod_left, Nat.mul_div_left _ hg]
  rw [if_neg (by omega)]
  omega

theorem rne_scale (n g k : Nat) (hk : 0 < k) : rne (n * k) (g * k) = rne n g := by
  unfold rne
  rw [Nat.mul_div_mul_right _ _ hk, Nat.mul_mod_mul_right]
  have e : 2 * (n % g * k) = 2 * (n % g) * k := by rw [Nat.mul_assoc]
  have i1 : (g * k < 2 * (n % g * k)) ↔ (g < 2 * (n % g)) := by rw [e]; exact Nat.mul_lt_mul_right hk
  have i2 : (g * k = 2 * (n % g * k)) ↔ (g = 2 * (n % g)) := by rw [e]; exact Nat.mul_left_inj (by omega)
  simp only [i1, i2]

theorem rne_le {n a g : Nat} (hg : 0 < g) (h : n ≤ a * g) : rne n g ≤ a := by
  have := rne_mono hg h
  rwa [rne_mul a g hg] at this
theorem le_rne {n a g : Nat} (hg : 0 < g) (h : a * g ≤ n) : a ≤ rne n g := by
  have := rne_mono hg h
  rwa [rne_mul a g hg] at this

theorem lt_two_log (n : Nat) : n < 2 ^ (n.log2 + 1) := by
  by_cases h : n = 0
  · subst h; decide
  · exact Nat.lt_log2_self

/-- The model's own cut is that. -/
theorem cut_eq (neg : Bool) (n drop : Nat) : Toward.even.cut neg n drop = rne n (2 ^ drop) := by
  unfold Toward.cut rne
  simp only [Nat.shiftLeft_eq, Nat.one_mul]
  by_cases h : drop ≤ n.log2 + 2
  · rw [Nat.min_eq_left h]
    congr 1
    split
    · rename_i hc
      rcases hc with hc | ⟨h1, h2⟩
      · simp [hc]
      · simp [← h1, h2]
    · rename_i hc
      simp only [not_or, not_and] at hc
      have : (decide (2 ^ drop < 2 * (n % 2 ^ drop)) || 2 ^ drop == 2 * (n % 2 ^ drop) && n / 2 ^ drop % 2 == 1) = false := by
        rw [Bool.or_eq_false_iff]
        refine ⟨decide_eq_false hc.1, ?_⟩
        rw [Bool.and_eq_false_imp]
        intro h1
        have := hc.2 (by simpa using h1)
        simpa using this
      rw [this]
      rfl
  · rw [Nat.min_eq_right (by omega)]
    have hn := lt_two_log n
    have h1 : 2 ^ (n.log2 + 2) = 2 * 2 ^ (n.log2 + 1) := by rw [Nat.pow_succ]; omega
    have h2 : 2 ^ (n.log2 + 2) ≤ 2 ^ drop := Nat.pow_le_pow_right (by omega) (by omega)
    rw [Nat.div_eq_of_lt (by omega), Nat.mod_eq_of_lt (show n < 2 ^ (n.log2 + 2) by omega), Nat.div_eq_of_lt (by omega), Nat.mod_eq_of_lt (show n < 2 ^ drop by omega)]
    rw [if_neg (by omega)]
    have : (decide (2 ^ (n.log2 + 2) < 2 * n) || 2 ^ (n.log2 + 2) == 2 * n && (0 : Nat) % 2 == 1) = false := by
      rw [Bool.or_eq_false_iff]
      exact ⟨decide_eq_false (by omega), by simp⟩
    rw [this]
    rfl

/-! ### The rung of an exact value 'N * 2 ^ (-1074 - L)' -/
def RN (L N : Nat) : Nat := (N.log2 - (52 + L)) * 2 ^ 52 + rne N (2 ^ (N.log2 - (52 + L) + L))

theorem log2_mono {n m : Nat} (h : n ≤ m) : n.log2 ≤ m.log2 := by
  by_cases hn : n = 0
  · subst hn; simp
  · exact (Nat.le_log2 (by omega)).2 (Nat.le_trans (Nat.log2_self_le hn) h)

theorem two_pos (k : Nat) : 0 < 2 ^ k := Nat.pos_of_ne_zero (by simp)

theorem RN_mono {L n m : Nat} (h : n ≤ m) : RN L n ≤ RN L m := by
  have hl := log2_mono h
  unfold RN
  by_cases he : n.log2 - (52 + L) = m.log2 - (52 + L)
  · rw [he]
    exact Nat.add_le_add_left (rne_mono (two_pos _) h) _
  · have hm : m ≠ 0 := by
      intro e
      subst e
      obtain rfl : n = 0 := by omega
      exact he rfl
    have hlt : n.log2 - (52 + L) < m.log2 - (52 + L) := by omega
    have a1 : 2 ^ 52 ≤ rne m (2 ^ (m.log2 - (52 + L) + L)) := by
      refine le_rne (two_pos _) ?_
      rw [← Nat.pow_add, show 52 + (m.log2 - (52 + L) + L) = m.log2 by omega]
      exact Nat.log2_self_le hm
    have a2 : rne n (2 ^ (n.log2 - (52 + L) + L)) ≤ 2 ^ 53 := by
      refine rne_le (two_pos _) ?_
      rw [← Nat.pow_add]
      exact Nat.le_of_lt (Nat.lt_of_lt_of_le (lt_two_log n) (Nat.pow_le_pow_right (by omega) (by omega)))
    generalize n.log2 - (52 + L) = e1 at *
    generalize m.log2 - (52 + L) = e2 at *
    omega

/-- The magnitude of rung r, in units of '2 ^ -1074'. -/
def V (r : Nat) : Nat := if r < 2 ^ 52 then r else (2 ^ 52 + r % 2 ^ 52) * 2 ^ (r / 2 ^ 52 - 1)

theorem log2_eq {n k : Nat} (h1 : 2 ^ k ≤ n) (h2 : n < 2 ^ (k + 1)) : n.log2 = k := by
  have hn : n ≠ 0 := by have := two_pos k; omega
  have a := (Nat.le_log2 hn).2 h1
  have b := (Nat.log2_lt hn).2 h2
  omega

theorem RN_V (L r : Nat) : RN L (V r * 2 ^ L) = r := by
  unfold V
  by_cases h : r < 2 ^ 52
  · rw [if_pos h]
    have he : (r * 2 ^ L).log2 - (52 + L) = 0 := by
      by_cases h0 : r * 2 ^ L = 0
      · rw [h0]; simp
      · have : (r * 2 ^ L).log2 < 52 + L := by
          rw [Nat.log2_lt h0, Nat.pow_add]
          exact Nat.mul_lt_mul_of_pos_right h (two_pos L)
        omega
    unfold RN
    rw [he]
    simp only [Nat.zero_mul, Nat.zero_add]
    exact rne_mul _ _ (two_pos L)
  · rw [if_neg h]
    have hq : 1 ≤ r / 2 ^ 52 := (Nat.le_div_iff_mul_le (by omega)).2 (by omega)
    have hf := Nat.mod_lt r (show 0 < 2 ^ 52 by omega)
    have hr := Nat.div_add_mod r (2 ^ 52)
    generalize r / 2 ^ 52 = q at *
    generalize r % 2 ^ 52 = f at *
    have hN : (2 ^ 52 + f) * 2 ^ (q - 1) * 2 ^ L = (2 ^ 52 + f) * 2 ^ (q - 1 + L) := by rw [Nat.mul_assoc, ← Nat.pow_add]
    rw [hN]
    have hlog : ((2 ^ 52 + f) * 2 ^ (q - 1 + L)).log2 = 52 + (q - 1 + L) := by
      refine log2_eq ?_ ?_
      · rw [Nat.pow_add 2 52]
        exact Nat.mul_le_mul_right _ (by omega)
      · rw [show 52 + (q - 1 + L) + 1 = 53 + (q - 1 + L) by omega, Nat.pow_add 2 53]
        exact Nat.mul_lt_mul_of_pos_right (by omega) (two_pos _)
    unfold RN
    rw [hlog, show 52 + (q - 1 + L) - (52 + L) = q - 1 by omega, rne_mul _ _ (two_pos _)]
    have : (q - 1) * 2 ^ 52 + 2 ^ 52 = q * 2 ^ 52 := by
      rw [← Nat.succ_mul]
      congr 1
      omega
    omega

theorem V_le_of {a b : Nat} (h : V a ≤ V b) : a ≤ b := by
  have := RN_mono (L := 0) h
  have e1 := RN_V 0 a
  have e2 := RN_V 0 b
  simp only [Nat.pow_zero, Nat.mul_one] at e1 e2
  rwa [e1, e2] at this
theorem V_lt_iff {a b : Nat} : V a < V b ↔ a < b := by
  constructor
  · intro h
    have h1 := V_le_of (Nat.le_of_lt h)
    have : a ≠ b := fun e => by subst e; exact Nat.lt_irrefl _ h
    omega
  · intro h
    rcases Nat.lt_or_ge (V a) (V b) with h' | h'
    · exact h'
    · have := V_le_of h'
      omega
theorem V_le_iff {a b : Nat} : V a ≤ V b ↔ a ≤ b := by
  constructor
  · exact V_le_of
  · intro h
    rcases Nat.lt_or_ge (V b) (V a) with h' | h'
    · have := V_lt_iff.1 h'
      omega
    · exact h'
theorem V_zero : V 0 = 0 := by simp [V]

end Go.Proofs.Qxb6616071a.Rnd
