/-
  Plain mathematics: the laws of 'outgrown' over words. No Go in sight.
-/
import Derived.Test.Qxb6616071aFloat
namespace Go.Proofs.Qxb6616071a.Rnd
open Ieee

theorem RN_zero (L : Nat) : RN L 0 = 0 := by
  have := RN_V L 0
  rwa [V_zero, Nat.zero_mul] at this

theorem pow_two_int (k : Nat) : ((2 ^ k : Nat) : Int) = 2 ^ k := by simp

/-! ### Sums -/
def ADD (a b : Nat) : Nat := min (RN 0 (V a + V b)) double.infRung

theorem add_fin {x y a b : Nat} (hx : NN x a) (hy : NN y b) (ha : a < double.infRung) (hb : b < double.infRung) : ∃ z, double.add x y = some z ∧ NN z (ADD a b) := by
  obtain ⟨s, m, i, e1, hi, v1, s1⟩ := hx.read ha
  obtain ⟨t, n, j, e2, hj, v2, s2⟩ := hy.read hb
  unfold Format.add
  rw [e1, e2]
  refine ⟨_, rfl, ?_⟩
  have z1 := signed_of v1 s1
  have z2 := signed_of v2 s2
  have i1 : (i + 1074).toNat = (i - min i j).toNat + (min i j + 1074).toNat := by omega
  have i2 : (j + 1074).toNat = (j - min i j).toNat + (min i j + 1074).toNat := by omega
  rw [i1, signed_shift] at z1
  rw [i2, signed_shift] at z2
  show NN (double.nearest (if signed s m (i - min i j).toNat + signed t n (j - min i j).toNat = 0 then s && t else decide (signed s m (i - min i j).toNat + signed t n (j - min i j).toNat < 0)) (signed s m (i - min i j).toNat + signed t n (j - min i j).toNat).natAbs (min i j)) _
  generalize hP : signed s m (i - min i j).toNat = P at *
  generalize hQ : signed t n (j - min i j).toNat = Q at *
  have hk := two_pos (min i j + 1074).toNat
  have hk' := pow_two_int (min i j + 1074).toNat
  rw [nearest_eq 0 _ _ _ (by omega)]
  have e0 : (min i j + 1074 + ((0 : Nat) : Int)).toNat = (min i j + 1074).toNat := by simp
  rw [e0]
  generalize hK : (min i j + 1074).toNat = k at *
  have htot : (P + Q) * ((2 ^ k : Nat) : Int) = ((V a + V b : Nat) : Int) := by
    rw [hk', Int.add_mul, z1, z2]
    omega
  have hpos : 0 ≤ P + Q := by
    rcases Int.lt_or_le (P + Q) 0 with h | h
    · have : (P + Q) * ((2 ^ k : Nat) : Int) < 0 := Int.mul_neg_of_neg_of_pos h (by omega)
      omega
    · exact h
  have habs : (P + Q).natAbs * 2 ^ k = V a + V b := by
    have : (((P + Q).natAbs * 2 ^ k : Nat) : Int) = ((V a + V b : Nat) : Int) := by
      rw [Int.natCast_mul, Int.natAbs_of_nonneg hpos, htot]
    exact Int.ofNat_inj.1 this
  rw [habs]
  refine NN.word (Nat.min_le_right _ _) (fun hneg => ?_)
  by_cases h0 : P + Q = 0
  · rw [h0] at habs
    simp only [Int.natAbs_zero, Nat.zero_mul] at habs
    rw [← habs, RN_zero]
    exact Nat.zero_min _
  · rw [if_neg h0] at hneg
    have := of_decide_eq_true hneg
    omega

theorem add_inf {x y a b : Nat} (hx : NN x a) (hy : NN y b) (h : ¬ (a < double.infRung ∧ b < double.infRung)) : double.add x y = some double.infRung := by
  unfold Format.add
  by_cases ha : a < double.infRung
  · obtain ⟨s, m, i, e1, _⟩ := hx.read ha
    have hb : ¬ b < double.infRung := fun hb => h ⟨ha, hb⟩
    rw [e1, hy.inf hb]
    rfl
  · rw [hx.inf ha]
    by_cases hb : b < double.infRung
    · obtain ⟨s, m, i, e1, _⟩ := hy.read hb
      rw [e1]
      rfl
    · rw [hy.inf hb]
      rfl

/-! ### Products -/
def MUL (a b : Nat) : Nat := min (RN 1074 (V a * V b)) double.infRung

theorem mul_fin {x y a b : Nat} (hx : NN x a) (hy : NN y b) (ha : a < double.infRung) (hb : b < double.infRung) : ∃ z, double.mul x y = some z ∧ NN z (MUL a b) := by
  obtain ⟨s, m, i, e1, hi, v1, s1⟩ := hx.read ha
  obtain ⟨t, n, j, e2, hj, v2, s2⟩ := hy.read hb
  unfold Format.mul
  rw [e1, e2]
  refine ⟨_, rfl, ?_⟩
  show NN (double.nearest (s ^^ t) (m * n) (i + j)) _
  rw [nearest_eq 1074 _ _ _ (by omega)]
  have hN : m * n * 2 ^ (i + j + 1074 + ((1074 : Nat) : Int)).toNat = V a * V b := by
    rw [← v1, ← v2, show (i + j + 1074 + ((1074 : Nat) : Int)).toNat = (i + 1074).toNat + (j + 1074).toNat by omega, Nat.pow_add]
    rw [Nat.mul_assoc, Nat.mul_assoc]
    congr 1
    rw [Nat.mul_left_comm]
  rw [hN]
  refine NN.word (Nat.min_le_right _ _) (fun hneg => ?_)
  have h0 : m = 0 ∨ n = 0 := by
    cases s
    · cases t
      · simp at hneg
      · exact .inr (s2 rfl)
    · exact .inl (s1 rfl)
  have : V a * V b = 0 := by
    rcases h0 with h0 | h0
    · rw [← v1, h0]; simp
    · rw [← v2, h0]; simp
  rw [this, RN_zero]
  exact Nat.zero_min _

theorem mul_inf {x y a b : Nat} (hx : NN x a) (hy : NN y b) (h : ¬ (a < double.infRung ∧ b < double.infRung)) : double.mul x y = none ∨ double.mul x y = some double.infRung := by
  unfold Format.mul
  by_cases ha : a < double.infRung
  · obtain ⟨s, m, i, e1, _, _, hs⟩ := hx.read ha
    have hb : ¬ b < double.infRung := fun hb => h ⟨ha, hb⟩
    rw [e1, hy.inf hb]
    by_cases hm : m = 0
    · left; simp [Datum.product, hm]
    · right
      cases s
      · simp [Datum.product, hm]; rfl
      · exact absurd (hs rfl) hm
  · rw [hx.inf ha]
    by_cases hb : b < double.infRung
    · obtain ⟨s, m, i, e1, _, _, hs⟩ := hy.read hb
      rw [e1]
      by_cases hm : m = 0
      · left; simp [Datum.product, hm]
      · right
        cases s
        · simp [Datum.product, hm]; rfl
        · exact absurd (hs rfl) hm
    · rw [hy.inf hb]
      right
      rfl

/-! ### What a word can be -/
theorem read_cases (x : Nat) : (∃ s f, double.read x = .nan s f) ∨ (∃ s, double.read x = .infinity s) ∨ ∃ z, DZ (double.read x) z := by
  unfold Format.read
  simp only
  split
  · exact .inr (.inr ⟨_, _, _, _, rfl, by rw [lp]; omega, rfl⟩)
  · split
    · exact .inr (.inr ⟨_, _, _, _, rfl, by rw [lp]; omega, rfl⟩)
    · split
      · exact .inr (.inl ⟨_, rfl⟩)
      · exact .inl ⟨_, _, rfl⟩

theorem nn_zero : NN 0 0 := .inl ⟨rfl, Nat.zero_le _⟩

/-- 'x >= 0' holds of no other words. -/
theorem nn_of_ge {x : Nat} (hx : x < 2 ^ 64) (h : double.order x 0 = some .gt ∨ double.order x 0 = some .eq) : ∃ r, NN x r := by
  by_cases hlt : x < double.signWeight
  · by_cases hi : x ≤ double.infRung
    · exact ⟨x, .inl ⟨rfl, hi⟩⟩
    · exfalso
      have e := read_parts false x hlt
      rw [word_false, if_neg (by rw [bin]; rw [infv] at hi; omega), if_neg (by omega), if_neg (by omega)] at e
      unfold Format.order at h
      rw [e] at h
      rcases h with h | h <;> cases h
  · obtain ⟨r, rfl⟩ : ∃ r, x = double.signWeight + r := ⟨x - double.signWeight, by omega⟩
    by_cases h0 : r = 0
    · subst h0; exact ⟨0, .inr ⟨rfl, rfl⟩⟩
    · exfalso
      have hr : r < double.signWeight := by rw [sw] at *; omega
      rw [← word_true] at h
      unfold Format.order at h
      by_cases hi : r < double.infRung
      · obtain ⟨m, i, e, hi', hv⟩ := read_fin true r hi
        have hz := nn_zero.dz (by rw [infv]; omega)
        have hd : DZ (double.read (double.word true r)) (-(V r : Int)) := ⟨true, m, i, e, hi', by
          unfold signed
          rw [if_pos rfl, Nat.shiftLeft_eq, hv]⟩
        rw [order_DZ hd hz, V_zero] at h
        have hp : 0 < V r := by
          have := V_lt_iff (a := 0) (b := r)
          rw [V_zero] at this
          omega
        have : compare (-(V r : Int)) ((0 : Nat) : Int) = .lt := Int.compare_eq_lt.2 (by omega)
        rw [this] at h
        rcases h with h | h <;> cases h
      · by_cases hi2 : r = double.infRung
        · rw [hi2, read_inf] at h
          obtain ⟨s, m, i, e, _⟩ := nn_zero.read (by rw [infv]; omega)
          rw [e] at h
          rcases h with h | h <;> cases h
        · have e := read_parts true r hr
          rw [if_neg (by rw [bin]; rw [infv] at hi; omega), if_neg hi, if_neg hi2] at e
          rw [e] at h
          rcases h with h | h <;> cases h

theorem ge_of_nn {x r : Nat} (h : NN x r) : double.order x 0 = some .gt ∨ double.order x 0 = some .eq := by
  rw [order_nn h nn_zero]
  rcases Nat.eq_zero_or_pos r with h0 | h0
  · right; rw [h0, Nat.compare_eq_eq.2 rfl]
  · left; rw [Nat.compare_eq_gt.2 h0]

/-! ### Conversions -/
def cv (n : Int) : Nat := FloatKind.f64.nearest n
def cvr (n : Int) : Nat := min (RN 0 (n.toNat * 2 ^ ((0 : Int) + 1074 + ((0 : Nat) : Int)).toNat)) double.infRung

theorem cv_nn {n : Int} (h : 0 ≤ n) : NN (cv n) (cvr n) := by
  show NN (double.nearest (decide (n < 0)) n.natAbs 0) _
  rw [nearest_eq 0 _ _ _ (by omega), decide_eq_false (by omega)]
  have : n.natAbs = n.toNat := by omega
  rw [this]
  exact NN.word (Nat.min_le_right _ _) (fun h => by cases h)

theorem cvr_mono {n m : Int} (h : n ≤ m) : cvr n ≤ cvr m := by
  have hm : n.toNat * 2 ^ ((0 : Int) + 1074 + ((0 : Nat) : Int)).toNat ≤ m.toNat * 2 ^ ((0 : Int) + 1074 + ((0 : Nat) : Int)).toNat := Nat.mul_le_mul_right _ (by omega)
  have := RN_mono (L := 0) hm
  unfold cvr
  omega

theorem cv_neg {n : Int} (h : n < 0) {y b : Nat} (hy : NN y b) : double.order (cv n) y ≠ some .gt := by
  have e : cv n = double.word true (min (RN 0 (n.natAbs * 2 ^ ((0 : Int) + 1074 + ((0 : Nat) : Int)).toNat)) double.infRung) := by
    show double.nearest (decide (n < 0)) n.natAbs 0 = _
    rw [nearest_eq 0 _ _ _ (by omega), decide_eq_true h]
  rw [e]
  generalize hr : min (RN 0 (n.natAbs * 2 ^ ((0 : Int) + 1074 + ((0 : Nat) : Int)).toNat)) double.infRung = r
  have hle : r ≤ double.infRung := by omega
  unfold Format.order
  by_cases hi : r < double.infRung
  · obtain ⟨m, i, e1, hi', hv⟩ := read_fin true r hi
    by_cases hb : b < double.infRung
    · have hd : DZ (double.read (double.word true r)) (-(V r : Int)) := ⟨true, m, i, e1, hi', by
          unfold signed
          rw [if_pos rfl, Nat.shiftLeft_eq, hv]⟩
      rw [order_DZ hd (hy.dz hb)]
      intro hc
      have := Int.compare_eq_gt.1 (Option.some.inj hc)
      omega
    · rw [e1, hy.inf hb]
      intro hc
      cases hc
  · obtain rfl : r = double.infRung := by omega
    rw [read_inf]
    by_cases hb : b < double.infRung
    · obtain ⟨s, m, i, e2, _⟩ := hy.read hb
      rw [e2]
      intro hc
      cases hc
    · rw [hy.inf hb]
      intro hc
      cases hc

/-- What is above a word is above it from a greater double too. -/
theorem gt_up {c c' a a' T : Nat} (hc : NN c a) (hc' : NN c' a') (h : a ≤ a') (hT : double.order c T = some .gt) : double.order c' T = some .gt := by
  unfold Format.order at *
  have l' := hc'.le
  by_cases ha : a < double.infRung
  · have hd := hc.dz ha
    rcases read_cases T with ⟨s, f, e⟩ | ⟨s, e⟩ | ⟨z, hz⟩
    · obtain ⟨s', m, i, e1, _⟩ := hd
      rw [e, e1] at hT
      cases hT
    · rw [e] at hT ⊢
      obtain ⟨s', m, i, e1, _⟩ := hd
      rw [e1] at hT
      cases s
      · cases hT
      · by_cases ha' : a' < double.infRung
        · obtain ⟨s2, m2, i2, e2, _⟩ := hc'.dz ha'
          rw [e2]
          rfl
        · rw [hc'.inf ha']
          rfl
    · rw [order_DZ hd hz] at hT
      have hlt := Int.compare_eq_gt.1 (Option.some.inj hT)
      by_cases ha' : a' < double.infRung
      · rw [order_DZ (hc'.dz ha') hz]
        have := V_le_iff.2 h
        rw [Int.compare_eq_gt.2 (by omega)]
      · rw [hc'.inf ha']
        obtain ⟨s2, m2, i2, e2, _⟩ := hz
        rw [e2]
        rfl
  · have ha' : ¬ a' < double.infRung := by omega
    rw [hc'.inf ha', ← hc.inf ha]
    exact hT

end Go.Proofs.Qxb6616071a.Rnd
