/-
  Plain mathematics: 'outgrown' as a function of words, and the three laws of it that the Go laws ask. No Go in sight.
-/
import Derived.Test.Qxb6616071aLaws
namespace Go.Proofs.Qxb6616071a.Rnd
open Ieee

def ge0 (x : Nat) : Bool := double.order x 0 == some .gt || double.order x 0 == some .eq
/-- 'max(x, 0)'. -/
def mx (x : Nat) : Nat := match double.order x 0 with
  | some .gt => x
  | some .eq => if (double.read x).neg then 0 else x
  | _ => 0
/-- 'c > base + scale * m': an invalid operation gives a NaN, and nothing is above one. -/
def past (c base scale m : Nat) : Bool := match double.mul scale m with
  | none => false
  | some p => match double.add base p with
    | none => false
    | some T => double.order c T == some .gt
def outg (n : Int) (cnt base scale : Nat) : Bool := ge0 cnt && (double.order (cv n) cnt == some .gt) && past (cv n) base scale (mx cnt)
def ONE : Nat := 4607182418800017408
def TWO : Nat := 4611686018427387904
/-- 'c > 2 * cnt + base'. -/
def over2 (n : Int) (cnt base : Nat) : Bool := match double.mul TWO cnt with
  | none => false
  | some A => match double.add A base with
    | none => false
    | some S => double.order (cv n) S == some .gt

theorem mx_nn {x r : Nat} (h : NN x r) : NN (mx x) r := by
  unfold mx
  rw [order_nn h nn_zero]
  rcases Nat.eq_zero_or_pos r with h0 | h0
  · subst h0
    rw [Nat.compare_eq_eq.2 rfl]
    simp only
    split
    · exact nn_zero
    · exact h
  · rw [Nat.compare_eq_gt.2 h0]
    exact h

theorem ge0_nn {x : Nat} (hx : x < 2 ^ 64) (h : ge0 x = true) : ∃ r, NN x r := by
  unfold ge0 at h
  rw [Bool.or_eq_true, beq_iff_eq, beq_iff_eq] at h
  exact nn_of_ge hx h

theorem nn_ge0 {x r : Nat} (h : NN x r) : ge0 x = true := by
  unfold ge0
  rw [Bool.or_eq_true, beq_iff_eq, beq_iff_eq]
  exact ge_of_nn h

theorem outg_parts {n : Int} {cnt base scale : Nat} (h : outg n cnt base scale = true) : ge0 cnt = true ∧ double.order (cv n) cnt = some .gt ∧ past (cv n) base scale (mx cnt) = true := by
  unfold outg at h
  rw [Bool.and_eq_true, Bool.and_eq_true, beq_iff_eq] at h
  exact ⟨h.1.1, h.1.2, h.2⟩
theorem outg_mk {n : Int} {cnt base scale : Nat} (h1 : ge0 cnt = true) (h2 : double.order (cv n) cnt = some .gt) (h3 : past (cv n) base scale (mx cnt) = true) : outg n cnt base scale = true := by
  unfold outg
  rw [Bool.and_eq_true, Bool.and_eq_true, beq_iff_eq]
  exact ⟨⟨h1, h2⟩, h3⟩

theorem past_parts {c base scale m : Nat} (h : past c base scale m = true) : ∃ p T, double.mul scale m = some p ∧ double.add base p = some T ∧ double.order c T = some .gt := by
  unfold past at h
  cases h1 : double.mul scale m with
  | none => rw [h1] at h; cases h
  | some p =>
    rw [h1] at h
    simp only at h
    cases h2 : double.add base p with
    | none => rw [h2] at h; cases h
    | some T => rw [h2] at h; exact ⟨p, T, rfl, h2, by simpa using h⟩
theorem past_mk {c base scale m p T : Nat} (h1 : double.mul scale m = some p) (h2 : double.add base p = some T) (h3 : double.order c T = some .gt) : past c base scale m = true := by
  unfold past
  rw [h1]
  simp only
  rw [h2]
  simp [h3]

/-- Where the count is not negative and the rows changed are more than it, they are no negative number. -/
theorem changed_pos {n : Int} {cnt r : Nat} (h : NN cnt r) (hg : double.order (cv n) cnt = some .gt) : 0 ≤ n := by
  rcases Int.lt_or_le n 0 with h' | h'
  · exact absurd hg (cv_neg h' h)
  · exact h'

/-- MORE ROWS. -/
theorem law_more {n m : Int} {cnt base scale : Nat} (hc : cnt < 2 ^ 64) (hnm : n ≤ m) (h : outg n cnt base scale = true) : outg m cnt base scale = true := by
  obtain ⟨h1, h2, h3⟩ := outg_parts h
  obtain ⟨r, hr⟩ := ge0_nn hc h1
  have hn := changed_pos hr h2
  have up : ∀ T, double.order (cv n) T = some .gt → double.order (cv m) T = some .gt := fun T => gt_up (cv_nn hn) (cv_nn (by omega)) (cvr_mono hnm)
  obtain ⟨p, T, e1, e2, e3⟩ := past_parts h3
  exact outg_mk h1 (up _ h2) (past_mk e1 e2 (up _ e3))

set_option exponentiation.threshold 3000 in
theorem V_one : V ONE = 2 ^ 1074 := by
  have e : ONE = 1023 * 2 ^ 52 := by decide
  unfold V
  rw [e, if_neg (by omega), Nat.mul_mod_left, Nat.mul_div_left _ (by omega), Nat.add_zero, ← Nat.pow_add]
set_option exponentiation.threshold 3000 in
theorem V_two : V TWO = 2 ^ 1075 := by
  have e : TWO = 1024 * 2 ^ 52 := by decide
  unfold V
  rw [e, if_neg (by omega), Nat.mul_mod_left, Nat.mul_div_left _ (by omega), Nat.add_zero, ← Nat.pow_add]

theorem nn_one : NN ONE ONE := .inl ⟨rfl, by decide⟩
theorem nn_two : NN TWO TWO := .inl ⟨rfl, by decide⟩

theorem ADD_mono {a b c d : Nat} (h1 : a ≤ c) (h2 : b ≤ d) : ADD a b ≤ ADD c d := by
  have := RN_mono (L := 0) (Nat.add_le_add (V_le_iff.2 h1) (V_le_iff.2 h2))
  unfold ADD
  omega
theorem ADD_comm (a b : Nat) : ADD a b = ADD b a := by unfold ADD; rw [Nat.add_comm]
theorem le_ADD {a b : Nat} (h : a ≤ double.infRung) : a ≤ ADD a b := by
  have h1 := RN_mono (L := 0) (Nat.le_add_right (V a) (V b))
  have e := RN_V 0 a
  rw [Nat.pow_zero, Nat.mul_one] at e
  unfold ADD
  omega
theorem MUL_mono {a b c d : Nat} (h1 : a ≤ c) (h2 : b ≤ d) : MUL a b ≤ MUL c d := by
  have := RN_mono (L := 1074) (Nat.mul_le_mul (V_le_iff.2 h1) (V_le_iff.2 h2))
  unfold MUL
  omega
set_option exponentiation.threshold 3000 in
theorem le_MUL_two {r : Nat} (h : r ≤ double.infRung) : r ≤ MUL TWO r := by
  have h1 : V r * 2 ^ 1074 ≤ V TWO * V r := by
    rw [V_two, Nat.mul_comm (2 ^ 1075)]
    exact Nat.mul_le_mul_left _ (Nat.pow_le_pow_right (by omega) (by omega))
  have h2 := RN_mono (L := 1074) h1
  rw [RN_V] at h2
  unfold MUL
  omega

/-- THE THRESHOLD, where the count is finite and the settings are not negative. -/
theorem past_of {c a base b scale s m r S : Nat} (hc : NN c a) (hb : NN base b) (hs : NN scale s) (hm : NN m r) (hr : r < double.infRung) (hs' : s < double.infRung) (hb' : b < double.infRung)
    (hp : MUL s r < double.infRung) (hS : ADD b (MUL s r) ≤ S) (ha : S < a) : past c base scale m = true := by
  obtain ⟨p, e1, hp1⟩ := mul_fin hs hm hs' hr
  obtain ⟨T, e2, hT⟩ := add_fin hb hp1 hb' hp
  exact past_mk e1 e2 ((gt_iff hc hT).2 (by omega))

/-- TWICE THE COUNT PLUS THE BASE. -/
theorem law_twice {n : Int} {cnt base scale : Nat} (hc : cnt < 2 ^ 64) (hb : base < 2 ^ 64) (hs : scale < 2 ^ 64) (g1 : ge0 cnt = true) (g2 : ge0 base = true) (g3 : ge0 scale = true)
    (g4 : (double.order scale ONE == some .lt || double.order scale ONE == some .eq) = true) (h : over2 n cnt base = true) : outg n cnt base scale = true := by
  obtain ⟨r, hr⟩ := ge0_nn hc g1
  obtain ⟨b, hb⟩ := ge0_nn hb g2
  obtain ⟨s, hs⟩ := ge0_nn hs g3
  have hs1 : s ≤ ONE := by
    rw [Bool.or_eq_true, beq_iff_eq, beq_iff_eq, order_nn hs nn_one] at g4
    rcases g4 with g | g
    · exact Nat.le_of_lt (Nat.compare_eq_lt.1 (Option.some.inj g))
    · exact Nat.le_of_eq (Nat.compare_eq_eq.1 (Option.some.inj g))
  have one_lt : ONE < double.infRung := by decide
  have two_lt : TWO < double.infRung := by decide
  have one_two : ONE ≤ TWO := by decide
  -- what 'over2' says
  have hov : ∃ A S, double.mul TWO cnt = some A ∧ double.add A base = some S ∧ double.order (cv n) S = some .gt := by
    unfold over2 at h
    cases h1 : double.mul TWO cnt with
    | none => rw [h1] at h; cases h
    | some A =>
      rw [h1] at h
      simp only at h
      cases h2 : double.add A base with
      | none => rw [h2] at h; cases h
      | some S => rw [h2] at h; exact ⟨A, S, rfl, h2, by simpa using h⟩
  obtain ⟨A, S, e1, e2, e3⟩ := hov
  have ninf : NN double.infRung double.infRung := .inl ⟨rfl, Nat.le_refl _⟩
  have hpos : ∀ {X k : Nat}, NN X k → double.order (cv n) X = some .gt → 0 ≤ n := fun hX hg => changed_pos hX hg
  have never : ¬ S = double.infRung := fun e => by
    subst e
    have hn := hpos ninf e3
    have := (gt_iff (cv_nn hn) ninf).1 e3
    have := (cv_nn hn).le
    omega
  have hrf : r < double.infRung := by
    rcases Nat.lt_or_ge r double.infRung with h' | h'
    · exact h'
    · exfalso
      rcases mul_inf nn_two hr (by omega) with e | e
      · rw [e] at e1; cases e1
      · rw [e] at e1
        cases e1
        rw [add_inf ninf hb (by omega)] at e2
        cases e2
        exact never rfl
  obtain ⟨A', e1', hA⟩ := mul_fin nn_two hr two_lt hrf
  obtain rfl : A' = A := Option.some.inj (e1'.symm.trans e1)
  have hfin : MUL TWO r < double.infRung ∧ b < double.infRung := by
    rcases Decidable.em (MUL TWO r < double.infRung ∧ b < double.infRung) with h' | h'
    · exact h'
    · exfalso
      rw [add_inf hA hb h'] at e2
      cases e2
      exact never rfl
  obtain ⟨S', e2', hS⟩ := add_fin hA hb hfin.1 hfin.2
  obtain rfl : S' = S := Option.some.inj (e2'.symm.trans e2)
  have hn := hpos hS e3
  have hlt := (gt_iff (cv_nn hn) hS).1 e3
  have m1 : r ≤ MUL TWO r := le_MUL_two hr.le
  have m2 : MUL TWO r ≤ ADD (MUL TWO r) b := le_ADD hA.le
  have m3 : MUL s r ≤ MUL TWO r := MUL_mono (by omega) (Nat.le_refl _)
  have m4 : ADD b (MUL s r) ≤ ADD (MUL TWO r) b := by rw [ADD_comm b]; exact ADD_mono m3 (Nat.le_refl _)
  exact outg_mk g1 ((gt_iff (cv_nn hn) hr).2 (by omega)) (past_of (cv_nn hn) hb hs (mx_nn hr) hrf (by omega) hfin.2 (by omega) m4 hlt)

/-- Looser settings. -/
theorem law_strict {n : Int} {cnt scnt base sbase scale sscale : Nat} (hc : cnt < 2 ^ 64) (hc' : scnt < 2 ^ 64) (hb : base < 2 ^ 64) (hb' : sbase < 2 ^ 64) (hs : scale < 2 ^ 64) (hs' : sscale < 2 ^ 64)
    (g1 : ge0 cnt = true) (g2 : ge0 base = true) (g3 : ge0 scale = true) (q1 : ge0 scnt = true) (q2 : ge0 sbase = true) (q3 : ge0 sscale = true)
    (k1 : double.order scnt cnt = some .gt ∨ double.order scnt cnt = some .eq) (k2 : double.order sbase base = some .gt ∨ double.order sbase base = some .eq) (k3 : double.order sscale scale = some .gt ∨ double.order sscale scale = some .eq)
    (h : outg n scnt sbase sscale = true) : outg n cnt base scale = true := by
  obtain ⟨r, hr⟩ := ge0_nn hc g1
  obtain ⟨b, hb⟩ := ge0_nn hb g2
  obtain ⟨s, hs⟩ := ge0_nn hs g3
  obtain ⟨r', hr'⟩ := ge0_nn hc' q1
  obtain ⟨b', hb'⟩ := ge0_nn hb' q2
  obtain ⟨s', hs'⟩ := ge0_nn hs' q3
  have le : ∀ {x y i j : Nat}, NN x i → NN y j → (double.order x y = some .gt ∨ double.order x y = some .eq) → j ≤ i := fun hx hy g => by
    rw [order_nn hx hy] at g
    rcases g with g | g
    · exact Nat.le_of_lt (Nat.compare_eq_gt.1 (Option.some.inj g))
    · exact Nat.le_of_eq (Nat.compare_eq_eq.1 (Option.some.inj g)).symm
  have l1 := le hr' hr k1
  have l2 := le hb' hb k2
  have l3 := le hs' hs k3
  obtain ⟨_, h2, h3⟩ := outg_parts h
  have hn := changed_pos hr' h2
  have hlt := (gt_iff (cv_nn hn) hr').1 h2
  have hcl := (cv_nn hn).le
  have ninf : NN double.infRung double.infRung := .inl ⟨rfl, Nat.le_refl _⟩
  obtain ⟨p, T, e1, e2, e3⟩ := past_parts h3
  have never : ¬ T = double.infRung := fun e => by
    subst e
    have := (gt_iff (cv_nn hn) ninf).1 e3
    omega
  have hsf : s' < double.infRung := by
    rcases Nat.lt_or_ge s' double.infRung with h' | h'
    · exact h'
    · exfalso
      rcases mul_inf hs' (mx_nn hr') (by omega) with e | e
      · rw [e] at e1; cases e1
      · rw [e] at e1
        cases e1
        rw [add_inf hb' ninf (by omega)] at e2
        cases e2
        exact never rfl
  obtain ⟨p', e1', hp⟩ := mul_fin hs' (mx_nn hr') hsf (by omega)
  obtain rfl : p' = p := Option.some.inj (e1'.symm.trans e1)
  have hfin : b' < double.infRung ∧ MUL s' r' < double.infRung := by
    rcases Decidable.em (b' < double.infRung ∧ MUL s' r' < double.infRung) with h' | h'
    · exact h'
    · exfalso
      rw [add_inf hb' hp h'] at e2
      cases e2
      exact never rfl
  obtain ⟨T', e2', hT⟩ := add_fin hb' hp hfin.1 hfin.2
  obtain rfl : T' = T := Option.some.inj (e2'.symm.trans e2)
  have hlt2 := (gt_iff (cv_nn hn) hT).1 e3
  have m3 : MUL s r ≤ MUL s' r' := MUL_mono l3 l1
  have m4 : ADD b (MUL s r) ≤ ADD b' (MUL s' r') := ADD_mono l2 m3
  exact outg_mk g1 ((gt_iff (cv_nn hn) hr).2 (by omega)) (past_of (cv_nn hn) hb hs (mx_nn hr) (by omega) (by omega) (by omega) (by omega) m4 hlt2)

end Go.Proofs.Qxb6616071a.Rnd
