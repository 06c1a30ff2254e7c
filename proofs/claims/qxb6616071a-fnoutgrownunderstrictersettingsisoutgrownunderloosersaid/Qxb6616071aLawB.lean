/-
  The walk of 'FnOutgrownUnderStricterSettingsIsOutgrownUnderLooser'.
-/
import Derived.Test.Qxb6616071aLawA
namespace Go.Proofs.Qxb6616071a
open Go.RowKit Rnd

/-- What is at least a double that is not negative is not negative. -/
theorem ge0_of_ge {x y b : Nat} (hy : NN y b) (h : Ieee.double.order x y = some .gt ∨ Ieee.double.order x y = some .eq) : ge0 x = true := by
  have goal : Ieee.double.order x 0 = some .gt ∨ Ieee.double.order x 0 = some .eq := by
    have z0 := nn_zero.dz (by rw [infv]; omega)
    unfold Ieee.Format.order at *
    rcases read_cases x with ⟨s, f, e⟩ | ⟨s, e⟩ | ⟨z, hz⟩
    · rw [e] at h
      rcases h with h | h <;> cases h
    · rw [e] at h ⊢
      cases s
      · obtain ⟨s', m, i, e0, _⟩ := z0
        rw [e0]
        exact .inl rfl
      · exfalso
        by_cases hb : b < Ieee.double.infRung
        · obtain ⟨s', m, i, e0, _⟩ := hy.read hb
          rw [e0] at h
          rcases h with h | h <;> cases h
        · rw [hy.inf hb] at h
          rcases h with h | h <;> cases h
    · rw [order_DZ hz z0, V_zero]
      by_cases hb : b < Ieee.double.infRung
      · rw [order_DZ hz (hy.dz hb)] at h
        rcases h with h | h
        · have := Int.compare_eq_gt.1 (Option.some.inj h)
          left
          rw [Int.compare_eq_gt.2 (by omega)]
        · have := Int.compare_eq_eq.1 (Option.some.inj h)
          rcases Nat.eq_zero_or_pos (V b) with h0 | h0
          · right
            rw [Int.compare_eq_eq.2 (by omega)]
          · left
            rw [Int.compare_eq_gt.2 (by omega)]
      · exfalso
        obtain ⟨s', m, i, e0, _⟩ := hz
        rw [hy.inf hb, e0] at h
        rcases h with h | h <;> cases h
  unfold ge0
  rw [Bool.or_eq_true, beq_iff_eq, beq_iff_eq]
  exact goal

/-- 'x >= y', by cases, as the walk shows it. -/
theorem ge_cases (x y : Nat) : ((FloatKind.f64.format.order x y == some .gt) = false ∧ (FloatKind.f64.format.order x y == some .eq) = false) ∨ (FloatKind.f64.format.order x y == some .gt || FloatKind.f64.format.order x y == some .eq) = true := by
  generalize (FloatKind.f64.format.order x y == some .gt) = a1
  generalize (FloatKind.f64.format.order x y == some .eq) = a2
  cases a1 <;> cases a2 <;> simp
theorem le_cases (x y : Nat) : ((FloatKind.f64.format.order x y == some .lt) = false ∧ (FloatKind.f64.format.order x y == some .eq) = false) ∨ (FloatKind.f64.format.order x y == some .lt || FloatKind.f64.format.order x y == some .eq) = true := by
  generalize (FloatKind.f64.format.order x y == some .lt) = a1
  generalize (FloatKind.f64.format.order x y == some .eq) = a2
  cases a1 <;> cases a2 <;> simp
theorem ge_of {x y : Nat} (h : (FloatKind.f64.format.order x y == some .gt || FloatKind.f64.format.order x y == some .eq) = true) : Ieee.double.order x y = some .gt ∨ Ieee.double.order x y = some .eq := by
  rw [Bool.or_eq_true, beq_iff_eq, beq_iff_eq] at h
  exact h

set_option maxHeartbeats 2000000 in
theorem lawB (nm : ByteArray) (n : Int) (cnt scnt base sbase scale sscale : Nat) (hs : nm.size ≤ maxLen) (hc : cnt < 2 ^ 64) (hc' : scnt < 2 ^ 64) (hb : base < 2 ^ 64) (hb' : sbase < 2 ^ 64) (hsc : scale < 2 ^ 64) (hsc' : sscale < 2 ^ 64) (w : World) :
    Calls Try.prog 4 #[.string nm, .int .i64 n, .float .f64 cnt, .float .f64 scnt, .float .f64 base, .float .f64 sbase, .float .f64 scale, .float .f64 sscale] w fun e w' => e = .returned (.bool true) ∧ Grown w w' := by
  have HZ := Hid.mk (zz7 nm n cnt scnt base sbase scale sscale hs)
  have HL := Hid.mk (zzout_any nm n cnt base scale)
  have HS := Hid.mk (zzout_any nm n scnt sbase sscale)
  unfold maxLen at hs
  go_enter Try.func4, Try.ntmps4
  go_wp2_with fail
  refine (HZ.out _).mono ?_
  rintro e w1 ⟨r, rfl, rfl⟩
  clear HZ
  cases r
  · go_wp2
    go_ret
    exact ⟨rfl, Grown.refl _⟩
  by_cases hlen : (1048576 : Int) < nm.size
  · go_wp2
    go_ret
    exact ⟨rfl, Grown.refl _⟩
  rcases ge_cases cnt 0 with ⟨a1, a2⟩ | a1
  · go_wp2
    go_ret
    exact ⟨rfl, Grown.refl _⟩
  rcases ge_cases base 0 with ⟨b1, b2⟩ | b1
  · go_wp2
    go_ret
    exact ⟨rfl, Grown.refl _⟩
  rcases ge_cases scale 0 with ⟨d1, d2⟩ | d1
  · go_wp2
    go_ret
    exact ⟨rfl, Grown.refl _⟩
  rcases ge_cases scnt cnt with ⟨f1, f2⟩ | f1
  · go_wp2
    go_ret
    exact ⟨rfl, Grown.refl _⟩
  rcases ge_cases sbase base with ⟨g1, g2⟩ | g1
  · go_wp2
    go_ret
    exact ⟨rfl, Grown.refl _⟩
  rcases ge_cases sscale scale with ⟨k1, k2⟩ | k1
  · go_wp2
    go_ret
    exact ⟨rfl, Grown.refl _⟩
  obtain ⟨r, hr⟩ := ge0_nn hc a1
  obtain ⟨b, hbn⟩ := ge0_nn hb b1
  obtain ⟨s, hsn⟩ := ge0_nn hsc d1
  have q1 := ge0_of_ge hr (ge_of f1)
  have q2 := ge0_of_ge hbn (ge_of g1)
  have q3 := ge0_of_ge hsn (ge_of k1)
  obtain ⟨r', hr'⟩ := ge0_nn hc' q1
  obtain ⟨b', hbn'⟩ := ge0_nn hb' q2
  have HLaw : Hid (outg n scnt sbase sscale = true → outg n cnt base scale = true) := Hid.mk (law_strict hc hc' hb hb' hsc hsc' a1 b1 d1 q1 q2 q3 (ge_of f1) (ge_of g1) (ge_of k1))
  have HTw : Hid ((Ieee.double.order sscale ONE == some .lt || Ieee.double.order sscale ONE == some .eq) = true → over2 n scnt sbase = true → outg n scnt sbase sscale = true) := Hid.mk (law_twice hc' hb' hsc' q1 q2 q3)
  obtain ⟨A, S, e1, e2⟩ := twice_runs hr' hbn'
  have HOV : Hid (over2 n scnt sbase = (FloatKind.f64.format.order (floatOfInt .f64 n) S == some .gt)) := by
    show _ = _
    unfold over2
    rw [e1]
    simp only
    rw [e2]
    rfl
  have hmul := fun (w : World) => run_float_arith (P := Try.prog) w .mul 22 .f64 _ _ A e1
  have hadd := fun (w : World) => run_float_arith (P := Try.prog) w .add 22 .f64 _ _ S e2
  unfold TWO at hmul
  clear e1 e2 q1 q2 q3
  go_wp2_with fail
  refine (HL.out _).mono ?_
  rintro e w2 ⟨rfl, hg2⟩
  go_wp2_with fail
  refine (HS.out _).mono ?_
  rintro e w3 ⟨rfl, hg3⟩
  have hg := grown_trans hg2 hg3
  clear hg2 hg3 HL HS
  cases hst : outg n scnt sbase sscale with
  | true =>
    have hlo := HLaw.out hst
    rw [hlo]
    clear hlo hst HLaw HTw HOV
    rcases le_cases sscale 4607182418800017408 with ⟨l1, l2⟩ | l1
    · go_wp2
      go_ret
      exact ⟨rfl, hg⟩
    · go_wp2
      all_goals (go_ret; exact ⟨rfl, hg⟩)
  | false =>
    have hov : (Ieee.double.order sscale ONE == some .lt || Ieee.double.order sscale ONE == some .eq) = true → (FloatKind.f64.format.order (floatOfInt .f64 n) S == some .gt) = false := fun hl => by
      rw [← HOV.out]
      cases ho : over2 n scnt sbase with
      | false => rfl
      | true =>
        have := HTw.out hl ho
        rw [hst] at this
        cases this
    have HV := Hid.mk hov
    clear hov hst HLaw HTw HOV
    generalize outg n cnt base scale = lo
    rcases le_cases sscale 4607182418800017408 with ⟨l1, l2⟩ | l1
    · go_wp2
      go_ret
      exact ⟨rfl, hg⟩
    · have hv := HV.out l1
      clear HV
      go_wp2
      all_goals (go_ret; exact ⟨rfl, hg⟩)

end Go.Proofs.Qxb6616071a
