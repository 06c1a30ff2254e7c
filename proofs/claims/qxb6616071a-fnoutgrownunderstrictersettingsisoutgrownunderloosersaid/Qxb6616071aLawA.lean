/-
  The walk of 'FnOutgrownOnceChangedPassesTwiceItsCountPlusBase'.
-/
import Derived.Test.Qxb6616071aWalk
namespace Go.Proofs.Qxb6616071a
open Go.RowKit Rnd

/-- 'base >= 0 && scale >= 0 && scale <= 1', by cases, as the walk shows the three tests. -/
theorem settings_cases (base scale : Nat) :
    ((FloatKind.f64.format.order base 0 == some .gt) = false ∧ (FloatKind.f64.format.order base 0 == some .eq) = false) ∨
    ((FloatKind.f64.format.order base 0 == some .gt || FloatKind.f64.format.order base 0 == some .eq) = true ∧
      (((FloatKind.f64.format.order scale 0 == some .gt) = false ∧ (FloatKind.f64.format.order scale 0 == some .eq) = false) ∨
       ((FloatKind.f64.format.order scale 0 == some .gt || FloatKind.f64.format.order scale 0 == some .eq) = true ∧
        (((FloatKind.f64.format.order scale 4607182418800017408 == some .lt) = false ∧ (FloatKind.f64.format.order scale 4607182418800017408 == some .eq) = false) ∨
         (FloatKind.f64.format.order scale 4607182418800017408 == some .lt || FloatKind.f64.format.order scale 4607182418800017408 == some .eq) = true)))) := by
  generalize (FloatKind.f64.format.order base 0 == some .gt) = a1
  generalize (FloatKind.f64.format.order base 0 == some .eq) = a2
  generalize (FloatKind.f64.format.order scale 0 == some .gt) = a3
  generalize (FloatKind.f64.format.order scale 0 == some .eq) = a4
  generalize (FloatKind.f64.format.order scale 4607182418800017408 == some .lt) = a5
  generalize (FloatKind.f64.format.order scale 4607182418800017408 == some .eq) = a6
  cases a1 <;> cases a2 <;> cases a3 <;> cases a4 <;> cases a5 <;> cases a6 <;> simp

/-- '2 * counted + base', where neither is negative: no NaN. -/
theorem twice_runs {cnt base r b : Nat} (hr : NN cnt r) (hb : NN base b) : ∃ A S, Ieee.double.mul TWO cnt = some A ∧ Ieee.double.add A base = some S := by
  by_cases h : r < Ieee.double.infRung
  · obtain ⟨A, e1, hA⟩ := mul_fin nn_two hr (by decide) h
    by_cases h2 : MUL TWO r < Ieee.double.infRung ∧ b < Ieee.double.infRung
    · obtain ⟨S, e2, _⟩ := add_fin hA hb h2.1 h2.2
      exact ⟨A, S, e1, e2⟩
    · exact ⟨A, _, e1, add_inf hA hb h2⟩
  · have e1 : Ieee.double.mul TWO cnt = some Ieee.double.infRung := by
      unfold Ieee.Format.mul
      obtain ⟨s, m, i, e, _, hv, hs⟩ := nn_two.read (by decide)
      rw [e, hr.inf h]
      have hm : m ≠ 0 := by
        intro h0
        rw [h0, Nat.zero_mul] at hv
        have h3 := V_lt_iff (a := 0) (b := TWO)
        rw [V_zero, ← hv] at h3
        have : 0 < TWO := by decide
        omega
      cases s
      · simp [Ieee.Datum.product, hm]; rfl
      · exact absurd (hs rfl) hm
    exact ⟨_, _, e1, add_inf (.inl ⟨rfl, Nat.le_refl _⟩) hb (by omega)⟩

theorem Hid.mk {p : Prop} (h : p) : Hid p := h

set_option maxHeartbeats 2000000 in
theorem lawA (nm : ByteArray) (n m : Int) (cnt base scale : Nat) (hs : nm.size ≤ maxLen) (hc : cnt < 2 ^ 64) (hb : base < 2 ^ 64) (hsc : scale < 2 ^ 64) (w : World) :
    Calls Try.prog 3 #[.string nm, .int .i64 n, .int .i64 m, .float .f64 cnt, .float .f64 base, .float .f64 scale] w fun e w' => e = .returned (.bool true) ∧ Grown w w' := by
  have hlaw := fun (x : Int) => zzout_any nm x cnt base scale
  have hz := zz5 nm n m cnt base scale hs
  have HZ : Hid (∀ w, Calls Try.prog 5 #[.string nm, .int .i64 n, .int .i64 m, .float .f64 cnt, .float .f64 base, .float .f64 scale] w (SaysAny w)) := hz
  have HO : Hid (∀ (x : Int) w, Calls Try.prog 6 #[.string nm, .int .i64 x, .float .f64 cnt, .float .f64 base, .float .f64 scale] w fun e w' => e = .returned (.bool (outg x cnt base scale)) ∧ Grown w w') := hlaw
  unfold maxLen at hs
  clear hlaw hz
  go_enter Try.func3, Try.ntmps3
  go_wp2_with fail
  refine (HZ.out _).mono ?_
  rintro e w1 ⟨r, rfl, rfl⟩
  clear HZ
  cases r
  · go_wp2
    go_ret
    exact ⟨rfl, Grown.refl _⟩
  by_cases hlen : (1048576 : Int) < nm.size
  · go_wp2
    go_ret
    exact ⟨rfl, Grown.refl _⟩
  go_wp2_with fail
  refine (HO.out n _).mono ?_
  rintro e w2 ⟨rfl, hg⟩
  cases h1 : ge0 cnt with
  | false =>
    have ho : outg n cnt base scale = false := by unfold outg; rw [h1]; rfl
    have h1' : (FloatKind.f64.format.order cnt 0 == some .gt || FloatKind.f64.format.order cnt 0 == some .eq) = false := h1
    rw [Bool.or_eq_false_iff] at h1'
    obtain ⟨ha, hb'⟩ := h1'
    rw [ho]
    clear h1 HO ho
    go_wp2
    go_ret
    exact ⟨rfl, hg⟩
  | true =>
    have h1' : (FloatKind.f64.format.order cnt 0 == some .gt || FloatKind.f64.format.order cnt 0 == some .eq) = true := h1
    cases ho : outg n cnt base scale with
    | true =>
      have hgt := (outg_parts ho).2.1
      have hle1 : (FloatKind.f64.format.order (floatOfInt .f64 n) cnt == some .lt) = false := by
        show (Ieee.double.order (cv n) cnt == some .lt) = false
        rw [hgt]; rfl
      have hle2 : (FloatKind.f64.format.order (floatOfInt .f64 n) cnt == some .eq) = false := by
        show (Ieee.double.order (cv n) cnt == some .eq) = false
        rw [hgt]; rfl
      have hmore : n ≤ m → ∀ w, Calls Try.prog 6 #[.string nm, .int .i64 m, .float .f64 cnt, .float .f64 base, .float .f64 scale] w fun e w' => e = .returned (.bool true) ∧ Grown w w' := fun hnm w => by
        have := HO.out m w
        rwa [law_more hc hnm ho] at this
      have HM := Hid.mk hmore
      obtain ⟨r, hr⟩ := ge0_nn hc h1
      clear hmore HO ho hgt h1
      by_cases hnm : n ≤ m
      · go_wp2_with fail
        refine (HM.out hnm _).mono ?_
        rintro e w3 ⟨rfl, hg3⟩
        have hg := grown_trans hg hg3
        clear hg3
        rcases settings_cases base scale with ⟨s1, s2⟩ | ⟨s1, ⟨s2, s3⟩ | ⟨s2, ⟨s3, s4⟩ | s3⟩⟩
        · go_wp2
          go_ret
          exact ⟨rfl, hg⟩
        · go_wp2
          go_ret
          exact ⟨rfl, hg⟩
        · go_wp2
          go_ret
          exact ⟨rfl, hg⟩
        · obtain ⟨b, hbn⟩ := ge0_nn hb s1
          obtain ⟨A, S, e1, e2⟩ := twice_runs hr hbn
          have hmul := fun (w : World) => run_float_arith (P := Try.prog) w .mul 22 .f64 _ _ A e1
          have hadd := fun (w : World) => run_float_arith (P := Try.prog) w .add 22 .f64 _ _ S e2
          clear e1 e2
          unfold TWO at hmul
          go_wp2
          all_goals (go_ret; exact ⟨rfl, hg⟩)
      · rcases settings_cases base scale with ⟨s1, s2⟩ | ⟨s1, ⟨s2, s3⟩ | ⟨s2, ⟨s3, s4⟩ | s3⟩⟩
        · go_wp2
          go_ret
          exact ⟨rfl, hg⟩
        · go_wp2
          go_ret
          exact ⟨rfl, hg⟩
        · go_wp2
          go_ret
          exact ⟨rfl, hg⟩
        · obtain ⟨b, hbn⟩ := ge0_nn hb s1
          obtain ⟨A, S, e1, e2⟩ := twice_runs hr hbn
          have hmul := fun (w : World) => run_float_arith (P := Try.prog) w .mul 22 .f64 _ _ A e1
          have hadd := fun (w : World) => run_float_arith (P := Try.prog) w .add 22 .f64 _ _ S e2
          clear e1 e2
          unfold TWO at hmul
          go_wp2
          all_goals (go_ret; exact ⟨rfl, hg⟩)
    | false =>
      obtain ⟨r, hr⟩ := ge0_nn hc h1
      have htw : ∀ S A, Ieee.double.mul TWO cnt = some A → Ieee.double.add A base = some S → ge0 base = true → ge0 scale = true →
          (Ieee.double.order scale ONE == some .lt || Ieee.double.order scale ONE == some .eq) = true → (FloatKind.f64.format.order (floatOfInt .f64 n) S == some .gt) = false := fun S A e1 e2 g2 g3 g4 => by
        cases hov : (FloatKind.f64.format.order (floatOfInt .f64 n) S == some .gt) with
        | false => rfl
        | true =>
          have h2 : over2 n cnt base = true := by
            unfold over2
            rw [e1]
            simp only
            rw [e2]
            exact hov
          rw [law_twice hc hb hsc h1 g2 g3 g4 h2] at ho
          cases ho
      have HTW := Hid.mk htw
      clear htw HO ho h1
      have hleq : ((FloatKind.f64.format.order (floatOfInt .f64 n) cnt == some .lt) = false ∧ (FloatKind.f64.format.order (floatOfInt .f64 n) cnt == some .eq) = false) ∨ (FloatKind.f64.format.order (floatOfInt .f64 n) cnt == some .lt || FloatKind.f64.format.order (floatOfInt .f64 n) cnt == some .eq) = true := by
        generalize (FloatKind.f64.format.order (floatOfInt .f64 n) cnt == some .lt) = a1
        generalize (FloatKind.f64.format.order (floatOfInt .f64 n) cnt == some .eq) = a2
        cases a1 <;> cases a2 <;> simp
      by_cases hnm : n ≤ m
      all_goals rcases hleq with ⟨l1, l2⟩ | l1
      all_goals rcases settings_cases base scale with ⟨s1, s2⟩ | ⟨s1, ⟨s2, s3⟩ | ⟨s2, ⟨s3, s4⟩ | s3⟩⟩
      all_goals first
        | (obtain ⟨b, hbn⟩ := ge0_nn hb s1
           obtain ⟨A, S, e1, e2⟩ := twice_runs hr hbn
           have hmul := fun (w : World) => run_float_arith (P := Try.prog) w .mul 22 .f64 _ _ A e1
           have hadd := fun (w : World) => run_float_arith (P := Try.prog) w .add 22 .f64 _ _ S e2
           have hov := HTW.out S A e1 e2 s1 s2 s3
           clear e1 e2 HTW
           unfold TWO at hmul)
        | clear HTW
      all_goals
        go_wp2
        go_ret
        exact ⟨rfl, hg⟩

end Go.Proofs.Qxb6616071a
