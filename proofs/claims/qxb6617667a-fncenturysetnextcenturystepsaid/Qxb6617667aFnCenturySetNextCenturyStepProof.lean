/-
  THE SHELL OF A PROOF OF 'Rows.FnCenturySetNextCenturyStepSaid' ('example.com/paschalion/paschalion/zzlaws_root_b1.FnCenturySetNextCenturyStep'), WRITTEN BY PROGRAM (proof-skeleton.mjs) off the guide's own print for that function. Not trusted: Lean checks it.
  The hole is filled. ALL ELSE IS THE GUIDE's TEMPLATE (howto/template/XProofs.lean) at this function's number and types: leave it.
-/
import Derived.Test.Qxb6617667aRows
import Derived.Test.Qxb6617667aSet
import Derived.WalkKit
import Derived.ProofKit
import Derived.OpenShut
import Derived.ShutString
namespace Go.Proofs.Qxb6617667a.fnCenturySetNextCenturyStep
open Go.ChangeShapes Go.WideShapes Go.ChangeAt Go.RowKit
open Go.ChangeMaps (open_string shut_string)
set_option linter.unusedVariables false      -- a walk need not use every 'w<i>' (that an integer argument fits its kind)

theorem own : ownKnob Try.prog.godebug = none := by kernel_rfl

theorem step_g {n g1 g2 : Int} (a : 25 * g1 ≤ n) (b : n < 25 * g1 + 25) (c : 25 * g2 ≤ n + 8) (d : n + 8 < 25 * g2 + 25) : ((n + 8) % 25 < 8 → g2 = g1 + 1) ∧ (¬ (n + 8) % 25 < 8 → g2 = g1) := by
  have e : (n + 8) % 25 = n + 8 - 25 * g2 := by omega
  rw [e]
  exact ⟨fun h => by omega, fun h => by omega⟩
theorem step_f {n f1 f2 : Int} (a : 25 * f1 ≤ n + 8) (b : n + 8 < 25 * f1 + 25) (c : 25 * f2 ≤ n + 1 + 8) (d : n + 1 + 8 < 25 * f2 + 25) : ((n + 1) % 25 = 17 → f2 = f1 + 1) ∧ (¬ (n + 1) % 25 = 17 → f2 = f1) := by
  have e : (n + 1 + 8) % 25 = n + 1 + 8 - 25 * f2 := by omega
  exact ⟨fun h => by omega, fun h => by omega⟩
/-- The plain law: from the centuries of y and of y + 100. -/
theorem step_facts {y b1 d1 e1 f1 g1 s1 b2 d2 e2 f2 g2 s2 : Int} (h0 : 0 ≤ y) (h1 : y ≤ 9223372036854775707) (c1 : Cent y b1 d1 e1 f1 g1 s1) (c2 : Cent (y + 100) b2 d2 e2 f2 g2 s2) :
    b2 = b1 + 1 ∧ (s1 = b1 - d1 - g1 + 15 ∧ s2 = b1 + 1 - d2 - g2 + 15) ∧ (e1 = 3 → e2 = 0 ∧ d2 = d1 + 1) ∧ (¬ e1 = 3 → e2 = e1 + 1 ∧ d2 = d1) ∧
    (((b1 + 1) % 25 = 17 → f2 = f1 + 1) ∧ (¬ (b1 + 1) % 25 = 17 → f2 = f1)) ∧ (((8 * (b1 + 1) + 13) % 25 < 8 → g2 = g1 + 1) ∧ (¬ (8 * (b1 + 1) + 13) % 25 < 8 → g2 = g1)) ∧
    0 ≤ b1 ∧ b1 ≤ 100000000000000000 ∧ 0 ≤ y - 100 * b1 ∧ y - 100 * b1 < 100 ∧ 0 ≤ f1 ∧ f1 ≤ 100000000000000000 ∧ 0 ≤ g1 ∧ g1 ≤ 100000000000000000 ∧
    0 ≤ s1 ∧ s1 ≤ 200000000000000000 ∧ 0 ≤ d1 ∧ d1 ≤ 100000000000000000 ∧ 0 ≤ e1 ∧ e1 ≤ 3 := by
  obtain ⟨x1, x2, x3, x4, x5, x6, x7, x8, x9, x10, x11, x12⟩ := c1
  obtain ⟨y1, y2, y3, y4, y5, y6, y7, y8, y9, y10, y11, y12⟩ := c2
  have hb : b2 = b1 + 1 := by omega
  subst hb
  have q1 := gauss x7 x8 x9 x10
  have q2 := gauss y7 y8 y9 y10
  have q3 := step_g q1.1 q1.2 (g2 := g2) (by omega) (by omega)
  rw [show 8 * b1 + 13 + 8 = 8 * (b1 + 1) + 13 from by omega] at q3
  refine ⟨rfl, ⟨by omega, by omega⟩, ?_, ?_, step_f x7 x8 y7 y8, q3, ?_⟩
  · intro h; exact ⟨by omega, by omega⟩
  · intro h; exact ⟨by omega, by omega⟩
  · refine ⟨?_, ?_, ?_, ?_, ?_, ?_, ?_, ?_, ?_, ?_, ?_, ?_, ?_, ?_⟩ <;> omega

/-! ### STEP 1: THE WALK: the Go text returns true. 'Grown w w'': the world has at most new blocks (Derived/RowKit3.lean). Part the cases AHEAD of 'go_enter' where a test parts the walk; take each callee by a contract of your own. -/
set_option maxHeartbeats 1600000 in
theorem walk (a0 : Int) (a1 : Int) (a2 : Int) (a3 : Int) (a4 : Int) (a5 : Int) (a6 : Int) (w0 : (Lit.int .i64 a0).wf = true) (w1 : (Lit.int .i64 a1).wf = true) (w2 : (Lit.int .i64 a2).wf = true) (w3 : (Lit.int .i64 a3).wf = true) (w4 : (Lit.int .i64 a4).wf = true) (w5 : (Lit.int .i64 a5).wf = true) (w6 : (Lit.int .i64 a6).wf = true) (w : World) :
    Calls Try.prog 4 #[.int .i64 a0, .int .i64 a1, .int .i64 a2, .int .i64 a3, .int .i64 a4, .int .i64 a5, .int .i64 a6] w fun e w' => e = .returned (.bool true) ∧ Grown w w' := by
  have hb := bounds_i64 w6
  by_cases h0 : a6 < 0
  · go_enter Try.func4, Try.ntmps4
    go_wp2
    go_ret
    exact ⟨rfl, Grown.refl _⟩
  by_cases h1 : 9223372036854775707 < a6
  · go_enter Try.func4, Try.ntmps4
    go_wp2
    go_ret
    exact ⟨rfl, Grown.refl _⟩
  go_enter Try.func4, Try.ntmps4
  go_wp2_with fail
  refine (set_any _ _ _ _ _ _ _ (by omega) (by omega) _).mono ?_
  rintro r w1 ⟨b1, d1, e1, f1, g1, s1, rfl, hc1, hg1⟩
  go_wp2_with fail
  refine (set_any _ _ _ _ _ _ _ (by omega) (by omega) _).mono ?_
  rintro r w2 ⟨b2, d2, e2, f2, g2, s2, rfl, hc2, hg2⟩
  have hg := grown_trans hg1 hg2
  clear hg1 hg2
  obtain ⟨rfl, hs, hd, he, hf, hgg, kb1, kb2, kb3, kb4, kf1, kf2, kg1, kg2, ks1, ks2, kd1, kd2, ke1, ke2⟩ := step_facts (by omega) (by omega) hc1 hc2
  clear hc1 hc2
  obtain ⟨hs1, hs2⟩ := hs
  subst hs1 hs2
  by_cases e3 : e1 = 3
  · obtain ⟨rfl, rfl⟩ := hd e3
    subst e3
    clear hd he
    by_cases f3 : (b1 + 1) % 25 = 17
    · obtain rfl := hf.1 f3
      clear hf
      by_cases g3 : (8 * (b1 + 1) + 13) % 25 < 8
      · obtain rfl := hgg.1 g3
        clear hgg
        go_wp2
        all_goals (go_ret; exact ⟨ret_bool (beq_iff_eq.2 (by omega)), hg⟩)
      · obtain rfl := hgg.2 g3
        clear hgg
        go_wp2
        all_goals (go_ret; exact ⟨ret_bool (beq_iff_eq.2 (by omega)), hg⟩)
    · obtain rfl := hf.2 f3
      clear hf
      by_cases g3 : (8 * (b1 + 1) + 13) % 25 < 8
      · obtain rfl := hgg.1 g3
        clear hgg
        go_wp2
        all_goals (go_ret; exact ⟨ret_bool (beq_iff_eq.2 (by omega)), hg⟩)
      · obtain rfl := hgg.2 g3
        clear hgg
        go_wp2
        all_goals (go_ret; exact ⟨ret_bool (beq_iff_eq.2 (by omega)), hg⟩)
  · obtain ⟨rfl, rfl⟩ := he e3
    clear hd he
    by_cases f3 : (b1 + 1) % 25 = 17
    · obtain rfl := hf.1 f3
      clear hf
      by_cases g3 : (8 * (b1 + 1) + 13) % 25 < 8
      · obtain rfl := hgg.1 g3
        clear hgg
        go_wp2
        all_goals (go_ret; exact ⟨ret_bool (beq_iff_eq.2 (by omega)), hg⟩)
      · obtain rfl := hgg.2 g3
        clear hgg
        go_wp2
        all_goals (go_ret; exact ⟨ret_bool (beq_iff_eq.2 (by omega)), hg⟩)
    · obtain rfl := hf.2 f3
      clear hf
      by_cases g3 : (8 * (b1 + 1) + 13) % 25 < 8
      · obtain rfl := hgg.1 g3
        clear hgg
        go_wp2
        all_goals (go_ret; exact ⟨ret_bool (beq_iff_eq.2 (by omega)), hg⟩)
      · obtain rfl := hgg.2 g3
        clear hgg
        go_wp2
        all_goals (go_ret; exact ⟨ret_bool (beq_iff_eq.2 (by omega)), hg⟩)

/-! ### THE ROW's STEP: WRITTEN OUT: LEAVE IT -/
set_option maxRecDepth 100000 in
theorem lifted (os : Os) (started : os.Started) (H : Type) (enc : TypeId × Value → H) :
    ReturnsInHanded {} Try.checked os 4 .any (Rows.fnCenturySetNextCenturyStepSpec.pre6 enc Try.prog Try.f4 Rows.fnCenturySetNextCenturyStepRow.domain false) (Rows.fnCenturySetNextCenturyStepSpec.post enc Try.prog Try.f4 false true false false) := by
  refine returnsInHanded_of_change (C := Try.checked) own started (by kernel_rfl) Try.func4
    (ChangeSpec.witness6 (enc := enc) (C := Try.checked) false ⟨#[], #[.int .i64 0, .int .i64 0, .int .i64 0, .int .i64 0, .int .i64 0, .int .i64 0, .int .i64 0], []⟩ 8 (by kernel_rfl) (by kernel_rfl) (by kernel_rfl) (by kernel_rfl)) ?_
  intro W base args ds gs before hval0 hW hcnd _
  have hval : ∀ (j : Nat) t v, Try.f4.params[j]? = some t → args[j]? = some v → Value.okWide Try.prog W .any base t v := hval0
  have hW' := hW
  obtain ⟨p, q, hA0, hV, rfl, hfz, hnd⟩ := hW
  have hA : DataW.TrodAll enc Try.prog W 0 (fun _ => true) true Try.f4.params.toList args.toList ds p := hA0
  rw [Try.params4] at hA hval
  obtain ⟨v0, vs0, d0, ds0, p0, q0, hargs, rfl, rfl, h0, r0⟩ := trodAll_cons hA
  obtain ⟨v1, vs1, d1, ds1, p1, q1, rfl, rfl, rfl, h1, r1⟩ := trodAll_cons r0
  obtain ⟨v2, vs2, d2, ds2, p2, q2, rfl, rfl, rfl, h2, r2⟩ := trodAll_cons r1
  obtain ⟨v3, vs3, d3, ds3, p3, q3, rfl, rfl, rfl, h3, r3⟩ := trodAll_cons r2
  obtain ⟨v4, vs4, d4, ds4, p4, q4, rfl, rfl, rfl, h4, r4⟩ := trodAll_cons r3
  obtain ⟨v5, vs5, d5, ds5, p5, q5, rfl, rfl, rfl, h5, r5⟩ := trodAll_cons r4
  obtain ⟨v6, vs6, d6, ds6, p6, q6, rfl, rfl, rfl, h6, r6⟩ := trodAll_cons r5
  obtain ⟨rfl, rfl, rfl⟩ := trodAll_nil r6
  obtain rfl : args = #[v0, v1, v2, v3, v4, v5, v6] := by cases args; simp_all
  obtain ⟨rfl, rfl⟩ := trodVars_none hV
  obtain ⟨a0, rfl, rfl, rfl, w0⟩ := open_int Try.underlying2 (hval 0 2 v0 rfl rfl) h0
  obtain ⟨a1, rfl, rfl, rfl, w1⟩ := open_int Try.underlying2 (hval 1 2 v1 rfl rfl) h1
  obtain ⟨a2, rfl, rfl, rfl, w2⟩ := open_int Try.underlying2 (hval 2 2 v2 rfl rfl) h2
  obtain ⟨a3, rfl, rfl, rfl, w3⟩ := open_int Try.underlying2 (hval 3 2 v3 rfl rfl) h3
  obtain ⟨a4, rfl, rfl, rfl, w4⟩ := open_int Try.underlying2 (hval 4 2 v4 rfl rfl) h4
  obtain ⟨a5, rfl, rfl, rfl, w5⟩ := open_int Try.underlying2 (hval 5 2 v5 rfl rfl) h5
  obtain ⟨a6, rfl, rfl, rfl, w6⟩ := open_int Try.underlying2 (hval 6 2 v6 rfl rfl) h6
  clear hA0 hval0
  simp only [List.append_nil] at hW'
  refine (walk a0 a1 a2 a3 a4 a5 a6 w0 w1 w2 w3 w4 w5 w6 W).mono fun e W' ⟨he, hg⟩ => ?_
  subst he
  exact ⟨_, rfl, post_of_same (pa := []) (pv := []) hW' (fun _ _ _ => (trodAll_cons_mk (shut_bool Try.underlying4 _) trodAll_mk0)) (fun sp _ => (trodAll_cons_mk (shut_int Try.underlying2 w0) (trodAll_cons_mk (shut_int Try.underlying2 w1) (trodAll_cons_mk (shut_int Try.underlying2 w2) (trodAll_cons_mk (shut_int Try.underlying2 w3) (trodAll_cons_mk (shut_int Try.underlying2 w4) (trodAll_cons_mk (shut_int Try.underlying2 w5) (trodAll_cons_mk (shut_int Try.underlying2 w6) trodAll_mk0)))))))) (fun _ _ => rfl) rfl
    (hg.frame _) hg.2.1 (ok_one (by kernel_rfl) rfl (okWide_bool_mk Try.underlying4 _))⟩

theorem over : Rows.fnCenturySetNextCenturyStepRow.holds Try.pinned (OpenSpec.ofChange Rows.fnCenturySetNextCenturyStepSpec) :=
  OpenClaim.holds_of_wide 4 Try.f4 rfl rfl rfl rfl rfl rfl rfl ⟨rfl, rfl, rfl, rfl, rfl⟩ rfl rfl rfl rfl rfl (by kernel_rfl) Try.func4 (by kernel_rfl)
    (of_decide_eq_true (by kernel_rfl)) (by unfold Func.isWrapper; first | (rw [if_pos (by decide +kernel)]; kernel_rfl) | (rw [if_neg (by decide +kernel)]; exact ⟨rfl, rfl⟩))
    (fun os started H enc _ => lifted os started H enc)

/-- ████ THE STATEMENT ████ -/
theorem proved : Rows.FnCenturySetNextCenturyStepSaid :=
  over
#print axioms proved
end Go.Proofs.Qxb6617667a.fnCenturySetNextCenturyStep
