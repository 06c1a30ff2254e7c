/-
  'deliver' of the answer to a plain call: it is sent to the waiter, and the call is gone.
-/
import Derived.Test.Qxb6616696aSend
namespace Go.Proofs.Qxb6616696a
open Go.RowKit Go.Conc
attribute [local go_sem ↓] Go.wp_at_zero Go.wp_at_succ

variable {ops : Array Oper} {Q : Exit → Act → World → Prop} {wb fb rc s r : Nat} {t : Int} {id : Int} {ba : Option Addr} {bl bc : Nat} {a0 : Act} {W : World}

theorem send_region (h0 : ∃ o, ops[0]? = some o ∧ o.op = .move (.tmp 4) ∧ o.guard = none ∧ o.dst = some 26) (h1 : ∃ o, ops[1]? = some o ∧ o.op = .nilCheck (.tmp 26) ∧ o.guard = none ∧ o.dst = some 27)
    (h2 : ∃ o, ops[2]? = some o ∧ o.op = .fieldAddr 55 (.tmp 27) 0 ∧ o.guard = none ∧ o.dst = some 28) (h3 : ∃ o, ops[3]? = some o ∧ o.op = .load 51 (.tmp 28) ∧ o.guard = none ∧ o.dst = some 29)
    (h4 : ∃ o, ops[4]? = some o ∧ o.op = .load 59 (.tmp 3) ∧ o.guard = none ∧ o.dst = some 30) (h5 : ∃ o, ops[5]? = some o ∧ o.op = .send (.tmp 29) (.tmp 30) ∧ o.guard = none ∧ o.dst = none)
    (hrend : ∀ b0 b1 b2 b3 b4 b5 : Bool, Region.ready .any ops #[b0, b1, b2, b3, b4, b5] = [] → (b0 && b1 && b2 && b3 && b4 && b5) = true)
    (hrall : ∀ b0 b1 b2 b3 b4 b5 : Bool, (Region.ready .any ops #[b0, b1, b2, b3, b4, b5]).all (fun i => decide (i < 6) && (!decide (i = 1) || b0) && (!decide (i = 2) || b1) && (!decide (i = 3) || b2) && (!decide (i = 5) || b3 && b4 && !b5)) = true)
    (hsz : 30 < a0.tmps.size) (p4 : a0.tmps[4]? = some (.pointer (some ⟨wb, 0, none⟩))) (p3 : a0.tmps[3]? = some (.pointer (some ⟨fb, 0, none⟩)))
    (hw : W.cell? ⟨wb, 0, none⟩ = some (.chan (some rc))) (f0 : W.cell? ⟨fb, 0, none⟩ = some (.int .u8 t)) (f1 : W.cell? ⟨fb, 1, none⟩ = some (.int .u64 id)) (f2 : W.cell? ⟨fb, 2, none⟩ = some (.slice ba bl bc))
    (hc : W.heap[rc]? = some (.chan 1 #[] false s r false)) (n1 : wb ≠ rc) (n2 : fb ≠ rc)
    (hfin : Q .normal { tmps := ((((a0.tmps.setIfInBounds 26 (.pointer (some ⟨wb, 0, none⟩))).setIfInBounds 27 (.pointer (some ⟨wb, 0, none⟩))).setIfInBounds 28 (.pointer (some ⟨wb, 0, none⟩))).setIfInBounds 29 (.chan (some rc))).setIfInBounds 30 (.agg #[.int .u8 t, .int .u64 id, .slice ba bl bc]), defers := a0.defers }
      (W.setChan rc 1 #[.agg #[.int .u8 t, .int .u64 id, .slice ba bl bc]] false (s + 1) r false)) (fuel tt : Nat) (hfu : 6 ≤ fuel) :
    WpS Try.prog ops Q (Region.linearise.go .any ops fuel tt (Array.replicate 6 false) []) a0 W := by
  refine WpS.inv (SII a0 W wb rc s r (.agg #[.int .u8 t, .int .u64 id, .slice ba bl bc])) ?_ ?_ fuel tt _ a0 W (Nat.le_trans (by decide) hfu) ⟨_, _, _, _, _, _, rfl, rfl, rfl, fun j => by simp, rfl⟩
  · rintro l a w ⟨b0, b1, b2, b3, b4, b5, rfl, S⟩ i hi rest K
    have hall := List.all_eq_true.1 (hrall b0 b1 b2 b3 b4 b5) i hi
    have hlt : i < 6 := by
      simp only [Bool.and_eq_true, decide_eq_true_eq] at hall
      exact hall.1.1.1.1
    have e4 : a.eval (.tmp 4) = .pointer (some ⟨wb, 0, none⟩) := eval_tmp ((S.slots 4).trans (by simpa using p4))
    have e3 : a.eval (.tmp 3) = .pointer (some ⟨fb, 0, none⟩) := eval_tmp ((S.slots 3).trans (by simpa using p3))
    have blk : ∀ k, k ≠ rc → w.heap[k]? = W.heap[k]? := fun k hk => by
      rw [S.world]
      cases b5
      · rfl
      · exact setChan_other hk
    have hw' : w.cell? ⟨wb, 0, none⟩ = some (.chan (some rc)) := (World.cell?_of_block (w := W) (blk wb n1)).trans hw
    have f0' : w.cell? ⟨fb, 0, none⟩ = some (.int .u8 t) := (World.cell?_of_block (w := W) (blk fb n2)).trans f0
    have f1' : w.cell? ⟨fb, 1, none⟩ = some (.int .u64 id) := (World.cell?_of_block (w := W) (blk fb n2)).trans f1
    have f2' : w.cell? ⟨fb, 2, none⟩ = some (.slice ba bl bc) := (World.cell?_of_block (w := W) (blk fb n2)).trans f2
    clear hi hw f0 f1 f2 p3 p4
    match i, hlt with
    | 0, _ =>
      obtain ⟨o, ho, hop, hg, hd⟩ := h0
      exact WpS.value 26 ho hg hd (by simp only [execOp, hop, e4]; rfl) (K _ _ ⟨_, _, _, _, _, _, rfl, S.put26 hsz⟩)
    | 1, _ =>
      obtain rfl : b0 = true := by simpa using hall
      have e : a.eval (.tmp 26) = .pointer (some ⟨wb, 0, none⟩) := eval_tmp ((S.slots 26).trans (by simp))
      obtain ⟨o, ho, hop, hg, hd⟩ := h1
      exact WpS.value 27 ho hg hd (by simp only [execOp, hop, e]; rfl) (K _ _ ⟨_, _, _, _, _, _, rfl, S.put27 hsz⟩)
    | 2, _ =>
      obtain rfl : b1 = true := by simpa using hall
      have e : a.eval (.tmp 27) = .pointer (some ⟨wb, 0, none⟩) := eval_tmp ((S.slots 27).trans (by simp))
      obtain ⟨o, ho, hop, hg, hd⟩ := h2
      exact WpS.value 28 ho hg hd (by simp only [execOp, hop, e]; go_simp) (K _ _ ⟨_, _, _, _, _, _, rfl, S.put28 hsz⟩)
    | 3, _ =>
      obtain rfl : b2 = true := by simpa using hall
      have e : a.eval (.tmp 28) = .pointer (some ⟨wb, 0, none⟩) := eval_tmp ((S.slots 28).trans (by simp))
      obtain ⟨o, ho, hop, hg, hd⟩ := h3
      exact WpS.value 29 ho hg hd (by simp only [execOp, hop, e]; go_simp) (K _ _ ⟨_, _, _, _, _, _, rfl, S.put29 hsz⟩)
    | 4, _ =>
      obtain ⟨o, ho, hop, hg, hd⟩ := h4
      exact WpS.value 30 ho hg hd (by simp only [execOp, hop, e3]; go_simp) (K _ _ ⟨_, _, _, _, _, _, rfl, S.put30 hsz⟩)
    | 5, _ =>
      obtain ⟨⟨rfl, rfl⟩, rfl⟩ : (b3 = true ∧ b4 = true) ∧ b5 = false := by simpa using hall
      have e29 : a.eval (.tmp 29) = .chan (some rc) := eval_tmp ((S.slots 29).trans (by simp))
      have e30 : a.eval (.tmp 30) = .agg #[.int .u8 t, .int .u64 id, .slice ba bl bc] := eval_tmp ((S.slots 30).trans (by simp))
      obtain ⟨o, ho, hop, hg, hd⟩ := h5
      have hwW : w = W := S.world
      subst hwW
      refine WpS.send (c := rc) (v := .agg #[.int .u8 t, .int .u64 id, .slice ba bl bc]) (z := .tuple #[]) (w₁ := w) (cap := 1) (buf := #[]) (s := s) (r := r) (tm := false) ho hg hd (by simp only [execOp, hop, e29, e30]; rfl) hc (by simp) ?_
      exact K _ _ ⟨_, _, _, _, _, _, rfl, S.defers, S.size, S.slots, rfl⟩
  · rintro l a w ⟨b0, b1, b2, b3, b4, b5, rfl, S⟩ hr
    have hb := hrend _ _ _ _ _ _ hr
    obtain ⟨⟨⟨⟨⟨rfl, rfl⟩, rfl⟩, rfl⟩, rfl⟩, rfl⟩ : ((((b0 = true ∧ b1 = true) ∧ b2 = true) ∧ b3 = true) ∧ b4 = true) ∧ b5 = true := by simpa using hb
    have hwW : w = W.setChan rc 1 #[.agg #[.int .u8 t, .int .u64 id, .slice ba bl bc]] false (s + 1) r false := S.world
    subst hwW
    obtain ⟨tm, df⟩ := a
    have hd : df = a0.defers := S.defers
    subst hd
    have ht : tm = ((((a0.tmps.setIfInBounds 26 (.pointer (some ⟨wb, 0, none⟩))).setIfInBounds 27 (.pointer (some ⟨wb, 0, none⟩))).setIfInBounds 28 (.pointer (some ⟨wb, 0, none⟩))).setIfInBounds 29 (.chan (some rc))).setIfInBounds 30 (.agg #[.int .u8 t, .int .u64 id, .slice ba bl bc]) := by
      apply Array.ext_getElem?
      intro j
      rw [show tm[j]? = _ from S.slots j]
      by_cases j26 : j = 26
      · subst j26; simp [show 26 < a0.tmps.size by omega]
      by_cases j27 : j = 27
      · subst j27; simp [show 27 < a0.tmps.size by omega]
      by_cases j28 : j = 28
      · subst j28; simp [show 28 < a0.tmps.size by omega]
      by_cases j29 : j = 29
      · subst j29; simp [show 29 < a0.tmps.size by omega]
      by_cases j30 : j = 30
      · subst j30; simp [hsz]
      rw [get_ne (fun e => j30 e.symm), get_ne (fun e => j29 e.symm), get_ne (fun e => j28 e.symm), get_ne (fun e => j27 e.symm), get_ne (fun e => j26 e.symm)]
      simp [j26, j27, j28, j29, j30]
    rw [ht]
    exact hfin
end Go.Proofs.Qxb6616696a
