/-
  'Rows.FnValidAgreesWithNamesSaid' and its tied card. After the guide's MapyProofs, BalancedProofs and ToyasCard.
-/
import Derived.Test.Qxb6615200aDoorWalk
import Derived.Test.Qxb6615200aDoorTie
import Derived.Test.Qxb6615200aDoorCards
import Derived.ProofKit
import Derived.LaidMore
import Derived.OpenShut
import Derived.Stop.Joined
import Derived.WalkSmall
import Derived.ChangeVars
namespace Go.Proofs.Qxb6615200aDoor
open Go.ChangeShapes Go.WideShapes Go.ChangeAt Go.WideMaps Go.WideElems Go.RowKit

theorem own : ownKnob Tryd.prog.godebug = none := by kernel_rfl
theorem laidOut : laidOutB Tryd.prog = true := by kernel_rfl
/-- The listed variable's name, off the given row. -/
def nm : String := Rows.fnValidAgreesWithNamesSpec.vars.getD 0 ""
theorem gNames : Tryd.prog.globalNamed nm = some 0 := by kernel_rfl
theorem tNames : (Tryd.prog.globals[0]?).map (·.type) = some 30 := by kernel_rfl
theorem cells30 : Tryd.prog.cellsOf 30 = 5 := by kernel_rfl

/-- The door's own heap meets the condition. -/
theorem door_met (os : Os) (args : Array Value) : laidMetH Tryd.prog Rows.fnValidAgreesWithNamesRow.laid ((World.doorLaid Tryd.prog 400 os).forCall (fun _ _ => 0) ⟨#[], args, []⟩).memory :=
  laidMetH_of_parts3 (fuel := 8) (laidMet_of_run' 8 (by kernel_rfl) (by kernel_rfl)) (by kernel_rfl) (by kernel_rfl)

theorem some_at {cs : Array Value} (h : cs.size = 5) (j : Nat) (hj : j < 5) : ∃ v, cs[j]? = some v := ⟨cs[j], by simp [h, hj]⟩

set_option maxRecDepth 100000 in
theorem lifted (os : Os) (started : os.Started) (H : Type) (enc : TypeId × Value → H) :
    ReturnsInHanded {} Tryd.checked os 3 .any (fun w args => (Rows.fnValidAgreesWithNamesSpec.pre enc Tryd.prog Tryd.f3 [] false w args ∧ laidMetH Tryd.prog Rows.fnValidAgreesWithNamesRow.laid w) ∧ sizedMet enc Tryd.prog Tryd.f3 (OpenSpec.ofChange Rows.fnValidAgreesWithNamesSpec) false w args)
      (Rows.fnValidAgreesWithNamesSpec.post enc Tryd.prog Tryd.f3 false true false false) := by
  refine returnsInHanded_of_change_and (C := Tryd.checked) (X := fun w _ => laidMetH Tryd.prog Rows.fnValidAgreesWithNamesRow.laid w) (fun _ _ _ hh h => h.of_heap hh) own started (by kernel_rfl) Tryd.func3
    (ChangeSpec.witness_shaped (enc := enc) (C := Tryd.checked) (os := os) (X := fun w _ => laidMetH Tryd.prog Rows.fnValidAgreesWithNamesRow.laid w) false (World.doorLaid Tryd.prog 400 os) #[.int .i64 0] 8 rfl (World.shaped_of_RefB (by kernel_rfl) (by kernel_rfl)) (by kernel_rfl) (by kernel_rfl) (by kernel_rfl) (door_met os _)) ?_
  intro W base args ds gs before hval0 hW _ _ _ _
  have hval : ∀ (j : Nat) t v, Tryd.f3.params[j]? = some t → args[j]? = some v → Value.okWide Tryd.prog W .any base t v := hval0
  have hW' := hW
  obtain ⟨p, q, hA0, hV0, rfl, hfz, hnd⟩ := hW
  have hA : DataW.TrodAll enc Tryd.prog W 0 (fun _ => true) true Tryd.f3.params.toList args.toList ds p := hA0
  have hV : DataW.TrodVars enc Tryd.prog W (fun _ => true) [nm] gs q := hV0
  rw [Tryd.params3] at hA hval
  obtain ⟨v0, d0, rfl, rfl, h0⟩ := trodAll_one hA
  obtain ⟨n, rfl, rfl, rfl, wn⟩ := open_int Tryd.underlying3 (hval 0 3 v0 rfl rfl) h0
  obtain ⟨g, t, cs, fuel, d, p', rfl, hg, ht, hvar, hd, rfl⟩ := trodVars_one hV
  obtain rfl := Option.some.inj (gNames.symm.trans hg)
  obtain rfl := Option.some.inj (tNames.symm.trans ht)
  clear hA0 hV0 hval0
  have hsz : cs.size = 5 := by
    obtain ⟨xs, m1, hfu, hx1, hlen, hn3, hel⟩ := DataW.trod_array Tryd.underlying30 hd
    rw [cells30] at hlen
    simpa using hlen
  have hc : ∀ j, j < 5 → ∃ v, W.cell? ⟨0, j, none⟩ = some v := fun j hj => by
    obtain ⟨v, hv⟩ := some_at hsz j hj
    exact ⟨v, by simpa [hv] using World.var?_cell hg hvar j⟩
  have h0lt : 0 < W.heap.size := hW'.lt (.cell 0 0) (List.mem_append_right _ (List.mem_append_left _ (MemPlace.mem_row.2 ⟨0, by omega, rfl⟩)))
  have hltv : ∀ x ∈ p', x.block < W.heap.size := DataW.trod_lt fuel _ _ _ hd
  have hb := bounds_i64 wn
  refine (walk n (by omega) (by omega) W ⟨hc 1 (by omega), hc 2 (by omega), hc 3 (by omega), hc 4 (by omega)⟩).mono fun e W' ⟨he, hB⟩ => ?_
  subst he
  obtain ⟨fuel', hd'⟩ := Below.trod laidOut (by kernel_rfl) (of_decide_eq_true (by kernel_rfl)) (v := .agg cs) (⟨fuel, by simpa [Value.cells] using hd⟩ : DataW.Trod enc Tryd.prog W 0 (fun _ => true) true 30 (.agg cs) d p') hB hltv
  have hv' := trodVars_mk1 (enc := enc) (spare := fun b => decide (b < W.heap.size)) hg ht (var?_below hB hg h0lt hvar) (by simpa [Value.cells] using hd')
  exact ⟨_, rfl, _, _, _, [], [], (MemPlace.row ⟨0, 0, none⟩ cs.size ++ p'), hW', trodAll_mk1 (shut_bool Tryd.underlying4 _), trodAll_mk1 (shut_int Tryd.underlying3 wn), hv', hB.frame _, fun h => by cases h⟩

theorem over : Rows.FnValidAgreesWithNamesSaid :=
  OpenClaim.holds_of_wide 3 Tryd.f3 rfl rfl rfl rfl rfl rfl rfl ⟨rfl, rfl, rfl, rfl, rfl⟩ rfl rfl rfl rfl rfl (by kernel_rfl) Tryd.func3 (by kernel_rfl)
    (of_decide_eq_true (by kernel_rfl)) (by unfold Func.isWrapper; first | (rw [if_pos (by decide +kernel)]; kernel_rfl) | (rw [if_neg (by decide +kernel)]; exact ⟨rfl, rfl⟩))
    (fun os started H enc _ => lifted os started H enc)

theorem proved : Rows.FnValidAgreesWithNamesCardSaid :=
  Claim7.holds_tied_plain_at .later [] [.widerDeep] true (true, "872ca2329a1dcf9e38a12dd8e715d1865b410a7e1701c8ded1261f12b3ae38b4") false
    over (fun _ h => by cases h) (by kernel_rfl) (fun _ h => by cases h) fnValidAgreesWithNames_row_tie rfl ⟨rfl, rfl⟩ (by kernel_rfl) rfl
    (fun f fn hf hfn => by
      obtain rfl : f = 3 := Option.some.inj ((show Tryd.prog.funcNamed Rows.fnValidAgreesWithNamesRow.func = some 3 by kernel_rfl).symm.trans hf) |>.symm
      obtain rfl : fn = Tryd.f3 := (Option.some.inj (Tryd.func3.symm.trans hfn)).symm
      exact ⟨by kernel_rfl, fun j t ht => by
        rw [Tryd.params3] at ht
        have h3 : t = 3 := by
          rcases j with _ | j
          · simpa using ht.symm
          · simp at ht
        subst h3
        exact (show Tryd.prog.wantsStandIn 3 = false by kernel_rfl)⟩)
    (by kernel_rfl)
#print axioms proved
end Go.Proofs.Qxb6615200aDoor
