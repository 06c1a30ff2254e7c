/-
  A region that draws its order and holds a send.
-/
import Derived.Test.Qxb6616696aTakes
namespace Go.Proofs.Qxb6616696a
open Go.RowKit Go.Conc

section
variable {P : Program} {md : Region.Mode} {ops : Array Oper} {Q : Exit → Act → World → Prop}

theorem ready_false {l : Array Bool} {i : Nat} (hr : i ∈ Region.ready md ops l) : l[i]? = some false := by
  unfold Region.ready at hr
  have h := (List.mem_filter.1 hr).2
  have hf : l.getD i true = false := by
    cases hb : l.getD i true with
    | false => rfl
    | true => rw [hb] at h; simp at h
  rw [Array.getD_eq_getD_getElem?] at hf
  cases hx : l[i]? with
  | none => rw [hx] at hf; cases hf
  | some x => rw [hx] at hf; obtain rfl : x = false := hf; rfl
theorem ready_nil {l : Array Bool} (hc : l.toList.count false ≤ 0) : Region.ready md ops l = [] := by
  cases hr : Region.ready md ops l with
  | nil => rfl
  | cons i rest =>
    have := ready_false (hr ▸ List.mem_cons_self : i ∈ Region.ready md ops l)
    have := List.count_pos_iff.2 (Array.mem_toList_iff.2 (Array.mem_of_getElem? this))
    omega
theorem count_less {l : Array Bool} {i fuel : Nat} (hx : l[i]? = some false) (hc : l.toList.count false ≤ fuel + 1) : (l.setIfInBounds i true).toList.count false ≤ fuel := by
  obtain ⟨hlt, hg⟩ := Array.getElem?_eq_some_iff.1 hx
  have hlt' : i < l.toList.length := by simpa using hlt
  rw [Array.toList_setIfInBounds, List.count_set hlt']
  have hg' : l.toList[i] = false := by simpa using hg
  rw [hg']
  have hm : false ∈ l.toList := Array.mem_toList_iff.2 (Array.mem_of_getElem? hx)
  have := List.count_pos_iff.2 hm
  rw [if_pos (by rfl), if_neg (by decide)]
  omega

/-- By what every step keeps. -/
theorem WpS.inv (I : Array Bool → Act → World → Prop)
    (hstep : ∀ l a w, I l a w → ∀ i ∈ Region.ready md ops l, ∀ rest, (∀ a' w', I (l.setIfInBounds i true) a' w' → WpS P ops Q rest a' w') → WpS P ops Q (i :: rest) a w)
    (hend : ∀ l a w, I l a w → Region.ready md ops l = [] → Q .normal a w) :
    ∀ (fuel t : Nat) (l : Array Bool) (a : Act) (w : World), l.toList.count false ≤ fuel → I l a w → WpS P ops Q (Region.linearise.go md ops fuel t l []) a w := by
  intro fuel
  induction fuel with
  | zero =>
    intro t l a w hc hi
    exact WpS.nil (hend l a w hi (ready_nil hc))
  | succ fuel ih =>
    intro t l a w hc hi
    simp only [Region.linearise.go]
    change WpS P ops Q (match (Region.ready md ops l)[t % (Region.ready md ops l).length]? with
      | some i => Region.linearise.go md ops fuel (t / (Region.ready md ops l).length) (l.setIfInBounds i true) [i]
      | none => [].reverse) a w
    cases hx : (Region.ready md ops l)[t % (Region.ready md ops l).length]? with
    | none =>
      have hnil : Region.ready md ops l = [] := by
        cases hr : Region.ready md ops l with
        | nil => rfl
        | cons x xs =>
          rw [hr] at hx
          have hlt : t % (x :: xs).length < (x :: xs).length := Nat.mod_lt _ (by simp)
          rw [List.getElem?_eq_getElem hlt] at hx
          cases hx
      exact WpS.nil (hend l a w hi hnil)
    | some i =>
      simp only []
      rw [linearise_go_acc, List.reverse_singleton, List.singleton_append]
      have hmem := List.mem_of_getElem? hx
      exact hstep l a w hi i hmem _ fun a' w' h => ih _ _ a' w' (count_less (ready_false hmem) hc) h
end

section
variable {ops : Array Oper} {Q : Exit → Act → World → Prop} {wb fb rc s r : Nat} {t : Int} {id : Int} {ba : Option Addr} {bl bc : Nat}

structure SI (a0 : Act) (W : World) (wb rc s r : Nat) (fr : Value) (b0 b1 b2 b3 b4 b5 : Bool) (a : Act) (w : World) : Prop where
  defers : a.defers = a0.defers
  size : a.tmps.size = a0.tmps.size
  slots : ∀ j, a.tmps[j]? = if j = 26 ∧ b0 = true ∨ j = 27 ∧ b1 = true ∨ j = 28 ∧ b2 = true then some (.pointer (some ⟨wb, 0, none⟩)) else if j = 29 ∧ b3 = true then some (.chan (some rc)) else if j = 30 ∧ b4 = true then some fr else a0.tmps[j]?
  world : w = if b5 then W.setChan rc 1 #[fr] false (s + 1) r false else W

def SII (a0 : Act) (W : World) (wb rc s r : Nat) (fr : Value) (l : Array Bool) (a : Act) (w : World) : Prop := ∃ b0 b1 b2 b3 b4 b5, l = #[b0, b1, b2, b3, b4, b5] ∧ SI a0 W wb rc s r fr b0 b1 b2 b3 b4 b5 a w

variable {a0 a : Act} {W w : World} {fr : Value} {b0 b1 b2 b3 b4 b5 : Bool}

theorem SI.put26 (h : SI a0 W wb rc s r fr b0 b1 b2 b3 b4 b5 a w) (hsz : 30 < a0.tmps.size) : SI a0 W wb rc s r fr true b1 b2 b3 b4 b5 { tmps := a.tmps.setIfInBounds 26 (.pointer (some ⟨wb, 0, none⟩)), defers := a.defers } w := by
  refine ⟨h.defers, by simp [h.size], fun j => ?_, h.world⟩
  by_cases hj : j = 26
  · subst hj
    have := h.size
    simp [show 26 < a.tmps.size by omega]
  · simp only [get_ne (fun e => hj e.symm), h.slots j, hj, false_and, false_or]
theorem SI.put27 (h : SI a0 W wb rc s r fr b0 b1 b2 b3 b4 b5 a w) (hsz : 30 < a0.tmps.size) : SI a0 W wb rc s r fr b0 true b2 b3 b4 b5 { tmps := a.tmps.setIfInBounds 27 (.pointer (some ⟨wb, 0, none⟩)), defers := a.defers } w := by
  refine ⟨h.defers, by simp [h.size], fun j => ?_, h.world⟩
  by_cases hj : j = 27
  · subst hj
    have := h.size
    simp [show 27 < a.tmps.size by omega]
  · simp only [get_ne (fun e => hj e.symm), h.slots j, hj, false_and, false_or]
theorem SI.put28 (h : SI a0 W wb rc s r fr b0 b1 b2 b3 b4 b5 a w) (hsz : 30 < a0.tmps.size) : SI a0 W wb rc s r fr b0 b1 true b3 b4 b5 { tmps := a.tmps.setIfInBounds 28 (.pointer (some ⟨wb, 0, none⟩)), defers := a.defers } w := by
  refine ⟨h.defers, by simp [h.size], fun j => ?_, h.world⟩
  by_cases hj : j = 28
  · subst hj
    have := h.size
    simp [show 28 < a.tmps.size by omega]
  · simp only [get_ne (fun e => hj e.symm), h.slots j, hj, false_and, or_false]
theorem SI.put29 (h : SI a0 W wb rc s r fr b0 b1 b2 b3 b4 b5 a w) (hsz : 30 < a0.tmps.size) : SI a0 W wb rc s r fr b0 b1 b2 true b4 b5 { tmps := a.tmps.setIfInBounds 29 (.chan (some rc)), defers := a.defers } w := by
  refine ⟨h.defers, by simp [h.size], fun j => ?_, h.world⟩
  by_cases hj : j = 29
  · subst hj
    have := h.size
    simp [show 29 < a.tmps.size by omega]
  · simp only [get_ne (fun e => hj e.symm), h.slots j, hj, false_and]
theorem SI.put30 (h : SI a0 W wb rc s r fr b0 b1 b2 b3 b4 b5 a w) (hsz : 30 < a0.tmps.size) : SI a0 W wb rc s r fr b0 b1 b2 b3 true b5 { tmps := a.tmps.setIfInBounds 30 fr, defers := a.defers } w := by
  refine ⟨h.defers, by simp [h.size], fun j => ?_, h.world⟩
  by_cases hj : j = 30
  · subst hj
    have := h.size
    simp [show 30 < a.tmps.size by omega]
  · simp only [get_ne (fun e => hj e.symm), h.slots j, hj, false_and]
end
end Go.Proofs.Qxb6616696a
