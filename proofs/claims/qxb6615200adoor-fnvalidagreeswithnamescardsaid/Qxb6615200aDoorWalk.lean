/-
  The walks under 'FnValidAgreesWithNames': slices.Clone over the four names, Names, ZZvalid, the law.
-/
import Derived.Test.Qxb6615200aDoorRows
import Derived.WalkKit
import Derived.WalkSpells
namespace Go.Proofs.Qxb6615200aDoor
open Go.RowKit

/-- Four cells of the variable 'names', from its second on. -/
structure Four (w : World) : Prop where
  c1 : ∃ v, w.cell? ⟨0, 1, none⟩ = some v
  c2 : ∃ v, w.cell? ⟨0, 2, none⟩ = some v
  c3 : ∃ v, w.cell? ⟨0, 3, none⟩ = some v
  c4 : ∃ v, w.cell? ⟨0, 4, none⟩ = some v

def Four4 (w : World) (e : Ending) (w' : World) : Prop := ∃ a c, e = .returned (.slice a 4 c) ∧ Below w.heap.size w w'
theorem four4_mk {w w' : World} (a : Option Addr) (c : Nat) (h : Below w.heap.size w w') : Four4 w (.returned (.slice a 4 c)) w' := ⟨a, c, rfl, h⟩

set_option maxHeartbeats 400000 in
theorem clone_any (w : World) (h : Four w) : Calls Tryd.prog 9 #[.slice (some ⟨0, 1, none⟩) 4 4] w (Four4 w) := by
  obtain ⟨⟨v1, h1⟩, ⟨v2, h2⟩, ⟨v3, h3⟩, ⟨v4, h4⟩⟩ := h
  have hlt : 0 < w.heap.size := by
    rcases Nat.eq_zero_or_pos w.heap.size with h' | h'
    · simp [World.cell?, Array.getElem?_eq_none (show w.heap.size ≤ 0 by omega)] at h1
    · exact h'
  have hne : ¬ (0 : Nat) = w.heap.size := by omega
  have hn : ∀ w, (binOp .eql 22 (.slice (some ⟨0, 1, none⟩) 4 4) (.slice none 0 0)).run Tryd.prog w = .ok (.bool false) w := fun _ => by kernel_rfl
  go_enter Tryd.func9, Tryd.ntmps9
  go_wp2
  go_ret
  exact four4_mk _ _ ((((Below.refl _ _).alloc (Nat.le_refl _) _).drew).alloc (by simp) _)

theorem names_any (w : World) (h : Four w) : Calls Tryd.prog 5 #[] w (Four4 w) := by
  go_enter Tryd.func5, Tryd.ntmps5
  go_wp2_with fail
  refine (clone_any w h).mono ?_
  rintro e w' ⟨a, c, rfl, hb⟩
  go_wp2
  go_ret
  exact four4_mk _ _ hb

theorem valid_yes (n : Int) (h : 1 ≤ n) (h' : n ≤ 4) (w : World) : Calls Tryd.prog 6 #[.int .i64 n] w fun e w' => e = .returned (.bool true) ∧ w' = w := by
  go_enter Tryd.func6, Tryd.ntmps6
  go_wp2
  go_ret
  exact ⟨by simp, rfl⟩
theorem valid_no (n : Int) (h : n < 1 ∨ 4 < n) (w : World) : Calls Tryd.prog 6 #[.int .i64 n] w fun e w' => e = .returned (.bool false) ∧ w' = w := by
  rcases h with h | h
  · go_enter Tryd.func6, Tryd.ntmps6
    go_wp2
    go_ret
    exact ⟨rfl, rfl⟩
  · have h1 : 1 ≤ n := by omega
    have h2 : ¬ n ≤ 4 := by omega
    go_enter Tryd.func6, Tryd.ntmps6
    go_wp2
    go_ret
    exact ⟨by simp, rfl⟩

set_option maxHeartbeats 400000 in
theorem walk (n : Int) (h0 : -9223372036854775808 ≤ n) (h1 : n ≤ 9223372036854775807) (w : World) (h : Four w) :
    Calls Tryd.prog 3 #[.int .i64 n] w fun e w' => e = .returned (.bool true) ∧ Below w.heap.size w w' := by
  by_cases hn : n < 1
  · go_enter Tryd.func3, Tryd.ntmps3
    go_wp2_with fail
    refine (names_any w h).mono ?_
    rintro e w1 ⟨a, c, rfl, hb⟩
    go_wp2_with fail
    refine (valid_no n (.inl hn) _).mono ?_
    rintro e w2 ⟨rfl, rfl⟩
    go_wp2
    go_ret
    exact ⟨rfl, hb⟩
  by_cases hn4 : 4 < n
  · go_enter Tryd.func3, Tryd.ntmps3
    go_wp2_with fail
    refine (names_any w h).mono ?_
    rintro e w1 ⟨a, c, rfl, hb⟩
    go_wp2_with fail
    refine (valid_no n (.inr hn4) _).mono ?_
    rintro e w2 ⟨rfl, rfl⟩
    go_wp2
    go_ret
    exact ⟨rfl, hb⟩
  · go_enter Tryd.func3, Tryd.ntmps3
    go_wp2_with fail
    refine (names_any w h).mono ?_
    rintro e w1 ⟨a, c, rfl, hb⟩
    go_wp2_with fail
    refine (valid_yes n (by omega) (by omega) _).mono ?_
    rintro e w2 ⟨rfl, rfl⟩
    go_wp2
    go_ret
    exact ⟨rfl, hb⟩
end Go.Proofs.Qxb6615200aDoor
