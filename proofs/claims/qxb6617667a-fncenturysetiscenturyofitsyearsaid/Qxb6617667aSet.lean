import Derived.Test.Qxb6617667aRows
import Derived.WalkKit
import Derived.Deep.QuietTactic
import Derived.BigQuiet
namespace Go.Proofs.Qxb6617667a
open Go.RowKit

/-- What the six fields are behind 'set(y)', as inequalities alone (an equation would be a rule for the walk). -/
structure Cent (y b d e f g s : Int) : Prop where
  b1 : 100 * b ≤ y
  b2 : y < 100 * b + 100
  d1 : 4 * d + e ≤ b
  d2 : b ≤ 4 * d + e
  e1 : 0 ≤ e
  e2 : e ≤ 3
  f1 : 25 * f ≤ b + 8
  f2 : b + 8 < 25 * f + 25
  g1 : 3 * g ≤ b - f + 1
  g2 : b - f + 1 < 3 * g + 3
  s1 : s ≤ b - d - g + 15
  s2 : b - d - g + 15 ≤ s

/-- Gauss's form of g. -/
theorem gauss {b f g : Int} (f1 : 25 * f ≤ b + 8) (f2 : b + 8 < 25 * f + 25) (g1 : 3 * g ≤ b - f + 1) (g2 : b - f + 1 < 3 * g + 3) : 25 * g ≤ 8 * b + 13 ∧ 8 * b + 13 < 25 * g + 25 := by
  have h : b = 25 * f - 8 + 0 ∨ b = 25 * f - 8 + 1 ∨ b = 25 * f - 8 + 2 ∨ b = 25 * f - 8 + 3 ∨ b = 25 * f - 8 + 4 ∨ b = 25 * f - 8 + 5 ∨ b = 25 * f - 8 + 6 ∨ b = 25 * f - 8 + 7 ∨ b = 25 * f - 8 + 8 ∨ b = 25 * f - 8 + 9 ∨ b = 25 * f - 8 + 10 ∨ b = 25 * f - 8 + 11 ∨ b = 25 * f - 8 + 12 ∨ b = 25 * f - 8 + 13 ∨ b = 25 * f - 8 + 14 ∨ b = 25 * f - 8 + 15 ∨ b = 25 * f - 8 + 16 ∨ b = 25 * f - 8 + 17 ∨ b = 25 * f - 8 + 18 ∨ b = 25 * f - 8 + 19 ∨ b = 25 * f - 8 + 20 ∨ b = 25 * f - 8 + 21 ∨ b = 25 * f - 8 + 22 ∨ b = 25 * f - 8 + 23 ∨ b = 25 * f - 8 + 24 := by omega
  rcases h with h | h | h | h | h | h | h | h | h | h | h | h | h | h | h | h | h | h | h | h | h | h | h | h | h
  all_goals omega

theorem grown_trans {a b c : World} (h : Grown a b) (k : Grown b c) : Grown a c :=
  ⟨World.keptBut_trans h.1 k.1, fun x => (k.2.1 x).trans (h.2.1 x), Nat.le_trans h.2.2 k.2.2⟩

theorem grown_drewN {a w : World} (h : Grown a w) (n : Nat) : Grown a (w.drewN n) := h

set_option maxHeartbeats 1000000 in
theorem set_any (a0 a1 a2 a3 a4 a5 y : Int) (h0 : 0 ≤ y) (h1 : y ≤ 9223372036854775807) (w : World) :
    Calls Try.prog 5 #[.int .i64 a0, .int .i64 a1, .int .i64 a2, .int .i64 a3, .int .i64 a4, .int .i64 a5, .int .i64 y] w fun r w' =>
      ∃ b d e f g s, r = .returned (.tuple #[.int .i64 b, .int .i64 d, .int .i64 e, .int .i64 f, .int .i64 g, .int .i64 s]) ∧ Cent y b d e f g s ∧ Grown w w' := by
  go_enter Try.func5, Try.ntmps5
  go_wp2
  go_end0
  go_wp2
  go_quiet (fail)
  go_wp2
  exact bodyPost_ret (v := .tuple #[.int .i64 (y / 100), .int .i64 (y / 100 / 4), .int .i64 (y / 100 % 4), .int .i64 ((y / 100 + 8) / 25), .int .i64 ((y / 100 - (y / 100 + 8) / 25 + 1) / 3), .int .i64 (y / 100 - y / 100 / 4 - (y / 100 - (y / 100 + 8) / 25 + 1) / 3 + 15)])
    (by simp [results, Try.results5, go_sem]) rfl ⟨_, _, _, _, _, _, rfl, by constructor <;> omega, grown_drewN (Grown.alloc (Grown.refl _) _ _) _⟩

theorem ret_bool {b : Bool} (h : b = true) : Ending.returned (.bool b) = .returned (.bool true) := by rw [h]

set_option maxHeartbeats 1000000 in
theorem isC_any (y b d e f g s : Int) (h0 : 0 ≤ y) (h1 : y ≤ 9223372036854775807) (c : Cent y b d e f g s) (w : World) :
    Calls Try.prog 6 #[.int .i64 y, .int .i64 b, .int .i64 d, .int .i64 e, .int .i64 f, .int .i64 g, .int .i64 s] w fun r w' => r = .returned (.bool true) ∧ w' = w := by
  obtain ⟨x1, x2, x3, x4, x5, x6, x7, x8, x9, x10, x11, x12⟩ := c
  obtain ⟨q1, q2⟩ := gauss x7 x8 x9 x10
  have k1 : 0 ≤ b := by omega
  have k2 : b ≤ 100000000000000000 := by omega
  have k3 : 0 ≤ y - 100 * b := by omega
  have k4 : y - 100 * b < 100 := by omega
  have k5 : 0 ≤ d := by omega
  have k6 : d ≤ 100000000000000000 := by omega
  have k7 : ((4 * d + e != b) = false) := by simp; omega
  have k8 : 0 ≤ f := by omega
  have k9 : f ≤ 100000000000000000 := by omega
  have k10 : 0 ≤ b + 8 - 25 * f := by omega
  have k11 : b + 8 - 25 * f < 25 := by omega
  have k12 : 0 ≤ g := by omega
  have k13 : g ≤ 100000000000000000 := by omega
  have k14 : 0 ≤ 8 * b + 13 - 25 * g := by omega
  have k15 : 8 * b + 13 - 25 * g < 25 := by omega
  have k16 : 0 ≤ s := by omega
  have k17 : s ≤ 200000000000000000 := by omega
  have k18 : 0 ≤ 4 * (s - 15 + g) - 3 * b := by omega
  have k19 : 4 * (s - 15 + g) - 3 * b ≤ 3 := by omega
  clear x1 x2 x3 x4 x7 x8 x9 x10 x11 x12 q1 q2
  go_enter Try.func6, Try.ntmps6
  go_wp2
  all_goals (go_ret; exact ⟨rfl, rfl⟩)

end Go.Proofs.Qxb6617667a
