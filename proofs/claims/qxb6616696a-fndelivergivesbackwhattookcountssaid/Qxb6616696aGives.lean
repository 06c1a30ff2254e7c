/-
  'FnDeliverGivesBackWhatTookCounts', whatever was taken before.
-/
import Derived.Test.Qxb6616696aGivesPos
import Derived.Test.Qxb6616696aGivesZero
namespace Go.Proofs.Qxb6616696a
open Go.RowKit

set_option maxRecDepth 100000 in
set_option maxHeartbeats 2000000 in
theorem givesLaw (v : Nat) (hv : v < 18446744073709551616) (tk : Int) (a : Option Addr) (len cap : Nat) (F : Nat → Fr) (w : World) (hF : IsFrames w a len F) :
    Calls Try.prog 5 #[.int .u64 v, .int .i64 tk, .slice a len cap] w (KeepsPost w) := by
  by_cases hok : 0 ≤ tk ∧ tk < 32768 ∧ (0 < tk → 13 ≤ tk)
  · obtain ⟨h0, h1, h2⟩ := hok
    by_cases h3 : 0 < tk
    · exact givesPos v hv tk h0 h1 h3 (h2 h3) a len cap F w hF
    · exact givesZero v hv tk h3 h0 h1 a len cap F w hF
  go_enter Try.func5, Try.ntmps5
  go_wp2_with fail
  refine (zz23 v tk a len cap F w hF).mono ?_
  rintro e w1 ⟨r, rfl, rfl, hsm⟩
  cases r
  · clear hok
    go_wp2
    go_ret
    exact keeps_true (Below.refl _ _)
  have hs := hsm rfl
  clear hsm
  go_wp2_with fail
  refine (big7 a len cap F w1 hF hs).mono ?_
  rintro e w2 ⟨r, rfl, rfl, hfit⟩
  clear hfit
  cases r
  rotate_left
  · clear hok
    go_wp2
    go_ret
    exact keeps_true (Below.refl _ _)
  by_cases h0 : tk < 0
  · clear hok
    go_wp2
    go_ret
    exact keeps_true (Below.refl _ _)
  by_cases h1 : 32768 ≤ tk
  · clear hok
    go_wp2
    go_ret
    exact keeps_true (Below.refl _ _)
  have h2 : 0 < tk := by omega
  have h3 : tk < 13 := by omega
  clear hok
  go_wp2
  go_ret
  exact keeps_true (Below.refl _ _)
end Go.Proofs.Qxb6616696a
