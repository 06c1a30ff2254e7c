/-
  'zzBytes_..' and 'framesTooBig': what they say of the frames' sizes.
-/
import Derived.Test.Qxb6616696aBase
namespace Go.Proofs.Qxb6616696a
open Go.RowKit

/-- The lengths of the first k bodies, added up. -/
def sumB (F : Nat → Fr) : Nat → Int
  | 0 => 0
  | k + 1 => sumB F k + (F k).bl

theorem sumB_nonneg (F : Nat → Fr) (k : Nat) : 0 ≤ sumB F k := by
  induction k with
  | zero => exact Int.le_refl _
  | succ k ih => unfold sumB; omega

/-- No body is long. -/
def Small (len : Nat) (F : Nat → Fr) : Prop := ∀ i, i < len → ((F i).bl : Int) ≤ 1048576

/-- What a 'zzBytes_..' says: yes or no; if yes, no body is long. -/
def SaysSmall (len : Nat) (F : Nat → Fr) (w : World) (e : Ending) (w' : World) : Prop := ∃ r : Bool, e = .returned (.bool r) ∧ w' = w ∧ (r = true → Small len F)
theorem says_no (len : Nat) (F : Nat → Fr) (w : World) : SaysSmall len F w (.returned (.bool false)) w := ⟨false, rfl, rfl, by simp⟩
theorem says_yes {len : Nat} {F : Nat → Fr} (w : World) (h : Small len F) : SaysSmall len F w (.returned (.bool true)) w := ⟨true, rfl, rfl, fun _ => h⟩

set_option maxHeartbeats 400000 in
theorem zz6 (x : Int) (a : Option Addr) (len cap : Nat) (F : Nat → Fr) (w : World) (hF : IsFrames w a len F) :
    Calls Try.prog 6 #[.int .i64 x, .slice a len cap] w (SaysSmall len F w) := by
  obtain ⟨hm, hF⟩ := hF
  unfold maxLen at hm
  by_cases hbig : (1048576 : Int) < len
  · go_enter Try.func6, Try.ntmps6
    go_wp2
    go_ret
    exact says_no len F w
  rcases hF with rfl | ⟨b, o, rfl, hb, hF⟩
  · go_enter Try.func6, Try.ntmps6
    go_wp2
    go_loop [6] (fun i => i = .int .i64 0) (fun _ => 0)
    case atStart => rfl
    case round =>
      subst hrel
      go_wp2
      go_ret
      exact says_yes w (fun i hi => by omega)
  · go_enter Try.func6, Try.ntmps6
    go_wp2
    go_loop [5, 6] (fun n i => ∃ (k : Nat) (t : Int), k ≤ len ∧ i = .int .i64 k ∧ n = .int .i64 t ∧ 0 ≤ t ∧ t ≤ 1048576 ∧ Small k F) (fun _ i => len - (intOf i).toNat)
    case atStart => exact ⟨0, _, Nat.zero_le _, rfl, rfl, by omega, by omega, fun i hi => by omega⟩
    case round =>
      obtain ⟨k, t, hk, rfl, rfl, ht0, ht1, hs⟩ := hrel
      have HS : Hid (Small k F) := hs
      clear hs
      by_cases hlt : k < len
      · obtain ⟨_, _, c2, _, _, hbody⟩ := hF k hlt
        have hcl := hbody.2.1
        have hbl := hbody.1
        unfold maxLen at hcl
        clear hF hbody
        generalize hL : (F k).bl = L at *
        have HL : Hid ((F k).bl = L) := hL
        clear hL
        by_cases hbb : (1048576 : Int) < (L : Int)
        · go_wp2
          go_ret
          exact says_no len F w
        · go_wp2
          · go_ret
            exact says_no len F w
          · go_round
            case rel =>
              refine ⟨k + 1, t + L, by omega, by go_num, rfl, by omega, by omega, fun i hi => ?_⟩
              by_cases h : i = k
              · subst h; rw [HL.out]; omega
              · exact HS.out i (by omega)
            case measure => simp [intOf]; omega
      · go_wp2
        go_ret
        obtain rfl : k = len := by omega
        exact says_yes w HS.out
set_option maxHeartbeats 400000 in
theorem zz11 (x : Int) (a : Option Addr) (len cap : Nat) (F : Nat → Fr) (w : World) (hF : IsFrames w a len F) :
    Calls Try.prog 11 #[.int .u64 x, .slice a len cap] w (SaysSmall len F w) := by
  obtain ⟨hm, hF⟩ := hF
  unfold maxLen at hm
  by_cases hbig : (1048576 : Int) < len
  · go_enter Try.func11, Try.ntmps11
    go_wp2
    go_ret
    exact says_no len F w
  rcases hF with rfl | ⟨b, o, rfl, hb, hF⟩
  · go_enter Try.func11, Try.ntmps11
    go_wp2
    go_loop [6] (fun i => i = .int .i64 0) (fun _ => 0)
    case atStart => rfl
    case round =>
      subst hrel
      go_wp2
      go_ret
      exact says_yes w (fun i hi => by omega)
  · go_enter Try.func11, Try.ntmps11
    go_wp2
    go_loop [5, 6] (fun n i => ∃ (k : Nat) (t : Int), k ≤ len ∧ i = .int .i64 k ∧ n = .int .i64 t ∧ 0 ≤ t ∧ t ≤ 1048576 ∧ Small k F) (fun _ i => len - (intOf i).toNat)
    case atStart => exact ⟨0, _, Nat.zero_le _, rfl, rfl, by omega, by omega, fun i hi => by omega⟩
    case round =>
      obtain ⟨k, t, hk, rfl, rfl, ht0, ht1, hs⟩ := hrel
      have HS : Hid (Small k F) := hs
      clear hs
      by_cases hlt : k < len
      · obtain ⟨_, _, c2, _, _, hbody⟩ := hF k hlt
        have hcl := hbody.2.1
        have hbl := hbody.1
        unfold maxLen at hcl
        clear hF hbody
        generalize hL : (F k).bl = L at *
        have HL : Hid ((F k).bl = L) := hL
        clear hL
        by_cases hbb : (1048576 : Int) < (L : Int)
        · go_wp2
          go_ret
          exact says_no len F w
        · go_wp2
          · go_ret
            exact says_no len F w
          · go_round
            case rel =>
              refine ⟨k + 1, t + L, by omega, by go_num, rfl, by omega, by omega, fun i hi => ?_⟩
              by_cases h : i = k
              · subst h; rw [HL.out]; omega
              · exact HS.out i (by omega)
            case measure => simp [intOf]; omega
      · go_wp2
        go_ret
        obtain rfl : k = len := by omega
        exact says_yes w HS.out
set_option maxHeartbeats 400000 in
theorem zz23 (x y : Int) (a : Option Addr) (len cap : Nat) (F : Nat → Fr) (w : World) (hF : IsFrames w a len F) :
    Calls Try.prog 23 #[.int .u64 x, .int .i64 y, .slice a len cap] w (SaysSmall len F w) := by
  obtain ⟨hm, hF⟩ := hF
  unfold maxLen at hm
  by_cases hbig : (1048576 : Int) < len
  · go_enter Try.func23, Try.ntmps23
    go_wp2
    go_ret
    exact says_no len F w
  rcases hF with rfl | ⟨b, o, rfl, hb, hF⟩
  · go_enter Try.func23, Try.ntmps23
    go_wp2
    go_loop [8] (fun i => i = .int .i64 0) (fun _ => 0)
    case atStart => rfl
    case round =>
      subst hrel
      go_wp2
      go_ret
      exact says_yes w (fun i hi => by omega)
  · go_enter Try.func23, Try.ntmps23
    go_wp2
    go_loop [7, 8] (fun n i => ∃ (k : Nat) (t : Int), k ≤ len ∧ i = .int .i64 k ∧ n = .int .i64 t ∧ 0 ≤ t ∧ t ≤ 1048576 ∧ Small k F) (fun _ i => len - (intOf i).toNat)
    case atStart => exact ⟨0, _, Nat.zero_le _, rfl, rfl, by omega, by omega, fun i hi => by omega⟩
    case round =>
      obtain ⟨k, t, hk, rfl, rfl, ht0, ht1, hs⟩ := hrel
      have HS : Hid (Small k F) := hs
      clear hs
      by_cases hlt : k < len
      · obtain ⟨_, _, c2, _, _, hbody⟩ := hF k hlt
        have hcl := hbody.2.1
        have hbl := hbody.1
        unfold maxLen at hcl
        clear hF hbody
        generalize hL : (F k).bl = L at *
        have HL : Hid ((F k).bl = L) := hL
        clear hL
        by_cases hbb : (1048576 : Int) < (L : Int)
        · go_wp2
          go_ret
          exact says_no len F w
        · go_wp2
          · go_ret
            exact says_no len F w
          · go_round
            case rel =>
              refine ⟨k + 1, t + L, by omega, by go_num, rfl, by omega, by omega, fun i hi => ?_⟩
              by_cases h : i = k
              · subst h; rw [HL.out]; omega
              · exact HS.out i (by omega)
            case measure => simp [intOf]; omega
      · go_wp2
        go_ret
        obtain rfl : k = len := by omega
        exact says_yes w HS.out
/-- What 'framesTooBig' says: yes or no; if no, the frames' sizes add up to no more than the bound. -/
def SaysFit (len : Nat) (F : Nat → Fr) (w : World) (e : Ending) (w' : World) : Prop := ∃ r : Bool, e = .returned (.bool r) ∧ w' = w ∧ (r = false → 40 * (len : Int) + sumB F len ≤ 1048576)
theorem fit_no (len : Nat) (F : Nat → Fr) (w : World) : SaysFit len F w (.returned (.bool true)) w := ⟨true, rfl, rfl, by simp⟩
theorem fit_yes {len : Nat} {F : Nat → Fr} (w : World) (h : 40 * (len : Int) + sumB F len ≤ 1048576) : SaysFit len F w (.returned (.bool false)) w := ⟨false, rfl, rfl, fun _ => h⟩

set_option maxHeartbeats 400000 in
theorem big7 (a : Option Addr) (len cap : Nat) (F : Nat → Fr) (w : World) (hF : IsFrames w a len F) (hs : Small len F) :
    Calls Try.prog 7 #[.slice a len cap] w (SaysFit len F w) := by
  obtain ⟨hm, hF⟩ := hF
  unfold maxLen at hm
  by_cases hbig : (65536 : Int) < len
  · go_enter Try.func7, Try.ntmps7
    go_wp2
    go_ret
    exact fit_no len F w
  by_cases hbig2 : (1048576 : Int) < (len : Int) * 40
  · go_enter Try.func7, Try.ntmps7
    go_wp2
    go_ret
    exact fit_no len F w
  rcases hF with rfl | ⟨b, o, rfl, hb, hF⟩
  · go_enter Try.func7, Try.ntmps7
    go_wp2
    go_loop [4] (fun i => i = .int .i64 0) (fun _ => 0)
    case atStart => rfl
    case round =>
      subst hrel
      go_wp2
      go_ret
      exact fit_yes w (by simp [sumB])
  · have HS : Hid (Small len F) := hs
    clear hs
    go_enter Try.func7, Try.ntmps7
    go_wp2
    go_loop [3, 4] (fun n i => ∃ (k : Nat) (t : Int), k ≤ len ∧ i = .int .i64 k ∧ n = .int .i64 t ∧ 0 ≤ t ∧ t ≤ 1048576 ∧ 40 * (len : Int) + sumB F k ≤ t) (fun _ i => len - (intOf i).toNat)
    case atStart => exact ⟨0, _, Nat.zero_le _, rfl, rfl, by omega, by omega, by simp [sumB]; omega⟩
    case round =>
      obtain ⟨k, t, hk, rfl, rfl, ht0, ht1, hs⟩ := hrel
      have HT : Hid (40 * (len : Int) + sumB F k ≤ t) := hs
      clear hs
      by_cases hlt : k < len
      · obtain ⟨_, _, c2, _, _, hbody⟩ := hF k hlt
        have hsm := HS.out k hlt
        clear hF hbody
        generalize hL : (F k).bl = L at *
        have HL : Hid ((F k).bl = L) := hL
        clear hL
        go_wp2
        · go_ret
          exact fit_no len F w
        · go_round
          case rel =>
            refine ⟨k + 1, t + L, by omega, by go_num, rfl, by omega, by omega, ?_⟩
            have h1 := HT.out
            have h2 := HL.out
            simp only [sumB]
            omega
          case measure => simp [intOf]; omega
      · go_wp2
        go_ret
        obtain rfl : k = len := by omega
        exact fit_yes w (by have := HT.out; omega)
end Go.Proofs.Qxb6616696a
