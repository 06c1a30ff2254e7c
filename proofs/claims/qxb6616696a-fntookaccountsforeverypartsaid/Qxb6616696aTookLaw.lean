/-
  The walk of 'FnTookAccountsForEveryPart'.
-/
import Derived.Test.Qxb6616696aTook
import Derived.Deep.RegionHeld3
import Derived.Deep.DrawnRows
namespace Go.Proofs.Qxb6616696a
open Go.RowKit
attribute [local go_sem ↓] Go.wp_at_zero Go.wp_at_succ

def LawPost (w : World) (e : Ending) (w' : World) : Prop := e = .returned (.bool true) ∧ Below w.heap.size w w'

theorem ret_bool {b : Bool} (h : b = true) : Ending.returned (.bool b) = .returned (.bool true) := by rw [h]

theorem Hid.mk {p : Prop} (h : p) : Hid p := h
theorem sumB_mono (F : Nat → Fr) {i j : Nat} (h : i ≤ j) : sumB F i ≤ sumB F j := by
  induction j with
  | zero => obtain rfl : i = 0 := by omega
            exact Int.le_refl _
  | succ j ih =>
    by_cases e : i = j + 1
    · rw [e]; exact Int.le_refl _
    · have := ih (by omega)
      show _ ≤ sumB F j + _
      omega

/-- 'ZZwaiterTook' at a waiter in block n: below n nothing has turned. -/
theorem waiterTook_below (n : Nat) (t0 typ id : Int) (ba : Option Addr) (bl bc : Nat) (w : World) (hc : w.cell? ⟨n, 5, none⟩ = some (.int .i64 t0)) (hz : w.frozen? ⟨n, 5, none⟩ = false)
    (h0 : 0 ≤ t0) (h1 : t0 < 32768) (h2 : (bl : Int) ≤ 1048576) :
    Calls Try.prog 9 #[.pointer (some ⟨n, 0, none⟩), .int .u8 typ, .int .u64 id, .slice ba bl bc] w fun e w' => e = .returned (.int .u32 (tookR t0 bl)) ∧
      Below n w w' ∧ w'.cell? ⟨n, 5, none⟩ = some (.int .i64 (tookT t0 bl)) ∧ w'.frozen? ⟨n, 5, none⟩ = false := by
  refine (waiterTook_any n t0 typ id ba bl bc w hc hz h0 h1 h2).mono ?_
  rintro e w' ⟨rfl, rfl⟩
  have hn := heap_lt hc
  simp only at hn
  refine ⟨rfl, (((Below.refl _ _).setCell (by simp) _).alloc (by simp [World.setCell]; omega) _).drew, ?_, ?_⟩
  · have := World.cell?_setCell_same w ⟨n, 5, none⟩ (.int .i64 (tookT t0 bl)) hc
    exact (World.cell?_alloc_old _ _ _ (by simp [World.setCell]; omega)).trans this
  · exact (World.frozen?_alloc_old _ _ _ (by simp [World.setCell]; omega)).trans ((World.frozen?_setCell _ _ _ _).trans hz)

set_option maxRecDepth 100000 in
set_option maxHeartbeats 2000000 in
theorem tookLaw (t : Int) (a : Option Addr) (len cap : Nat) (F : Nat → Fr) (w : World) (hF : IsFrames w a len F) :
    Calls Try.prog 3 #[.int .i64 t, .slice a len cap] w (LawPost w) := by
  go_enter Try.func3, Try.ntmps3
  go_wp2_with fail
  refine (zz6 t a len cap F w hF).mono ?_
  rintro e w1 ⟨r, rfl, rfl, hsm⟩
  cases r
  · go_wp2
    go_ret
    exact ⟨rfl, Below.refl _ _⟩
  have hs := hsm rfl
  clear hsm
  go_wp2_with fail
  refine (big7 a len cap F w1 hF hs).mono ?_
  rintro e w2 ⟨r, rfl, rfl, hfit⟩
  cases r
  rotate_left
  · go_wp2
    go_ret
    exact ⟨rfl, Below.refl _ _⟩
  have ht := hfit rfl
  clear hfit
  by_cases h0 : t < 0
  · go_wp2
    go_ret
    exact ⟨rfl, Below.refl _ _⟩
  by_cases h1 : 32768 ≤ t
  · go_wp2
    go_ret
    exact ⟨rfl, Below.refl _ _⟩
  by_cases h2 : 0 < t ∧ t < 13
  · obtain ⟨h2, h3⟩ := h2
    go_wp2
    go_ret
    exact ⟨rfl, Below.refl _ _⟩
  have h4 : 0 < t → 13 ≤ t := by omega
  clear h2
  have hm := hF.1
  unfold maxLen at hm
  by_cases h3 : 0 < t
  all_goals
    try have h5 := h4 h3
    clear h4
    go_wp2_with fail
    refine (newWaiter_any t _).mono ?_
    rintro e w3 ⟨rfl, rfl⟩
    go_wp2
    go_loopw [6, 7, 8, 9] (fun held given want i wr => ∃ (k : Nat) (h g wn : Int), k ≤ len ∧ i = .int .i64 k ∧ held = .int .i64 h ∧ given = .int .i64 g ∧ want = .int .i64 wn ∧ 0 ≤ h ∧ h < 32768 ∧ 0 ≤ g ∧
        Hid (g + h = wn) ∧ wn ≤ 32768 + 13 * k + sumB F k ∧ Below w2.heap.size w2 wr ∧ wr.cell? ⟨w2.heap.size + 1, 5, none⟩ = some (.int .i64 h) ∧ wr.frozen? ⟨w2.heap.size + 1, 5, none⟩ = false) (fun _ _ _ i _ => len - (intOf i).toNat)
    case atStart =>
      refine ⟨0, t, 0, t, Nat.zero_le _, rfl, rfl, rfl, rfl, by omega, by omega, by omega, (by show (0 : Int) + t = t; omega), by simp [sumB]; omega, ?_, ?_, ?_⟩
      · exact ((Below.refl _ _).alloc (Nat.le_refl _) _).alloc (by simp) _
      · simp
      · simp
    case round =>
      obtain ⟨k, h, g, wn, hk, rfl, rfl, rfl, rfl, hh0, hh1, hg0, HG, hwn, hbel, hc, hz⟩ := hrel
      by_cases hlt : k < len
      · have hfr := hF.2
        rcases hfr with hl0 | ⟨b, o, ha, hb, hfr⟩
        · omega
        subst ha
        obtain ⟨q0, q1, q2, _, _, hbody⟩ := hfr k hlt
        have hL := hs k hlt
        have c0 := (hbel.cell (p := ⟨b, o + k * 3, none⟩) hb).trans q0
        have c1 := (hbel.cell (p := ⟨b, o + k * 3 + 1, none⟩) hb).trans q1
        have c2 := (hbel.cell (p := ⟨b, o + k * 3 + 2, none⟩) hb).trans q2
        have hsz := heap_lt hc
        have hnb : b ≠ w2.heap.size + 1 := by omega
        have hsum := sumB_mono F (show k + 1 ≤ len from hlt)
        have hsucc : sumB F (k + 1) = sumB F k + (F k).bl := rfl
        have hbnd : wn + 13 + (F k).bl ≤ 2000000 := by have := sumB_nonneg F k; omega
        have HSU : Hid (sumB F (k + 1) = sumB F k + (F k).bl) := hsucc
        clear hsucc hsum hbody hfr q0 q1 q2
        generalize (F k).t = ft at *
        generalize (F k).id = fi at *
        generalize (F k).ba = fa at *
        generalize (F k).bl = L at *
        generalize (F k).bc = fc at *
        simp only at hsz
        have hwn0 : 0 ≤ wn := by have := HG.out; omega
        have hwn1 : wn ≤ 2000000 := by omega
        have HWN : Hid (wn ≤ 32768 + 13 * k + sumB F k) := hwn
        clear hwn
        have hcall := fun (W : World) => waiterTook_below (w2.heap.size + 1) h ft fi fa L fc W
        obtain ⟨R, T', hRT, hcs⟩ : ∃ R T' : Int, (tookR h L = R ∧ tookT h L = T') ∧ ((R = 0 ∧ T' = h + (13 + L) ∧ h + (13 + L) < 32768) ∨ (R = h + (13 + L) ∧ T' = 0 ∧ 32768 ≤ h + (13 + L))) := ⟨_, _, ⟨rfl, rfl⟩, took_cases h L⟩
        rw [hRT.1, hRT.2] at hcall
        have HC := Hid.mk hcall
        clear hcall hRT
        have HCS := Hid.mk hcs
        have hR0 : 0 ≤ R := by omega
        have hR1 : R ≤ 2000000 := by omega
        have hT0 : 0 ≤ T' := by omega
        have hT1 : T' < 32768 := by omega
        clear hcs
        go_wp2_with fail
        go_region_held3 (fun w' => w'.cell? ⟨b, o + k * 3, none⟩ = some (.int .u8 ft) ∧ w'.cell? ⟨b, o + k * 3 + 1, none⟩ = some (.int .u64 fi) ∧ w'.cell? ⟨b, o + k * 3 + 2, none⟩ = some (.slice fa L fc))
          (first | go_keep | exact ⟨(hb1.cell (p := ⟨b, o + k * 3, none⟩) (by simp; omega)).trans c0, (hb1.cell (p := ⟨b, o + k * 3 + 1, none⟩) (by simp; omega)).trans c1, (hb1.cell (p := ⟨b, o + k * 3 + 2, none⟩) (by simp; omega)).trans c2⟩)
          (first | (go_at_call 9; refine (HC.out _ ?_ ?_ hh0 hh1 hL).mono ?_; (focus simp [hc]); (focus simp [hz]); rintro e w' ⟨rfl, hb1, hc1, hz1⟩))
        have hg1 : g ≤ 2000000 := by have := HG.out; omega
        have hbel1 := hbel.trans ((Below.drew (Below.refl _ _)).trans (hb1.mono (Nat.le_succ _)))
        clear HC hbel hb1 hc hz c0 c1 c2
        rcases HCS.out with ⟨hR, hT, hcs⟩ | ⟨hR, hT, hcs⟩
        all_goals
          subst hR hT
          clear HCS
          go_wp2_with (go_at_call 10; refine (taken_any _ _ _ hc1).mono ?_; rintro e w' ⟨rfl, rfl⟩)
          go_roundw
          case rel =>
            refine ⟨k + 1, _, _, _, by omega, by go_num, rfl, rfl, rfl, by omega, by omega, by omega, ?_, ?_, hbel1, hc1, hz1⟩
            · have h1 := HG.out
              show _ = _
              omega
            · have h1 := HWN.out
              have h2 := HSU.out
              omega
          case measure => simp [intOf]; omega
      · have hg1 : g ≤ 2000000 := by
          have h1 := HG.out
          have h2 := sumB_mono F hk
          omega
        go_wp2
        go_ret
        exact ⟨ret_bool (by simpa using HG.out), hbel⟩
end Go.Proofs.Qxb6616696a
