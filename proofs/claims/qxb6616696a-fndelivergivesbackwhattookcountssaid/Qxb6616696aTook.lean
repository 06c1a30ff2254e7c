/-
  A waiter: 'ZZnewWaiter', 'took', 'ZZwaiterTook', 'ZZwaiterTaken'.
-/
import Derived.Test.Qxb6616696aSize
import Derived.Deep.RegionWith
import Derived.WalkSmall
namespace Go.Proofs.Qxb6616696a
open Go.RowKit

theorem window_any (n : Int) (h0 : 0 ≤ n) (h1 : n ≤ 1048576) (w : World) : Calls Try.prog 31 #[.int .i64 n] w fun e w' => e = .returned (.int .i64 (13 + n)) ∧ w' = w := by
  go_enter Try.func31, Try.ntmps31
  go_wp2
  go_ret
  exact ⟨rfl, rfl⟩

theorem makeAnswer (w : World) : (Instr.makeChan 51 (.int .i64 1)).run Try.prog w = .ok (.chan (some w.heap.size)) (w.alloc (.chan 1 #[] false 0 0 false)) := by kernel_rfl

/-- A new waiter: its answer's channel, then its six cells. -/
theorem newWaiter_any (t : Int) (w : World) : Calls Try.prog 8 #[.int .i64 t] w fun e w' => e = .returned (.pointer (some ⟨w.heap.size + 1, 0, none⟩)) ∧
    w' = (w.alloc (.chan 1 #[] false 0 0 false)).alloc (.cells #[.chan (some w.heap.size), .bool false, .slice none 0 0, .int .i64 0, .chan none, .int .i64 t] 55) := by
  have hmk := makeAnswer
  go_enter Try.func8, Try.ntmps8
  go_wp2
  go_ret
  exact ⟨rfl, rfl⟩

/-- What 'took' hands back, and what it leaves in 'taken'. -/
def tookR (t : Int) (n : Nat) : Int := if t + (13 + n) < 32768 then 0 else t + (13 + n)
def tookT (t : Int) (n : Nat) : Int := if t + (13 + n) < 32768 then t + (13 + n) else 0

theorem setCell_twice (w : World) (a : Addr) (u v : Value) : (w.setCell a u).setCell a v = w.setCell a v := by
  obtain ⟨b, o, s⟩ := a
  simp only [World.setCell]
  congr 1
  apply Array.ext_getElem?
  intro i
  simp only [Array.getElem?_modify]
  by_cases h : b = i
  · simp only [h, if_true]
    cases hw : w.heap[i]? with
    | none => rfl
    | some x => cases x <;> simp <;> split <;> simp_all
  · simp [h]

set_option maxHeartbeats 400000 in
theorem took_any (b : Nat) (t0 typ id : Int) (ba : Option Addr) (bl bc : Nat) (w : World) (hc : w.cell? ⟨b, 5, none⟩ = some (.int .i64 t0)) (hz : w.frozen? ⟨b, 5, none⟩ = false)
    (h0 : 0 ≤ t0) (h1 : t0 < 32768) (h2 : (bl : Int) ≤ 1048576) :
    Calls Try.prog 28 #[.pointer (some ⟨b, 0, none⟩), .agg #[.int .u8 typ, .int .u64 id, .slice ba bl bc]] w fun e w' => e = .returned (.int .u32 (tookR t0 bl)) ∧
      w' = ((w.setCell ⟨b, 5, none⟩ (.int .i64 (tookT t0 bl))).alloc (.cells #[.int .u8 typ, .int .u64 id, .slice ba bl bc] 59)).drew := by
  have hb : b < w.heap.size := heap_lt hc
  by_cases hlow : t0 + (13 + bl) < 32768
  · have HR : Hid (tookR t0 bl = 0) := if_pos hlow
    have HT : Hid (tookT t0 bl = t0 + (13 + bl)) := if_pos hlow
    go_enter Try.func28, Try.ntmps28
    go_wp2_with fail
    go_region_with (go_at_call 31; refine (window_any _ (by omega) (by omega) _).mono ?_; rintro e w' ⟨rfl, rfl⟩)
    all_goals
      go_wp2
      go_ret
      rw [HR.out, HT.out]
      exact ⟨rfl, rfl⟩
  · have HR : Hid (tookR t0 bl = t0 + (13 + bl)) := if_neg hlow
    have HT : Hid (tookT t0 bl = 0) := if_neg hlow
    go_enter Try.func28, Try.ntmps28
    go_wp2_with fail
    go_region_with (go_at_call 31; refine (window_any _ (by omega) (by omega) _).mono ?_; rintro e w' ⟨rfl, rfl⟩)
    all_goals
      go_wp2
      go_ret
      rw [HR.out, HT.out]
      exact ⟨rfl, by rw [setCell_twice]⟩

/-- 'ZZwaiterTook' is 'took'. -/
theorem waiterTook_any (b : Nat) (t0 typ id : Int) (ba : Option Addr) (bl bc : Nat) (w : World) (hc : w.cell? ⟨b, 5, none⟩ = some (.int .i64 t0)) (hz : w.frozen? ⟨b, 5, none⟩ = false)
    (h0 : 0 ≤ t0) (h1 : t0 < 32768) (h2 : (bl : Int) ≤ 1048576) :
    Calls Try.prog 9 #[.pointer (some ⟨b, 0, none⟩), .int .u8 typ, .int .u64 id, .slice ba bl bc] w fun e w' => e = .returned (.int .u32 (tookR t0 bl)) ∧
      w' = ((w.setCell ⟨b, 5, none⟩ (.int .i64 (tookT t0 bl))).alloc (.cells #[.int .u8 typ, .int .u64 id, .slice ba bl bc] 59)).drew := by
  go_enter Try.func9, Try.ntmps9
  go_wp2_with (go_at_call 28; refine (took_any b t0 typ id ba bl bc _ hc hz h0 h1 h2).mono ?_; rintro e w' ⟨rfl, rfl⟩)
  go_ret
  exact ⟨rfl, rfl⟩

/-- What 'took' hands back and what it keeps, in one case each. -/
theorem took_cases (t : Int) (n : Nat) :
    (tookR t n = 0 ∧ tookT t n = t + (13 + n) ∧ t + (13 + n) < 32768) ∨ (tookR t n = t + (13 + n) ∧ tookT t n = 0 ∧ 32768 ≤ t + (13 + n)) := by
  unfold tookR tookT
  split
  · exact .inl ⟨rfl, rfl, by assumption⟩
  · exact .inr ⟨rfl, rfl, by omega⟩

theorem taken_any (b : Nat) (t : Int) (w : World) (hc : w.cell? ⟨b, 5, none⟩ = some (.int .i64 t)) :
    Calls Try.prog 10 #[.pointer (some ⟨b, 0, none⟩)] w fun e w' => e = .returned (.int .i64 t) ∧ w' = w := by
  go_enter Try.func10, Try.ntmps10
  go_wp2
  go_ret
  exact ⟨rfl, rfl⟩

end Go.Proofs.Qxb6616696a
