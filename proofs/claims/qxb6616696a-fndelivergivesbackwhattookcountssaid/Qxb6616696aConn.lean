/-
  'ZZnewConn': five things made in whatever order, then the connection.
-/
import Derived.Test.Qxb6616696aDs
import Derived.Orders
namespace Go.Proofs.Qxb6616696a
open Go.RowKit

/-! ### A region that draws, by what every step keeps -/
theorem wpAny_inv {P : Program} {md : Region.Mode} {ops : Array Oper} {Q : Exit → Act → World → Prop} (I : Array Bool → Act → World → Prop)
    (hstep : ∀ l a w, I l a w → ∀ i ∈ Region.ready md ops l, wpOp P ops Q i (I (l.setIfInBounds i true)) a w)
    (hend : ∀ l a w, I l a w → Region.ready md ops l = [] → Q .normal a w) :
    ∀ (fuel : Nat) (l : Array Bool) (a : Act) (w : World), l.toList.count false ≤ fuel → I l a w → wpAny P md ops Q fuel l a w := by
  intro fuel
  induction fuel with
  | zero =>
    intro l a w hc hi
    have hr : Region.ready md ops l = [] := by
      unfold Region.ready
      rw [List.filter_eq_nil_iff]
      intro i _ h
      have hf : l.getD i true = false := by
        cases hb : l.getD i true with
        | false => rfl
        | true => rw [hb] at h; simp at h
      have hm : false ∈ l.toList := by
        rw [Array.getD_eq_getD_getElem?] at hf
        cases hx : l[i]? with
        | none => rw [hx] at hf; cases hf
        | some x => rw [hx] at hf; obtain rfl : x = false := hf; exact Array.mem_toList_iff.2 (Array.mem_of_getElem? hx)
      have := List.count_pos_iff.2 hm
      omega
    exact ⟨hr, hend l a w hi hr⟩
  | succ fuel ih =>
    intro l a w hc hi
    refine ⟨hend l a w hi, fun i hr => wpOp_mono (fun a' w' h => ih _ a' w' ?_ h) (hstep l a w hi i hr)⟩
    have hf : l.getD i true = false := by
      unfold Region.ready at hr
      have h := (List.mem_filter.1 hr).2
      cases hb : l.getD i true with
      | false => rfl
      | true => rw [hb] at h; simp at h
    rw [Array.getD_eq_getD_getElem?] at hf
    cases hx : l[i]? with
    | none => rw [hx] at hf; cases hf
    | some x =>
      rw [hx] at hf
      obtain rfl : x = false := hf
      obtain ⟨hlt, hg⟩ := Array.getElem?_eq_some_iff.1 hx
      have hlt' : i < l.toList.length := by simpa using hlt
      rw [Array.toList_setIfInBounds, List.count_set hlt']
      have hg' : l.toList[i] = false := by simpa using hg
      rw [hg']
      have hm : false ∈ l.toList := Array.mem_toList_iff.2 (Array.mem_of_getElem? hx)
      have := List.count_pos_iff.2 hm
      rw [if_pos (by rfl), if_neg (by decide)]
      omega

theorem wpOp_value {P : Program} {ops : Array Oper} {Q : Exit → Act → World → Prop} {i : Nat} {o : Oper} {a : Act} {w w' : World} {v : Value} {K : Act → World → Prop} (d : Nat) (ho : ops[i]? = some o) (hg : o.guard = none) (hd : o.dst = some d) (hr : (execOp a.eval o).run P w = .ok (.value v) w')
    (h : K { tmps := a.tmps.setIfInBounds d v, defers := a.defers } w') : wpOp P ops Q i K a w := by
  have hw : Region.wanted o (yielded ops a.tmps) = true := by simp [Region.wanted, hg]
  unfold wpOp
  rw [ho]
  simp only []
  rw [if_pos hw]
  left
  unfold Oper.wp
  rw [hr]
  simp only [Oper.upon, Act.put, hd]
  exact h

def connC (m : Int) (r1 r2 r3 r4 r5 : Nat) : Array Value :=
  #[.nilIface, .int .u32 m, .chan (some r1), .chan (some r2), .int .i32 0, .int .i32 0, .int .u32 0, .int .u64 0, .slice none 0 0, .slice none 0 0, .bool false, .bool false, .int .i64 0, .nilIface, .int .i32 0, .int .u32 0,
    .map (some r3), .map (some r4), .map (some r5), .int .i64 0, .bool false, .chan none, .bool false, .nilIface]

theorem conn_build (m : Int) (r1 r2 r3 r4 r5 : Nat) (w : World) : (Instr.build 78 #[(1,.int .u32 m),(2,.chan (some r1)),(3,.chan (some r2)),(14,.map (some r3)),(15,.map (some r4)),(16,.map (some r5))]).run Try.prog w = .ok (.agg (connC m r1 r2 r3 r4 r5)) w := by kernel_rfl
theorem conn_box (m : Int) (r1 r2 r3 r4 r5 : Nat) (w : World) : (Instr.box 78 (.agg (connC m r1 r2 r3 r4 r5))).run Try.prog w = .ok (.pointer (some ⟨w.heap.size, 0, none⟩)) (w.alloc (.cells (connC m r1 r2 r3 r4 r5) 78 (0, 0))) := by kernel_rfl
theorem chan53 (w : World) : (Instr.makeChan 53 (.int .i64 0)).run Try.prog w = .ok (.chan (some w.heap.size)) (w.alloc (.chan 0 #[] false 0 0 false)) := by kernel_rfl
theorem chan60 (w : World) : (Instr.makeChan 60 (.int .i64 0)).run Try.prog w = .ok (.chan (some w.heap.size)) (w.alloc (.chan 0 #[] false 0 0 false)) := by kernel_rfl

noncomputable def ops12 : Array Oper := match Try.f12.body with | some (.seq _ (.seq (.region _ ops _) _)) => ops | _ => #[]

theorem o0 : ∃ o, ops12[0]? = some o ∧ o.op = .move (.tmp 0) ∧ o.guard = none ∧ o.dst = some 3 := ⟨_, rfl, rfl, rfl, rfl⟩
theorem o1 : ∃ o, ops12[1]? = some o ∧ o.op = .makeChan 53 (.const (.int .i64 0)) ∧ o.guard = none ∧ o.dst = some 4 := ⟨_, rfl, rfl, rfl, rfl⟩
theorem o2 : ∃ o, ops12[2]? = some o ∧ o.op = .makeChan 60 (.const (.int .i64 0)) ∧ o.guard = none ∧ o.dst = some 5 := ⟨_, rfl, rfl, rfl, rfl⟩
theorem o3 : ∃ o, ops12[3]? = some o ∧ o.op = .makeMap 61 none ∧ o.guard = none ∧ o.dst = some 6 := ⟨_, rfl, rfl, rfl, rfl⟩
theorem o4 : ∃ o, ops12[4]? = some o ∧ o.op = .makeMap 62 none ∧ o.guard = none ∧ o.dst = some 7 := ⟨_, rfl, rfl, rfl, rfl⟩
theorem o5 : ∃ o, ops12[5]? = some o ∧ o.op = .makeMap 63 none ∧ o.guard = none ∧ o.dst = some 8 := ⟨_, rfl, rfl, rfl, rfl⟩
theorem o6 : ∃ o, ops12[6]? = some o ∧ o.op = .build 78 #[(1, .tmp 3), (2, .tmp 4), (3, .tmp 5), (14, .tmp 6), (15, .tmp 7), (16, .tmp 8)] ∧ o.guard = none ∧ o.dst = some 9 := ⟨_, rfl, rfl, rfl, rfl⟩
theorem o7 : ∃ o, ops12[7]? = some o ∧ o.op = .box 78 (.tmp 9) ∧ o.guard = none ∧ o.dst = some 10 := ⟨_, rfl, rfl, rfl, rfl⟩
theorem o8 : ∃ o, ops12[8]? = some o ∧ o.op = .assign (.tmp 10) ∧ o.guard = none ∧ o.dst = some 2 := ⟨_, rfl, rfl, rfl, rfl⟩

/-- When nothing is ready, all is done. -/
theorem ready_end : ∀ b0 b1 b2 b3 b4 b5 b6 b7 b8 : Bool, Region.ready .any ops12 #[b0, b1, b2, b3, b4, b5, b6, b7, b8] = [] → b8 = true := by decide +kernel
/-- What an operation waits for. -/
theorem ready_all : ∀ b0 b1 b2 b3 b4 b5 b6 b7 b8 : Bool, (Region.ready .any ops12 #[b0, b1, b2, b3, b4, b5, b6, b7, b8]).all (fun i => decide (i < 9) && (!decide (i = 6) || b0 && b1 && b2 && b3 && b4 && b5) && (!decide (i = 7) || b6) && (!decide (i = 8) || b7)) = true := by decide +kernel

def ConnMade (H : Nat) (v : Option Value) (w : World) : Prop := ∃ cb mb C, v = some (.pointer (some ⟨cb, 0, none⟩)) ∧ ConnAt w cb mb 0 0 (.slice none 0 0) C ∧ w.heap[mb]? = some (.map #[] 0) ∧ H ≤ mb ∧ H ≤ cb

structure NC (H : Nat) (m : Int) (W : World) (b0 b1 b2 b3 b4 b5 b6 b7 b8 : Bool) (a : Act) (w : World) : Prop where
  size : a.tmps.size = 11
  defers : a.defers = []
  t0 : a.tmps[0]? = some (.int .u32 m)
  bel : Below H W w
  s0 : b0 = true → a.tmps[3]? = some (.int .u32 m)
  s1 : b1 = true → ∃ r, a.tmps[4]? = some (.chan (some r))
  s2 : b2 = true → ∃ r, a.tmps[5]? = some (.chan (some r))
  s3 : b3 = true → ∃ r, a.tmps[6]? = some (.map (some r)) ∧ w.heap[r]? = some (.map #[] 0) ∧ H ≤ r
  s4 : b4 = true → ∃ r, a.tmps[7]? = some (.map (some r))
  s5 : b5 = true → ∃ r, a.tmps[8]? = some (.map (some r))
  s6 : b6 = true → ∃ r1 r2 r3 r4 r5, a.tmps[9]? = some (.agg (connC m r1 r2 r3 r4 r5)) ∧ w.heap[r3]? = some (.map #[] 0) ∧ H ≤ r3
  s7 : b7 = true → ConnMade H a.tmps[10]? w
  s8 : b8 = true → ConnMade H a.tmps[2]? w

theorem heap_alloc_old {w : World} {o : Obj} {r : Nat} {x : Obj} (h : w.heap[r]? = some x) : (w.alloc o).heap[r]? = some x := by
  have hlt : r < w.heap.size := (Array.getElem?_eq_some_iff.1 h).1
  show (w.heap.push o)[r]? = some x
  rw [Array.getElem?_push_lt hlt]
  exact (Array.getElem?_eq_some_iff.1 h).2 ▸ rfl
theorem ConnMade.alloc {H : Nat} {v : Option Value} {w : World} {o : Obj} (h : ConnMade H v w) : ConnMade H v (w.alloc o) := by
  obtain ⟨cb, mb, C, h1, h2, h3, h4⟩ := h
  exact ⟨cb, mb, C, h1, ⟨heap_alloc_old h2.heap, h2.c14, h2.c5, h2.c16, h2.c8⟩, heap_alloc_old h3, h4⟩

section
variable {H : Nat} {m : Int} {W : World} {b0 b1 b2 b3 b4 b5 b6 b7 b8 : Bool} {a : Act} {w : World}

/-- Another thing is made: what stands goes on standing. -/
theorem NC.alloc (h : NC H m W b0 b1 b2 b3 b4 b5 b6 b7 b8 a w) (hH : H ≤ w.heap.size) (o : Obj) : NC H m W b0 b1 b2 b3 b4 b5 b6 b7 b8 a (w.alloc o) :=
  ⟨h.size, h.defers, h.t0, h.bel.alloc hH o, h.s0, h.s1, h.s2, fun e => let ⟨r, x, y, z⟩ := h.s3 e; ⟨r, x, heap_alloc_old y, z⟩, h.s4, h.s5,
    fun e => let ⟨r1, r2, r3, r4, r5, x, y, z⟩ := h.s6 e; ⟨r1, r2, r3, r4, r5, x, heap_alloc_old y, z⟩, fun e => (h.s7 e).alloc, fun e => (h.s8 e).alloc⟩
theorem get_ne {t : Array Value} {d j : Nat} {v : Value} (h : d ≠ j) : (t.setIfInBounds d v)[j]? = t[j]? := Array.getElem?_setIfInBounds_ne h
theorem get_eq {t : Array Value} {d : Nat} {v : Value} (h : d < t.size) : (t.setIfInBounds d v)[d]? = some v := by simp [h]
theorem NC.put0 (h : NC H m W b0 b1 b2 b3 b4 b5 b6 b7 b8 a w) : NC H m W true b1 b2 b3 b4 b5 b6 b7 b8 { tmps := a.tmps.setIfInBounds 3 (.int .u32 m), defers := a.defers } w :=
  ⟨by simp [h.size], h.defers, (get_ne (by decide)).trans h.t0, h.bel,
    fun _ => get_eq (by rw [h.size]; decide),
    fun e => by simp only [get_ne (show 3 ≠ 4 by decide)]; exact h.s1 e,
    fun e => by simp only [get_ne (show 3 ≠ 5 by decide)]; exact h.s2 e,
    fun e => by simp only [get_ne (show 3 ≠ 6 by decide)]; exact h.s3 e,
    fun e => by simp only [get_ne (show 3 ≠ 7 by decide)]; exact h.s4 e,
    fun e => by simp only [get_ne (show 3 ≠ 8 by decide)]; exact h.s5 e,
    fun e => by simp only [get_ne (show 3 ≠ 9 by decide)]; exact h.s6 e,
    fun e => by show ConnMade H _ w; rw [get_ne (by decide)]; exact h.s7 e,
    fun e => by show ConnMade H _ w; rw [get_ne (by decide)]; exact h.s8 e⟩
theorem NC.put1 (h : NC H m W b0 b1 b2 b3 b4 b5 b6 b7 b8 a w) (r : Nat) : NC H m W b0 true b2 b3 b4 b5 b6 b7 b8 { tmps := a.tmps.setIfInBounds 4 (.chan (some r)), defers := a.defers } w :=
  ⟨by simp [h.size], h.defers, (get_ne (by decide)).trans h.t0, h.bel,
    fun e => (get_ne (by decide)).trans (h.s0 e),
    fun _ => ⟨r, get_eq (by rw [h.size]; decide)⟩,
    fun e => by simp only [get_ne (show 4 ≠ 5 by decide)]; exact h.s2 e,
    fun e => by simp only [get_ne (show 4 ≠ 6 by decide)]; exact h.s3 e,
    fun e => by simp only [get_ne (show 4 ≠ 7 by decide)]; exact h.s4 e,
    fun e => by simp only [get_ne (show 4 ≠ 8 by decide)]; exact h.s5 e,
    fun e => by simp only [get_ne (show 4 ≠ 9 by decide)]; exact h.s6 e,
    fun e => by show ConnMade H _ w; rw [get_ne (by decide)]; exact h.s7 e,
    fun e => by show ConnMade H _ w; rw [get_ne (by decide)]; exact h.s8 e⟩
theorem NC.put2 (h : NC H m W b0 b1 b2 b3 b4 b5 b6 b7 b8 a w) (r : Nat) : NC H m W b0 b1 true b3 b4 b5 b6 b7 b8 { tmps := a.tmps.setIfInBounds 5 (.chan (some r)), defers := a.defers } w :=
  ⟨by simp [h.size], h.defers, (get_ne (by decide)).trans h.t0, h.bel,
    fun e => (get_ne (by decide)).trans (h.s0 e),
    fun e => by simp only [get_ne (show 5 ≠ 4 by decide)]; exact h.s1 e,
    fun _ => ⟨r, get_eq (by rw [h.size]; decide)⟩,
    fun e => by simp only [get_ne (show 5 ≠ 6 by decide)]; exact h.s3 e,
    fun e => by simp only [get_ne (show 5 ≠ 7 by decide)]; exact h.s4 e,
    fun e => by simp only [get_ne (show 5 ≠ 8 by decide)]; exact h.s5 e,
    fun e => by simp only [get_ne (show 5 ≠ 9 by decide)]; exact h.s6 e,
    fun e => by show ConnMade H _ w; rw [get_ne (by decide)]; exact h.s7 e,
    fun e => by show ConnMade H _ w; rw [get_ne (by decide)]; exact h.s8 e⟩
theorem NC.put3 (h : NC H m W b0 b1 b2 b3 b4 b5 b6 b7 b8 a w) (r : Nat) (hr : w.heap[r]? = some (.map #[] 0)) (hH : H ≤ r) : NC H m W b0 b1 b2 true b4 b5 b6 b7 b8 { tmps := a.tmps.setIfInBounds 6 (.map (some r)), defers := a.defers } w :=
  ⟨by simp [h.size], h.defers, (get_ne (by decide)).trans h.t0, h.bel,
    fun e => (get_ne (by decide)).trans (h.s0 e),
    fun e => by simp only [get_ne (show 6 ≠ 4 by decide)]; exact h.s1 e,
    fun e => by simp only [get_ne (show 6 ≠ 5 by decide)]; exact h.s2 e,
    fun _ => ⟨r, get_eq (by rw [h.size]; decide), hr, hH⟩,
    fun e => by simp only [get_ne (show 6 ≠ 7 by decide)]; exact h.s4 e,
    fun e => by simp only [get_ne (show 6 ≠ 8 by decide)]; exact h.s5 e,
    fun e => by simp only [get_ne (show 6 ≠ 9 by decide)]; exact h.s6 e,
    fun e => by show ConnMade H _ w; rw [get_ne (by decide)]; exact h.s7 e,
    fun e => by show ConnMade H _ w; rw [get_ne (by decide)]; exact h.s8 e⟩
theorem NC.put4 (h : NC H m W b0 b1 b2 b3 b4 b5 b6 b7 b8 a w) (r : Nat) : NC H m W b0 b1 b2 b3 true b5 b6 b7 b8 { tmps := a.tmps.setIfInBounds 7 (.map (some r)), defers := a.defers } w :=
  ⟨by simp [h.size], h.defers, (get_ne (by decide)).trans h.t0, h.bel,
    fun e => (get_ne (by decide)).trans (h.s0 e),
    fun e => by simp only [get_ne (show 7 ≠ 4 by decide)]; exact h.s1 e,
    fun e => by simp only [get_ne (show 7 ≠ 5 by decide)]; exact h.s2 e,
    fun e => by simp only [get_ne (show 7 ≠ 6 by decide)]; exact h.s3 e,
    fun _ => ⟨r, get_eq (by rw [h.size]; decide)⟩,
    fun e => by simp only [get_ne (show 7 ≠ 8 by decide)]; exact h.s5 e,
    fun e => by simp only [get_ne (show 7 ≠ 9 by decide)]; exact h.s6 e,
    fun e => by show ConnMade H _ w; rw [get_ne (by decide)]; exact h.s7 e,
    fun e => by show ConnMade H _ w; rw [get_ne (by decide)]; exact h.s8 e⟩
theorem NC.put5 (h : NC H m W b0 b1 b2 b3 b4 b5 b6 b7 b8 a w) (r : Nat) : NC H m W b0 b1 b2 b3 b4 true b6 b7 b8 { tmps := a.tmps.setIfInBounds 8 (.map (some r)), defers := a.defers } w :=
  ⟨by simp [h.size], h.defers, (get_ne (by decide)).trans h.t0, h.bel,
    fun e => (get_ne (by decide)).trans (h.s0 e),
    fun e => by simp only [get_ne (show 8 ≠ 4 by decide)]; exact h.s1 e,
    fun e => by simp only [get_ne (show 8 ≠ 5 by decide)]; exact h.s2 e,
    fun e => by simp only [get_ne (show 8 ≠ 6 by decide)]; exact h.s3 e,
    fun e => by simp only [get_ne (show 8 ≠ 7 by decide)]; exact h.s4 e,
    fun _ => ⟨r, get_eq (by rw [h.size]; decide)⟩,
    fun e => by simp only [get_ne (show 8 ≠ 9 by decide)]; exact h.s6 e,
    fun e => by show ConnMade H _ w; rw [get_ne (by decide)]; exact h.s7 e,
    fun e => by show ConnMade H _ w; rw [get_ne (by decide)]; exact h.s8 e⟩
theorem NC.put6 (h : NC H m W b0 b1 b2 b3 b4 b5 b6 b7 b8 a w) (r1 r2 r3 r4 r5 : Nat) (hr : w.heap[r3]? = some (.map #[] 0)) (hH : H ≤ r3) : NC H m W b0 b1 b2 b3 b4 b5 true b7 b8 { tmps := a.tmps.setIfInBounds 9 (.agg (connC m r1 r2 r3 r4 r5)), defers := a.defers } w :=
  ⟨by simp [h.size], h.defers, (get_ne (by decide)).trans h.t0, h.bel,
    fun e => (get_ne (by decide)).trans (h.s0 e),
    fun e => by simp only [get_ne (show 9 ≠ 4 by decide)]; exact h.s1 e,
    fun e => by simp only [get_ne (show 9 ≠ 5 by decide)]; exact h.s2 e,
    fun e => by simp only [get_ne (show 9 ≠ 6 by decide)]; exact h.s3 e,
    fun e => by simp only [get_ne (show 9 ≠ 7 by decide)]; exact h.s4 e,
    fun e => by simp only [get_ne (show 9 ≠ 8 by decide)]; exact h.s5 e,
    fun _ => ⟨r1, r2, r3, r4, r5, get_eq (by rw [h.size]; decide), hr, hH⟩,
    fun e => by show ConnMade H _ w; rw [get_ne (by decide)]; exact h.s7 e,
    fun e => by show ConnMade H _ w; rw [get_ne (by decide)]; exact h.s8 e⟩
theorem NC.put7 (h : NC H m W b0 b1 b2 b3 b4 b5 b6 b7 b8 a w) (v : Value) (hv : ConnMade H (some v) w) : NC H m W b0 b1 b2 b3 b4 b5 b6 true b8 { tmps := a.tmps.setIfInBounds 10 (v), defers := a.defers } w :=
  ⟨by simp [h.size], h.defers, (get_ne (by decide)).trans h.t0, h.bel,
    fun e => (get_ne (by decide)).trans (h.s0 e),
    fun e => by simp only [get_ne (show 10 ≠ 4 by decide)]; exact h.s1 e,
    fun e => by simp only [get_ne (show 10 ≠ 5 by decide)]; exact h.s2 e,
    fun e => by simp only [get_ne (show 10 ≠ 6 by decide)]; exact h.s3 e,
    fun e => by simp only [get_ne (show 10 ≠ 7 by decide)]; exact h.s4 e,
    fun e => by simp only [get_ne (show 10 ≠ 8 by decide)]; exact h.s5 e,
    fun e => by simp only [get_ne (show 10 ≠ 9 by decide)]; exact h.s6 e,
    fun _ => by show ConnMade H _ w; rw [get_eq (by rw [h.size]; decide)]; exact hv,
    fun e => by show ConnMade H _ w; rw [get_ne (by decide)]; exact h.s8 e⟩
theorem NC.put8 (h : NC H m W b0 b1 b2 b3 b4 b5 b6 b7 b8 a w) (v : Value) (hv : ConnMade H (some v) w) : NC H m W b0 b1 b2 b3 b4 b5 b6 b7 true { tmps := a.tmps.setIfInBounds 2 (v), defers := a.defers } w :=
  ⟨by simp [h.size], h.defers, (get_ne (by decide)).trans h.t0, h.bel,
    fun e => (get_ne (by decide)).trans (h.s0 e),
    fun e => by simp only [get_ne (show 2 ≠ 4 by decide)]; exact h.s1 e,
    fun e => by simp only [get_ne (show 2 ≠ 5 by decide)]; exact h.s2 e,
    fun e => by simp only [get_ne (show 2 ≠ 6 by decide)]; exact h.s3 e,
    fun e => by simp only [get_ne (show 2 ≠ 7 by decide)]; exact h.s4 e,
    fun e => by simp only [get_ne (show 2 ≠ 8 by decide)]; exact h.s5 e,
    fun e => by simp only [get_ne (show 2 ≠ 9 by decide)]; exact h.s6 e,
    fun e => by show ConnMade H _ w; rw [get_ne (by decide)]; exact h.s7 e,
    fun _ => by show ConnMade H _ w; rw [get_eq (by rw [h.size]; decide)]; exact hv⟩
end

def NCI (H : Nat) (m : Int) (W : World) (l : Array Bool) (a : Act) (w : World) : Prop := ∃ b0 b1 b2 b3 b4 b5 b6 b7 b8, l = #[b0, b1, b2, b3, b4, b5, b6, b7, b8] ∧ NC H m W b0 b1 b2 b3 b4 b5 b6 b7 b8 a w

theorem eval_tmp {a : Act} {t : Nat} {v : Value} (h : a.tmps[t]? = some v) : a.eval (.tmp t) = v := by
  show a.tmps.getD t undef = v
  rw [Array.getD_eq_getD_getElem?, h]; rfl

theorem newConn_region (H : Nat) (m : Int) (W : World) (hH : H ≤ W.heap.size) (Q : Exit → Act → World → Prop) (a : Act) (w : World)
    (hend : ∀ a w, NC H m W true true true true true true true true true a w ∨ (∃ b0 b1 b2 b3 b4 b5 b6 b7, NC H m W b0 b1 b2 b3 b4 b5 b6 b7 true a w) → Q .normal a w)
    (h : NC H m W false false false false false false false false false a w) : wpAny Try.prog .any ops12 Q 9 (Array.replicate 9 false) a w := by
  refine wpAny_inv (NCI H m W) ?_ ?_ 9 _ a w (by decide) ⟨_, _, _, _, _, _, _, _, _, rfl, h⟩
  · rintro l a w ⟨b0, b1, b2, b3, b4, b5, b6, b7, b8, rfl, h⟩ i hi
    have hall := List.all_eq_true.1 (ready_all b0 b1 b2 b3 b4 b5 b6 b7 b8) i hi
    have hS : H ≤ w.heap.size := Nat.le_trans hH h.bel.size
    have hlt : i < 9 := by
      simp only [Bool.and_eq_true, decide_eq_true_eq] at hall
      exact hall.1.1.1
    clear hi
    match i, hlt with
    | 0, _ =>
      obtain ⟨o, ho, hop, hg, hd⟩ := o0
      exact wpOp_value 3 ho hg hd (by simp only [execOp, hop, eval_tmp h.t0]; rfl) ⟨_, _, _, _, _, _, _, _, _, rfl, h.put0⟩
    | 1, _ =>
      obtain ⟨o, ho, hop, hg, hd⟩ := o1
      exact wpOp_value 4 ho hg hd (by simp only [execOp, hop, Act.eval, Sem.run_bind, chan53]; rfl) ⟨_, _, _, _, _, _, _, _, _, rfl, (h.alloc hS _).put1 _⟩
    | 2, _ =>
      obtain ⟨o, ho, hop, hg, hd⟩ := o2
      exact wpOp_value 5 ho hg hd (by simp only [execOp, hop, Act.eval, Sem.run_bind, chan60]; rfl) ⟨_, _, _, _, _, _, _, _, _, rfl, (h.alloc hS _).put2 _⟩
    | 3, _ =>
      obtain ⟨o, ho, hop, hg, hd⟩ := o3
      exact wpOp_value 6 ho hg hd (by simp only [execOp, hop]; rfl) ⟨_, _, _, _, _, _, _, _, _, rfl, (h.alloc hS (.map #[] 0)).put3 w.heap.size (by show (w.heap.push _)[w.heap.size]? = _; simp) hS⟩
    | 4, _ =>
      obtain ⟨o, ho, hop, hg, hd⟩ := o4
      exact wpOp_value 7 ho hg hd (by simp only [execOp, hop]; rfl) ⟨_, _, _, _, _, _, _, _, _, rfl, (h.alloc hS (.map #[] 0)).put4 _⟩
    | 5, _ =>
      obtain ⟨o, ho, hop, hg, hd⟩ := o5
      exact wpOp_value 8 ho hg hd (by simp only [execOp, hop]; rfl) ⟨_, _, _, _, _, _, _, _, _, rfl, (h.alloc hS (.map #[] 0)).put5 _⟩
    | 6, _ =>
      obtain ⟨⟨⟨⟨⟨rfl, rfl⟩, rfl⟩, rfl⟩, rfl⟩, rfl⟩ : ((((b0 = true ∧ b1 = true) ∧ b2 = true) ∧ b3 = true) ∧ b4 = true) ∧ b5 = true := by simpa using hall
      obtain ⟨r1, h1⟩ := h.s1 rfl
      obtain ⟨r2, h2⟩ := h.s2 rfl
      obtain ⟨r3, h3, hm, hr⟩ := h.s3 rfl
      obtain ⟨r4, h4⟩ := h.s4 rfl
      obtain ⟨r5, h5⟩ := h.s5 rfl
      obtain ⟨o, ho, hop, hg, hd⟩ := o6
      exact wpOp_value 9 ho hg hd (by simp only [execOp, hop, List.map_toArray, List.map_cons, List.map_nil, eval_tmp (h.s0 rfl), eval_tmp h1, eval_tmp h2, eval_tmp h3, eval_tmp h4, eval_tmp h5, Sem.run_bind, conn_build]; rfl) ⟨_, _, _, _, _, _, _, _, _, rfl, h.put6 r1 r2 r3 r4 r5 hm hr⟩
    | 7, _ =>
      obtain rfl : b6 = true := by simpa using hall
      obtain ⟨r1, r2, r3, r4, r5, h9, hm, hr⟩ := h.s6 rfl
      obtain ⟨o, ho, hop, hg, hd⟩ := o7
      exact wpOp_value 10 ho hg hd (by simp only [execOp, hop, eval_tmp h9, Sem.run_bind, conn_box]; rfl) ⟨_, _, _, _, _, _, _, _, _, rfl, (h.alloc hS _).put7 _ ⟨_, r3, connC m r1 r2 r3 r4 r5, rfl, ⟨by show (w.heap.push _)[w.heap.size]? = _; simp, rfl, rfl, rfl, rfl⟩, heap_alloc_old hm, hr, hS⟩⟩
    | 8, _ =>
      obtain rfl : b7 = true := by simpa using hall
      obtain ⟨cb, mb, C, hv, hc⟩ := h.s7 rfl
      obtain ⟨o, ho, hop, hg, hd⟩ := o8
      exact wpOp_value 2 ho hg hd (by simp only [execOp, hop, eval_tmp hv]; rfl) ⟨_, _, _, _, _, _, _, _, _, rfl, h.put8 _ ⟨cb, mb, C, rfl, hc⟩⟩
  · rintro l a w ⟨b0, b1, b2, b3, b4, b5, b6, b7, b8, rfl, h⟩ hr
    obtain rfl := ready_end _ _ _ _ _ _ _ _ _ hr
    exact hend _ _ (.inr ⟨_, _, _, _, _, _, _, _, h⟩)

theorem newConn_any (m : Int) (w : World) : Calls Try.prog 12 #[.int .u32 m] w fun e w' => ∃ cb mb C, e = .returned (.pointer (some ⟨cb, 0, none⟩)) ∧ ConnAt w' cb mb 0 0 (.slice none 0 0) C ∧ w'.heap[mb]? = some (.map #[] 0) ∧ w.heap.size ≤ mb ∧ w.heap.size ≤ cb ∧ Below w.heap.size w w' := by
  go_enter Try.func12, Try.ntmps12
  go_upto_region 1 with fail
  refine wp_region_any (by kernel_rfl) ?_
  refine newConn_region w.heap.size m w (Nat.le_refl _) _ _ _ ?_ ⟨rfl, rfl, rfl, (Below.refl _ _).drew, nofun, nofun, nofun, nofun, nofun, nofun, nofun, nofun, nofun⟩
  rintro ⟨t, df⟩ w' h'
  obtain ⟨hsz, hdf, hbel, cb, mb, C, hv, hc, hm, h1, h2⟩ : t.size = 11 ∧ df = [] ∧ Below w.heap.size w w' ∧ ConnMade w.heap.size t[2]? w' := by
    rcases h' with h | ⟨_, _, _, _, _, _, _, _, h⟩ <;> exact ⟨h.size, h.defers, h.bel, h.s8 rfl⟩
  clear h'
  subst hdf
  obtain ⟨x0, x1, x2, x3, x4, x5, x6, x7, x8, x9, x10, rfl⟩ : ∃ x0 x1 x2 x3 x4 x5 x6 x7 x8 x9 x10, t = #[x0, x1, x2, x3, x4, x5, x6, x7, x8, x9, x10] := by
    obtain ⟨l⟩ := t
    match l, hsz with
    | [x0, x1, x2, x3, x4, x5, x6, x7, x8, x9, x10], _ => exact ⟨_, _, _, _, _, _, _, _, _, _, _, rfl⟩
  obtain rfl : x2 = .pointer (some ⟨cb, 0, none⟩) := Option.some.inj hv
  go_wp2
  go_ret
  exact ⟨cb, mb, C, rfl, hc, hm, h1, h2, hbel⟩
end Go.Proofs.Qxb6616696a
