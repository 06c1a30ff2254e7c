/-
  'deliver' to a call made with OnPart.
-/
import Derived.Test.Qxb6616696aDeliver
import Derived.Deep.AppendLies
import Derived.Deep.RegionLaw
namespace Go.Proofs.Qxb6616696a
open Go.RowKit Go.Conc
attribute [local go_sem ↓] Go.wp_at_zero Go.wp_at_succ

theorem info59m : (Try.prog.info? 59).map (fun i => (i.zero, i.size, i.bytes)) = some (some (.agg #[.int .u8 0, .int .u64 0, .slice none 0 0]), 3, 40) := by kernel_rfl
theorem info59 : ∃ i, Try.prog.info? 59 = some i ∧ i.zero = some (.agg #[.int .u8 0, .int .u64 0, .slice none 0 0]) ∧ i.size = 3 ∧ i.bytes = 40 := by
  obtain ⟨i, hi, hzz⟩ := Option.map_eq_some_iff.1 info59m
  simp only [Prod.mk.injEq] at hzz
  exact ⟨i, hi, hzz.1, hzz.2.1, hzz.2.2⟩

/-- A row that is owned is owned in every world that keeps its block. -/
theorem own_keep {w w' : World} {base : Nat} {e : TypeId} {size : Nat} {v : Value} {n : Nat} {xs : List Value} (h : w.ownsRow base e size v n xs) (hk : ∀ g, v.ownBlock = some g → w'.heap[g]? = w.heap[g]?) : w'.ownsRow base e size v n xs := by
  obtain ⟨h1, h2⟩ := h
  refine ⟨h1, ?_⟩
  rcases h2 with h2 | ⟨g, cap, cur, hv, hg, hh, r⟩
  · exact .inl h2
  · exact .inr ⟨g, cap, cur, hv, hg, by rw [hk g (by rw [hv]; rfl)]; exact hh, r⟩
theorem own_heap {w : World} {base : Nat} {e : TypeId} {size : Nat} {v : Value} {n g : Nat} {xs : List Value} (h : w.ownsRow base e size v n xs) (hg : v.ownBlock = some g) : base ≤ g ∧ ∃ cur, w.heap[g]? = some (.cells cur e (0, 0)) := by
  rcases h.2 with ⟨rfl, _⟩ | ⟨g', cap, cur, rfl, hb, hh, _⟩
  · cases hg
  · cases hg
    exact ⟨hb, cur, hh⟩

/-- An append whose run is known, at a step of a region that draws. -/
theorem step_append_run {P : Program} {ops : Array Oper} {o : Oper} {a : Act} {w w' : World} {K : Act → World → Prop} {Q : Exit → Act → World → Prop} {E : Prop} (hgd : o.guard = none) (s x : Operand) (t : TypeId)
    (ho : o.op = .call { callee := .builtin .append, args := #[s, x], argTypes := #[t, t] }) (v u r : Value) (hs : a.eval s = v) (hx : a.eval x = u) (hrun : (Builtin.append_ #[t, t] o.type #[v, u]).run P w = .ok r w')
    (h : K (a.put o.dst r) w') : if Region.wanted o (yielded ops a.tmps) = true then Oper.wp P o a w K Q else E := by
  have hw : Region.wanted o (yielded ops a.tmps) = true := by simp [Region.wanted, hgd]
  rw [if_pos hw]
  unfold Oper.wp execOp
  simp only [ho, resolve, invoke, builtin, Sem.run_bind, Sem.run_pure, Result.andThen_ok, List.map_toArray, List.map_cons, List.map_nil, hs, hx, hrun]
  exact h

/-- ONE append of a frame onto the waiter's frames, at a world in which the frame lies in block fb and its copy has just been laid in the last block. -/
theorem append_frame {W : World} {base n : Nat} {fs : Value} {xs : List Value} {a b c : Value} (ty : TypeId) (hown : W.ownsRow base 59 3 fs n xs) (hb : base ≤ W.heap.size) (hn : n ≤ 100000) (g : Nat) (hlast : W.heap[g]? = some (.cells #[a, b, c] 59 (0, 0)))
    (h1 : a.oneCell' = true) (h2 : b.oneCell' = true) (h3 : c.oneCell' = true) :
    ∃ g' cap w', (Builtin.append_ #[52, 52] ty #[fs, .slice (some ⟨g, 0, none⟩) 1 1]).run Try.prog W = .ok (.slice (some ⟨g', 0, none⟩) (n + 1) cap) w' ∧
      w'.ownsRow base 59 3 (.slice (some ⟨g', 0, none⟩) (n + 1) cap) (n + 1) (xs ++ [a, b, c]) ∧ W.grownBy w' fs.ownBlock ∧ (fs.ownBlock = some g' ∨ g' = W.heap.size) ∧ g' < w'.heap.size := by
  obtain ⟨i, hi, hz, hs, hy⟩ := info59
  exact run_append_lies (P := Try.prog) W 52 ty base 59 i _ 3 40 Try.underlying52 hi hz hs hy rfl (by omega) fs n xs hown ⟨g, 0, none⟩ 1 1 [a, b, c] rfl (World.news_of_block hlast) (by simp [h1, h2, h3]) (by omega) (by unfold maxLen; omega) (by omega) hb _ rfl

theorem Hid.mk {p : Prop} (h : p) : Hid p := h
/-- What a delivery to a call with OnPart leaves. -/
def PartsPost (W : World) (B cb mb wb rc : Nat) (out : Value) (es' : Array MapEntry) (ck n : Nat) (fs : Value) (xs : List Value) (t id : Int) (body : Value) (e : Ending) (w' : World) : Prop :=
  e = .returned (.tuple #[]) ∧ ∃ g cap s r, ES w' cb mb wb rc out es' ck #[.chan none, .bool true, .slice (some ⟨g, 0, none⟩) (n + 1) cap, .int .i64 0, .chan (some rc), .int .i64 0] (.chan 1 #[.agg #[]] false s r false) ∧
    w'.ownsRow B 59 3 (.slice (some ⟨g, 0, none⟩) (n + 1) cap) (n + 1) (xs ++ [.int .u8 t, .int .u64 id, body]) ∧
    Kept W w' (fun k => k = cb ∨ k = mb ∨ k = wb ∨ k = rc ∨ fs.ownBlock = some k)

variable {W : World} {cb mb wb rc ck : Nat} {out : Value} {es : Array MapEntry}

set_option maxHeartbeats 2000000 in
theorem deliver_part7 (B n : Nat) (id : Int) (ba : Option Addr) (bl bc : Nat) (fs : Value) (xs : List Value) (buf : Array Value) (s r : Nat)
    (E : ES W cb mb wb rc out es ck #[.chan none, .bool true, fs, .int .i64 0, .chan (some rc), .int .i64 0] (.chan 1 buf false s r false)) (hbuf : buf = #[] ∨ buf = #[.agg #[]])
    (hown : W.ownsRow B 59 3 fs n xs) (hB : B ≤ W.heap.size) (hn : n ≤ 100000)
    (hlook : ∀ W' : World, W'.heap[mb]? = some (.map es ck) → (Instr.lookup 61 (.map (some mb)) (.int .u64 id) false).run Try.prog W' = .ok (.pointer (some ⟨wb, 0, none⟩)) W') :
    Calls Try.prog 29 #[.pointer (some ⟨cb, 0, none⟩), .agg #[.int .u8 7, .int .u64 id, .slice ba bl bc]] W (PartsPost W B cb mb wb rc out es ck n fs xs 7 id (.slice ba bl bc)) := by
  have D0 := E.boxed #[.int .u8 7, .int .u64 id, .slice ba bl bc]
  have hk0 : Kept W (W.alloc (.cells #[.int .u8 7, .int .u64 id, .slice ba bl bc] 59)) (fun k => k = cb ∨ k = mb ∨ k = wb ∨ k = rc ∨ fs.ownBlock = some k) := (Kept.refl W _).alloc _
  have HL : Hid (∀ W' : World, W'.heap[mb]? = some (.map es ck) → (Instr.lookup 61 (.map (some mb)) (.int .u64 id) false).run Try.prog W' = .ok (.pointer (some ⟨wb, 0, none⟩)) W') := hlook
  clear hlook
  obtain ⟨fb, hfb⟩ : ∃ fb, W.heap.size = fb := ⟨_, rfl⟩
  have hown0 : (W.alloc (.cells #[.int .u8 7, .int .u64 id, .slice ba bl bc] 59)).ownsRow B 59 3 fs n xs := own_keep hown fun g hg => by
    obtain ⟨_, cur, hc⟩ := own_heap hown hg
    exact Below.heap_alloc _ _ _ (lt_of_heap hc)
  have hfs : ∀ g, fs.ownBlock = some g → g ≠ cb ∧ g ≠ mb ∧ g ≠ wb ∧ g ≠ rc ∧ g ≠ fb := fun g hg => by
    obtain ⟨_, cur, hc⟩ := own_heap hown hg
    obtain ⟨⟨C, hC⟩, h2, h3, h4, _⟩ := E
    have h1 := hC.heap
    refine ⟨?_, ?_, ?_, ?_, ?_⟩
    all_goals (intro e; subst e; simp_all)
  rw [hfb] at D0
  go_enter Try.func29, Try.ntmps29
  go_wp2_with fail
  refine (lock14 D0).mono ?_
  rintro e W1 ⟨rfl, D1, k1⟩
  have hk1 := hk0.trans (k1.mono fun k h => .inl h)
  have hown1 : W1.ownsRow B 59 3 fs n xs := own_keep hown0 fun g hg => k1.block g (by obtain ⟨_, cur, hc⟩ := own_heap hown0 hg; exact lt_of_heap hc) (hfs g hg).1
  have hB1 : B ≤ W1.heap.size := Nat.le_trans hB hk1.size
  clear D0 hk0 k1 E hown hown0 hB
  obtain ⟨C1, hC1⟩ := D1.conn
  have a16 := (hC1.cell 16).trans hC1.c16
  have f0 : W1.cell? ⟨fb, 0, none⟩ = some (.int .u8 7) := cell_of D1.box 0
  have f1 : W1.cell? ⟨fb, 1, none⟩ = some (.int .u64 id) := cell_of D1.box 1
  have f2 : W1.cell? ⟨fb, 2, none⟩ = some (.slice ba bl bc) := cell_of D1.box 2
  have w1 : W1.cell? ⟨wb, 1, none⟩ = some (.bool true) := cell_of D1.wait 1
  have w2 : W1.cell? ⟨wb, 2, none⟩ = some fs := cell_of D1.wait 2
  have z2 : W1.frozen? ⟨wb, 2, none⟩ = false := frozen_of D1.wait 2
  have hm1 := HL.out W1.drew D1.map
  have hwl : wb < W1.heap.size := lt_of_heap D1.wait
  have hfl : fb < W1.heap.size := lt_of_heap D1.box
  go_wp2_with fail
  go_region_held3 (fun w' => w'.cell? ⟨cb, 16, none⟩ = some (.map (some mb)) ∧ w'.cell? ⟨fb, 1, none⟩ = some (.int .u64 id)) (go_keep) (fail)
  clear hm1 HL
  have D1' := D1.drew
  have hk1' := hk1.drew
  have hown1' : W1.drew.ownsRow B 59 3 fs n xs := own_keep hown1 fun _ _ => rfl
  have hB1' : B ≤ W1.drew.heap.size := hB1
  clear a16 f0 f1 f2 w1 w2 z2 hwl hfl hC1 D1 hk1 hown1 hB1
  generalize W1.drew = W6 at *
  have f0 : W6.cell? ⟨fb, 0, none⟩ = some (.int .u8 7) := cell_of D1'.box 0
  have f1 : W6.cell? ⟨fb, 1, none⟩ = some (.int .u64 id) := cell_of D1'.box 1
  have f2 : W6.cell? ⟨fb, 2, none⟩ = some (.slice ba bl bc) := cell_of D1'.box 2
  have w1 : W6.cell? ⟨wb, 1, none⟩ = some (.bool true) := cell_of D1'.wait 1
  have w2 : W6.cell? ⟨wb, 2, none⟩ = some fs := cell_of D1'.wait 2
  have z2 : W6.frozen? ⟨wb, 2, none⟩ = false := frozen_of D1'.wait 2
  have hwl : wb < W6.heap.size := lt_of_heap D1'.wait
  have hfl : fb < W6.heap.size := lt_of_heap D1'.box
  -- the append
  have hlast : ((W6.alloc (.cells #[.int .u8 7, .int .u64 id, .slice ba bl bc] 59)).drew).heap[W6.heap.size]? = some (.cells #[.int .u8 7, .int .u64 id, .slice ba bl bc] 59 (0, 0)) := (MapKept.heap_alloc W6 _).1
  have hown2 : ((W6.alloc (.cells #[.int .u8 7, .int .u64 id, .slice ba bl bc] 59)).drew).ownsRow B 59 3 fs n xs := own_keep hown1' fun g hg => by
    obtain ⟨_, cur, hc⟩ := own_heap hown1' hg
    exact Below.heap_alloc _ _ _ (lt_of_heap hc)
  obtain ⟨g, cap, W2, hrun, hown3, hgrow, hat, hlt⟩ := append_frame 52 hown2 (by show B ≤ (W6.alloc _).heap.size; simp; omega) hn W6.heap.size hlast rfl rfl rfl
  have hsz2 : (W6.alloc (.cells #[.int .u8 7, .int .u64 id, .slice ba bl bc] 59)).drew.heap.size = W6.heap.size + 1 := by show (W6.alloc _).heap.size = _; simp
  have D2 : DS W2 cb mb wb rc fb 1 0 out es ck #[.chan none, .bool true, fs, .int .i64 0, .chan (some rc), .int .i64 0] (.chan 1 buf false s r false) #[.int .u8 7, .int .u64 id, .slice ba bl bc] :=
    D1'.kept fun k hk => by
      have hlt : k < W6.heap.size := by
        obtain ⟨⟨C, hC⟩, h2, h3, h4, h5, _⟩ := D1'
        rcases hk with rfl | rfl | rfl | rfl | rfl
        · exact lt_of_heap hC.heap
        · exact lt_of_heap h2
        · exact lt_of_heap h3
        · exact lt_of_heap h4
        · exact lt_of_heap h5
      rw [hgrow.block k (by omega) (fun e => by
        have := hfs k e.symm
        obtain ⟨q1, q2, q3, q4, q5⟩ := this
        rcases hk with h | h | h | h | h
        · exact q1 h
        · exact q2 h
        · exact q3 h
        · exact q4 h
        · exact q5 h)]
      exact Below.heap_alloc _ _ _ hlt
  have hk2 : Kept W W2 (fun k => k = cb ∨ k = mb ∨ k = wb ∨ k = rc ∨ fs.ownBlock = some k) :=
    ((hk1'.alloc (.cells #[.int .u8 7, .int .u64 id, .slice ba bl bc] 59)).drew).trans ⟨hgrow.os, hgrow.tape, hgrow.output, hgrow.size, fun k hk hn => hgrow.block k hk (fun e => hn (.inr (.inr (.inr (.inr e.symm)))))⟩
  have y2 : W2.cell? ⟨wb, 2, none⟩ = some fs := cell_of D2.wait 2
  have yz : W2.frozen? ⟨wb, 2, none⟩ = false := frozen_of D2.wait 2
  clear hown1' hown2 hlast hgrow hB1' hk1'
  go_wp2_with fail
  have HR := Hid.mk hrun
  clear hrun
  go_region_law (refine step_append_run (by rfl) _ _ 52 (by rfl) _ _ _ (by rfl) (by rfl) HR.out ?_)
  all_goals
    have D3 := D2.setWait 2 (.slice (some ⟨g, 0, none⟩) (n + 1) cap)
    have hk3 := hk2.setCell (p := ⟨wb, 2, none⟩) (.inl (.inr (.inr (.inl rfl)))) (.slice (some ⟨g, 0, none⟩) (n + 1) cap)
    have hown4 : (W2.setCell ⟨wb, 2, none⟩ (.slice (some ⟨g, 0, none⟩) (n + 1) cap)).ownsRow B 59 3 (.slice (some ⟨g, 0, none⟩) (n + 1) cap) (n + 1) (xs ++ [.int .u8 7, .int .u64 id, .slice ba bl bc]) :=
      own_keep hown3 fun k hk => Below.heap_setCell _ _ _ _ (fun e => by
        cases hk
        obtain ⟨_, cur, hc⟩ := own_heap hown3 rfl
        have := D2.wait
        have e' : g = wb := e
        subst e'
        rw [hc] at this
        cases this)
    clear D2 hk2 hown3 y2 yz HR hat
    generalize W2.setCell ⟨wb, 2, none⟩ (.slice (some ⟨g, 0, none⟩) (n + 1) cap) = W3 at *
    have w4 : W3.cell? ⟨wb, 4, none⟩ = some (.chan (some rc)) := cell_of D3.wait 4
    go_upto_region 12 with fail
    refine wp_region_S ?_
    show WpS _ _ _ [0, 1, 2] _ _
    rcases hbuf with rfl | rfl
    · refine WpS.selRoom (c := rc) (v := .agg #[]) (z := .agg #[]) (w₁ := W3) 54 rfl rfl rfl (by go_simp; rfl) D3.chan (by simp) ?_
      have D4 := D3.setChan 1 #[.agg #[]] false (s + 1) r false
      have hk4 := hk3.setChan (c := rc) (.inr (.inr (.inr (.inl rfl)))) 1 #[.agg #[]] false (s + 1) r false
      have hown5 : (W3.setChan rc 1 #[.agg #[]] false (s + 1) r false).ownsRow B 59 3 (.slice (some ⟨g, 0, none⟩) (n + 1) cap) (n + 1) (xs ++ [.int .u8 7, .int .u64 id, .slice ba bl bc]) :=
        own_keep hown4 fun k hk => setChan_other (fun e => by
          cases hk
          obtain ⟨_, cur, hc⟩ := own_heap hown4 rfl
          have := D3.chan
          subst e
          rw [hc] at this
          cases this)
      change WpS _ _ _ _ _ (W3.setChan rc 1 #[.agg #[]] false (s + 1) r false)
      clear D3 hk3 hown4 w4
      generalize W3.setChan rc 1 #[.agg #[]] false (s + 1) r false = W4 at *
      refine WpS.value (v := .int .i64 0) (w' := W4) 55 rfl rfl rfl (by go_simp) ?_
      refine WpS.value (v := .bool true) (w' := W4) 56 rfl rfl rfl (by go_simp) ?_
      refine WpS.nil ?_
      go_wp2_with fail
      refine (unlock14 D4).mono ?_
      rintro e W5 ⟨rfl, D5, k5⟩
      go_wp2
      go_end0
      refine ⟨rfl, g, cap, s + 1, r, D5.unbox, own_keep hown5 fun k hk => ?_, hk4.trans (k5.mono fun k h => .inl h)⟩
      obtain ⟨_, cur, hc⟩ := own_heap hown5 hk
      exact k5.block k (lt_of_heap hc) (fun e => by
        obtain ⟨⟨C, hC⟩, _⟩ := D4
        have := hC.heap
        subst e
        rw [hc] at this
        cases this)
    · refine WpS.selFull (c := rc) (v := .agg #[]) (z := .agg #[]) (w₁ := W3) 54 rfl rfl rfl (by go_simp; rfl) D3.chan (by simp) ?_
      clear w4
      refine WpS.value (v := .int .i64 (-1)) (w' := W3) 55 rfl rfl rfl (by go_simp) ?_
      refine WpS.value (v := .bool false) (w' := W3) 56 rfl rfl rfl (by go_simp) ?_
      refine WpS.nil ?_
      go_wp2_with fail
      refine (unlock14 D3).mono ?_
      rintro e W5 ⟨rfl, D5, k5⟩
      go_wp2
      go_end0
      refine ⟨rfl, g, cap, s, r, D5.unbox, own_keep hown4 fun k hk => ?_, hk3.trans (k5.mono fun k h => .inl h)⟩
      obtain ⟨_, cur, hc⟩ := own_heap hown4 hk
      exact k5.block k (lt_of_heap hc) (fun e => by
        obtain ⟨⟨C, hC⟩, _⟩ := D3
        have := hC.heap
        subst e
        rw [hc] at this
        cases this)

set_option maxHeartbeats 2000000 in
theorem deliver_partEnd (B n : Nat) (t id : Int) (ht : (t != 7) = true) (born : Nat) (ba : Option Addr) (bl bc : Nat) (fs : Value) (xs : List Value) (buf : Array Value) (s r : Nat)
    (E : ES W cb mb wb rc out #[⟨.int .u64 id, .pointer (some ⟨wb, 0, none⟩), born⟩] ck #[.chan none, .bool true, fs, .int .i64 0, .chan (some rc), .int .i64 0] (.chan 1 buf false s r false)) (hbuf : buf = #[] ∨ buf = #[.agg #[]])
    (hown : W.ownsRow B 59 3 fs n xs) (hB : B ≤ W.heap.size) (hn : n ≤ 100000) :
    Calls Try.prog 29 #[.pointer (some ⟨cb, 0, none⟩), .agg #[.int .u8 t, .int .u64 id, .slice ba bl bc]] W (PartsPost W B cb mb wb rc out #[] ck n fs xs t id (.slice ba bl bc)) := by
  have D0 := E.boxed #[.int .u8 t, .int .u64 id, .slice ba bl bc]
  have hk0 : Kept W (W.alloc (.cells #[.int .u8 t, .int .u64 id, .slice ba bl bc] 59)) (fun k => k = cb ∨ k = mb ∨ k = wb ∨ k = rc ∨ fs.ownBlock = some k) := (Kept.refl W _).alloc _
  obtain ⟨fb, hfb⟩ : ∃ fb, W.heap.size = fb := ⟨_, rfl⟩
  have hown0 : (W.alloc (.cells #[.int .u8 t, .int .u64 id, .slice ba bl bc] 59)).ownsRow B 59 3 fs n xs := own_keep hown fun g hg => by
    obtain ⟨_, cur, hc⟩ := own_heap hown hg
    exact Below.heap_alloc _ _ _ (lt_of_heap hc)
  have hfs : ∀ g, fs.ownBlock = some g → g ≠ cb ∧ g ≠ mb ∧ g ≠ wb ∧ g ≠ rc ∧ g ≠ fb := fun g hg => by
    obtain ⟨_, cur, hc⟩ := own_heap hown hg
    obtain ⟨⟨C, hC⟩, h2, h3, h4, _⟩ := E
    have h1 := hC.heap
    refine ⟨?_, ?_, ?_, ?_, ?_⟩
    all_goals (intro e; subst e; simp_all)
  rw [hfb] at D0
  go_enter Try.func29, Try.ntmps29
  go_wp2_with fail
  refine (lock14 D0).mono ?_
  rintro e W1 ⟨rfl, D1, k1⟩
  have hk1 := hk0.trans (k1.mono fun k h => .inl h)
  have hown1 : W1.ownsRow B 59 3 fs n xs := own_keep hown0 fun g hg => k1.block g (by obtain ⟨_, cur, hc⟩ := own_heap hown0 hg; exact lt_of_heap hc) (hfs g hg).1
  have hB1 : B ≤ W1.heap.size := Nat.le_trans hB hk1.size
  clear D0 hk0 k1 E hown hown0 hB
  obtain ⟨C1, hC1⟩ := D1.conn
  have a16 := (hC1.cell 16).trans hC1.c16
  have f0 : W1.cell? ⟨fb, 0, none⟩ = some (.int .u8 t) := cell_of D1.box 0
  have f1 : W1.cell? ⟨fb, 1, none⟩ = some (.int .u64 id) := cell_of D1.box 1
  have f2 : W1.cell? ⟨fb, 2, none⟩ = some (.slice ba bl bc) := cell_of D1.box 2
  have w1 : W1.cell? ⟨wb, 1, none⟩ = some (.bool true) := cell_of D1.wait 1
  have w2 : W1.cell? ⟨wb, 2, none⟩ = some fs := cell_of D1.wait 2
  have z2 : W1.frozen? ⟨wb, 2, none⟩ = false := frozen_of D1.wait 2
  have hm1 := look_hit W1.drew id (.pointer (some ⟨wb, 0, none⟩)) born false D1.map
  simp only [Bool.false_eq_true, if_false] at hm1
  have hd1 := fun ty => del_hit W1.drew.drew ty id (.pointer (some ⟨wb, 0, none⟩)) born D1.map
  have hwl : wb < W1.heap.size := lt_of_heap D1.wait
  have hfl : fb < W1.heap.size := lt_of_heap D1.box
  have D2' := D1.drew.drew.setMap #[] ck
  obtain ⟨C2, hC2⟩ := D2'.conn
  have b16 := (hC2.cell 16).trans hC2.c16
  have b1 : (setB W1.drew.drew mb (.map #[] ck)).cell? ⟨fb, 1, none⟩ = some (.int .u64 id) := cell_of D2'.box 1
  go_wp2_with fail
  go_region_held3 (fun w' => w'.cell? ⟨cb, 16, none⟩ = some (.map (some mb)) ∧ w'.cell? ⟨fb, 1, none⟩ = some (.int .u64 id)) (go_keep) (fail)
  clear hm1
  go_wp2_with fail
  go_region_held3 (fun w' => w'.cell? ⟨cb, 16, none⟩ = some (.map (some mb)) ∧ w'.cell? ⟨fb, 1, none⟩ = some (.int .u64 id)) (first | go_keep | exact ⟨b16, b1⟩) (fail)
  have D1' := D2'
  have hk1' := (hk1.drew.drew).setB (r := mb) (.inr (.inl rfl)) (.map #[] ck)
  have hown1' : (setB W1.drew.drew mb (.map #[] ck)).ownsRow B 59 3 fs n xs := own_keep hown1 fun g hg => setB_other (hfs g hg).2.1
  have hB1' : B ≤ (setB W1.drew.drew mb (.map #[] ck)).heap.size := Nat.le_trans hB1 (by simp [setB])
  clear a16 f0 f1 f2 w1 w2 z2 hwl hfl hC1 hC2 b16 b1 D1 D2' hk1 hown1 hB1 hd1
  generalize setB W1.drew.drew mb (.map #[] ck) = W6 at *
  have f0 : W6.cell? ⟨fb, 0, none⟩ = some (.int .u8 t) := cell_of D1'.box 0
  have f1 : W6.cell? ⟨fb, 1, none⟩ = some (.int .u64 id) := cell_of D1'.box 1
  have f2 : W6.cell? ⟨fb, 2, none⟩ = some (.slice ba bl bc) := cell_of D1'.box 2
  have w1 : W6.cell? ⟨wb, 1, none⟩ = some (.bool true) := cell_of D1'.wait 1
  have w2 : W6.cell? ⟨wb, 2, none⟩ = some fs := cell_of D1'.wait 2
  have z2 : W6.frozen? ⟨wb, 2, none⟩ = false := frozen_of D1'.wait 2
  have hwl : wb < W6.heap.size := lt_of_heap D1'.wait
  have hfl : fb < W6.heap.size := lt_of_heap D1'.box
  -- the append
  have hlast : ((W6.alloc (.cells #[.int .u8 t, .int .u64 id, .slice ba bl bc] 59)).drew).heap[W6.heap.size]? = some (.cells #[.int .u8 t, .int .u64 id, .slice ba bl bc] 59 (0, 0)) := (MapKept.heap_alloc W6 _).1
  have hown2 : ((W6.alloc (.cells #[.int .u8 t, .int .u64 id, .slice ba bl bc] 59)).drew).ownsRow B 59 3 fs n xs := own_keep hown1' fun g hg => by
    obtain ⟨_, cur, hc⟩ := own_heap hown1' hg
    exact Below.heap_alloc _ _ _ (lt_of_heap hc)
  obtain ⟨g, cap, W2, hrun, hown3, hgrow, hat, hlt⟩ := append_frame 52 hown2 (by show B ≤ (W6.alloc _).heap.size; simp; omega) hn W6.heap.size hlast rfl rfl rfl
  have hsz2 : (W6.alloc (.cells #[.int .u8 t, .int .u64 id, .slice ba bl bc] 59)).drew.heap.size = W6.heap.size + 1 := by show (W6.alloc _).heap.size = _; simp
  have D2 : DS W2 cb mb wb rc fb 1 0 out #[] ck #[.chan none, .bool true, fs, .int .i64 0, .chan (some rc), .int .i64 0] (.chan 1 buf false s r false) #[.int .u8 t, .int .u64 id, .slice ba bl bc] :=
    D1'.kept fun k hk => by
      have hlt : k < W6.heap.size := by
        obtain ⟨⟨C, hC⟩, h2, h3, h4, h5, _⟩ := D1'
        rcases hk with rfl | rfl | rfl | rfl | rfl
        · exact lt_of_heap hC.heap
        · exact lt_of_heap h2
        · exact lt_of_heap h3
        · exact lt_of_heap h4
        · exact lt_of_heap h5
      rw [hgrow.block k (by omega) (fun e => by
        have := hfs k e.symm
        obtain ⟨q1, q2, q3, q4, q5⟩ := this
        rcases hk with h | h | h | h | h
        · exact q1 h
        · exact q2 h
        · exact q3 h
        · exact q4 h
        · exact q5 h)]
      exact Below.heap_alloc _ _ _ hlt
  have hk2 : Kept W W2 (fun k => k = cb ∨ k = mb ∨ k = wb ∨ k = rc ∨ fs.ownBlock = some k) :=
    ((hk1'.alloc (.cells #[.int .u8 t, .int .u64 id, .slice ba bl bc] 59)).drew).trans ⟨hgrow.os, hgrow.tape, hgrow.output, hgrow.size, fun k hk hn => hgrow.block k hk (fun e => hn (.inr (.inr (.inr (.inr e.symm)))))⟩
  have y2 : W2.cell? ⟨wb, 2, none⟩ = some fs := cell_of D2.wait 2
  have yz : W2.frozen? ⟨wb, 2, none⟩ = false := frozen_of D2.wait 2
  clear hown1' hown2 hlast hgrow hB1' hk1'
  go_wp2_with fail
  have HR := Hid.mk hrun
  clear hrun
  go_region_law (refine step_append_run (by rfl) _ _ 52 (by rfl) _ _ _ (by rfl) (by rfl) HR.out ?_)
  all_goals
    have D3 := D2.setWait 2 (.slice (some ⟨g, 0, none⟩) (n + 1) cap)
    have hk3 := hk2.setCell (p := ⟨wb, 2, none⟩) (.inl (.inr (.inr (.inl rfl)))) (.slice (some ⟨g, 0, none⟩) (n + 1) cap)
    have hown4 : (W2.setCell ⟨wb, 2, none⟩ (.slice (some ⟨g, 0, none⟩) (n + 1) cap)).ownsRow B 59 3 (.slice (some ⟨g, 0, none⟩) (n + 1) cap) (n + 1) (xs ++ [.int .u8 t, .int .u64 id, .slice ba bl bc]) :=
      own_keep hown3 fun k hk => Below.heap_setCell _ _ _ _ (fun e => by
        cases hk
        obtain ⟨_, cur, hc⟩ := own_heap hown3 rfl
        have := D2.wait
        have e' : g = wb := e
        subst e'
        rw [hc] at this
        cases this)
    clear D2 hk2 hown3 y2 yz HR hat
    generalize W2.setCell ⟨wb, 2, none⟩ (.slice (some ⟨g, 0, none⟩) (n + 1) cap) = W3 at *
    have w4 : W3.cell? ⟨wb, 4, none⟩ = some (.chan (some rc)) := cell_of D3.wait 4
    go_upto_region 12 with fail
    refine wp_region_S ?_
    show WpS _ _ _ [0, 1, 2] _ _
    rcases hbuf with rfl | rfl
    · refine WpS.selRoom (c := rc) (v := .agg #[]) (z := .agg #[]) (w₁ := W3) 54 rfl rfl rfl (by go_simp; rfl) D3.chan (by simp) ?_
      have D4 := D3.setChan 1 #[.agg #[]] false (s + 1) r false
      have hk4 := hk3.setChan (c := rc) (.inr (.inr (.inr (.inl rfl)))) 1 #[.agg #[]] false (s + 1) r false
      have hown5 : (W3.setChan rc 1 #[.agg #[]] false (s + 1) r false).ownsRow B 59 3 (.slice (some ⟨g, 0, none⟩) (n + 1) cap) (n + 1) (xs ++ [.int .u8 t, .int .u64 id, .slice ba bl bc]) :=
        own_keep hown4 fun k hk => setChan_other (fun e => by
          cases hk
          obtain ⟨_, cur, hc⟩ := own_heap hown4 rfl
          have := D3.chan
          subst e
          rw [hc] at this
          cases this)
      change WpS _ _ _ _ _ (W3.setChan rc 1 #[.agg #[]] false (s + 1) r false)
      clear D3 hk3 hown4 w4
      generalize W3.setChan rc 1 #[.agg #[]] false (s + 1) r false = W4 at *
      refine WpS.value (v := .int .i64 0) (w' := W4) 55 rfl rfl rfl (by go_simp) ?_
      refine WpS.value (v := .bool true) (w' := W4) 56 rfl rfl rfl (by go_simp) ?_
      refine WpS.nil ?_
      go_wp2_with fail
      refine (unlock14 D4).mono ?_
      rintro e W5 ⟨rfl, D5, k5⟩
      go_wp2
      go_end0
      refine ⟨rfl, g, cap, s + 1, r, D5.unbox, own_keep hown5 fun k hk => ?_, hk4.trans (k5.mono fun k h => .inl h)⟩
      obtain ⟨_, cur, hc⟩ := own_heap hown5 hk
      exact k5.block k (lt_of_heap hc) (fun e => by
        obtain ⟨⟨C, hC⟩, _⟩ := D4
        have := hC.heap
        subst e
        rw [hc] at this
        cases this)
    · refine WpS.selFull (c := rc) (v := .agg #[]) (z := .agg #[]) (w₁ := W3) 54 rfl rfl rfl (by go_simp; rfl) D3.chan (by simp) ?_
      clear w4
      refine WpS.value (v := .int .i64 (-1)) (w' := W3) 55 rfl rfl rfl (by go_simp) ?_
      refine WpS.value (v := .bool false) (w' := W3) 56 rfl rfl rfl (by go_simp) ?_
      refine WpS.nil ?_
      go_wp2_with fail
      refine (unlock14 D3).mono ?_
      rintro e W5 ⟨rfl, D5, k5⟩
      go_wp2
      go_end0
      refine ⟨rfl, g, cap, s, r, D5.unbox, own_keep hown4 fun k hk => ?_, hk3.trans (k5.mono fun k h => .inl h)⟩
      obtain ⟨_, cur, hc⟩ := own_heap hown4 hk
      exact k5.block k (lt_of_heap hc) (fun e => by
        obtain ⟨⟨C, hC⟩, _⟩ := D3
        have := hC.heap
        subst e
        rw [hc] at this
        cases this)
end Go.Proofs.Qxb6616696a
