/-
  CHANNELS IN ONE GOROUTINE, AS LAWS FOR THE WALK's 'Code.wp' (which is stated over the machine's own steps: Derived/Control.lean): a region whose list of operations holds a send, a receive or a select of one send with a default. Over any program. The machine's single steps: Derived/Conc/LoneCalls.lean, LoneSelect.lean.
-/
import Derived.Conc.LoneSelect
import Derived.Conc.LoneSelectN
import Derived.Orders
namespace Go.Proofs.Qxb6616696a
open Go Go.Conc

section
variable {P : Program} {ops : Array Oper} {Q : Exit → Act → World → Prop}

/-- The operations in this order, from this frame and world: said of the machine's steps. -/
def WpS (P : Program) (ops : Array Oper) (Q : Exit → Act → World → Prop) (l : List Nat) (a : Act) (w : World) : Prop :=
  ∀ (b : Frame) (k : List Item) (cs : List Frame), ∃ e a' w', Q e a' w' ∧ Arrives P (lone (b.at a (.inRegion ops l :: k)) cs w) b k cs e a' w'

theorem wp_region_S {id : Nat} {a : Act} {w : World} (h : WpS P ops Q (List.range ops.size) a w) : (Code.region id ops false).wp P Q a w :=
  fun b k cs => let ⟨e, a', w', q, r⟩ := h b k cs; ⟨e, a', w', q, .of_steps (.one step_region) r⟩

theorem wp_region_draw_S {id : Nat} {a : Act} {w : World} (h : ∀ t, WpS P ops Q (Region.schedule (P.follows .mixedOrders) ops t) a w.drew) : (Code.region id ops true).wp P Q a w :=
  fun b k cs => let ⟨e, a', w', q, r⟩ := h _ b k cs; ⟨e, a', w', q, .of_steps (.one step_region_draw) r⟩

theorem WpS.nil {a : Act} {w : World} (h : Q .normal a w) : WpS P ops Q [] a w :=
  fun _ _ _ => ⟨.normal, a, w, h, .one step_region_end⟩

theorem finish_at' (b : Frame) (a : Act) {i : Nat} {o : Oper} (ho : ops[i]? = some o) (rest : List Nat) (k : List Item) (v : Value) :
    (b.at a (.inRegion ops (i :: rest) :: k)).finish v = b.at (a.put o.dst v) (.inRegion ops rest :: k) := by
  rw [Frame.finish_at, ho]; rfl

/-- An operation that yields a value. -/
theorem WpS.value {i : Nat} {rest : List Nat} {o : Oper} {a : Act} {w w' : World} {v : Value} (d : Nat) (ho : ops[i]? = some o) (hg : o.guard = none) (hd : o.dst = some d) (hr : (execOp a.eval o).run P w = .ok (.value v) w')
    (h : WpS P ops Q rest { tmps := a.tmps.setIfInBounds d v, defers := a.defers } w') : WpS P ops Q (i :: rest) a w := fun b k cs => by
  have hw : Region.wanted o (yielded ops a.tmps) = true := by simp [Region.wanted, hg]
  obtain ⟨e, a', w'', hq, harr⟩ := h b k cs
  refine ⟨e, a', w'', hq, .of_steps (.one (step_lone_go ?_)) harr⟩
  rw [stepG_op ho hw, show ({ tmps := a.tmps.setIfInBounds d v, defers := a.defers } : Act) = a.put o.dst v by rw [hd]; rfl, ← finish_at' b a ho]
  simp [stepG.apply, hr]

/-- An operation that yields nothing. -/
theorem WpS.skip {i : Nat} {rest : List Nat} {o : Oper} {a : Act} {w w' : World} (ho : ops[i]? = some o) (hg : o.guard = none) (hd : o.dst = none) (hr : (execOp a.eval o).run P w = .ok .skip w')
    (h : WpS P ops Q rest a w') : WpS P ops Q (i :: rest) a w := fun b k cs => by
  have hw : Region.wanted o (yielded ops a.tmps) = true := by simp [Region.wanted, hg]
  obtain ⟨e, a', w'', hq, harr⟩ := h b k cs
  refine ⟨e, a', w'', hq, .of_steps (.one (step_lone_go ?_)) harr⟩
  rw [stepG_op ho hw, show b.at a (.inRegion ops rest :: k) = b.at (a.put o.dst undef) (.inRegion ops rest :: k) by rw [hd]; rfl, ← finish_at' b a ho]
  simp [stepG.apply, hr]

theorem stepG_comm {i : Nat} {rest : List Nat} {o : Oper} {a : Act} {w w₁ : World} {cases : Array CommCase} {blocking : Bool} {shape : CommShape} (ho : ops[i]? = some o) (hg : o.guard = none)
    (hr : (execOp a.eval o).run P w = .ok (.comm cases blocking shape) w₁) (b : Frame) (k : List Item) (cs : List Frame) :
    ∃ es, stepG P true (G (b.at a (.inRegion ops (i :: rest) :: k)) cs) w = .comm (G (b.at a (.inRegion ops (i :: rest) :: k)) cs) cases blocking shape w₁ es := by
  have hw : Region.wanted o (yielded ops a.tmps) = true := by simp [Region.wanted, hg]
  have h := stepG_op (P := P) (b := b) (k := k) (cs := cs) (w := w) (rest := rest) ho hw
  unfold G
  rw [h]
  simp [stepG.apply, Sem.runT_eq, hr, GStep.after]

variable {i : Nat} {rest : List Nat} {o : Oper} {a : Act} {w w₁ : World} {c cap s r : Nat} {buf : Array Value} {v z : Value} {tm : Bool}

/-- A send with room. -/
theorem WpS.send (ho : ops[i]? = some o) (hg : o.guard = none) (hd : o.dst = none) (hr : (execOp a.eval o).run P w = .ok (.comm #[scase c v z] true .send) w₁) (hc : w₁.heap[c]? = some (.chan cap buf false s r tm)) (hroom : buf.size < cap)
    (h : WpS P ops Q rest a (w₁.setChan c cap (buf.push v) false (s + 1) r tm)) : WpS P ops Q (i :: rest) a w := fun b k cs => by
  obtain ⟨es, hs⟩ := stepG_comm (rest := rest) ho hg hr b k cs
  obtain ⟨e, a', w'', hq, harr⟩ := h b k cs
  have st := step_lone_send_room hs hc hroom
  rw [finish_at' b a ho, hd] at st
  exact ⟨e, a', w'', hq, .of_steps (.one st) harr⟩

/-- A receive from a buffer that holds something. -/
theorem WpS.recv (d : Nat) (ho : ops[i]? = some o) (hg : o.guard = none) (hd : o.dst = some d) {closed : Bool} (hr : (execOp a.eval o).run P w = .ok (.comm #[rcase c z] true (.recv false)) w₁) (hc : w₁.heap[c]? = some (.chan cap buf closed s r tm)) (hsome : 0 < buf.size)
    (h : WpS P ops Q rest { tmps := a.tmps.setIfInBounds d (buf.getD 0 undef), defers := a.defers } (w₁.setChan c cap (buf.extract 1 buf.size) closed s (r + 1) tm)) : WpS P ops Q (i :: rest) a w := fun b k cs => by
  obtain ⟨es, hs⟩ := stepG_comm (rest := rest) ho hg hr b k cs
  obtain ⟨e, a', w'', hq, harr⟩ := h b k cs
  have st := step_lone_recv_buf false hs hc hsome
  rw [finish_at' b a ho, hd] at st
  exact ⟨e, a', w'', hq, .of_steps (.one st) harr⟩

/-- A select of one send, with a default: there is room. -/
theorem WpS.selRoom (d : Nat) (ho : ops[i]? = some o) (hg : o.guard = none) (hd : o.dst = some d) (hr : (execOp a.eval o).run P w = .ok (.comm #[scase c v z] false .select) w₁) (hc : w₁.heap[c]? = some (.chan cap buf false s r tm)) (hroom : buf.size < cap)
    (h : WpS P ops Q rest { tmps := a.tmps.setIfInBounds d (.tuple #[goInt 0, .bool false]), defers := a.defers } (w₁.setChan c cap (buf.push v) false (s + 1) r tm)) : WpS P ops Q (i :: rest) a w := fun b k cs => by
  obtain ⟨es, hs⟩ := stepG_comm (rest := rest) ho hg hr b k cs
  obtain ⟨e, a', w'', hq, harr⟩ := h b k cs
  have st := step_lone_select_send_room hs hc hroom
  rw [finish_at' b a ho, hd] at st
  exact ⟨e, a', w'', hq, .of_steps (.one st) harr⟩

/-- .. there is none: the default. -/
theorem WpS.selFull (d : Nat) (ho : ops[i]? = some o) (hg : o.guard = none) (hd : o.dst = some d) (hr : (execOp a.eval o).run P w = .ok (.comm #[scase c v z] false .select) w₁) (hc : w₁.heap[c]? = some (.chan cap buf false s r tm)) (hfull : cap ≤ buf.size)
    (h : WpS P ops Q rest { tmps := a.tmps.setIfInBounds d (.tuple #[goInt (-1), .bool false]), defers := a.defers } w₁) : WpS P ops Q (i :: rest) a w := fun b k cs => by
  obtain ⟨es, hs⟩ := stepG_comm (rest := rest) ho hg hr b k cs
  obtain ⟨e, a', w'', hq, harr⟩ := h b k cs
  have st := step_lone_select_send_full hs hc hfull
  rw [finish_at' b a ho, hd] at st
  exact ⟨e, a', w'', hq, .of_steps (.one st) harr⟩

/-- The rest of the list by the walk's own law. -/
theorem WpS.of_wpOps {l : List Nat} {a : Act} {w : World} (h : wpOps P ops Q l a w) : WpS P ops Q l a w := fun b k cs => wp_ops l a w h b k cs
end
end Go.Proofs.Qxb6616696a
