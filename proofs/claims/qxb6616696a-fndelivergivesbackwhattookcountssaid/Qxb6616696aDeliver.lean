/-
  'deliver' where nobody waits for the id: nothing happens.
-/
import Derived.Test.Qxb6616696aDs
import Derived.Deep.RegionHeld3
import Derived.Deep.DrawnRows
namespace Go.Proofs.Qxb6616696a
open Go.RowKit Go.Conc
attribute [local go_sem ↓] Go.wp_at_zero Go.wp_at_succ

/-- The same without the frame's box. -/
structure ES (W : World) (cb mb wb rc : Nat) (out : Value) (es : Array MapEntry) (ck : Nat) (ws : Array Value) (ch : Obj) : Prop where
  conn : ∃ C, ConnAt W cb mb 0 0 out C
  map : W.heap[mb]? = some (.map es ck)
  wait : W.heap[wb]? = some (.cells ws 55 (0, 0))
  chan : W.heap[rc]? = some ch
  isChan : ∃ cap buf cl s r tm, ch = .chan cap buf cl s r tm

variable {W : World} {cb mb wb rc fb ck : Nat} {out : Value} {es : Array MapEntry} {ws X : Array Value} {ch : Obj}

theorem ES.boxed (E : ES W cb mb wb rc out es ck ws ch) (X : Array Value) : DS (W.alloc (.cells X 59)) cb mb wb rc W.heap.size 0 0 out es ck ws ch X := by
  obtain ⟨⟨C, hC⟩, h2, h3, h4, h6⟩ := E
  exact ⟨⟨C, hC.of_heap (Below.heap_alloc _ _ _ (lt_of_heap hC.heap))⟩, (Below.heap_alloc _ _ _ (lt_of_heap h2)).trans h2, (Below.heap_alloc _ _ _ (lt_of_heap h3)).trans h3, (Below.heap_alloc _ _ _ (lt_of_heap h4)).trans h4, (MapKept.heap_alloc W _).1, h6⟩
theorem DS.unbox (D : DS W cb mb wb rc fb 0 0 out es ck ws ch X) : ES W cb mb wb rc out es ck ws ch := ⟨D.conn, D.map, D.wait, D.chan, D.isChan⟩

/-- Nothing but the connection's own block may have turned (and that reads as it did), or new ones. -/
def NonePost (W : World) (cb mb wb rc : Nat) (out : Value) (es : Array MapEntry) (ck : Nat) (ws : Array Value) (ch : Obj) (e : Ending) (w' : World) : Prop :=
  e = .returned (.tuple #[]) ∧ ES w' cb mb wb rc out es ck ws ch ∧ Kept W w' (fun k => k = cb ∨ k = mb)

set_option maxHeartbeats 1000000 in
theorem deliver_none7 (id : Int) (ba : Option Addr) (bl bc : Nat) (E : ES W cb mb wb rc out es ck ws ch)
    (hlook : ∀ W' : World, W'.heap[mb]? = some (.map es ck) → (Instr.lookup 61 (.map (some mb)) (.int .u64 id) false).run Try.prog W' = .ok (.pointer none) W') :
    Calls Try.prog 29 #[.pointer (some ⟨cb, 0, none⟩), .agg #[.int .u8 7, .int .u64 id, .slice ba bl bc]] W (NonePost W cb mb wb rc out es ck ws ch) := by
  have D0 := E.boxed #[.int .u8 7, .int .u64 id, .slice ba bl bc]
  have hk0 : Kept W (W.alloc (.cells #[.int .u8 7, .int .u64 id, .slice ba bl bc] 59)) (fun k => k = cb ∨ k = mb) := (Kept.refl W _).alloc _
  have HL : Hid (∀ W' : World, W'.heap[mb]? = some (.map es ck) → (Instr.lookup 61 (.map (some mb)) (.int .u64 id) false).run Try.prog W' = .ok (.pointer none) W') := hlook
  clear hlook
  generalize hfb : W.heap.size = fb at *
  go_enter Try.func29, Try.ntmps29
  go_wp2_with fail
  refine (lock14 D0).mono ?_
  rintro e W1 ⟨rfl, D1, k1⟩
  have hk1 := hk0.trans (k1.mono fun k h => .inl h)
  clear D0 hk0 k1 E hfb
  obtain ⟨C1, hC1⟩ := D1.conn
  have a16 := (hC1.cell 16).trans hC1.c16
  have f0 : W1.cell? ⟨fb, 0, none⟩ = some (.int .u8 7) := cell_of D1.box 0
  have f1 : W1.cell? ⟨fb, 1, none⟩ = some (.int .u64 id) := cell_of D1.box 1
  have hm1 := HL.out W1.drew D1.map
  go_wp2_with fail
  go_region_held3 (fun w' => w'.cell? ⟨cb, 16, none⟩ = some (.map (some mb)) ∧ w'.cell? ⟨fb, 1, none⟩ = some (.int .u64 id)) (go_keep) (fail)
  have D2 := D1.drew
  clear hm1 HL
  go_wp2_with fail
  refine (unlock14 D2).mono ?_
  rintro e W3 ⟨rfl, D3, k3⟩
  go_wp2
  go_end0
  exact ⟨rfl, D3.unbox, hk1.drew.trans (k3.mono fun k h => .inl h)⟩

set_option maxHeartbeats 1000000 in
theorem deliver_none (t id : Int) (ba : Option Addr) (bl bc : Nat) (ht : (t != 7) = true) (E : ES W cb mb wb rc out es ck ws ch)
    (hlook : ∀ W' : World, W'.heap[mb]? = some (.map es ck) → (Instr.lookup 61 (.map (some mb)) (.int .u64 id) false).run Try.prog W' = .ok (.pointer none) W')
    (hdel : ∀ (ty : TypeId) (W' : World), W'.heap[mb]? = some (.map es ck) → (Builtin.delete_ #[61, 27] ty #[.map (some mb), .int .u64 id]).run Try.prog W' = .ok (.tuple #[]) (setB W' mb (.map es ck))) :
    Calls Try.prog 29 #[.pointer (some ⟨cb, 0, none⟩), .agg #[.int .u8 t, .int .u64 id, .slice ba bl bc]] W (NonePost W cb mb wb rc out es ck ws ch) := by
  have D0 := E.boxed #[.int .u8 t, .int .u64 id, .slice ba bl bc]
  have hk0 : Kept W (W.alloc (.cells #[.int .u8 t, .int .u64 id, .slice ba bl bc] 59)) (fun k => k = cb ∨ k = mb) := (Kept.refl W _).alloc _
  have HL : Hid (∀ W' : World, W'.heap[mb]? = some (.map es ck) → (Instr.lookup 61 (.map (some mb)) (.int .u64 id) false).run Try.prog W' = .ok (.pointer none) W') := hlook
  have HD : Hid (∀ (ty : TypeId) (W' : World), W'.heap[mb]? = some (.map es ck) → (Builtin.delete_ #[61, 27] ty #[.map (some mb), .int .u64 id]).run Try.prog W' = .ok (.tuple #[]) (setB W' mb (.map es ck))) := hdel
  clear hlook hdel
  generalize hfb : W.heap.size = fb at *
  go_enter Try.func29, Try.ntmps29
  go_wp2_with fail
  refine (lock14 D0).mono ?_
  rintro e W1 ⟨rfl, D1, k1⟩
  have hk1 := hk0.trans (k1.mono fun k h => .inl h)
  clear D0 hk0 k1 E hfb
  obtain ⟨C1, hC1⟩ := D1.conn
  have a16 := (hC1.cell 16).trans hC1.c16
  have f0 : W1.cell? ⟨fb, 0, none⟩ = some (.int .u8 t) := cell_of D1.box 0
  have f1 : W1.cell? ⟨fb, 1, none⟩ = some (.int .u64 id) := cell_of D1.box 1
  have hm1 := HL.out W1.drew D1.map
  have hd1 := fun ty => HD.out ty W1.drew.drew D1.map
  go_wp2_with fail
  go_region_held3 (fun w' => w'.cell? ⟨cb, 16, none⟩ = some (.map (some mb)) ∧ w'.cell? ⟨fb, 1, none⟩ = some (.int .u64 id)) (go_keep) (fail)
  clear hm1 HL HD
  have D2 := D1.drew.drew.setMap es ck
  have hk2 := (hk1.drew.drew).setB (r := mb) (.inr rfl) (.map es ck)
  obtain ⟨C2, hC2⟩ := D2.conn
  have b16 := (hC2.cell 16).trans hC2.c16
  have b1 : (setB W1.drew.drew mb (.map es ck)).cell? ⟨fb, 1, none⟩ = some (.int .u64 id) := cell_of D2.box 1
  go_wp2_with fail
  go_region_held3 (fun w' => w'.cell? ⟨cb, 16, none⟩ = some (.map (some mb)) ∧ w'.cell? ⟨fb, 1, none⟩ = some (.int .u64 id)) (first | go_keep | exact ⟨b16, b1⟩) (fail)
  clear hd1 a16 f0 f1 hC1 hC2 b16 b1 D1 hk1
  generalize setB W1.drew.drew mb (.map es ck) = W2 at *
  go_wp2_with fail
  refine (unlock14 D2).mono ?_
  rintro e W3 ⟨rfl, D3, k3⟩
  go_wp2
  go_end0
  exact ⟨rfl, D3.unbox, hk2.trans (k3.mono fun k h => .inl h)⟩
end Go.Proofs.Qxb6616696a
