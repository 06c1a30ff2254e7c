/-
  What 'deliver' meets in memory, and how each of its steps turns it.
-/
import Derived.Test.Qxb6616696aSmall
import Derived.Test.Qxb6616696aLocks
namespace Go.Proofs.Qxb6616696a
open Go.RowKit Go.Conc

/-- The connection's block: both locks, the map, what goes out. -/
structure ConnAt (W : World) (cb mb : Nat) (mu wmu : Int) (out : Value) (C : Array Value) : Prop where
  heap : W.heap[cb]? = some (.cells C 78 (0, 0))
  c14 : C[14]? = some (.int .i32 mu)
  c5 : C[5]? = some (.int .i32 wmu)
  c16 : C[16]? = some (.map (some mb))
  c8 : C[8]? = some out

theorem ConnAt.of_heap {W W' : World} {cb mb : Nat} {mu wmu : Int} {out : Value} {C : Array Value} (h : ConnAt W cb mb mu wmu out C) (e : W'.heap[cb]? = W.heap[cb]?) : ConnAt W' cb mb mu wmu out C :=
  ⟨e.trans h.heap, h.c14, h.c5, h.c16, h.c8⟩
theorem set_get {C : Array Value} {i : Nat} {u v : Value} (h : C[i]? = some u) : (C.setIfInBounds i v)[i]? = some v := by
  have hi : i < C.size := by
    rcases Nat.lt_or_ge i C.size with h' | h'
    · exact h'
    · rw [Array.getElem?_eq_none h'] at h; cases h
  simp [hi]
theorem set_get_ne {C : Array Value} {i j : Nat} {v : Value} (h : i ≠ j) : (C.setIfInBounds i v)[j]? = C[j]? := Array.getElem?_setIfInBounds_ne h
theorem ConnAt.set14 {W : World} {cb mb : Nat} {mu wmu : Int} {out : Value} {C : Array Value} (h : ConnAt W cb mb mu wmu out C) (v : Int) :
    ConnAt (W.setCell ⟨cb, 14, none⟩ (.int .i32 v)) cb mb v wmu out (C.setIfInBounds 14 (.int .i32 v)) :=
  ⟨heap_setCell_same h.heap 14 _, set_get h.c14, (set_get_ne (by omega)).trans h.c5, (set_get_ne (by omega)).trans h.c16, (set_get_ne (by omega)).trans h.c8⟩
theorem ConnAt.set5 {W : World} {cb mb : Nat} {mu wmu : Int} {out : Value} {C : Array Value} (h : ConnAt W cb mb mu wmu out C) (v : Int) :
    ConnAt (W.setCell ⟨cb, 5, none⟩ (.int .i32 v)) cb mb mu v out (C.setIfInBounds 5 (.int .i32 v)) :=
  ⟨heap_setCell_same h.heap 5 _, (set_get_ne (by omega)).trans h.c14, set_get h.c5, (set_get_ne (by omega)).trans h.c16, (set_get_ne (by omega)).trans h.c8⟩
theorem ConnAt.set8 {W : World} {cb mb : Nat} {mu wmu : Int} {out : Value} {C : Array Value} (h : ConnAt W cb mb mu wmu out C) (v : Value) :
    ConnAt (W.setCell ⟨cb, 8, none⟩ v) cb mb mu wmu v (C.setIfInBounds 8 v) :=
  ⟨heap_setCell_same h.heap 8 _, (set_get_ne (by omega)).trans h.c14, (set_get_ne (by omega)).trans h.c5, (set_get_ne (by omega)).trans h.c16, set_get h.c8⟩
theorem ConnAt.cell {W : World} {cb mb : Nat} {mu wmu : Int} {out : Value} {C : Array Value} (h : ConnAt W cb mb mu wmu out C) (o : Nat) : W.cell? ⟨cb, o, none⟩ = C[o]? := cell_of h.heap o
theorem ConnAt.frozen {W : World} {cb mb : Nat} {mu wmu : Int} {out : Value} {C : Array Value} (h : ConnAt W cb mb mu wmu out C) (o : Nat) : W.frozen? ⟨cb, o, none⟩ = false := frozen_of h.heap o

/-- All that deliver meets: the connection, its map, the one waiter, the waiter's channel, the frame's box. -/
structure DS (W : World) (cb mb wb rc fb : Nat) (mu wmu : Int) (out : Value) (es : Array MapEntry) (ck : Nat) (ws : Array Value) (ch : Obj) (X : Array Value) : Prop where
  conn : ∃ C, ConnAt W cb mb mu wmu out C
  map : W.heap[mb]? = some (.map es ck)
  wait : W.heap[wb]? = some (.cells ws 55 (0, 0))
  chan : W.heap[rc]? = some ch
  box : W.heap[fb]? = some (.cells X 59 (0, 0))
  isChan : ∃ cap buf cl s r tm, ch = .chan cap buf cl s r tm

variable {W W' : World} {cb mb wb rc fb ck : Nat} {mu wmu : Int} {out : Value} {es : Array MapEntry} {ws X : Array Value} {ch : Obj}

theorem DS.of_heap (D : DS W cb mb wb rc fb mu wmu out es ck ws ch X) (e : W'.heap = W.heap) : DS W' cb mb wb rc fb mu wmu out es ck ws ch X := by
  obtain ⟨⟨C, hC⟩, h2, h3, h4, h5, h6⟩ := D
  exact ⟨⟨C, hC.of_heap (by rw [e])⟩, by rw [e]; exact h2, by rw [e]; exact h3, by rw [e]; exact h4, by rw [e]; exact h5, h6⟩
theorem DS.drew (D : DS W cb mb wb rc fb mu wmu out es ck ws ch X) : DS W.drew cb mb wb rc fb mu wmu out es ck ws ch X := D.of_heap rfl
theorem DS.drewN (D : DS W cb mb wb rc fb mu wmu out es ck ws ch X) (n : Nat) : DS (W.drewN n) cb mb wb rc fb mu wmu out es ck ws ch X := D.of_heap rfl

/-- The five blocks are five. -/
theorem DS.ne (D : DS W cb mb wb rc fb mu wmu out es ck ws ch X) : cb ≠ mb ∧ cb ≠ wb ∧ cb ≠ rc ∧ cb ≠ fb ∧ mb ≠ wb ∧ mb ≠ rc ∧ mb ≠ fb ∧ wb ≠ rc ∧ wb ≠ fb ∧ rc ≠ fb := by
  obtain ⟨⟨C, hC⟩, h2, h3, h4, h5, ⟨cap, buf, cl, s, r, tm, rfl⟩⟩ := D
  have h1 := hC.heap
  refine ⟨?_, ?_, ?_, ?_, ?_, ?_, ?_, ?_, ?_, ?_⟩
  all_goals (intro e; subst e; simp_all)

theorem DS.lock (D : DS W cb mb wb rc fb mu wmu out es ck ws ch X) (v : Int) : DS (W.setCell ⟨cb, 14, none⟩ (.int .i32 v)) cb mb wb rc fb v wmu out es ck ws ch X := by
  obtain ⟨n1, n2, n3, n4, _⟩ := D.ne
  obtain ⟨⟨C, hC⟩, h2, h3, h4, h5, h6⟩ := D
  exact ⟨⟨_, hC.set14 v⟩, (Below.heap_setCell _ _ _ _ (Ne.symm n1)).trans h2, (Below.heap_setCell _ _ _ _ (Ne.symm n2)).trans h3, (Below.heap_setCell _ _ _ _ (Ne.symm n3)).trans h4, (Below.heap_setCell _ _ _ _ (Ne.symm n4)).trans h5, h6⟩
theorem DS.wlock (D : DS W cb mb wb rc fb mu wmu out es ck ws ch X) (v : Int) : DS (W.setCell ⟨cb, 5, none⟩ (.int .i32 v)) cb mb wb rc fb mu v out es ck ws ch X := by
  obtain ⟨n1, n2, n3, n4, _⟩ := D.ne
  obtain ⟨⟨C, hC⟩, h2, h3, h4, h5, h6⟩ := D
  exact ⟨⟨_, hC.set5 v⟩, (Below.heap_setCell _ _ _ _ (Ne.symm n1)).trans h2, (Below.heap_setCell _ _ _ _ (Ne.symm n2)).trans h3, (Below.heap_setCell _ _ _ _ (Ne.symm n3)).trans h4, (Below.heap_setCell _ _ _ _ (Ne.symm n4)).trans h5, h6⟩
theorem DS.setMap (D : DS W cb mb wb rc fb mu wmu out es ck ws ch X) (es' : Array MapEntry) (ck' : Nat) : DS (setB W mb (.map es' ck')) cb mb wb rc fb mu wmu out es' ck' ws ch X := by
  obtain ⟨n1, n2, n3, n4, n5, n6, n7, _⟩ := D.ne
  obtain ⟨⟨C, hC⟩, h2, h3, h4, h5, h6⟩ := D
  exact ⟨⟨C, hC.of_heap (setB_other n1)⟩, setB_same h2, (setB_other (Ne.symm n5)).trans h3, (setB_other (Ne.symm n6)).trans h4, (setB_other (Ne.symm n7)).trans h5, h6⟩
theorem DS.setWait (D : DS W cb mb wb rc fb mu wmu out es ck ws ch X) (o : Nat) (v : Value) : DS (W.setCell ⟨wb, o, none⟩ v) cb mb wb rc fb mu wmu out es ck (ws.setIfInBounds o v) ch X := by
  obtain ⟨n1, n2, n3, n4, n5, n6, n7, n8, n9, _⟩ := D.ne
  obtain ⟨⟨C, hC⟩, h2, h3, h4, h5, h6⟩ := D
  exact ⟨⟨C, hC.of_heap (Below.heap_setCell _ _ _ _ n2)⟩, (Below.heap_setCell _ _ _ _ n5).trans h2, heap_setCell_same h3 o v, (Below.heap_setCell _ _ _ _ (Ne.symm n8)).trans h4, (Below.heap_setCell _ _ _ _ (Ne.symm n9)).trans h5, h6⟩
theorem DS.setChan (D : DS W cb mb wb rc fb mu wmu out es ck ws ch X) (cap : Nat) (buf : Array Value) (cl : Bool) (s r : Nat) (tm : Bool) : DS (W.setChan rc cap buf cl s r tm) cb mb wb rc fb mu wmu out es ck ws (.chan cap buf cl s r tm) X := by
  obtain ⟨n1, n2, n3, n4, n5, n6, n7, n8, n9, n10⟩ := D.ne
  obtain ⟨⟨C, hC⟩, h2, h3, h4, h5, h6⟩ := D
  exact ⟨⟨C, hC.of_heap (setChan_other n3)⟩, (setChan_other n6).trans h2, (setChan_other n8).trans h3, setChan_same h4, (setChan_other (Ne.symm n10)).trans h5, ⟨_, _, _, _, _, _, rfl⟩⟩
/-- Behind a world that keeps these blocks. -/
theorem DS.kept (D : DS W cb mb wb rc fb mu wmu out es ck ws ch X) (h : ∀ k, (k = cb ∨ k = mb ∨ k = wb ∨ k = rc ∨ k = fb) → W'.heap[k]? = W.heap[k]?) : DS W' cb mb wb rc fb mu wmu out es ck ws ch X := by
  obtain ⟨⟨C, hC⟩, h2, h3, h4, h5, h6⟩ := D
  exact ⟨⟨C, hC.of_heap (h _ (.inl rfl))⟩, (h _ (.inr (.inl rfl))).trans h2, (h _ (.inr (.inr (.inl rfl)))).trans h3, (h _ (.inr (.inr (.inr (.inl rfl))))).trans h4, (h _ (.inr (.inr (.inr (.inr rfl))))).trans h5, h6⟩

/-! ### The mutex -/
theorem lock14 (D : DS W cb mb wb rc fb 0 wmu out es ck ws ch X) : Calls Try.prog 32 #[.pointer (some ⟨cb, 14, none⟩)] W fun e w' => e = .returned (.tuple #[]) ∧ DS w' cb mb wb rc fb 1 wmu out es ck ws ch X ∧ Kept W w' (· = cb) := by
  obtain ⟨C, hC⟩ := D.conn
  refine (Go.MuLone.lock_free muLib ⟨cb, 14, none⟩ W ((hC.cell 14).trans hC.c14) (hC.frozen 14)).mono ?_
  rintro e w' ⟨rfl, rfl⟩
  exact ⟨rfl, D.lock 1, (Kept.refl W (· = cb)).setCell (.inl rfl) _⟩
theorem unlock14 (D : DS W cb mb wb rc fb 1 wmu out es ck ws ch X) : Calls Try.prog 33 #[.pointer (some ⟨cb, 14, none⟩)] W fun e w' => e = .returned (.tuple #[]) ∧ DS w' cb mb wb rc fb 0 wmu out es ck ws ch X ∧ Kept W w' (· = cb) := by
  obtain ⟨C, hC⟩ := D.conn
  refine (Go.MuLone.unlock_held muLib ⟨cb, 14, none⟩ W ((hC.cell 14).trans hC.c14) (hC.frozen 14)).mono ?_
  rintro e w' ⟨rfl, rfl⟩
  exact ⟨rfl, D.lock 0, (Kept.refl W (· = cb)).setCell (.inl rfl) _⟩
theorem lock5 (D : DS W cb mb wb rc fb mu 0 out es ck ws ch X) : Calls Try.prog 32 #[.pointer (some ⟨cb, 5, none⟩)] W fun e w' => e = .returned (.tuple #[]) ∧ DS w' cb mb wb rc fb mu 1 out es ck ws ch X ∧ Kept W w' (· = cb) := by
  obtain ⟨C, hC⟩ := D.conn
  refine (Go.MuLone.lock_free muLib ⟨cb, 5, none⟩ W ((hC.cell 5).trans hC.c5) (hC.frozen 5)).mono ?_
  rintro e w' ⟨rfl, rfl⟩
  exact ⟨rfl, D.wlock 1, (Kept.refl W (· = cb)).setCell (.inl rfl) _⟩
theorem unlock5 (D : DS W cb mb wb rc fb mu 1 out es ck ws ch X) : Calls Try.prog 33 #[.pointer (some ⟨cb, 5, none⟩)] W fun e w' => e = .returned (.tuple #[]) ∧ DS w' cb mb wb rc fb mu 0 out es ck ws ch X ∧ Kept W w' (· = cb) := by
  obtain ⟨C, hC⟩ := D.conn
  refine (Go.MuLone.unlock_held muLib ⟨cb, 5, none⟩ W ((hC.cell 5).trans hC.c5) (hC.frozen 5)).mono ?_
  rintro e w' ⟨rfl, rfl⟩
  exact ⟨rfl, D.wlock 0, (Kept.refl W (· = cb)).setCell (.inl rfl) _⟩
end Go.Proofs.Qxb6616696a
