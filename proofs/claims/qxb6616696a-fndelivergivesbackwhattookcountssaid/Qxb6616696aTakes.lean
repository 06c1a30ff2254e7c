/-
  'deliver' of a PART to a plain call: it is counted, and where much was counted a MORE frame goes out.
-/
import Derived.Test.Qxb6616696aGive
namespace Go.Proofs.Qxb6616696a
open Go.RowKit Go.Conc
attribute [local go_sem ↓] Go.wp_at_zero Go.wp_at_succ

/-- The waiter of a plain call. -/
def callCells (ac : Nat) (t : Int) : Array Value := #[.chan (some ac), .bool false, .slice none 0 0, .int .i64 0, .chan none, .int .i64 t]

variable {W : World} {cb mb wb rc fb ck : Nat} {mu wmu : Int} {out : Value} {es : Array MapEntry} {ws X : Array Value} {ch : Obj}

theorem DS.alloc (D : DS W cb mb wb rc fb mu wmu out es ck ws ch X) (o : Obj) : DS (W.alloc o) cb mb wb rc fb mu wmu out es ck ws ch X := by
  refine D.kept fun k hk => Below.heap_alloc _ _ _ ?_
  obtain ⟨⟨C, hC⟩, h2, h3, h4, h5, _⟩ := D
  rcases hk with rfl | rfl | rfl | rfl | rfl
  · exact lt_of_heap hC.heap
  · exact lt_of_heap h2
  · exact lt_of_heap h3
  · exact lt_of_heap h4
  · exact lt_of_heap h5

/-- The row of what goes out is none of the five blocks. -/
theorem DS.own_ne {B n : Nat} {sv : Value} {xs : List Value} (D : DS W cb mb wb rc fb mu wmu out es ck ws ch X) (hown : W.ownsRow B 5 1 sv n xs) {g : Nat} (hg : sv.ownBlock = some g) : g ≠ cb ∧ g ≠ mb ∧ g ≠ wb ∧ g ≠ rc ∧ g ≠ fb := by
  obtain ⟨⟨C, hC⟩, h2, h3, h4, h5, ⟨_, _, _, _, _, _, rfl⟩⟩ := D
  exact ⟨own5_ne hown hg hC.heap (fun _ h => by cases h), own5_ne hown hg h2 (fun _ h => by cases h), own5_ne hown hg h3 (fun _ h => by cases h), own5_ne hown hg h4 (fun _ h => by cases h), own5_ne hown hg h5 (fun _ h => by cases h)⟩

/-- The row survives where nothing but the connection and the waiter turn. -/
theorem own_past {B n : Nat} {sv : Value} {xs : List Value} {w' : World} {S : Nat → Prop} (hown : W.ownsRow B 5 1 sv n xs) (kp : Kept W w' S) (h : ∀ g, sv.ownBlock = some g → ¬ S g) : w'.ownsRow B 5 1 sv n xs :=
  own_keep hown fun g hg => by
    obtain ⟨_, cur, hc⟩ := own_heap hown hg
    exact kp.block g (lt_of_heap hc) (h g hg)

theorem DS.locked {B n' : Nat} {sv sv' : Value} {xs' : List Value} {w' : World} {n : Nat} {xs : List Value} (D : DS W cb mb wb rc fb mu wmu sv es ck ws ch X) (hown : W.ownsRow B 5 1 sv n xs) (L : Locked W B cb mb mu wmu sv sv' n' xs' w') : DS w' cb mb wb rc fb mu wmu sv' es ck ws ch X := by
  obtain ⟨n1, n2, n3, n4, _⟩ := D.ne
  have hne := fun g hg => D.own_ne hown (g := g) hg
  obtain ⟨⟨C, hC⟩, h2, h3, h4, h5, h6⟩ := D
  refine ⟨L.conn, (L.kept.block mb (lt_of_heap h2) ?_).trans h2, (L.kept.block wb (lt_of_heap h3) ?_).trans h3, (L.kept.block rc (lt_of_heap h4) ?_).trans h4, (L.kept.block fb (lt_of_heap h5) ?_).trans h5, h6⟩
  · rintro (e | e)
    · exact n1 e.symm
    · exact (hne _ e).2.1 rfl
  · rintro (e | e)
    · exact n2 e.symm
    · exact (hne _ e).2.2.1 rfl
  · rintro (e | e)
    · exact n3 e.symm
    · exact (hne _ e).2.2.2.1 rfl
  · rintro (e | e)
    · exact n4 e.symm
    · exact (hne _ e).2.2.2.2 rfl

/-- What a PART to a plain call leaves. -/
def TakePost (W : World) (B cb mb wb rc : Nat) (sv : Value) (es : Array MapEntry) (ck : Nat) (T' : Int) (ch : Obj) (n : Nat) (xs : List Value) (v m : Nat) (e : Ending) (w' : World) : Prop :=
  e = .returned (.tuple #[]) ∧ ∃ sv' n' xs', ES w' cb mb wb rc sv' es ck (callCells rc T') ch ∧ w'.ownsRow B 5 1 sv' n' xs' ∧ (m = 0 ∧ n' = n ∧ xs' = xs ∨ 0 < m ∧ n' = n + 17 ∧ xs' = xs ++ more17 v m) ∧
    Kept W w' (fun k => k = cb ∨ k = wb ∨ sv.ownBlock = some k) ∧ (sv'.ownBlock = sv.ownBlock ∨ ∃ g, sv'.ownBlock = some g ∧ W.heap.size ≤ g)

set_option maxHeartbeats 2000000 in
theorem deliver_take (B n v m : Nat) (T0 T' : Int) (ba : Option Addr) (bl bc : Nat) (sv : Value) (xs : List Value)
    (E : ES W cb mb wb rc sv es ck (callCells rc T0) ch) (hown : W.ownsRow B 5 1 sv n xs) (hB : B ≤ W.heap.size) (hn : n ≤ 1000000) (hv : v < 18446744073709551616)
    (h0 : 0 ≤ T0) (h1 : T0 < 32768) (h2 : (bl : Int) ≤ 1048576) (hR : tookR T0 bl = (m : Int)) (hT : tookT T0 bl = T')
    (hlook : ∀ W' : World, W'.heap[mb]? = some (.map es ck) → (Instr.lookup 61 (.map (some mb)) (.int .u64 v) false).run Try.prog W' = .ok (.pointer (some ⟨wb, 0, none⟩)) W') :
    Calls Try.prog 29 #[.pointer (some ⟨cb, 0, none⟩), .agg #[.int .u8 7, .int .u64 v, .slice ba bl bc]] W (TakePost W B cb mb wb rc sv es ck T' ch n xs v m) := by
  have hm : m < 4294967296 := by rcases took_cases T0 bl with ⟨h, _⟩ | ⟨h, _⟩ <;> omega
  have D0 := E.boxed #[.int .u8 7, .int .u64 v, .slice ba bl bc]
  have hk0 : Kept W (W.alloc (.cells #[.int .u8 7, .int .u64 v, .slice ba bl bc] 59)) (fun k => k = cb ∨ k = wb ∨ sv.ownBlock = some k) := (Kept.refl W _).alloc _
  have hown0 := hown.alloc (.cells #[.int .u8 7, .int .u64 v, .slice ba bl bc] 59)
  have HL : Hid (∀ W' : World, W'.heap[mb]? = some (.map es ck) → (Instr.lookup 61 (.map (some mb)) (.int .u64 v) false).run Try.prog W' = .ok (.pointer (some ⟨wb, 0, none⟩)) W') := hlook
  have HTK : Hid (∀ W' : World, W'.cell? ⟨wb, 5, none⟩ = some (.int .i64 T0) → W'.frozen? ⟨wb, 5, none⟩ = false → Calls Try.prog 28 #[.pointer (some ⟨wb, 0, none⟩), .agg #[.int .u8 7, .int .u64 v, .slice ba bl bc]] W' fun e w' => e = .returned (.int .u32 m) ∧
      w' = ((W'.setCell ⟨wb, 5, none⟩ (.int .i64 T')).alloc (.cells #[.int .u8 7, .int .u64 v, .slice ba bl bc] 59)).drew) := fun W' hc hz => by
    rw [← hR, ← hT]
    exact took_any wb T0 7 v ba bl bc W' hc hz h0 h1 h2
  clear hlook hR hT h0 h1 h2
  obtain ⟨fb, hfb⟩ : ∃ fb, W.heap.size = fb := ⟨_, rfl⟩
  rw [hfb] at D0
  go_enter Try.func29, Try.ntmps29
  go_wp2_with fail
  refine (lock14 D0).mono ?_
  rintro e W1 ⟨rfl, D1, k1⟩
  have hk1 := hk0.trans (k1.mono fun k h => .inl h)
  have hown1 := own_past hown0 k1 fun g hg => (D0.own_ne hown0 hg).1
  clear D0 hk0 k1 E hown hown0
  obtain ⟨C1, hC1⟩ := D1.conn
  have a16 := (hC1.cell 16).trans hC1.c16
  have f0 : W1.cell? ⟨fb, 0, none⟩ = some (.int .u8 7) := cell_of D1.box 0
  have f1 : W1.cell? ⟨fb, 1, none⟩ = some (.int .u64 v) := cell_of D1.box 1
  have f2 : W1.cell? ⟨fb, 2, none⟩ = some (.slice ba bl bc) := cell_of D1.box 2
  have w1 : W1.cell? ⟨wb, 1, none⟩ = some (.bool false) := cell_of D1.wait 1
  have w5 : W1.cell? ⟨wb, 5, none⟩ = some (.int .i64 T0) := cell_of D1.wait 5
  have z5 : W1.frozen? ⟨wb, 5, none⟩ = false := frozen_of D1.wait 5
  have hm1 := HL.out W1.drew D1.map
  go_wp2_with fail
  go_region_held3 (fun w' => w'.cell? ⟨cb, 16, none⟩ = some (.map (some mb)) ∧ w'.cell? ⟨fb, 1, none⟩ = some (.int .u64 v)) (go_keep) (fail)
  clear hm1 HL
  have D2 := ((D1.drew.setWait 5 (.int .i64 T')).alloc (.cells #[.int .u8 7, .int .u64 v, .slice ba bl bc] 59)).drew
  have hk2 := ((hk1.drew.setCell (p := ⟨wb, 5, none⟩) (.inl (.inr (.inl rfl))) (.int .i64 T')).alloc (.cells #[.int .u8 7, .int .u64 v, .slice ba bl bc] 59)).drew
  have hown2 : (((W1.drew.setCell ⟨wb, 5, none⟩ (.int .i64 T')).alloc (.cells #[.int .u8 7, .int .u64 v, .slice ba bl bc] 59)).drew).ownsRow B 5 1 sv n xs :=
    own_past hown1 ((((Kept.refl W1 (· = wb)).drew.setCell (p := ⟨wb, 5, none⟩) (.inl rfl) (.int .i64 T')).alloc (.cells #[.int .u8 7, .int .u64 v, .slice ba bl bc] 59)).drew) fun g hg => (D1.own_ne hown1 hg).2.2.1
  go_wp2_with fail
  refine (HTK.out W1.drew w5 z5).mono ?_
  rintro e W2 ⟨rfl, rfl⟩
  clear HTK a16 f0 f1 f2 w1 w5 z5 hC1 D1 hk1 hown1
  generalize ((W1.drew.setCell ⟨wb, 5, none⟩ (.int .i64 T')).alloc (.cells #[.int .u8 7, .int .u64 v, .slice ba bl bc] 59)).drew = W2 at *
  have D2' : DS W2 cb mb wb rc fb 1 0 sv es ck (callCells rc T') ch #[.int .u8 7, .int .u64 v, .slice ba bl bc] := D2
  clear D2
  go_wp2_with fail
  refine (unlock14 D2').mono ?_
  rintro e W3 ⟨rfl, D3, k3⟩
  have hk3 := hk2.trans (k3.mono fun k h => .inl h)
  have hown3 := own_past hown2 k3 fun g hg => (D2'.own_ne hown2 hg).1
  clear D2' hk2 hown2 k3
  by_cases hz : m = 0
  · subst hz
    go_wp2
    go_end0
    exact ⟨rfl, sv, n, xs, D3.unbox, hown3, .inl ⟨rfl, rfl, rfl⟩, hk3, .inl rfl⟩
  · have hpos : (0 : Int) < (m : Int) := by omega
    go_wp2_with fail
    refine (lock5 D3).mono ?_
    rintro e W4 ⟨rfl, D4, k4⟩
    have hk4 := hk3.trans (k4.mono fun k h => .inl h)
    have hown4 := own_past hown3 k4 fun g hg => (D3.own_ne hown3 hg).1
    clear D3 hk3 hown3 k4
    have f1 : W4.cell? ⟨fb, 1, none⟩ = some (.int .u64 v) := cell_of D4.box 1
    have hB4 : B ≤ W4.heap.size := Nat.le_trans hB hk4.size
    obtain ⟨C4, hC4⟩ := D4.conn
    go_wp2_with fail
    refine (appendLocked hC4 hv hm hown4 hB4 hn).mono ?_
    rintro e W5 ⟨rfl, sv', L⟩
    have D5 := D4.locked hown4 L
    have hk5 := hk4.trans (L.kept.mono fun k h => h.elim .inl fun h => .inr (.inr h))
    have hat : sv'.ownBlock = sv.ownBlock ∨ ∃ g, sv'.ownBlock = some g ∧ W.heap.size ≤ g := L.at'.imp id fun ⟨g, e, h⟩ => ⟨g, e, Nat.le_trans hk4.size h⟩
    have hown5 := L.own
    clear D4 hk4 hown4 f1 hC4 L
    go_wp2_with fail
    refine (unlock5 D5).mono ?_
    rintro e W6 ⟨rfl, D6, k6⟩
    go_wp2
    go_end0
    exact ⟨rfl, sv', n + 17, _, D6.unbox, own_past hown5 k6 fun g hg => (D5.own_ne hown5 hg).1, .inr ⟨by omega, rfl, rfl⟩, hk5.trans (k6.mono fun k h => .inl h), hat⟩
end Go.Proofs.Qxb6616696a
