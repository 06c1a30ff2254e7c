/-
  What goes out: 'wire.AppendFrame' of a MORE frame, as a list of bytes behind what was there.
-/
import Derived.Test.Qxb6616696aState
import Derived.Maps.AppendAt
import Derived.OwnWalk
import Derived.Laws.OwnMore
import Derived.Lib.EndianBits
import Derived.Deep.RegionHeld3
import Derived.Deep.DrawnRows
namespace Go.Proofs.Qxb6616696a
open Go.RowKit Go.Conc
attribute [local go_sem ↓] Go.wp_at_zero Go.wp_at_succ

def be8 (v : Nat) : List Value := [Value.int .u8 ((v : Int) / 72057594037927936), Value.int .u8 ((v : Int) / 281474976710656 % 256), Value.int .u8 ((v : Int) / 1099511627776 % 256), Value.int .u8 ((v : Int) / 4294967296 % 256), Value.int .u8 ((v : Int) / 16777216 % 256), Value.int .u8 ((v : Int) / 65536 % 256), Value.int .u8 ((v : Int) / 256 % 256), Value.int .u8 ((v : Int) % 256)]
def be4 (v : Nat) : List Value := [Value.int .u8 ((v : Int) / 16777216), Value.int .u8 ((v : Int) / 65536 % 256), Value.int .u8 ((v : Int) / 256 % 256), Value.int .u8 ((v : Int) % 256)]

/-- The slice has grown: what comes back, what else is as it was. -/
structure Grown (W : World) (B : Nat) (v v' : Value) (n' : Nat) (xs' : List Value) (w' : World) : Prop where
  own : w'.ownsRow B 5 1 v' n' xs'
  kept : Kept W w' (fun k => v.ownBlock = some k)
  at' : v'.ownBlock = v.ownBlock ∨ ∃ g, v'.ownBlock = some g ∧ W.heap.size ≤ g

def GrowPost (W : World) (B : Nat) (v : Value) (n' : Nat) (xs' : List Value) (e : Ending) (w' : World) : Prop := ∃ v', e = .returned v' ∧ Grown W B v v' n' xs' w'
theorem grow_mk {W : World} {B : Nat} {v : Value} {n' : Nat} {xs' : List Value} {w' : World} (v' : Value) (h : Grown W B v v' n' xs' w') : GrowPost W B v n' xs' (.returned v') w' := ⟨v', rfl, h⟩

theorem kept_grown {W W1 w' : World} {v : Value} (h : Kept W W1 (fun k => v.ownBlock = some k)) (hg : W1.grownBy w' v.ownBlock) : Kept W w' (fun k => v.ownBlock = some k) :=
  h.trans ⟨hg.os, hg.tape, hg.output, hg.size, fun k hk hn => hg.block k hk (fun e => hn e.symm)⟩

theorem info5p : ∃ i, Try.prog.info? 5 = some i ∧ i.zero = some (.int .u8 0) ∧ i.size = 1 ∧ i.bytes = 1 := by
  obtain ⟨i, hi, hzz⟩ := Option.map_eq_some_iff.1 info5
  simp only [Prod.mk.injEq] at hzz
  exact ⟨i, hi, hzz.1, hzz.2.1, hzz.2.2⟩

set_option maxHeartbeats 4000000 in
set_option maxRecDepth 100000 in
theorem appU64 (B n v : Nat) (hv : v < 18446744073709551616) (sv : Value) (xs : List Value) (w : World) (hown : w.ownsRow B 5 1 sv n xs) (hBw : B ≤ w.heap.size) (hlim : n ≤ 100000000) :
    Calls Try.prog 47 #[.agg #[], sv, .int .u64 v] w (GrowPost w B sv (n + 8) (xs ++ be8 v)) := by
  obtain ⟨i0, hi, hz0, hz1, hz2⟩ := info5p
  go_enter Try.func47, Try.ntmps47
  go_wp2_with (at_builtin; refine wpList_append_own_at _ rfl _ _ 28 rfl B 5 i0 (.int .u8 0) 1 1 Try.underlying28 hi hz0 hz1 hz2 rfl (by decide) _ _ _ rfl ((hown.alloc _).alloc _) _ 8 8 (be8 v) rfl rfl ?c1 ?c2 ?c3 ?c4 ?c5 ?_)
  case c1 =>
    intro j u hj
    match j, hj with
    | 0, hj => simp [be8] at hj; subst hj; simp [Addr.add]
    | 1, hj => simp [be8] at hj; subst hj; simp [Addr.add]
    | 2, hj => simp [be8] at hj; subst hj; simp [Addr.add]
    | 3, hj => simp [be8] at hj; subst hj; simp [Addr.add]
    | 4, hj => simp [be8] at hj; subst hj; simp [Addr.add]
    | 5, hj => simp [be8] at hj; subst hj; simp [Addr.add]
    | 6, hj => simp [be8] at hj; subst hj; simp [Addr.add]
    | 7, hj => simp [be8] at hj; subst hj; simp [Addr.add]
  case c2 => intro u hu; simp [be8] at hu; rcases hu with rfl | rfl | rfl | rfl | rfl | rfl | rfl | rfl <;> rfl
  case c3 => unfold maxLen; omega
  case c4 => omega
  case c5 => simp; omega
  intro v' w2 hown' hgrow _ hat
  go_wp2
  go_ret
  refine grow_mk v' ⟨hown', kept_grown (((Kept.refl w _).alloc _).alloc _) hgrow, ?_⟩
  rcases hat with h | h
  · exact .inl h
  · exact .inr ⟨_, h, by omega⟩

set_option maxHeartbeats 4000000 in
set_option maxRecDepth 100000 in
theorem appU32 (B n v : Nat) (hv : v < 4294967296) (sv : Value) (xs : List Value) (w : World) (hown : w.ownsRow B 5 1 sv n xs) (hBw : B ≤ w.heap.size) (hlim : n ≤ 100000000) :
    Calls Try.prog 74 #[.agg #[], sv, .int .u32 v] w (GrowPost w B sv (n + 4) (xs ++ be4 v)) := by
  obtain ⟨i0, hi, hz0, hz1, hz2⟩ := info5p
  go_enter Try.func74, Try.ntmps74
  go_wp2_with (at_builtin; refine wpList_append_own_at _ rfl _ _ 28 rfl B 5 i0 (.int .u8 0) 1 1 Try.underlying28 hi hz0 hz1 hz2 rfl (by decide) _ _ _ rfl ((hown.alloc _).alloc _) _ 4 4 (be4 v) rfl rfl ?c1 ?c2 ?c3 ?c4 ?c5 ?_)
  case c1 =>
    intro j u hj
    match j, hj with
    | 0, hj => simp [be4] at hj; subst hj; simp [Addr.add]
    | 1, hj => simp [be4] at hj; subst hj; simp [Addr.add]
    | 2, hj => simp [be4] at hj; subst hj; simp [Addr.add]
    | 3, hj => simp [be4] at hj; subst hj; simp [Addr.add]
  case c2 => intro u hu; simp [be4] at hu; rcases hu with rfl | rfl | rfl | rfl <;> rfl
  case c3 => unfold maxLen; omega
  case c4 => omega
  case c5 => simp; omega
  intro v' w2 hown' hgrow _ hat
  go_wp2
  go_ret
  refine grow_mk v' ⟨hown', kept_grown (((Kept.refl w _).alloc _).alloc _) hgrow, ?_⟩
  rcases hat with h | h
  · exact .inl h
  · exact .inr ⟨_, h, by omega⟩

theorem Grown.from {W W1 : World} {B : Nat} {v v' : Value} {n' : Nat} {xs' : List Value} {w' : World} (h : Grown W1 B v v' n' xs' w') (hk : Kept W W1 (fun k => v.ownBlock = some k)) : Grown W B v v' n' xs' w' :=
  ⟨h.own, hk.trans h.kept, h.at'.imp id fun ⟨g, e, hg⟩ => ⟨g, e, Nat.le_trans hk.size hg⟩⟩
theorem Grown.step {W W1 : World} {B : Nat} {v v1 v' : Value} {n1 n' : Nat} {xs1 xs' : List Value} {w' : World} (h : Grown W B v v1 n1 xs1 W1) (h' : Grown W1 B v1 v' n' xs' w') : Grown W B v v' n' xs' w' := by
  refine ⟨h'.own, ⟨h'.kept.os.trans h.kept.os, h'.kept.tape.trans h.kept.tape, h'.kept.output.trans h.kept.output, Nat.le_trans h.kept.size h'.kept.size, fun k hk hn => ?_⟩, ?_⟩
  · rw [h'.kept.block k (Nat.lt_of_lt_of_le hk h.kept.size) ?_]
    · exact h.kept.block k hk hn
    · intro e
      rcases h.at' with h1 | ⟨g, h1, h2⟩
      · exact hn (h1 ▸ e)
      · rw [h1] at e; cases e; omega
  · rcases h'.at' with h1 | ⟨g, h1, h2⟩
    · rw [h1]; exact h.at'
    · exact .inr ⟨g, h1, Nat.le_trans h.kept.size h2⟩

set_option maxRecDepth 100000 in
theorem moreAppend (B n m : Nat) (hv : m < 4294967296) (sv : Value) (xs : List Value) (w : World) (hown : w.ownsRow B 5 1 sv n xs) (hBw : B ≤ w.heap.size) (hlim : n ≤ 100000000) :
    Calls Try.prog 73 #[.agg #[.int .u32 m], sv] w (GrowPost w B sv (n + 4) (xs ++ be4 m)) := by
  go_enter Try.func73, Try.ntmps73
  go_wp2_with fail
  refine (appU32 B n m hv sv xs _ (hown.alloc _) (by simp; omega) hlim).mono ?_
  rintro e w' ⟨v', rfl, G⟩
  go_wp2
  go_ret
  exact grow_mk v' (G.from ((Kept.refl w _).alloc _))

/-- What 'appendHeader' hands back. -/
def HeadPost (W : World) (B : Nat) (v : Value) (n : Nat) (xs' : List Value) (e : Ending) (w' : World) : Prop := ∃ v', e = .returned (.tuple #[v', .int .i64 (n + 9 : Nat)]) ∧ Grown W B v v' (n + 13) xs' w'
theorem head_mk {W : World} {B : Nat} {v : Value} {n : Nat} {xs' : List Value} {w' : World} (v' : Value) (h : Grown W B v v' (n + 13) xs' w') : HeadPost W B v n xs' (.returned (.tuple #[v', .int .i64 (n + 9 : Nat)])) w' := ⟨v', rfl, h⟩

theorem grown_append {W W1 w' : World} {B n' : Nat} {v v' : Value} {xs' : List Value} (hk : Kept W W1 (fun k => v.ownBlock = some k)) (hown : w'.ownsRow B 5 1 v' n' xs') (hg : W1.grownBy w' v.ownBlock) {g0 : Nat} (hat : v'.ownBlock = v.ownBlock ∨ v'.ownBlock = some g0) (h0 : W.heap.size ≤ g0) : Grown W B v v' n' xs' w' :=
  ⟨hown, kept_grown hk hg, hat.imp id fun h => ⟨_, h, h0⟩⟩

set_option maxHeartbeats 4000000 in
set_option maxRecDepth 100000 in
theorem header (B n v : Nat) (hv : v < 18446744073709551616) (sv : Value) (xs : List Value) (w : World) (hown : w.ownsRow B 5 1 sv n xs) (hBw : B ≤ w.heap.size) (hlim : n ≤ 10000000) :
    Calls Try.prog 37 #[sv, .int .u8 8, .int .u64 v] w (HeadPost w B sv n (xs ++ [.int .u8 8] ++ be8 v ++ [.int .u8 0, .int .u8 0, .int .u8 0, .int .u8 0])) := by
  obtain ⟨i0, hi, hz0, hz1, hz2⟩ := info5p
  go_enter Try.func37, Try.ntmps37
  go_wp2_with (at_builtin; refine wpList_append_own_at _ rfl _ _ 28 rfl B 5 i0 (.int .u8 0) 1 1 Try.underlying28 hi hz0 hz1 hz2 rfl (by decide) _ _ _ rfl (hown.alloc _) _ 1 1 [.int .u8 8] rfl rfl ?c1 ?c2 ?c3 ?c4 ?c5 ?_)
  case c1 =>
    intro j u hj
    match j, hj with
    | 0, hj => simp at hj; subst hj; simp [Addr.add]
  case c2 => intro u hu; simp at hu; subst hu; rfl
  case c3 => unfold maxLen; omega
  case c4 => omega
  case c5 => simp; omega
  intro v1 w1 hown1 hgrow1 _ hat1
  have G1 := grown_append ((Kept.refl w _).alloc _) hown1 hgrow1 hat1 (by omega)
  have hB1 : B ≤ w1.heap.size := Nat.le_trans hBw G1.kept.size
  clear hown hgrow1 hat1
  go_wp2_with fail
  refine (appU64 B (n + 1) v hv v1 _ _ hown1 hB1 (by omega)).mono ?_
  rintro e w2 ⟨v2, rfl, G2⟩
  have G := G1.step G2
  have hB2 : B ≤ w2.heap.size := Nat.le_trans hBw G.kept.size
  clear G1 G2 hown1
  obtain ⟨g2, cap2, rfl, _, _⟩ := G.own.form (by omega)
  go_wp2_with (at_builtin; refine wpList_append_own_at _ rfl _ _ 28 rfl B 5 i0 (.int .u8 0) 1 1 Try.underlying28 hi hz0 hz1 hz2 rfl (by decide) _ _ _ rfl (G.own.alloc _) _ 4 4 [.int .u8 0, .int .u8 0, .int .u8 0, .int .u8 0] rfl rfl ?d1 ?d2 ?d3 ?d4 ?d5 ?_)
  case d1 =>
    intro j u hj
    match j, hj with
    | 0, hj => simp at hj; subst hj; simp [Addr.add]
    | 1, hj => simp at hj; subst hj; simp [Addr.add]
    | 2, hj => simp at hj; subst hj; simp [Addr.add]
    | 3, hj => simp at hj; subst hj; simp [Addr.add]
  case d2 => intro u hu; simp at hu; subst hu; rfl
  case d3 => unfold maxLen; omega
  case d4 => omega
  case d5 => simp; omega
  intro v3 w3 hown3 hgrow3 _ hat3
  have G3 := G.step (grown_append ((Kept.refl w2 _).alloc _) hown3 hgrow3 hat3 (by omega))
  clear hown3 hgrow3 hat3 G
  go_wp2
  go_ret2
  have h9 : (Value.int .i64 ((n : Int) + 1 + 8)) = .int .i64 (n + 9 : Nat) := by congr 1
  show HeadPost w B sv n _ (.returned (.tuple #[v3, .int .i64 ((n : Int) + 1 + 8)])) w3
  rw [h9]
  exact head_mk v3 (by simpa [List.append_assoc] using G3)

set_option maxHeartbeats 4000000 in
set_option maxRecDepth 100000 in
theorem put32 (g o n c v : Nat) (hv : v < 4294967296) (x0 x1 x2 x3 : Value) (w : World) (hn : 4 ≤ n)
    (c0 : w.cell? ⟨g, o, none⟩ = some x0) (c1 : w.cell? ⟨g, o + 1, none⟩ = some x1) (c2 : w.cell? ⟨g, o + 2, none⟩ = some x2) (c3 : w.cell? ⟨g, o + 3, none⟩ = some x3)
    (f0 : w.frozen? ⟨g, o, none⟩ = false) (f1 : w.frozen? ⟨g, o + 1, none⟩ = false) (f2 : w.frozen? ⟨g, o + 2, none⟩ = false) (f3 : w.frozen? ⟨g, o + 3, none⟩ = false) :
    Calls Try.prog 48 #[.agg #[], .slice (some ⟨g, o, none⟩) n c, .int .u32 v] w fun e w' => e = .returned (.tuple #[]) ∧
      w' = (((((w.alloc (.cells #[] 99)).setCell ⟨g, o, none⟩ (.int .u8 ((v : Int) / 16777216))).setCell ⟨g, o + 1, none⟩ (.int .u8 ((v : Int) / 65536 % 256))).setCell ⟨g, o + 2, none⟩ (.int .u8 ((v : Int) / 256 % 256))).setCell ⟨g, o + 3, none⟩ (.int .u8 ((v : Int) % 256))) := by
  have hg : g ≠ w.heap.size := Nat.ne_of_lt (heap_lt c0)
  have d0 := (World.cell?_alloc_old w (.cells #[] 99) ⟨g, o, none⟩ hg).trans c0
  have d1 := (World.cell?_alloc_old w (.cells #[] 99) ⟨g, o + 1, none⟩ hg).trans c1
  have d2 := (World.cell?_alloc_old w (.cells #[] 99) ⟨g, o + 2, none⟩ hg).trans c2
  have d3 := (World.cell?_alloc_old w (.cells #[] 99) ⟨g, o + 3, none⟩ hg).trans c3
  have e0 := (World.frozen?_alloc_old w (.cells #[] 99) ⟨g, o, none⟩ hg).trans f0
  have e1 := (World.frozen?_alloc_old w (.cells #[] 99) ⟨g, o + 1, none⟩ hg).trans f1
  have e2 := (World.frozen?_alloc_old w (.cells #[] 99) ⟨g, o + 2, none⟩ hg).trans f2
  have e3 := (World.frozen?_alloc_old w (.cells #[] 99) ⟨g, o + 3, none⟩ hg).trans f3
  go_enter Try.func48, Try.ntmps48
  go_wp2
  go_end0
  exact ⟨rfl, rfl⟩

end Go.Proofs.Qxb6616696a
