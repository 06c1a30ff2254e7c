/-
  'appendLocked', 'ZZappendMore': a MORE frame on what goes out.
-/
import Derived.Test.Qxb6616696aWire2
namespace Go.Proofs.Qxb6616696a
open Go.RowKit Go.Conc
attribute [local go_sem ↓] Go.wp_at_zero Go.wp_at_succ

variable {W : World} {cb mb B n v m : Nat} {mu wmu : Int} {sv : Value} {xs : List Value} {C : Array Value}

/-- What 'appendLocked' leaves. -/
structure Locked (W : World) (B cb mb : Nat) (mu wmu : Int) (sv sv' : Value) (n' : Nat) (xs' : List Value) (w' : World) : Prop where
  conn : ∃ C, ConnAt w' cb mb mu wmu sv' C
  own : w'.ownsRow B 5 1 sv' n' xs'
  kept : Kept W w' (fun k => k = cb ∨ sv.ownBlock = some k)
  at' : sv'.ownBlock = sv.ownBlock ∨ ∃ g, sv'.ownBlock = some g ∧ W.heap.size ≤ g

theorem own5_ne {W : World} {g k : Nat} {sv : Value} {o : Obj} (h : W.ownsRow B 5 1 sv n xs) (hg : sv.ownBlock = some g) (hk : W.heap[k]? = some o) (ho : ∀ cur, o ≠ .cells cur 5 (0, 0)) : g ≠ k := fun e => by
  obtain ⟨_, cur, hc⟩ := own_heap h hg
  subst e
  rw [hc] at hk
  exact ho cur (Option.some.inj hk).symm

theorem locked_of (hC : ConnAt W cb mb mu wmu sv C) (hown : W.ownsRow B 5 1 sv n xs) {w1 : World} {sv' : Value} {n' : Nat} {xs' : List Value} (G : Grown W B sv sv' n' xs' w1) : Locked W B cb mb mu wmu sv sv' n' xs' (w1.setCell ⟨cb, 8, none⟩ sv') := by
  have hC1 : ConnAt w1 cb mb mu wmu sv C := hC.of_heap (G.kept.block cb (lt_of_heap hC.heap) (fun e => own5_ne hown e hC.heap (fun _ h => by cases h) rfl))
  refine ⟨⟨_, hC1.set8 sv'⟩, own_keep G.own fun g hg => Below.heap_setCell _ _ _ _ (own5_ne G.own hg hC1.heap (fun _ h => by cases h)), (G.kept.mono fun k h => .inr h).setCell (p := ⟨cb, 8, none⟩) (.inl (.inl rfl)) sv', G.at'⟩

set_option maxRecDepth 100000 in
theorem appendLocked (hC : ConnAt W cb mb mu wmu sv C) (hv : v < 18446744073709551616) (hm : m < 4294967296) (hown : W.ownsRow B 5 1 sv n xs) (hB : B ≤ W.heap.size) (hlim : n ≤ 1000000) :
    Calls Try.prog 30 #[.pointer (some ⟨cb, 0, none⟩), .int .u8 8, .int .u64 v, .iface 83 (.agg #[.int .u32 m])] W fun e w' => e = .returned (.tuple #[]) ∧ ∃ sv', Locked W B cb mb mu wmu sv sv' (n + 17) (xs ++ more17 v m) w' := by
  have h8 := (hC.cell 8).trans hC.c8
  go_enter Try.func30, Try.ntmps30
  go_wp2_with fail
  refine (appendFrame B n v m hv hm sv xs W hown hB hlim).mono ?_
  rintro e w1 ⟨sv', rfl, G⟩
  obtain ⟨g1, cap1, rfl, _, _⟩ := G.own.form (by omega)
  have hL := locked_of hC hown G
  have hC1 : ConnAt w1 cb mb mu wmu sv C := hC.of_heap (G.kept.block cb (lt_of_heap hC.heap) (fun e => own5_ne hown e hC.heap (fun _ h => by cases h) rfl))
  have d8 := (hC1.cell 8).trans hC1.c8
  have z8 := hC1.frozen 8
  clear hC hC1 G hown h8
  have HL := Hid.mk hL
  clear hL
  go_wp2
  go_end0
  exact ⟨rfl, _, HL.out⟩

set_option maxRecDepth 100000 in
theorem zzAppendMore (hC : ConnAt W cb mb mu wmu sv C) (hv : v < 18446744073709551616) (hm : m < 4294967296) (hown : W.ownsRow B 5 1 sv n xs) (hB : B ≤ W.heap.size) (hlim : n ≤ 1000000) :
    Calls Try.prog 25 #[.pointer (some ⟨cb, 0, none⟩), .int .u64 v, .int .u32 m] W fun e w' => e = .returned (.tuple #[]) ∧ ∃ sv', Locked W B cb mb mu wmu sv sv' (n + 17) (xs ++ more17 v m) w' := by
  go_enter Try.func25, Try.ntmps25
  go_wp2_with fail
  refine (appendLocked hC hv hm hown hB hlim).mono ?_
  rintro e w1 ⟨rfl, sv', L⟩
  go_wp2
  go_end0
  exact ⟨rfl, sv', L⟩
end Go.Proofs.Qxb6616696a
