/-
  'endFrame', 'AppendFrame' of a MORE frame.
-/
import Derived.Test.Qxb6616696aWire
namespace Go.Proofs.Qxb6616696a
open Go.RowKit Go.Conc
attribute [local go_sem ↓] Go.wp_at_zero Go.wp_at_succ

/-- The row after four bytes were laid in. -/
def laid4 (xs : List Value) (a : Nat) : List Value := (((xs.set a (.int .u8 0)).set (a + 1) (.int .u8 0)).set (a + 2) (.int .u8 0)).set (a + 3) (.int .u8 4)

theorem four {w w' : World} {g a : Nat}
    (h : w' = (((((w.alloc (.cells #[] 99)).setCell ⟨g, a, none⟩ (.int .u8 (((4 : Nat) : Int) / 16777216))).setCell ⟨g, a + 1, none⟩ (.int .u8 (((4 : Nat) : Int) / 65536 % 256))).setCell ⟨g, a + 2, none⟩ (.int .u8 (((4 : Nat) : Int) / 256 % 256))).setCell ⟨g, a + 3, none⟩ (.int .u8 (((4 : Nat) : Int) % 256)))) :
    w' = ((((w.alloc (.cells #[] 99)).setCell ⟨g, a, none⟩ (.int .u8 0)).setCell ⟨g, a + 1, none⟩ (.int .u8 0)).setCell ⟨g, a + 2, none⟩ (.int .u8 0)).setCell ⟨g, a + 3, none⟩ (.int .u8 4) := by
  rw [show (((4 : Nat) : Int) / 16777216) = 0 by decide, show (((4 : Nat) : Int) / 65536 % 256) = 0 by decide, show (((4 : Nat) : Int) / 256 % 256) = 0 by decide, show (((4 : Nat) : Int) % 256) = 4 by decide] at h
  exact h

theorem putRow (B a g cap : Nat) (xs : List Value) (w : World) (hown : w.ownsRow B 5 1 (.slice (some ⟨g, 0, none⟩) (a + 8) cap) (a + 8) xs) :
    Calls Try.prog 48 #[.agg #[], .slice (some ⟨g, a, none⟩) 8 (cap - a), .int .u32 4] w fun e w' => e = .returned (.tuple #[]) ∧ w'.ownsRow B 5 1 (.slice (some ⟨g, 0, none⟩) (a + 8) cap) (a + 8) (laid4 xs a) ∧ Kept w w' (fun k => some g = some k) := by
  have hxl : xs.length = a + 8 := by simpa using hown.1
  obtain ⟨x0, h0⟩ : ∃ x, xs[a]? = some x := ⟨_, List.getElem?_eq_getElem (by omega)⟩
  obtain ⟨x1, h1⟩ : ∃ x, xs[a + 1]? = some x := ⟨_, List.getElem?_eq_getElem (by omega)⟩
  obtain ⟨x2, h2⟩ : ∃ x, xs[a + 2]? = some x := ⟨_, List.getElem?_eq_getElem (by omega)⟩
  obtain ⟨x3, h3⟩ : ∃ x, xs[a + 3]? = some x := ⟨_, List.getElem?_eq_getElem (by omega)⟩
  refine (put32 g a 8 (cap - a) 4 (by omega) x0 x1 x2 x3 w (by omega) ((hown.cellAt a (by omega)).trans h0) ((hown.cellAt (a + 1) (by omega)).trans h1) ((hown.cellAt (a + 2) (by omega)).trans h2) ((hown.cellAt (a + 3) (by omega)).trans h3) (hown.frozenAt _) (hown.frozenAt _) (hown.frozenAt _) (hown.frozenAt _)).mono ?_
  rintro e w' ⟨he, hw⟩
  have hw := four hw
  have o1 := (World.ownsRow.stored (hown.alloc (.cells #[] 99)) a (.int .u8 0)).1
  have o2 := (o1.stored (a + 1) (.int .u8 0)).1
  have o3 := (o2.stored (a + 2) (.int .u8 0)).1
  have o4 := (o3.stored (a + 3) (.int .u8 4)).1
  have k4 := ((((((Kept.refl w (fun k => some g = some k)).alloc (.cells #[] 99)).setCell (p := ⟨g, a, none⟩) (.inl rfl) (.int .u8 0)).setCell (p := ⟨g, a + 1, none⟩) (.inl rfl) (.int .u8 0)).setCell (p := ⟨g, a + 2, none⟩) (.inl rfl) (.int .u8 0)).setCell (p := ⟨g, a + 3, none⟩) (.inl rfl) (.int .u8 4))
  rw [← hw] at o4 k4
  exact ⟨he, o4, k4⟩

/-- 'endFrame' at a frame whose payload is four bytes: the length is laid in. -/
theorem endFrame (B a g cap : Nat) (xs : List Value) (w : World) (hown : w.ownsRow B 5 1 (.slice (some ⟨g, 0, none⟩) (a + 8) cap) (a + 8) xs) (hlim : a ≤ 10000000) :
    Calls Try.prog 38 #[.slice (some ⟨g, 0, none⟩) (a + 8) cap, .int .i64 a] w (GrowPost w B (.slice (some ⟨g, 0, none⟩) (a + 8) cap) (a + 8) (laid4 xs a)) := by
  obtain ⟨hcap, hmax⟩ : a + 8 ≤ cap ∧ cap ≤ maxLen := by
    rcases hown.2 with ⟨h, _⟩ | ⟨g', cap', cur, h, _, _, h1, h2, _⟩
    · cases h
    · cases h; exact ⟨h1, h2⟩
  unfold maxLen at hmax
  have ha1 : (0 : Int) ≤ (a : Int) := by omega
  have ha2 : (a : Int) ≤ (a : Int) + 8 := by omega
  have ha3 : (a : Int) + 8 ≤ (cap : Int) := by omega
  have ha4 : (a : Int) ≤ (cap : Int) := by omega
  have hca : ¬ cap = a := by omega
  have hx1 : IntKind.i64.wrap ((a : Int) + 8 - a) = 8 := by rw [show (a : Int) + 8 - a = 8 by omega]; rfl
  have hx2 : IntKind.i64.wrap (8 - 4) = 4 := rfl
  have hx3 : IntKind.u32.wrap 4 = 4 := rfl
  have HP := Hid.mk (putRow B a g cap xs w.drew hown)
  clear hown
  generalize laid4 xs a = ys at *
  go_enter Try.func38, Try.ntmps38
  go_wp2_with fail
  go_region_held3 (fun _ => True) (first | go_keep | trivial) (first | (go_at_call 48; refine HP.out.mono ?_; rintro e w1 ⟨rfl, o4, k4⟩))
  clear HP
  go_wp2
  go_ret
  exact grow_mk _ ⟨o4, ((Kept.refl w _).drew).trans k4, .inl rfl⟩

/-- A MORE frame's bytes. -/
def more17 (v m : Nat) : List Value := [.int .u8 8] ++ be8 v ++ [.int .u8 0, .int .u8 0, .int .u8 0, .int .u8 4] ++ be4 m

theorem more17_of (xs : List Value) (n v m : Nat) (h : xs.length = n) :
    laid4 ((xs ++ [Value.int .u8 8] ++ be8 v ++ [Value.int .u8 0, Value.int .u8 0, Value.int .u8 0, Value.int .u8 0]) ++ be4 m) (n + 9) = xs ++ more17 v m := by
  subst h
  unfold laid4
  simp only [List.append_assoc]
  rw [List.set_append_right _ _ (by omega), List.set_append_right _ _ (by omega), List.set_append_right _ _ (by omega), List.set_append_right _ _ (by omega)]
  rw [show xs.length + 9 - xs.length = 9 by omega, show xs.length + 9 + 1 - xs.length = 10 by omega, show xs.length + 9 + 2 - xs.length = 11 by omega, show xs.length + 9 + 3 - xs.length = 12 by omega]
  rfl

@[go_sem] theorem moreMethod (v x : Value) (w : World) : (callMethod (.iface 83 v) "Append" #[x]).run Try.prog w = .ok (.enter 73 #[v, x]) w := by kernel_rfl

set_option maxRecDepth 100000 in
theorem appendFrame (B n v m : Nat) (hv : v < 18446744073709551616) (hm : m < 4294967296) (sv : Value) (xs : List Value) (w : World) (hown : w.ownsRow B 5 1 sv n xs) (hBw : B ≤ w.heap.size) (hlim : n ≤ 1000000) :
    Calls Try.prog 34 #[sv, .int .u8 8, .int .u64 v, .iface 83 (.agg #[.int .u32 m])] w (GrowPost w B sv (n + 17) (xs ++ more17 v m)) := by
  go_enter Try.func34, Try.ntmps34
  go_wp2_with fail
  refine (header B n v hv sv xs w hown hBw (by omega)).mono ?_
  rintro e w1 ⟨v1, rfl, G1⟩
  have hB1 : B ≤ w1.heap.size := Nat.le_trans hBw G1.kept.size
  go_wp2_with fail
  refine (moreAppend B (n + 13) m hm v1 _ w1 G1.own hB1 (by omega)).mono ?_
  rintro e w2 ⟨v2, rfl, G2⟩
  have G := G1.step G2
  clear G1 G2 hB1
  obtain ⟨g2, cap2, rfl, _, _⟩ := G.own.form (by omega)
  have HE := endFrame B (n + 9) g2 cap2 _ w2 G.own (by omega)
  rw [more17_of xs n v m (by simpa using hown.1)] at HE
  have HG := Hid.mk G
  clear G
  go_wp2_with fail
  refine HE.mono ?_
  rintro e w3 ⟨v3, rfl, G3⟩
  have G := HG.out.step G3
  go_wp2
  go_ret
  exact grow_mk v3 G
end Go.Proofs.Qxb6616696a
