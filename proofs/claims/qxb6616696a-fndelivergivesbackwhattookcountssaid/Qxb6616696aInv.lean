/-
  What holds between two frames in 'FnDeliverGivesBackWhatTookCounts'.
-/
import Derived.Test.Qxb6616696aTwo2
namespace Go.Proofs.Qxb6616696a
open Go.RowKit

theorem sumB_le (F : Nat → Fr) {i j : Nat} (h : i ≤ j) : sumB F i ≤ sumB F j := by
  induction j with
  | zero => obtain rfl : i = 0 := by omega
            exact Int.le_refl _
  | succ j ih =>
    by_cases e : i = j + 1
    · rw [e]; exact Int.le_refl _
    · have := ih (by omega)
      show _ ≤ sumB F j + _
      omega

theorem Two.lt {W0 w : World} {H cb mb wb ac db mdb vb vc nA nB : Nat} {es : Array MapEntry} {buf : Array Value} {TA TB : Int} {zA zB : List Int} (S : Two W0 H cb mb wb ac db mdb vb vc es buf TA nA zA TB nB zB w) : cb < w.heap.size ∧ mb < w.heap.size ∧ ac < w.heap.size := by
  obtain ⟨_, _, _, _, ck, s, r, svA, svB, C, ⟨⟨CA, hCA⟩, e2, e3, e4, _⟩, _⟩ := S
  exact ⟨lt_of_heap hCA.heap, lt_of_heap e2, lt_of_heap e4⟩
theorem kept_of_below {w w' : World} (h : Below w.heap.size w w') : Kept w w' Nothing := ⟨h.os, h.tape, h.output, h.size, fun k hk _ => h.block k hk⟩

/-- The state between two frames. -/
def Inv3 (W0 : World) (H v cb mb wb ac db mdb vb vc len : Nat) (F : Nat → Fr) (b : Bool) (at' : Int) (T : Int) (n : Nat) (z : List Int) (w : World) : Prop :=
  b = true ∧ at' = -1 ∧ Two W0 H cb mb wb ac db mdb vb vc #[⟨.int .u64 v, .pointer (some ⟨wb, 0, none⟩), 0⟩] #[] T n z T n z w ∨
  b = false ∧ ∃ j : Nat, j < len ∧ at' = j ∧ ∃ ba bc g, Two W0 H cb mb wb ac db mdb vb vc #[] #[.agg #[.int .u8 (F j).t, .int .u64 (F j).id, .slice ba (F j).bl bc]] T n z T n z w ∧ IsClone w g (.slice ba (F j).bl bc) (F j).bl (F j).bs ∧ g ≠ cb ∧ g ≠ mb ∧ g ≠ ac

theorem clone_keep {w1 w2 : World} {g n bc : Nat} {ba : Option Addr} {bs : List Int} {T : Nat → Prop} (h : IsClone w1 g (.slice ba n bc) n bs) (hk : Kept w1 w2 T) (hT : ¬ T g) : IsClone w2 g (.slice ba n bc) n bs := by
  obtain ⟨ba', bc', e, h⟩ := h
  refine ⟨ba', bc', e, ?_⟩
  rcases h with h | ⟨e', hc⟩
  · exact .inl h
  · exact .inr ⟨e', fun i hi => (World.cell?_of_block (w := w1) (hk.block g (heap_lt (hc i hi)) hT)).trans (hc i hi)⟩

end Go.Proofs.Qxb6616696a
