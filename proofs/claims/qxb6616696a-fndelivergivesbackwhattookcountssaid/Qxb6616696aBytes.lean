/-
  'cloneBytes', 'sameBytes'.
-/
import Derived.Test.Qxb6616696aSize
import Derived.Deep.OwnRows
import Derived.Deep.QuietTactic
import Derived.BigQuiet
namespace Go.Proofs.Qxb6616696a
open Go.RowKit

/-- Bytes in memory at a world: nothing to read, or a row of cells from the block's first on. -/
def IsClone (W : World) (g : Nat) (v : Value) (n : Nat) (bs : List Int) : Prop :=
  ∃ ba bc, v = .slice ba n bc ∧ (n = 0 ∨ (ba = some ⟨g, 0, none⟩ ∧ ∀ i, i < n → W.cell? ⟨g, i, none⟩ = some (.int .u8 (bs.getD i 0))))

/-- Nothing but draws. -/
structure Same (w w' : World) : Prop where
  heap : w'.heap = w.heap
  os : w'.os = w.os
  tape : w'.tape = w.tape
  output : w'.output = w.output
theorem Same.refl (w : World) : Same w w := ⟨rfl, rfl, rfl, rfl⟩
theorem Same.trans {a b c : World} (h : Same a b) (k : Same b c) : Same a c := ⟨k.heap.trans h.heap, k.os.trans h.os, k.tape.trans h.tape, k.output.trans h.output⟩
theorem Same.drewN {a w : World} (h : Same a w) (n : Nat) : Same a (w.drewN n) := ⟨h.heap, h.os, h.tape, h.output⟩
theorem Same.cell {w w' : World} (h : Same w w') (a : Addr) : w'.cell? a = w.cell? a := by unfold World.cell?; rw [h.heap]
theorem Same.below {B : Nat} {w w' : World} (h : Same w w') : Below B w w' := ⟨h.os, h.tape, h.output, by rw [h.heap]; exact Nat.le_refl _, fun k _ => by rw [h.heap]⟩

theorem info5 : (Try.prog.info? 5).map (fun i => (i.zero, i.size, i.bytes)) = some (some (.int .u8 0), 1, 1) := by kernel_rfl

theorem nil28 (w : World) (a : Option Addr) (n c : Nat) : (binOp .eql 28 (.slice a n c) (.slice none 0 0)).run Try.prog w = .ok (.bool a.isNone) w := by
  cases a with
  | none => kernel_rfl
  | some x => kernel_rfl

def ClonePost (w : World) (bl : Nat) (bs : List Int) (e : Ending) (w' : World) : Prop := ∃ v, e = .returned v ∧ IsClone w' w.heap.size v bl bs ∧ Below w.heap.size w w'
theorem clone_mk {w w' : World} {bl : Nat} {bs : List Int} (v : Value) (h1 : IsClone w' w.heap.size v bl bs) (h2 : Below w.heap.size w w') : ClonePost w bl bs (.returned v) w' := ⟨v, rfl, h1, h2⟩

/-- Block g holds a row of n bytes, of which the first k are those of bs. -/
def Filled (W : World) (g n k : Nat) (bs : List Int) : Prop := ∃ C : Array Value, W.heap[g]? = some (.cells C 5 (0, 0)) ∧ C.size = n ∧ ∀ j, j < k → C[j]? = some (.int .u8 (bs.getD j 0))

theorem filled_start (w : World) (n : Nat) (bs : List Int) : Filled (w.alloc (.cells (madeCells #[.int .u8 0] n) 5)) w.heap.size n 0 bs :=
  ⟨_, (MapKept.heap_alloc w _).1, size_madeCells _ _, fun j hj => by omega⟩
theorem Filled.cell {W : World} {g n k : Nat} {bs : List Int} (h : Filled W g n k bs) (hk : k < n) : ∃ v, W.cell? ⟨g, k, none⟩ = some v := by
  obtain ⟨C, h1, h2, _⟩ := h
  refine ⟨C[k], ?_⟩
  simp [World.cell?, h1, h2, hk]
theorem Filled.frozen {W : World} {g n k : Nat} {bs : List Int} (h : Filled W g n k bs) (j : Nat) : W.frozen? ⟨g, j, none⟩ = false := by
  obtain ⟨C, h1, _⟩ := h
  simp [World.frozen?, h1]
theorem Filled.all {W : World} {g n : Nat} {bs : List Int} (h : Filled W g n n bs) : ∀ i, i < n → W.cell? ⟨g, i, none⟩ = some (.int .u8 (bs.getD i 0)) := fun i hi => by
  obtain ⟨C, h1, _, h3⟩ := h
  simp only [World.cell?, h1]
  simpa using h3 i hi
theorem Filled.store {W : World} {g n k : Nat} {bs : List Int} (h : Filled W g n k bs) (hk : k < n) {v : Value} (hv : v = .int .u8 (bs.getD k 0)) : Filled (W.setCell ⟨g, k, none⟩ v) g n (k + 1) bs := by
  obtain ⟨C, h1, h2, h3⟩ := h
  refine ⟨C.setIfInBounds k v, ?_, by simp [h2], fun j hj => ?_⟩
  · simp [World.setCell, Array.getElem?_modify, h1]
  · by_cases e : j = k
    · subst e
      simp [h2, hk, hv]
    · rw [Array.getElem?_setIfInBounds_ne (by omega)]
      exact h3 j (by omega)

set_option maxHeartbeats 400000 in
theorem clone_any (f : Fr) (w : World) (hB : IsBody w f) (hL : (f.bl : Int) ≤ 1048576) : Calls Try.prog 15 #[.slice f.ba f.bl f.bc] w (ClonePost w f.bl f.bs) := by
  obtain ⟨t, id, ba, bl, bc, bs⟩ := f
  obtain ⟨_, _, hnil, _, _, hrow⟩ := hB
  simp only at hnil hrow hL ⊢
  have hn := nil28
  have hmk := fun (n : Nat) (h1 : 1 * n ≤ 281474976710656) (h2 : n ≤ 9223372036854775807) (w : World) => run_make_row' (P := Try.prog) 28 5 (.int .u8 0) 1 Try.underlying28 info5 rfl .i64 .i64 n h1 h2 w
  have hmk' := hmk bl (by omega) (by omega)
  clear hmk
  cases ba with
  | none =>
    obtain ⟨rfl, rfl⟩ := hnil rfl
    go_enter Try.func15, Try.ntmps15
    go_wp2
    go_ret
    exact clone_mk _ ⟨none, 0, rfl, .inl rfl⟩ (Below.refl _ _)
  | some x =>
    clear hnil
    rcases hrow with rfl | ⟨b, o, hx, hb, hc⟩
    · clear hmk'
      have hmk0 : ∀ w : World, (Instr.makeSlice 28 (.int .i64 0) (.int .i64 0)).run Try.prog w = .ok (.slice (some ⟨w.heap.size, 0, none⟩) 0 0) (w.alloc (.cells #[] 5)) := fun _ => by kernel_rfl
      go_enter Try.func15, Try.ntmps15
      go_wp2
      go_loop [4] (fun i => i = .int .i64 0) (fun _ => 0)
      case atStart => rfl
      case round =>
        subst hrel
        go_wp2
        go_ret
        exact clone_mk _ ⟨_, 0, rfl, .inl rfl⟩ ((Below.refl _ _).alloc (Nat.le_refl _) _)
    · cases hx
      go_enter Try.func15, Try.ntmps15
      go_wp2
      clear hmk'
      go_loopw [4] (fun i wr => ∃ k : Nat, k ≤ bl ∧ i = .int .i64 k ∧ Below w.heap.size w wr ∧ Filled wr w.heap.size bl k bs) (fun i _ => bl - (intOf i).toNat)
      case atStart => exact ⟨0, Nat.zero_le _, rfl, (Below.refl _ _).alloc (Nat.le_refl _) _, filled_start w bl bs⟩
      case round =>
        obtain ⟨k, hk, rfl, hbel, hfill⟩ := hrel
        by_cases hlt : k < bl
        · have c0 := (hbel.cell (p := ⟨b, o + k, none⟩) hb).trans (hc k hlt)
          obtain ⟨v, c1⟩ := hfill.cell hlt
          have z1 := hfill.frozen k
          generalize hV : bs.getD k 0 = V at *
          have HV : Hid (bs.getD k 0 = V) := hV
          clear hV hc
          go_wp2
          go_roundw
          case rel => exact ⟨k + 1, by omega, by go_num, hbel.setCell (Nat.le_refl _) _, hfill.store hlt (by rw [HV.out])⟩
          case measure => simp [intOf]; omega
        · go_wp2
          go_ret
          obtain rfl : k = bl := by omega
          exact clone_mk _ ⟨_, _, rfl, .inr ⟨rfl, hfill.all⟩⟩ hbel

set_option maxHeartbeats 400000 in
theorem same_any (aa bb : Option Addr) (n ca cb : Nat) (z : Nat → Int) (w : World) (hn : (n : Int) ≤ 4000000)
    (h : n = 0 ∨ ∃ g o b p, aa = some ⟨g, o, none⟩ ∧ bb = some ⟨b, p, none⟩ ∧ (∀ i, i < n → w.cell? ⟨g, o + i, none⟩ = some (.int .u8 (z i))) ∧ ∀ i, i < n → w.cell? ⟨b, p + i, none⟩ = some (.int .u8 (z i))) :
    Calls Try.prog 18 #[.slice aa n ca, .slice bb n cb] w fun e w' => e = .returned (.bool true) ∧ Same w w' := by
  rcases h with rfl | ⟨g, o, b, p, rfl, rfl, h1, h2⟩
  · go_enter Try.func18, Try.ntmps18
    go_wp2
    go_loop [5] (fun i => i = .int .i64 0) (fun _ => 0)
    case atStart => rfl
    case round =>
      subst hrel
      go_wp2
      go_ret
      exact ⟨rfl, Same.refl _⟩
  · go_enter Try.func18, Try.ntmps18
    go_wp2
    go_loopw [5] (fun i wr => ∃ k : Nat, k ≤ n ∧ i = .int .i64 k ∧ Same w wr) (fun i _ => n - (intOf i).toNat)
    case atStart => exact ⟨0, Nat.zero_le _, rfl, Same.refl _⟩
    case round =>
      obtain ⟨k, hk, rfl, hsame⟩ := hrel
      by_cases hlt : k < n
      · have c0 := (hsame.cell ⟨g, o + k, none⟩).trans (h1 k hlt)
        have c1 := (hsame.cell ⟨b, p + k, none⟩).trans (h2 k hlt)
        generalize z k = V at *
        have i1 : (k : Int) < (n : Int) := by omega
        have i0 : (0 : Int) ≤ (k : Int) := by omega
        clear h1 h2
        go_wp2
        go_quiet (fail)
        go_wp2
        go_roundw
        case rel => exact ⟨k + 1, by omega, by go_num, hsame.drewN _⟩
        case measure => simp [intOf]; omega
      · go_wp2
        go_ret
        exact ⟨rfl, hsame⟩
end Go.Proofs.Qxb6616696a
