/-
  The frames that came in ('frames []ZFrame', a slice of structs of three one-cell fields, the third a []byte): what a walk is told of them, and how that is drawn from the row's reading.
-/
import Derived.Test.Qxb6616696aRows
import Derived.WalkKit
import Derived.ProofKit
import Derived.OpenShut
import Derived.Below
import Derived.Deep.Slices
namespace Go.Proofs.Qxb6616696a
open Go.ChangeShapes Go.WideShapes Go.ChangeAt Go.RowKit

/-- One frame: its type, its id, its body's slice value (address, length, capacity) and its bytes. -/
structure Fr where
  t : Int
  id : Int
  ba : Option Addr
  bl : Nat
  bc : Nat
  bs : List Int

/-- A body in memory: nothing to read, or a row of bytes. -/
def IsBody (w : World) (f : Fr) : Prop :=
  f.bl ≤ f.bc ∧ f.bc ≤ maxLen ∧ (f.ba = none → f.bl = 0 ∧ f.bc = 0) ∧ f.bs.length = f.bl ∧ (∀ n ∈ f.bs, 0 ≤ n ∧ n ≤ 255) ∧
  (f.bl = 0 ∨ ∃ b o, f.ba = some ⟨b, o, none⟩ ∧ b < w.heap.size ∧ ∀ i, i < f.bl → w.cell? ⟨b, o + i, none⟩ = some (.int .u8 (f.bs.getD i 0)))

/-- The frames in memory: no frame; or a row of three cells a frame, in an old block. -/
def IsFrames (w : World) (a : Option Addr) (len : Nat) (F : Nat → Fr) : Prop :=
  len ≤ maxLen ∧ (len = 0 ∨ ∃ b o, a = some ⟨b, o, none⟩ ∧ b < w.heap.size ∧ ∀ i, i < len →
    w.cell? ⟨b, o + i * 3, none⟩ = some (.int .u8 (F i).t) ∧ w.cell? ⟨b, o + i * 3 + 1, none⟩ = some (.int .u64 (F i).id) ∧ w.cell? ⟨b, o + i * 3 + 2, none⟩ = some (.slice (F i).ba (F i).bl (F i).bc) ∧
    (Lit.int .u8 (F i).t).wf = true ∧ (Lit.int .u64 (F i).id).wf = true ∧ IsBody w (F i))

theorem cells30 : Try.prog.cellsOf 30 = 3 := by kernel_rfl
theorem cells5 : Try.prog.cellsOf 5 = 1 := by kernel_rfl
theorem cells27 : Try.prog.cellsOf 27 = 1 := by kernel_rfl
theorem cells28 : Try.prog.cellsOf 28 = 1 := by kernel_rfl

section
variable {H : Type} {enc : TypeId × Value → H} {w : World}

theorem heap_lt {a : Addr} {v : Value} (h : w.cell? a = some v) : a.block < w.heap.size := by
  rcases Nat.lt_or_ge a.block w.heap.size with h' | h'
  · exact h'
  · simp [World.cell?, Array.getElem?_eq_none h'] at h

/-- A body, out of its reading. -/
theorem body_of {n : Nat} {v : Value} {y : DataW H × List MemPlace} (h : DataW.trod enc Try.prog w 0 (fun _ => true) true n 28 [v] = some y) :
    ∃ (ba : Option Addr) (bl bc : Nat) (bs : List Int), v = .slice ba bl bc ∧ ∀ t id, IsBody w ⟨t, id, ba, bl, bc, bs⟩ := by
  rcases open_ints Try.underlying28 Try.underlying5 cells5 h with ⟨hcs, _⟩ | ⟨x, l, c, zs, hcs, _, hl, hm, hz, _, hcell, hwz⟩
  · simp at hcs
    subst hcs
    exact ⟨none, 0, 0, [], rfl, fun t id => ⟨Nat.le_refl _, Nat.zero_le _, fun _ => ⟨rfl, rfl⟩, rfl, by simp, .inl rfl⟩⟩
  · simp at hcs
    subst hcs
    simp at hz
    refine ⟨some x, l, c, zs.take l, rfl, fun t id => ⟨hl, hm, fun h => by simp at h, by simp; omega, fun n hn => ?_, ?_⟩⟩
    · have := hwz n (List.mem_of_mem_take hn)
      have := bounds_u8 this
      omega
    · by_cases h0 : l = 0
      · exact .inl h0
      · right
        obtain ⟨b, o, spot⟩ := x
        have hspot : spot = none := by simpa [Addr.add] using World.cell?_spot (hcell 0 (by omega))
        subst hspot
        have h00 := hcell 0 (by omega)
        rw [add_plain] at h00
        refine ⟨b, o, rfl, heap_lt h00, fun i hi => ?_⟩
        have hi' : i < l := hi
        have := hcell i (by omega)
        rw [add_plain] at this
        rw [this]
        simp [List.getD, hi']

theorem three {α : Type} {l : List α} (h : l.length = 3) : ∃ a b c, l = [a, b, c] := by
  match l, h with
  | [a, b, c], _ => exact ⟨a, b, c, rfl⟩

/-- One frame, out of its three cells' reading. -/
theorem frame_of {n : Nat} {cs : List Value} {y : DataW H × List MemPlace} {b o : Nat} (hc : w.cells? 0 ⟨b, o, none⟩ 3 = some cs) (h : DataW.trod enc Try.prog w 0 (fun _ => true) true n 30 cs = some y) :
    ∃ f : Fr, w.cell? ⟨b, o, none⟩ = some (.int .u8 f.t) ∧ w.cell? ⟨b, o + 1, none⟩ = some (.int .u64 f.id) ∧ w.cell? ⟨b, o + 2, none⟩ = some (.slice f.ba f.bl f.bc) ∧
      (Lit.int .u8 f.t).wf = true ∧ (Lit.int .u64 f.id).wf = true ∧ IsBody w f := by
  obtain ⟨_, hlen, hcell⟩ := World.cells?_some hc
  obtain ⟨xs, k, hk, hxy, _, hxl, hf⟩ := DataW.trod_struct Try.underlying30 h
  obtain ⟨y0, y1, y2, rfl⟩ := three hxl
  obtain ⟨v0, v1, v2, rfl⟩ := three hlen
  · have g0 := hf 0 _ rfl
    have g1 := hf 1 _ rfl
    have g2 := hf 2 _ rfl
    simp [cells5, cells27, cells28] at g0 g1 g2
    have e0 := hcell 0 (by omega)
    have e1 := hcell 1 (by omega)
    have e2 := hcell 2 (by omega)
    rw [add_plain] at e0 e1 e2
    obtain ⟨t, h0, _, wt⟩ := DataW.trod_int Try.underlying5 g0
    obtain ⟨i, h1, _, wi⟩ := DataW.trod_int Try.underlying27 g1
    obtain ⟨ba, bl, bc, bs, rfl, hb⟩ := body_of g2
    simp at h0 h1
    subst h0 h1
    exact ⟨⟨t, i, ba, bl, bc, bs⟩, by simpa using e0, by simpa using e1, by simpa using e2, wt, wi, hb _ _⟩

/-- The frames, out of the argument's reading. -/
theorem frames_of {a : Option Addr} {len cap : Nat} {d : DataW H} {p : List MemPlace} (h : DataW.Trod enc Try.prog w 0 (fun _ => true) true 22 (.slice a len cap) d p) :
    ∃ F : Nat → Fr, IsFrames w a len F := by
  obtain ⟨fuel, hf⟩ := h
  rcases Go.Deep.open_slice Try.underlying22 hf with ⟨hcs, _⟩ | ⟨x, l, c, m, n, D, Pl, hcs, _, hl, hm, hmm, _, hx⟩
  · simp [Value.cells] at hcs
    obtain ⟨rfl, rfl, rfl⟩ := hcs
    exact ⟨fun _ => ⟨0, 0, none, 0, 0, []⟩, Nat.zero_le _, .inl rfl⟩
  · simp [Value.cells] at hcs
    obtain ⟨rfl, rfl, rfl⟩ := hcs
    simp at hmm
    subst hmm
    rw [cells30] at hx
    by_cases h0 : len = 0
    · exact ⟨fun _ => ⟨0, 0, none, 0, 0, []⟩, by omega, .inl h0⟩
    · obtain ⟨b, o, spot⟩ := x
      have hspot : spot = none := by
        obtain ⟨cs', h1, _⟩ := hx 0 (by omega)
        obtain ⟨_, _, hcell⟩ := World.cells?_some h1
        have := hcell 0 (by omega)
        have hl1 : cs'.length = 3 := by obtain ⟨_, hlen, _⟩ := World.cells?_some h1; exact hlen
        rw [List.getElem?_eq_getElem (by omega)] at this
        simpa [Addr.add] using World.cell?_spot this
      subst hspot
      have each : ∀ i, i < len → ∃ f : Fr, w.cell? ⟨b, o + i * 3, none⟩ = some (.int .u8 f.t) ∧ w.cell? ⟨b, o + i * 3 + 1, none⟩ = some (.int .u64 f.id) ∧ w.cell? ⟨b, o + i * 3 + 2, none⟩ = some (.slice f.ba f.bl f.bc) ∧
          (Lit.int .u8 f.t).wf = true ∧ (Lit.int .u64 f.id).wf = true ∧ IsBody w f := by
        intro i hi
        obtain ⟨cs', h1, h2⟩ := hx i (by omega)
        rw [add_plain] at h1
        exact frame_of h1 h2
      have hne : Inhabited Fr := ⟨⟨0, 0, none, 0, 0, []⟩⟩
      obtain ⟨F, hF⟩ := Go.Deep.choose_lt each
      refine ⟨F, by omega, .inr ⟨b, o, rfl, ?_, hF⟩⟩
      simpa using heap_lt (hF 0 (by omega)).1
end
end Go.Proofs.Qxb6616696a
