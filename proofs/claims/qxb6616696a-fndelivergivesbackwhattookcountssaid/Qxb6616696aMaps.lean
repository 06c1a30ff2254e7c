/-
  Blocks: 'Kept'; a map of at most one entry, exactly.
-/
import Derived.Test.Qxb6616696aBytes
import Derived.Test.Qxb6616696aComm
namespace Go.Proofs.Qxb6616696a
open Go.RowKit

/-- Every block that was there, but for those that S names, is as it was. -/
structure Kept (w w' : World) (S : Nat → Prop) : Prop where
  os : w'.os = w.os
  tape : w'.tape = w.tape
  output : w'.output = w.output
  size : w.heap.size ≤ w'.heap.size
  block : ∀ k, k < w.heap.size → ¬ S k → w'.heap[k]? = w.heap[k]?

theorem Kept.refl (w : World) (S : Nat → Prop) : Kept w w S := ⟨rfl, rfl, rfl, Nat.le_refl _, fun _ _ _ => rfl⟩
theorem Kept.trans {a b c : World} {S : Nat → Prop} (h : Kept a b S) (k : Kept b c S) : Kept a c S :=
  ⟨k.os.trans h.os, k.tape.trans h.tape, k.output.trans h.output, Nat.le_trans h.size k.size, fun i hi hs => (k.block i (Nat.lt_of_lt_of_le hi h.size) hs).trans (h.block i hi hs)⟩
theorem Kept.mono {w w' : World} {S S' : Nat → Prop} (h : Kept w w' S) (hs : ∀ k, S k → S' k) : Kept w w' S' := ⟨h.os, h.tape, h.output, h.size, fun k hk hn => h.block k hk (fun h' => hn (hs k h'))⟩
theorem Kept.of_same {w w' : World} {S : Nat → Prop} (h : Same w w') : Kept w w' S := ⟨h.os, h.tape, h.output, by rw [h.heap]; exact Nat.le_refl _, fun k _ _ => by rw [h.heap]⟩
theorem Kept.drew {a w : World} {S : Nat → Prop} (h : Kept a w S) : Kept a w.drew S := ⟨h.os, h.tape, h.output, h.size, h.block⟩
theorem Kept.drewN {a w : World} {S : Nat → Prop} (h : Kept a w S) (n : Nat) : Kept a (w.drewN n) S := ⟨h.os, h.tape, h.output, h.size, h.block⟩
theorem Kept.alloc {a w : World} {S : Nat → Prop} (h : Kept a w S) (o : Obj) : Kept a (w.alloc o) S :=
  h.trans ⟨rfl, rfl, rfl, by simp, fun k hk _ => Below.heap_alloc _ _ _ hk⟩
theorem Kept.setCell {a w : World} {S : Nat → Prop} (h : Kept a w S) {p : Addr} (hp : S p.block ∨ a.heap.size ≤ p.block) (u : Value) : Kept a (w.setCell p u) S :=
  ⟨h.os, h.tape, h.output, by simpa [World.setCell] using h.size, fun k hk hn => by
    rw [Below.heap_setCell _ _ _ _ (fun e => by subst e; rcases hp with hp | hp; exact hn hp; omega)]
    exact h.block k hk hn⟩
/-- A block laid anew. -/
def setB (w : World) (r : Nat) (o : Obj) : World := { w with heap := w.heap.setIfInBounds r o }
theorem setB_same {w : World} {r : Nat} {o o' : Obj} (h : w.heap[r]? = some o') : (setB w r o).heap[r]? = some o := by
  have hr : r < w.heap.size := by
    rcases Nat.lt_or_ge r w.heap.size with h' | h'
    · exact h'
    · rw [Array.getElem?_eq_none h'] at h; cases h
  simp [setB, hr]
theorem setB_other {w : World} {r k : Nat} {o : Obj} (h : k ≠ r) : (setB w r o).heap[k]? = w.heap[k]? := by
  simp only [setB]
  rw [Array.getElem?_setIfInBounds_ne (by omega)]
theorem Kept.setB {a w : World} {S : Nat → Prop} (h : Kept a w S) {r : Nat} (hr : S r) (o : Obj) : Kept a (setB w r o) S :=
  ⟨h.os, h.tape, h.output, by simpa [Qxb6616696a.setB] using h.size, fun k hk hn => by
    rw [setB_other (fun e => by subst e; exact hn hr)]
    exact h.block k hk hn⟩
theorem Kept.setChan {a w : World} {S : Nat → Prop} (h : Kept a w S) {c : Nat} (hc : S c) (cap : Nat) (buf : Array Value) (cl : Bool) (s r : Nat) (tm : Bool) : Kept a (w.setChan c cap buf cl s r tm) S :=
  h.setB hc (.chan cap buf cl s r tm)
theorem setChan_same {w : World} {c cap s r : Nat} {buf : Array Value} {cl tm : Bool} {o' : Obj} (h : w.heap[c]? = some o') : (w.setChan c cap buf cl s r tm).heap[c]? = some (.chan cap buf cl s r tm) := setB_same h
theorem setChan_other {w : World} {c cap s r k : Nat} {buf : Array Value} {cl tm : Bool} (h : k ≠ c) : (w.setChan c cap buf cl s r tm).heap[k]? = w.heap[k]? := setB_other h
theorem Kept.below {w w' : World} {S : Nat → Prop} (h : Kept w w' S) {B : Nat} (hB : B ≤ w.heap.size) (hs : ∀ k, S k → B ≤ k) : Below B w w' :=
  ⟨h.os, h.tape, h.output, h.size, fun k hk => h.block k (by omega) (fun h' => by have := hs k h'; omega)⟩

theorem cell_of {W : World} {b : Nat} {c : Array Value} {t : TypeId} {fz : Nat × Nat} (h : W.heap[b]? = some (.cells c t fz)) (o : Nat) : W.cell? ⟨b, o, none⟩ = c[o]? := by simp [World.cell?, h]
theorem frozen_of {W : World} {b : Nat} {c : Array Value} {t : TypeId} (h : W.heap[b]? = some (.cells c t (0, 0))) (o : Nat) : W.frozen? ⟨b, o, none⟩ = false := by simp [World.frozen?, h]
theorem lt_of_heap {W : World} {b : Nat} {o : Obj} (h : W.heap[b]? = some o) : b < W.heap.size := by
  rcases Nat.lt_or_ge b W.heap.size with h' | h'
  · exact h'
  · rw [Array.getElem?_eq_none h'] at h; cases h
theorem heap_setCell_same {W : World} {b : Nat} {c : Array Value} {t : TypeId} (h : W.heap[b]? = some (.cells c t (0, 0))) (o : Nat) (v : Value) : (W.setCell ⟨b, o, none⟩ v).heap[b]? = some (.cells (c.setIfInBounds o v) t (0, 0)) := by
  simp [World.setCell, Array.getElem?_modify, h]

/-! ### A map of uint64 to *waiter with at most one entry -/
theorem check27 (b : Bool) (k : Int) (W : World) : (Instr.checkKey b 10000 27 (.int .u64 k)).run Try.prog W = .ok () W := by kernel_rfl
theorem find_none (k : Int) (W : World) : (Instr.findKey 27 (.int .u64 k) []).run Try.prog W = .ok none W := by kernel_rfl
theorem find_one (k id : Int) (p : Value) (born : Nat) (W : World) : (Instr.findKey 27 (.int .u64 k) [⟨.int .u64 id, p, born⟩]).run Try.prog W = .ok (if k = id then some (0, p) else none) W := by
  by_cases h : k = id
  · subst h
    simp [Instr.findKey, run_underlying Try.underlying27, Instr.findNow, Instr.sameNow]
  · have h' : (k == id) = false := by simp [h]
    simp [Instr.findKey, run_underlying Try.underlying27, Instr.findNow, Instr.sameNow, h', h]

section
variable (W : World) {mb ck : Nat}

theorem look_empty (k : Int) (ok : Bool) (h : W.heap[mb]? = some (.map #[] ck)) : (Instr.lookup 61 (.map (some mb)) (.int .u64 k) ok).run Try.prog W = .ok (if ok then .tuple #[.pointer none, .bool false] else .pointer none) W := by
  cases ok <;> simp [Instr.lookup, run_underlying Try.underlying61, MapKept.run_getObj_map h, check27, find_none, Result.andThen]
theorem look_hit (k : Int) (p : Value) (born : Nat) (ok : Bool) (h : W.heap[mb]? = some (.map #[⟨.int .u64 k, p, born⟩] ck)) : (Instr.lookup 61 (.map (some mb)) (.int .u64 k) ok).run Try.prog W = .ok (if ok then .tuple #[p, .bool true] else p) W := by
  cases ok <;> simp [Instr.lookup, run_underlying Try.underlying61, MapKept.run_getObj_map h, check27, find_one, Result.andThen]
theorem look_miss (k id : Int) (p : Value) (born : Nat) (ok : Bool) (hk : k ≠ id) (h : W.heap[mb]? = some (.map #[⟨.int .u64 id, p, born⟩] ck)) : (Instr.lookup 61 (.map (some mb)) (.int .u64 k) ok).run Try.prog W = .ok (if ok then .tuple #[.pointer none, .bool false] else .pointer none) W := by
  cases ok <;> simp [Instr.lookup, run_underlying Try.underlying61, MapKept.run_getObj_map h, check27, find_one, hk, Result.andThen]

theorem del_empty (ty : TypeId) (k : Int) (h : W.heap[mb]? = some (.map #[] ck)) : (Builtin.delete_ #[61, 27] ty #[.map (some mb), .int .u64 k]).run Try.prog W = .ok (.tuple #[]) (setB W mb (.map #[] ck)) := by
  simp [Builtin.delete_, run_underlying Try.underlying61, MapKept.run_getObj_map h, check27, find_none, MapKept.run_setObj_map _ h, Result.andThen, setB]
theorem del_hit (ty : TypeId) (k : Int) (p : Value) (born : Nat) (h : W.heap[mb]? = some (.map #[⟨.int .u64 k, p, born⟩] ck)) : (Builtin.delete_ #[61, 27] ty #[.map (some mb), .int .u64 k]).run Try.prog W = .ok (.tuple #[]) (setB W mb (.map #[] ck)) := by
  simp [Builtin.delete_, run_underlying Try.underlying61, MapKept.run_getObj_map h, check27, find_one, MapKept.run_setObj_map _ h, Result.andThen, setB]
theorem del_miss (ty : TypeId) (k id : Int) (p : Value) (born : Nat) (hk : k ≠ id) (h : W.heap[mb]? = some (.map #[⟨.int .u64 id, p, born⟩] ck)) : (Builtin.delete_ #[61, 27] ty #[.map (some mb), .int .u64 k]).run Try.prog W = .ok (.tuple #[]) (setB W mb (.map #[⟨.int .u64 id, p, born⟩] ck)) := by
  simp [Builtin.delete_, run_underlying Try.underlying61, MapKept.run_getObj_map h, check27, find_one, hk, MapKept.run_setObj_map _ h, Result.andThen, setB]
theorem upd_empty (k : Int) (p : Value) (h : W.heap[mb]? = some (.map #[] ck)) : (Instr.mapUpdate 61 (.map (some mb)) (.int .u64 k) p).run Try.prog W = .ok () (setB W mb (.map #[⟨.int .u64 k, p, ck⟩] (ck + 1))) := by
  simp [Instr.mapUpdate, run_underlying Try.underlying61, MapKept.run_getObj_map h, check27, find_none, MapKept.run_setObj_map _ h, Result.andThen, setB]
theorem len_map (ty : TypeId) (es : Array MapEntry) (h : W.heap[mb]? = some (.map es ck)) : (Builtin.len_ #[61] ty #[.map (some mb)]).run Try.prog W = .ok (.int .i64 es.size) W := by
  simp [Builtin.len_, run_underlying Try.underlying61, MapKept.run_getObj_map h, Result.andThen]
  rfl
end
end Go.Proofs.Qxb6616696a
