/-
  Two connections: one that is delivered to, one that is told by hand; and a waiter beside them.
-/
import Derived.Test.Qxb6616696aAnswer2
namespace Go.Proofs.Qxb6616696a
open Go.RowKit

def moreZ (v m : Nat) : List Int := [8, (v : Int) / 72057594037927936, (v : Int) / 281474976710656 % 256, (v : Int) / 1099511627776 % 256, (v : Int) / 4294967296 % 256, (v : Int) / 16777216 % 256, (v : Int) / 65536 % 256, (v : Int) / 256 % 256, (v : Int) % 256,
  0, 0, 0, 4, (m : Int) / 16777216, (m : Int) / 65536 % 256, (m : Int) / 256 % 256, (m : Int) % 256]
theorem more17_z (v m : Nat) : more17 v m = (moreZ v m).map (Value.int .u8) := rfl
def bytesOf (zs : List Int) : List Value := zs.map (Value.int .u8)
theorem bytesOf_more (zs : List Int) (v m : Nat) : bytesOf zs ++ more17 v m = bytesOf (zs ++ moreZ v m) := by rw [more17_z]; unfold bytesOf; rw [List.map_append]

structure Two (W0 : World) (H cb mb wb ac db mdb vb vc : Nat) (es : Array MapEntry) (buf : Array Value) (TA : Int) (nA : Nat) (zA : List Int) (TB : Int) (nB : Nat) (zB : List Int) (w : World) : Prop where
  bel : Below H W0 w
  size : H ≤ w.heap.size
  up : H ≤ cb ∧ H ≤ mb ∧ H ≤ wb ∧ H ≤ ac ∧ H ≤ db ∧ H ≤ vb
  ne : cb ≠ db ∧ wb ≠ vb
  body : ∃ ck s r svA svB C, ES w cb mb wb ac svA es ck (callCells ac TA) (.chan 1 buf false s r false) ∧ w.ownsRow H 5 1 svA nA (bytesOf zA) ∧ ConnAt w db mdb 0 0 svB C ∧ w.ownsRow H 5 1 svB nB (bytesOf zB) ∧
    (∀ g, svA.ownBlock = some g → svB.ownBlock ≠ some g) ∧ w.heap[vb]? = some (.cells (callCells vc TB) 55 (0, 0))

variable {W0 W w : World} {H cb mb wb ac db mdb vb vc nA nB : Nat} {es : Array MapEntry} {buf : Array Value} {TA TB : Int} {zA zB : List Int}

theorem own5_below {n : Nat} {sv : Value} {xs : List Value} (h : w.ownsRow H 5 1 sv n xs) (hb : Below w.heap.size w W) : W.ownsRow H 5 1 sv n xs :=
  own_keep h fun g hg => by
    obtain ⟨_, cur, hc⟩ := own_heap h hg
    exact hb.block _ (lt_of_heap hc)

theorem Two.below (S : Two W0 H cb mb wb ac db mdb vb vc es buf TA nA zA TB nB zB w) (hb : Below w.heap.size w W) : Two W0 H cb mb wb ac db mdb vb vc es buf TA nA zA TB nB zB W := by
  obtain ⟨h1, h2, h3, h4, ck, s, r, svA, svB, C, E, oA, hC, oB, hap, hv⟩ := S
  exact ⟨h1.trans (hb.mono h2), Nat.le_trans h2 hb.size, h3, h4, ck, s, r, svA, svB, C, E.below hb, own5_below oA hb, hC.of_heap (hb.block _ (lt_of_heap hC.heap)), own5_below oB hb, hap, (hb.block _ (lt_of_heap hv)).trans hv⟩

theorem ne_of_heap {k l : Nat} {o p : Obj} (hk : W.heap[k]? = some o) (hl : W.heap[l]? = some p) (h : o ≠ p) : k ≠ l := fun e => by
  subst e
  rw [hk] at hl
  exact h (Option.some.inj hl)

/-- The side that is told by hand lies apart from what a delivery turns. -/
theorem sideB {w' : World} {T : Nat → Prop} {svA svB : Value} {ck : Nat} {ws : Array Value} {ch : Obj} {xA xB : List Value} {C : Array Value} (E : ES W cb mb wb ac svA es ck ws ch) (oA : W.ownsRow H 5 1 svA nA xA) (hC : ConnAt W db mdb 0 0 svB C) (oB : W.ownsRow H 5 1 svB nB xB)
    (hap : ∀ g, svA.ownBlock = some g → svB.ownBlock ≠ some g) (hv : W.heap[vb]? = some (.cells (callCells vc TB) 55 (0, 0))) (ne : cb ≠ db ∧ wb ≠ vb)
    (kp : Kept W w' T) (hT : ∀ k, T k → k = cb ∨ k = mb ∨ k = wb ∨ k = ac ∨ svA.ownBlock = some k) :
    ConnAt w' db mdb 0 0 svB C ∧ w'.ownsRow H 5 1 svB nB xB ∧ w'.heap[vb]? = some (.cells (callCells vc TB) 55 (0, 0)) := by
  obtain ⟨⟨CA, hCA⟩, h2, h3, h4, ⟨_, _, _, _, _, _, rfl⟩⟩ := E
  refine ⟨hC.of_heap (kp.block db (lt_of_heap hC.heap) fun h => ?_), own_past oB kp fun g hg h => ?_, (kp.block vb (lt_of_heap hv) fun h => ?_).trans hv⟩
  · rcases hT _ h with e | e | e | e | e
    · exact ne.1 e.symm
    · exact ne_of_heap hC.heap h2 (fun h => by cases h) e
    · exact ne_of_heap hC.heap h3 (fun h => by cases h) e
    · exact ne_of_heap hC.heap h4 (fun h => by cases h) e
    · exact own5_ne oA e hC.heap (fun _ h => by cases h) rfl
  · rcases hT _ h with e | e | e | e | e
    · exact own5_ne oB hg hCA.heap (fun _ h => by cases h) e
    · exact own5_ne oB hg h2 (fun _ h => by cases h) e
    · exact own5_ne oB hg h3 (fun _ h => by cases h) e
    · exact own5_ne oB hg h4 (fun _ h => by cases h) e
    · exact hap _ e hg
  · rcases hT _ h with e | e | e | e | e
    · exact ne_of_heap hv hCA.heap (fun h => by cases h) e
    · exact ne_of_heap hv h2 (fun h => by cases h) e
    · exact ne.2 e.symm
    · exact ne_of_heap hv h4 (fun h => by cases h) e
    · exact own5_ne oA e hv (fun _ h => by cases h) rfl

/-- Nobody waits for this id. -/
theorem two_miss (S : Two W0 H cb mb wb ac db mdb vb vc es buf TA nA zA TB nB zB W) (t fid : Int) (ba : Option Addr) (bl bc : Nat)
    (hno : es = #[] ∨ ∃ id born, fid ≠ id ∧ es = #[⟨.int .u64 id, .pointer (some ⟨wb, 0, none⟩), born⟩]) :
    Calls Try.prog 14 #[.pointer (some ⟨cb, 0, none⟩), .int .u8 t, .int .u64 fid, .slice ba bl bc] W fun e w' => e = .returned (.tuple #[]) ∧ Two W0 H cb mb wb ac db mdb vb vc es buf TA nA zA TB nB zB w' ∧ Kept W w' (fun k => k = cb ∨ k = mb) := by
  obtain ⟨h1, h2, h3, h4, ck, s, r, svA, svB, C, E, oA, hC, oB, hap, hv⟩ := S
  have hlook : ∀ W' : World, W'.heap[mb]? = some (.map es ck) → (Instr.lookup 61 (.map (some mb)) (.int .u64 fid) false).run Try.prog W' = .ok (.pointer none) W' := fun W' hm => by
    rcases hno with rfl | ⟨id, born, hne, rfl⟩
    · exact look_empty W' fid false hm
    · exact look_miss W' fid id _ born false hne hm
  have hdel : ∀ (ty : TypeId) (W' : World), W'.heap[mb]? = some (.map es ck) → (Builtin.delete_ #[61, 27] ty #[.map (some mb), .int .u64 fid]).run Try.prog W' = .ok (.tuple #[]) (setB W' mb (.map es ck)) := fun ty W' hm => by
    rcases hno with rfl | ⟨id, born, hne, rfl⟩
    · exact del_empty W' ty fid hm
    · exact del_miss W' ty fid id _ born hne hm
  have hpost : ∀ e w', NonePost W cb mb wb ac svA es ck (callCells ac TA) (.chan 1 buf false s r false) e w' → e = .returned (.tuple #[]) ∧ (e = .returned (.tuple #[]) ∧ Two W0 H cb mb wb ac db mdb vb vc es buf TA nA zA TB nB zB w' ∧ Kept W w' (fun k => k = cb ∨ k = mb)) := by
    rintro e w' ⟨rfl, E2, kp⟩
    obtain ⟨hC', oB', hv'⟩ := sideB E oA hC oB hap hv h4 kp fun k h => h.elim .inl fun h => .inr (.inl h)
    refine ⟨rfl, rfl, ⟨h1.trans (kp.below h2 fun k hk => by rcases hk with rfl | rfl; exact h3.1; exact h3.2.1), Nat.le_trans h2 kp.size, h3, h4, ck, s, r, svA, svB, C, E2, own_past oA kp fun g hg h => ?_, hC', oB', hap, hv'⟩, kp⟩
    obtain ⟨⟨CA, hCA⟩, e2, _⟩ := E
    rcases h with e | e
    · exact own5_ne oA hg hCA.heap (fun _ h => by cases h) e
    · exact own5_ne oA hg e2 (fun _ h => by cases h) e
  by_cases ht : t = 7
  · subst ht
    exact zzDeliver ((deliver_none7 fid ba bl bc E hlook).mono hpost)
  · exact zzDeliver ((deliver_none t fid ba bl bc (by simp [ht]) E hlook hdel).mono hpost)

/-- A part for the call: it is counted, and so may go out. -/
theorem two_take (v m born : Nat) (T' : Int) (S : Two W0 H cb mb wb ac db mdb vb vc #[⟨.int .u64 v, .pointer (some ⟨wb, 0, none⟩), born⟩] buf TA nA zA TB nB zB W) (ba : Option Addr) (bl bc : Nat) (hn : nA ≤ 1000000) (hv : v < 18446744073709551616)
    (h0 : 0 ≤ TA) (h1 : TA < 32768) (h2 : (bl : Int) ≤ 1048576) (hR : tookR TA bl = (m : Int)) (hT : tookT TA bl = T') :
    Calls Try.prog 14 #[.pointer (some ⟨cb, 0, none⟩), .int .u8 7, .int .u64 v, .slice ba bl bc] W fun e w' => e = .returned (.tuple #[]) ∧
      Two W0 H cb mb wb ac db mdb vb vc #[⟨.int .u64 v, .pointer (some ⟨wb, 0, none⟩), born⟩] buf T' (if m = 0 then nA else nA + 17) (if m = 0 then zA else zA ++ moreZ v m) TB nB zB w' := by
  obtain ⟨b1, b2, b3, b4, ck, s, r, svA, svB, C, E, oA, hC, oB, hap, hvb⟩ := S
  refine zzDeliver ((deliver_take H nA v m TA T' ba bl bc svA (bytesOf zA) E oA b2 hn hv h0 h1 h2 hR hT fun W' hm => look_hit W' v _ born false hm).mono ?_)
  rintro e w' ⟨rfl, sv', n', xs', E2, own', hcs, kp, hat⟩
  obtain ⟨hC', oB', hv'⟩ := sideB E oA hC oB hap hvb b4 kp fun k h => by
    rcases h with h | h | h
    · exact .inl h
    · exact .inr (.inr (.inl h))
    · exact .inr (.inr (.inr (.inr h)))
  refine ⟨rfl, rfl, b1.trans (kp.below b2 fun k hk => ?_), Nat.le_trans b2 kp.size, b3, b4, ck, s, r, sv', svB, C, E2, ?_, hC', oB', fun g hg hg' => ?_, hv'⟩
  · rcases hk with rfl | rfl | hk
    · exact b3.1
    · exact b3.2.2.1
    · exact (own_heap oA hk).1
  · rcases hcs with ⟨hm, rfl, rfl⟩ | ⟨hm, rfl, rfl⟩
    · rw [if_pos hm, if_pos hm]; exact own'
    · rw [if_neg (by omega), if_neg (by omega), ← bytesOf_more]; exact own'
  · rcases hat with h | ⟨g', h, hg2⟩
    · exact hap g (h ▸ hg) hg'
    · rw [h] at hg
      cases hg
      obtain ⟨_, cur, hc⟩ := own_heap oB hg'
      have := lt_of_heap hc
      omega

/-- The answer: it is sent, and the call is gone. -/
theorem two_answer (t id : Int) (born : Nat) (S : Two W0 H cb mb wb ac db mdb vb vc #[⟨.int .u64 id, .pointer (some ⟨wb, 0, none⟩), born⟩] #[] TA nA zA TB nB zB W) (ba : Option Addr) (bl bc : Nat) (ht : ¬ t = 7) :
    Calls Try.prog 14 #[.pointer (some ⟨cb, 0, none⟩), .int .u8 t, .int .u64 id, .slice ba bl bc] W fun e w' => e = .returned (.tuple #[]) ∧
      Two W0 H cb mb wb ac db mdb vb vc #[] #[.agg #[.int .u8 t, .int .u64 id, .slice ba bl bc]] TA nA zA TB nB zB w' ∧ Kept W w' (fun k => k = cb ∨ k = mb ∨ k = ac) := by
  obtain ⟨b1, b2, b3, b4, ck, s, r, svA, svB, C, E, oA, hC, oB, hap, hvb⟩ := S
  refine zzDeliver ((deliver_answer t id TA (by simp [ht]) born ba bl bc s r E).mono ?_)
  rintro e w' ⟨rfl, ⟨s', r', E2⟩, kp⟩
  obtain ⟨hC', oB', hv'⟩ := sideB E oA hC oB hap hvb b4 kp fun k h => by
    rcases h with h | h | h
    · exact .inl h
    · exact .inr (.inl h)
    · exact .inr (.inr (.inr (.inl h)))
  refine ⟨rfl, rfl, ⟨b1.trans (kp.below b2 fun k hk => ?_), Nat.le_trans b2 kp.size, b3, b4, ck, s', r', svA, svB, C, E2, own_past oA kp fun g hg h => ?_, hC', oB', hap, hv'⟩, kp⟩
  · rcases hk with rfl | rfl | rfl
    · exact b3.1
    · exact b3.2.1
    · exact b3.2.2.2.1
  · obtain ⟨⟨CA, hCA⟩, e2, _, e4, _⟩ := E
    rcases h with e | e | e
    · exact own5_ne oA hg hCA.heap (fun _ h => by cases h) e
    · exact own5_ne oA hg e2 (fun _ h => by cases h) e
    · exact own5_ne oA hg e4 (fun _ h => by cases h) e
end Go.Proofs.Qxb6616696a
