/-
  'ZZdeliver' at a connection on which one call with OnPart was made: what it keeps, what it turns.
-/
import Derived.Test.Qxb6616696aConn
import Derived.Test.Qxb6616696aParts
namespace Go.Proofs.Qxb6616696a
open Go.RowKit

/-- 'ZZdeliver' is 'deliver'. -/
theorem zzDeliver {cb : Nat} {t id : Int} {ba : Option Addr} {bl bc : Nat} {W : World} {Q : Ending → World → Prop}
    (h : Calls Try.prog 29 #[.pointer (some ⟨cb, 0, none⟩), .agg #[.int .u8 t, .int .u64 id, .slice ba bl bc]] W fun e w' => e = .returned (.tuple #[]) ∧ Q e w') :
    Calls Try.prog 14 #[.pointer (some ⟨cb, 0, none⟩), .int .u8 t, .int .u64 id, .slice ba bl bc] W Q := by
  go_enter Try.func14, Try.ntmps14
  go_wp2_with fail
  refine h.mono ?_
  rintro e w' ⟨rfl, hq⟩
  go_wp2
  go_end0
  exact hq

/-- The waiter of a call with OnPart. -/
def partsCells (rc : Nat) (fs : Value) : Array Value := #[.chan none, .bool true, fs, .int .i64 0, .chan (some rc), .int .i64 0]

/-- The connection, with 'kept' frames kept and the call open or not. -/
structure St (W0 : World) (H : Nat) (id : Int) (cb mb wb rc : Nat) (opn : Bool) (kept : Nat) (w : World) : Prop where
  bel : Below H W0 w
  size : H ≤ w.heap.size
  up : H ≤ cb ∧ H ≤ mb ∧ H ≤ wb ∧ H ≤ rc
  body : ∃ es ck fs xs buf s r, ES w cb mb wb rc (.slice none 0 0) es ck (partsCells rc fs) (.chan 1 buf false s r false) ∧
    (opn = true ∧ (∃ born, es = #[⟨.int .u64 id, .pointer (some ⟨wb, 0, none⟩), born⟩]) ∨ opn = false ∧ es = #[]) ∧ (kept = 0 ∧ buf = #[] ∨ 0 < kept ∧ buf = #[.agg #[]]) ∧ w.ownsRow H 59 3 fs kept xs

/-- The last frame that was kept. -/
def Last (wb kept : Nat) (t id : Int) (body : Value) (w : World) : Prop := ∃ g cap, w.cell? ⟨wb, 2, none⟩ = some (.slice (some ⟨g, 0, none⟩) (kept + 1) cap) ∧
  w.cell? ⟨g, kept * 3, none⟩ = some (.int .u8 t) ∧ w.cell? ⟨g, kept * 3 + 1, none⟩ = some (.int .u64 id) ∧ w.cell? ⟨g, kept * 3 + 2, none⟩ = some body

variable {W0 W w : World} {H cb mb wb rc kept : Nat} {id : Int} {opn : Bool}

theorem ES.below {out : Value} {es : Array MapEntry} {ck : Nat} {ws : Array Value} {ch : Obj} (E : ES w cb mb wb rc out es ck ws ch) (hb : Below w.heap.size w W) : ES W cb mb wb rc out es ck ws ch := by
  obtain ⟨⟨C, hC⟩, h2, h3, h4, h6⟩ := E
  exact ⟨⟨C, hC.of_heap (hb.block _ (lt_of_heap hC.heap))⟩, (hb.block _ (lt_of_heap h2)).trans h2, (hb.block _ (lt_of_heap h3)).trans h3, (hb.block _ (lt_of_heap h4)).trans h4, h6⟩
theorem own_below {base n : Nat} {fs : Value} {xs : List Value} (h : w.ownsRow base 59 3 fs n xs) (hb : Below w.heap.size w W) : W.ownsRow base 59 3 fs n xs :=
  own_keep h fun g hg => by
    obtain ⟨_, cur, hc⟩ := own_heap h hg
    exact hb.block _ (lt_of_heap hc)

theorem St.below (S : St W0 H id cb mb wb rc opn kept w) (hb : Below w.heap.size w W) : St W0 H id cb mb wb rc opn kept W := by
  obtain ⟨h1, h2, h3, es, ck, fs, xs, buf, s, r, E, ho, hk, hw⟩ := S
  exact ⟨h1.trans (hb.mono h2), Nat.le_trans h2 hb.size, h3, es, ck, fs, xs, buf, s, r, E.below hb, ho, hk, own_below hw hb⟩

/-- What the small functions read. -/
theorem St.reads (S : St W0 H id cb mb wb rc opn kept w) : (∃ a c, w.cell? ⟨wb, 2, none⟩ = some (.slice a kept c)) ∧ w.cell? ⟨cb, 8, none⟩ = some (.slice none 0 0) ∧ w.cell? ⟨cb, 16, none⟩ = some (.map (some mb)) ∧
    w.cell? ⟨wb, 4, none⟩ = some (.chan (some rc)) := by
  obtain ⟨h1, h2, h3, es, ck, fs, xs, buf, s, r, ⟨⟨C, hC⟩, e2, e3, e4, e5⟩, ho, hk, hw⟩ := S
  refine ⟨?_, (hC.cell 8).trans hC.c8, (hC.cell 16).trans hC.c16, cell_of e3 4⟩
  rcases hw.2 with ⟨rfl, rfl⟩ | ⟨g, cap, cur, rfl, _⟩
  · exact ⟨_, _, cell_of e3 2⟩
  · exact ⟨_, _, cell_of e3 2⟩

/-- After the delivery the blocks laid since 'w' are as they were. -/
def Between (w W W' : World) : Prop := ∀ k, w.heap.size ≤ k → k < W.heap.size → W'.heap[k]? = W.heap[k]?

/-- Nobody waits for this id. -/
theorem deliver_miss (S : St W0 H id cb mb wb rc opn kept w) (hb : Below w.heap.size w W) (t fid : Int) (ba : Option Addr) (bl bc : Nat) (hno : opn = true → fid ≠ id) :
    Calls Try.prog 14 #[.pointer (some ⟨cb, 0, none⟩), .int .u8 t, .int .u64 fid, .slice ba bl bc] W fun e w' => e = .returned (.tuple #[]) ∧ St W0 H id cb mb wb rc opn kept w' ∧ Between w W w' := by
  have S' := S.below hb
  obtain ⟨h1, h2, h3, es, ck, fs, xs, buf, s, r, E, ho, hk, hw⟩ := S
  have E' := E.below hb
  have hw' := own_below hw hb
  have hlook : ∀ W' : World, W'.heap[mb]? = some (.map es ck) → (Instr.lookup 61 (.map (some mb)) (.int .u64 fid) false).run Try.prog W' = .ok (.pointer none) W' := fun W' hm => by
    rcases ho with ⟨ho, born, rfl⟩ | ⟨ho, rfl⟩
    · exact look_miss W' fid id _ born false (hno ho) hm
    · exact look_empty W' fid false hm
  have hdel : ∀ (ty : TypeId) (W' : World), W'.heap[mb]? = some (.map es ck) → (Builtin.delete_ #[61, 27] ty #[.map (some mb), .int .u64 fid]).run Try.prog W' = .ok (.tuple #[]) (setB W' mb (.map es ck)) := fun ty W' hm => by
    rcases ho with ⟨ho, born, rfl⟩ | ⟨ho, rfl⟩
    · exact del_miss W' ty fid id _ born (hno ho) hm
    · exact del_empty W' ty fid hm
  have hpost : ∀ e w', NonePost W cb mb wb rc (.slice none 0 0) es ck (partsCells rc fs) (.chan 1 buf false s r false) e w' → e = .returned (.tuple #[]) ∧ (e = .returned (.tuple #[]) ∧ St W0 H id cb mb wb rc opn kept w' ∧ Between w W w') := by
    rintro e w' ⟨rfl, E2, kp⟩
    have hcb : cb < w.heap.size := by obtain ⟨C, hC⟩ := E.conn; exact lt_of_heap hC.heap
    have hmb : mb < w.heap.size := lt_of_heap E.map
    refine ⟨rfl, rfl, ⟨?_, Nat.le_trans S'.size kp.size, h3, es, ck, fs, xs, buf, s, r, E2, ho, hk, own_keep hw' fun g hg => ?_⟩, fun k h4 h5 => kp.block k h5 (by omega)⟩
    · exact S'.bel.trans (kp.below S'.size (fun k hk => by rcases hk with rfl | rfl; exact h3.1; exact h3.2.1))
    · obtain ⟨_, cur, hc⟩ := own_heap hw' hg
      refine kp.block g (lt_of_heap hc) (fun e => ?_)
      obtain ⟨⟨C, hC⟩, e2, _⟩ := E'
      have := hC.heap
      rcases e with rfl | rfl
      · rw [hc] at this; cases this
      · rw [hc] at e2; cases e2
  by_cases ht : t = 7
  · subst ht
    exact zzDeliver ((deliver_none7 fid ba bl bc E' hlook).mono hpost)
  · exact zzDeliver ((deliver_none t fid ba bl bc (by simp [ht]) E' hlook hdel).mono hpost)

/-- The frame comes to the call. -/
theorem deliver_hit (S : St W0 H id cb mb wb rc true kept w) (hb : Below w.heap.size w W) (hn : kept ≤ 100000) (t : Int) (ba : Option Addr) (bl bc : Nat) :
    Calls Try.prog 14 #[.pointer (some ⟨cb, 0, none⟩), .int .u8 t, .int .u64 id, .slice ba bl bc] W fun e w' => e = .returned (.tuple #[]) ∧ St W0 H id cb mb wb rc (decide (t = 7)) (kept + 1) w' ∧ Between w W w' ∧ Last wb kept t id (.slice ba bl bc) w' := by
  have S' := S.below hb
  obtain ⟨h1, h2, h3, es, ck, fs, xs, buf, s, r, E, ho, hk, hw⟩ := S
  have E' := E.below hb
  have hw' := own_below hw hb
  obtain ⟨_, born, rfl⟩ : true = true ∧ ∃ born, es = #[⟨.int .u64 id, .pointer (some ⟨wb, 0, none⟩), born⟩] := by
    rcases ho with h | ⟨h, _⟩
    · exact h
    · cases h
  have hbuf : buf = #[] ∨ buf = #[.agg #[]] := by rcases hk with ⟨_, h⟩ | ⟨_, h⟩; exact .inl h; exact .inr h
  have hpost : ∀ es' e w', (decide (t = 7) = true ∧ (∃ born, es' = #[⟨.int .u64 id, .pointer (some ⟨wb, 0, none⟩), born⟩]) ∨ decide (t = 7) = false ∧ es' = #[]) → PartsPost W H cb mb wb rc (.slice none 0 0) es' ck kept fs xs t id (.slice ba bl bc) e w' →
      e = .returned (.tuple #[]) ∧ (e = .returned (.tuple #[]) ∧ St W0 H id cb mb wb rc (decide (t = 7)) (kept + 1) w' ∧ Between w W w' ∧ Last wb kept t id (.slice ba bl bc) w') := by
    rintro es' e w' hes ⟨rfl, g, cap, s', r', E2, own2, kp⟩
    have hcb : cb < w.heap.size := by obtain ⟨C, hC⟩ := E.conn; exact lt_of_heap hC.heap
    have hmb : mb < w.heap.size := lt_of_heap E.map
    have hwb : wb < w.heap.size := lt_of_heap E.wait
    have hrc : rc < w.heap.size := lt_of_heap E.chan
    refine ⟨rfl, rfl, ⟨?_, Nat.le_trans S'.size kp.size, h3, es', ck, _, _, _, s', r', E2, hes, .inr ⟨Nat.succ_pos _, rfl⟩, own2⟩, fun k h4 h5 => kp.block k h5 ?_, g, cap, cell_of E2.wait 2, ?_⟩
    · refine S'.bel.trans (kp.below S'.size (fun k hk => ?_))
      rcases hk with rfl | rfl | rfl | rfl | hk
      · exact h3.1
      · exact h3.2.1
      · exact h3.2.2.1
      · exact h3.2.2.2
      · exact (own_heap hw hk).1
    · rintro (e | e | e | e | e)
      · omega
      · omega
      · omega
      · omega
      · obtain ⟨_, cur, hc⟩ := own_heap hw e
        have := lt_of_heap hc
        omega
    · obtain ⟨hx, hrow⟩ := own2
      have hxl : xs.length = kept * 3 := hw.1
      rcases hrow with ⟨h, _⟩ | ⟨g', cap', cur, hv, _, hh, _, _, hcs, htk⟩
      · cases h
      · cases hv
        have key : ∀ j, j < 3 → w'.cell? ⟨g, kept * 3 + j, none⟩ = [Value.int .u8 t, .int .u64 id, .slice ba bl bc][j]? := fun j hj => by
          rw [cell_of hh, ← Array.getElem?_toList]
          have : (cur.toList.take ((kept + 1) * 3))[kept * 3 + j]? = cur.toList[kept * 3 + j]? := List.getElem?_take_of_lt (by omega)
          rw [← this, htk, List.getElem?_append_right (by omega), hxl]
          congr 1
          omega
        exact ⟨key 0 (by omega), key 1 (by omega), key 2 (by omega)⟩
  by_cases ht : t = 7
  · subst ht
    refine zzDeliver ((deliver_part7 H kept id ba bl bc fs xs buf s r E' hbuf hw' S'.size hn fun W' hm => ?_).mono fun e w' h => hpost _ e w' (.inl ⟨rfl, born, rfl⟩) h)
    exact look_hit W' id _ born false hm
  · exact zzDeliver ((deliver_partEnd H kept t id (by simp [ht]) born ba bl bc fs xs buf s r E' hbuf hw' S'.size hn).mono fun e w' h => hpost _ e w' (.inr ⟨by simp [ht], rfl⟩) h)
end Go.Proofs.Qxb6616696a
