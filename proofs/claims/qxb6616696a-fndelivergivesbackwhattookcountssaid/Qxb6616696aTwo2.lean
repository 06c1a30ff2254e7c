/-
  Two connections: the other side, what is read, how it starts.
-/
import Derived.Test.Qxb6616696aTwo
import Derived.Test.Qxb6616696aKeeps
namespace Go.Proofs.Qxb6616696a
open Go.RowKit

variable {W0 W w : World} {H cb mb wb ac db mdb vb vc nA nB : Nat} {es : Array MapEntry} {buf : Array Value} {TA TB : Int} {zA zB : List Int}

/-- The side that is delivered to lies apart from what is done by hand. -/
theorem sideA {w' : World} {T : Nat → Prop} {svA svB : Value} {ck : Nat} {TA : Int} {ch : Obj} {xA xB : List Value} {C : Array Value} (E : ES W cb mb wb ac svA es ck (callCells ac TA) ch) (oA : W.ownsRow H 5 1 svA nA xA) (hC : ConnAt W db mdb 0 0 svB C) (oB : W.ownsRow H 5 1 svB nB xB)
    (hap : ∀ g, svA.ownBlock = some g → svB.ownBlock ≠ some g) (hv : W.heap[vb]? = some (.cells (callCells vc TB) 55 (0, 0))) (ne : cb ≠ db ∧ wb ≠ vb)
    (kp : Kept W w' T) (hT : ∀ k, T k → k = db ∨ k = vb ∨ svB.ownBlock = some k) :
    ES w' cb mb wb ac svA es ck (callCells ac TA) ch ∧ w'.ownsRow H 5 1 svA nA xA := by
  obtain ⟨⟨CA, hCA⟩, h2, h3, h4, ⟨_, _, _, _, _, _, rfl⟩⟩ := E
  refine ⟨⟨⟨CA, hCA.of_heap (kp.block cb (lt_of_heap hCA.heap) fun h => ?_)⟩, (kp.block mb (lt_of_heap h2) fun h => ?_).trans h2, (kp.block wb (lt_of_heap h3) fun h => ?_).trans h3, (kp.block ac (lt_of_heap h4) fun h => ?_).trans h4, ⟨_, _, _, _, _, _, rfl⟩⟩, own_past oA kp fun g hg h => ?_⟩
  · rcases hT _ h with e | e | e
    · exact ne.1 e
    · exact ne_of_heap hCA.heap hv (fun h => by cases h) e
    · exact own5_ne oB e hCA.heap (fun _ h => by cases h) rfl
  · rcases hT _ h with e | e | e
    · exact ne_of_heap h2 hC.heap (fun h => by cases h) e
    · exact ne_of_heap h2 hv (fun h => by cases h) e
    · exact own5_ne oB e h2 (fun _ h => by cases h) rfl
  · rcases hT _ h with e | e | e
    · exact ne_of_heap h3 hC.heap (fun h => by cases h) e
    · exact ne.2 e
    · exact own5_ne oB e h3 (fun _ h => by cases h) rfl
  · rcases hT _ h with e | e | e
    · exact ne_of_heap h4 hC.heap (fun h => by cases h) e
    · exact ne_of_heap h4 hv (fun h => by cases h) e
    · exact own5_ne oB e h4 (fun _ h => by cases h) rfl
  · rcases hT _ h with e | e | e
    · exact own5_ne oA hg hC.heap (fun _ h => by cases h) e
    · exact own5_ne oA hg hv (fun _ h => by cases h) e
    · exact hap _ hg e

theorem two_took (S : Two W0 H cb mb wb ac db mdb vb vc es buf TA nA zA TB nB zB W) (typ id : Int) (ba : Option Addr) (bl bc m : Nat) (T' : Int) (h0 : 0 ≤ TB) (h1 : TB < 32768) (h2 : (bl : Int) ≤ 1048576) (hR : tookR TB bl = (m : Int)) (hT : tookT TB bl = T') :
    Calls Try.prog 9 #[.pointer (some ⟨vb, 0, none⟩), .int .u8 typ, .int .u64 id, .slice ba bl bc] W fun e w' => e = .returned (.int .u32 m) ∧ Two W0 H cb mb wb ac db mdb vb vc es buf TA nA zA T' nB zB w' := by
  obtain ⟨b1, b2, b3, b4, ck, s, r, svA, svB, C, E, oA, hC, oB, hap, hvb⟩ := S
  refine (waiterTook_any vb TB typ id ba bl bc W (cell_of hvb 5) (frozen_of hvb 5) h0 h1 h2).mono ?_
  rintro e w' ⟨rfl, rfl⟩
  rw [hR, hT]
  have kp : Kept W ((W.setCell ⟨vb, 5, none⟩ (.int .i64 T')).alloc (.cells #[.int .u8 typ, .int .u64 id, .slice ba bl bc] 59)).drew (· = vb) := (((Kept.refl W (· = vb)).setCell (p := ⟨vb, 5, none⟩) (.inl rfl) _).alloc _).drew
  obtain ⟨E', oA'⟩ := sideA E oA hC oB hap hvb b4 kp fun k h => .inr (.inl h)
  refine ⟨rfl, b1.trans (kp.below b2 fun k hk => by subst hk; exact b3.2.2.2.2.2), Nat.le_trans b2 kp.size, b3, b4, ck, s, r, svA, svB, C, E', oA', hC.of_heap (kp.block db (lt_of_heap hC.heap) fun e => ne_of_heap hC.heap hvb (fun h => by cases h) e), own_past oB kp fun g hg e => own5_ne oB hg hvb (fun _ h => by cases h) e, hap, ?_⟩
  have : (W.setCell ⟨vb, 5, none⟩ (.int .i64 T')).heap[vb]? = some (.cells ((callCells vc TB).setIfInBounds 5 (.int .i64 T')) 55 (0, 0)) := heap_setCell_same hvb 5 _
  exact (Below.heap_alloc _ _ vb (lt_of_heap this)).trans this

theorem two_more (S : Two W0 H cb mb wb ac db mdb vb vc es buf TA nA zA TB nB zB W) (v m : Nat) (hv : v < 18446744073709551616) (hm : m < 4294967296) (hn : nB ≤ 1000000) :
    Calls Try.prog 25 #[.pointer (some ⟨db, 0, none⟩), .int .u64 v, .int .u32 m] W fun e w' => e = .returned (.tuple #[]) ∧ Two W0 H cb mb wb ac db mdb vb vc es buf TA nA zA TB (nB + 17) (zB ++ moreZ v m) w' := by
  obtain ⟨b1, b2, b3, b4, ck, s, r, svA, svB, C, E, oA, hC, oB, hap, hvb⟩ := S
  refine (zzAppendMore hC hv hm oB b2 hn).mono ?_
  rintro e w' ⟨rfl, sv', L⟩
  obtain ⟨E', oA'⟩ := sideA E oA hC oB hap hvb b4 L.kept fun k h => h.elim .inl fun h => .inr (.inr h)
  obtain ⟨C', hC'⟩ := L.conn
  refine ⟨rfl, b1.trans (L.kept.below b2 fun k hk => ?_), Nat.le_trans b2 L.kept.size, b3, b4, ck, s, r, svA, sv', C', E', oA', hC', by rw [← bytesOf_more]; exact L.own, fun g hg hg' => ?_, (L.kept.block vb (lt_of_heap hvb) fun h => ?_).trans hvb⟩
  · rcases hk with rfl | hk
    · exact b3.2.2.2.2.1
    · exact (own_heap oB hk).1
  · rcases L.at' with h | ⟨g', h, hg2⟩
    · exact hap g hg (h ▸ hg')
    · rw [h] at hg'
      cases hg'
      obtain ⟨_, cur, hc⟩ := own_heap oA hg
      have := lt_of_heap hc
      omega
  · rcases h with e | e
    · exact ne_of_heap hvb hC.heap (fun h => by cases h) e
    · exact own5_ne oB e hvb (fun _ h => by cases h) rfl

/-- What the small functions read. -/
theorem Two.reads (S : Two W0 H cb mb wb ac db mdb vb vc es buf TA nA zA TB nB zB w) : w.cell? ⟨wb, 5, none⟩ = some (.int .i64 TA) ∧ w.cell? ⟨vb, 5, none⟩ = some (.int .i64 TB) ∧ w.cell? ⟨cb, 16, none⟩ = some (.map (some mb)) ∧ (∃ ck, w.heap[mb]? = some (.map es ck)) ∧
    w.cell? ⟨wb, 0, none⟩ = some (.chan (some ac)) ∧ ∃ s r, w.heap[ac]? = some (.chan 1 buf false s r false) := by
  obtain ⟨b1, b2, b3, b4, ck, s, r, svA, svB, C, ⟨⟨CA, hCA⟩, e2, e3, e4, _⟩, oA, hC, oB, hap, hvb⟩ := S
  exact ⟨cell_of e3 5, cell_of hvb 5, (hCA.cell 16).trans hCA.c16, ⟨ck, e2⟩, cell_of e3 0, s, r, e4⟩

theorem own_slice {n : Nat} {sv : Value} {xs : List Value} (h : w.ownsRow H 5 1 sv n xs) : n = 0 ∧ sv = .slice none 0 0 ∨ ∃ g c, sv = .slice (some ⟨g, 0, none⟩) n c ∧ ∀ i, i < n → w.cell? ⟨g, i, none⟩ = xs[i]? := by
  rcases h.2 with ⟨rfl, rfl⟩ | ⟨g, cap, cur, rfl, _⟩
  · exact .inl ⟨rfl, rfl⟩
  · exact .inr ⟨g, cap, rfl, fun i hi => h.cellAt i (by omega)⟩

/-- Both have sent the same. -/
theorem Two.outs (S : Two W0 H cb mb wb ac db mdb vb vc es buf TA nA zA TB nA zA w) (hn : nA ≤ 1000000) : ∃ aA cA aB cB, w.cell? ⟨cb, 8, none⟩ = some (.slice aA nA cA) ∧ w.cell? ⟨db, 8, none⟩ = some (.slice aB nA cB) ∧
    Hid (Calls Try.prog 18 #[.slice aA nA cA, .slice aB nA cB] w fun e w' => e = .returned (.bool true) ∧ Same w w') := by
  obtain ⟨b1, b2, b3, b4, ck, s, r, svA, svB, C, ⟨⟨CA, hCA⟩, e2, e3, e4, _⟩, oA, hC, oB, hap, hvb⟩ := S
  have c8 := (hCA.cell 8).trans hCA.c8
  have d8 := (hC.cell 8).trans hC.c8
  have hl : zA.length = nA := by have := oA.1; simpa [bytesOf] using this
  rcases own_slice oA with ⟨h0, rfl⟩ | ⟨g, c, rfl, hg⟩
  · subst h0
    rcases own_slice oB with ⟨_, rfl⟩ | ⟨g', c', rfl, hg'⟩
    · exact ⟨_, _, _, _, c8, d8, same_any _ _ 0 _ _ (fun _ => 0) w (by omega) (.inl rfl)⟩
    · exact ⟨_, _, _, _, c8, d8, same_any _ _ 0 _ _ (fun _ => 0) w (by omega) (.inl rfl)⟩
  · rcases own_slice oB with ⟨h0, rfl⟩ | ⟨g', c', rfl, hg'⟩
    · subst h0
      exact ⟨_, _, _, _, c8, d8, same_any _ _ 0 _ _ (fun _ => 0) w (by omega) (.inl rfl)⟩
    · have hz : ∀ i, i < nA → (bytesOf zA)[i]? = some (.int .u8 (zA.getD i 0)) := fun i hi => by
        have hi' : i < zA.length := by omega
        simp [bytesOf, List.getD, hi']
      refine ⟨_, _, _, _, c8, d8, same_any _ _ nA _ _ (fun i => zA.getD i 0) w (by omega) (.inr ⟨g, 0, g', 0, rfl, rfl, fun i hi => ?_, fun i hi => ?_⟩)⟩
      · rw [Nat.zero_add]; exact (hg i hi).trans (hz i hi)
      · rw [Nat.zero_add]; exact (hg' i hi).trans (hz i hi)

/-- How it starts. -/
theorem Two.start {w3 w5 : World} {C C2 : Array Value} {v : Nat} {T : Int} (hb : Below H W0 w3) (hs : H ≤ w3.heap.size) (hC : ConnAt w3 cb mb 0 0 (.slice none 0 0) C) (hm : w3.heap[mb]? = some (.map #[] 0)) (h1 : H ≤ cb) (h2 : H ≤ mb)
    (w4 : World) (hw4 : w4 = setB ((w3.alloc (.chan 1 #[] false 0 0 false)).alloc (.cells #[.chan (some w3.heap.size), .bool false, .slice none 0 0, .int .i64 0, .chan none, .int .i64 T] 55)) mb (.map #[⟨.int .u64 v, .pointer (some ⟨w3.heap.size + 1, 0, none⟩), 0⟩] 1))
    (hC5 : ConnAt w5 db mdb 0 0 (.slice none 0 0) C2) (h5 : w4.heap.size ≤ db) (hb5 : Below w4.heap.size w4 w5) :
    Two W0 H cb mb (w3.heap.size + 1) w3.heap.size db mdb (w5.heap.size + 1) w5.heap.size #[⟨.int .u64 v, .pointer (some ⟨w3.heap.size + 1, 0, none⟩), 0⟩] #[] T 0 [] T 0 []
      ((w5.alloc (.chan 1 #[] false 0 0 false)).alloc (.cells #[.chan (some w5.heap.size), .bool false, .slice none 0 0, .int .i64 0, .chan none, .int .i64 T] 55)) := by
  have l1 := lt_of_heap hC.heap
  have l2 := lt_of_heap hm
  have hne : cb ≠ mb := fun e => by subst e; rw [hC.heap] at hm; cases hm
  have hk : Kept w3 w4 (· = mb) := by
    rw [hw4]
    exact (((Kept.refl w3 (· = mb)).alloc _).alloc _).setB (r := mb) rfl _
  have hsz : w4.heap.size = w3.heap.size + 2 := by rw [hw4]; simp [setB]
  have E4 : ES w4 cb mb (w3.heap.size + 1) w3.heap.size (.slice none 0 0) #[⟨.int .u64 v, .pointer (some ⟨w3.heap.size + 1, 0, none⟩), 0⟩] 1 (callCells w3.heap.size T) (.chan 1 #[] false 0 0 false) := by
    refine ⟨⟨C, hC.of_heap (hk.block cb l1 hne)⟩, ?_, ?_, ?_, ⟨_, _, _, _, _, _, rfl⟩⟩
    · rw [hw4]
      exact setB_same (o' := .map #[] 0) ((Below.heap_alloc _ _ mb (by simp; omega)).trans ((Below.heap_alloc _ _ mb l2).trans hm))
    · rw [hw4, setB_other (by omega)]
      have := (MapKept.heap_alloc (w3.alloc (.chan 1 #[] false 0 0 false)) (.cells #[.chan (some w3.heap.size), .bool false, .slice none 0 0, .int .i64 0, .chan none, .int .i64 T] 55)).1
      simpa [callCells] using this
    · rw [hw4, setB_other (by omega), Below.heap_alloc _ _ _ (by simp)]
      exact (MapKept.heap_alloc w3 _).1
  have b6 : Below w5.heap.size w5 ((w5.alloc (.chan 1 #[] false 0 0 false)).alloc (.cells #[.chan (some w5.heap.size), .bool false, .slice none 0 0, .int .i64 0, .chan none, .int .i64 T] 55)) := ((Below.refl _ _).alloc (Nat.le_refl _) _).alloc (by simp) _
  have hs4 : H ≤ w4.heap.size := by omega
  have hs5 : H ≤ w5.heap.size := Nat.le_trans hs4 hb5.size
  have hl5 := hb5.size
  have bel4 : Below H W0 w4 := hb.trans (hk.below hs fun k e => by rw [e]; exact h2)
  refine ⟨(bel4.trans (hb5.mono hs4)).trans (b6.mono hs5), Nat.le_trans hs5 b6.size, ⟨h1, h2, by omega, hs, by omega, by omega⟩, ⟨by omega, by omega⟩, 1, 0, 0, .slice none 0 0, .slice none 0 0, C2, (E4.below hb5).below b6, ⟨rfl, .inl ⟨rfl, rfl⟩⟩, hC5.of_heap (b6.block _ (lt_of_heap hC5.heap)), ⟨rfl, .inl ⟨rfl, rfl⟩⟩, fun g hg => (by cases hg), ?_⟩
  have := (MapKept.heap_alloc (w5.alloc (.chan 1 #[] false 0 0 false)) (.cells #[.chan (some w5.heap.size), .bool false, .slice none 0 0, .int .i64 0, .chan none, .int .i64 T] 55)).1
  simpa [callCells] using this
end Go.Proofs.Qxb6616696a
