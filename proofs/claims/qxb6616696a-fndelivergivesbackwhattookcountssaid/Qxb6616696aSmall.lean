/-
  The small functions of zzexport.go.
-/
import Derived.Test.Qxb6616696aMaps
import Derived.Test.Qxb6616696aTook
import Derived.Deep.Cut
namespace Go.Proofs.Qxb6616696a
open Go.RowKit Go.Conc

def Nothing (_ : Nat) : Prop := False

theorem framesLen_any (wb n c : Nat) (a : Option Addr) (w : World) (h : w.cell? ⟨wb, 2, none⟩ = some (.slice a n c)) :
    Calls Try.prog 16 #[.pointer (some ⟨wb, 0, none⟩)] w fun e w' => e = .returned (.int .i64 n) ∧ w' = w := by
  go_enter Try.func16, Try.ntmps16
  go_wp2
  go_ret
  exact ⟨rfl, rfl⟩

theorem out_any (cb n c : Nat) (a : Option Addr) (w : World) (h : w.cell? ⟨cb, 8, none⟩ = some (.slice a n c)) :
    Calls Try.prog 20 #[.pointer (some ⟨cb, 0, none⟩)] w fun e w' => e = .returned (.slice a n c) ∧ w' = w := by
  go_enter Try.func20, Try.ntmps20
  go_wp2
  go_ret
  exact ⟨rfl, rfl⟩

theorem readyLen_any (wb rc cap s r : Nat) (buf : Array Value) (closed : Bool) (w : World) (h : w.cell? ⟨wb, 4, none⟩ = some (.chan (some rc))) (hc : w.heap[rc]? = some (.chan cap buf closed s r false)) :
    Calls Try.prog 21 #[.pointer (some ⟨wb, 0, none⟩)] w fun e w' => e = .returned (.int .i64 buf.size) ∧ w' = w := by
  have hl := run_len_chan (P := Try.prog) (w := w) 53 3 Try.underlying53 hc
  go_enter Try.func21, Try.ntmps21
  go_wp2
  go_ret
  exact ⟨rfl, rfl⟩

theorem answerLen_any (wb ac cap s r : Nat) (buf : Array Value) (closed : Bool) (w : World) (h : w.cell? ⟨wb, 0, none⟩ = some (.chan (some ac))) (hc : w.heap[ac]? = some (.chan cap buf closed s r false)) :
    Calls Try.prog 26 #[.pointer (some ⟨wb, 0, none⟩)] w fun e w' => e = .returned (.int .i64 buf.size) ∧ w' = w := by
  have hl := run_len_chan (P := Try.prog) (w := w) 51 3 Try.underlying51 hc
  go_enter Try.func26, Try.ntmps26
  go_wp2
  go_ret
  exact ⟨rfl, rfl⟩

theorem waitingLen_any (cb mb ck : Nat) (es : Array MapEntry) (w : World) (h : w.cell? ⟨cb, 16, none⟩ = some (.map (some mb))) (hm : w.heap[mb]? = some (.map es ck)) :
    Calls Try.prog 22 #[.pointer (some ⟨cb, 0, none⟩)] w fun e w' => e = .returned (.int .i64 es.size) ∧ w' = w := by
  have hl := len_map w 3 es hm
  go_enter Try.func22, Try.ntmps22
  go_wp2
  go_ret
  exact ⟨rfl, rfl⟩

theorem isWaiting_yes (cb mb ck born : Nat) (k : Int) (p : Value) (w : World) (h : w.cell? ⟨cb, 16, none⟩ = some (.map (some mb))) (hm : w.heap[mb]? = some (.map #[⟨.int .u64 k, p, born⟩] ck)) :
    Calls Try.prog 19 #[.pointer (some ⟨cb, 0, none⟩), .int .u64 k] w fun e w' => e = .returned (.bool true) ∧ w' = w := by
  have hl := look_hit w k p born true hm
  simp only [if_true] at hl
  go_enter Try.func19, Try.ntmps19
  go_wp2
  go_ret
  exact ⟨rfl, rfl⟩

theorem isWaiting_no (cb mb ck : Nat) (k : Int) (w : World) (h : w.cell? ⟨cb, 16, none⟩ = some (.map (some mb))) (hm : w.heap[mb]? = some (.map #[] ck)) :
    Calls Try.prog 19 #[.pointer (some ⟨cb, 0, none⟩), .int .u64 k] w fun e w' => e = .returned (.bool false) ∧ w' = w := by
  have hl := look_empty w k true hm
  simp only [if_true] at hl
  go_enter Try.func19, Try.ntmps19
  go_wp2
  go_ret
  exact ⟨rfl, rfl⟩

set_option maxHeartbeats 400000 in
theorem frameAt_any (wb g n c i : Nat) (t id : Int) (ba : Option Addr) (bl bc : Nat) (w : World) (h : w.cell? ⟨wb, 2, none⟩ = some (.slice (some ⟨g, 0, none⟩) n c)) (hi : i < n)
    (h0 : w.cell? ⟨g, i * 3, none⟩ = some (.int .u8 t)) (h1 : w.cell? ⟨g, i * 3 + 1, none⟩ = some (.int .u64 id)) (h2 : w.cell? ⟨g, i * 3 + 2, none⟩ = some (.slice ba bl bc)) :
    Calls Try.prog 17 #[.pointer (some ⟨wb, 0, none⟩), .int .i64 i] w fun e w' => e = .returned (.tuple #[.int .u8 t, .int .u64 id, .slice ba bl bc]) ∧ Kept w w' Nothing := by
  have hlt : (i : Int) < (n : Int) := by omega
  go_enter Try.func17, Try.ntmps17
  go_wp2
  go_quiet (fail)
  go_wp2
  go_ret3
  exact ⟨rfl, ((Kept.refl w Nothing).alloc _).drewN _⟩

theorem makeReady (w : World) : (Instr.makeChan 53 (.int .i64 1)).run Try.prog w = .ok (.chan (some w.heap.size)) (w.alloc (.chan 1 #[] false 0 0 false)) := by kernel_rfl

set_option maxRecDepth 100000 in
theorem addParts_any (cb mb ck : Nat) (id : Int) (w : World) (h : w.cell? ⟨cb, 16, none⟩ = some (.map (some mb))) (hm : w.heap[mb]? = some (.map #[] ck)) :
    Calls Try.prog 13 #[.pointer (some ⟨cb, 0, none⟩), .int .u64 id] w fun e w' => e = .returned (.pointer (some ⟨w.heap.size + 1, 0, none⟩)) ∧
      w' = setB ((w.alloc (.chan 1 #[] false 0 0 false)).alloc (.cells #[.chan none, .bool true, .slice none 0 0, .int .i64 0, .chan (some w.heap.size), .int .i64 0] 55)) mb (.map #[⟨.int .u64 id, .pointer (some ⟨w.heap.size + 1, 0, none⟩), ck⟩] (ck + 1)) := by
  have hmk := makeReady
  have hcb : cb < w.heap.size := heap_lt h
  have hmb : mb < w.heap.size := lt_of_heap hm
  have hu := upd_empty ((w.alloc (.chan 1 #[] false 0 0 false)).alloc (.cells #[.chan none, .bool true, .slice none 0 0, .int .i64 0, .chan (some w.heap.size), .int .i64 0] 55)) id (.pointer (some ⟨w.heap.size + 1, 0, none⟩))
    ((Below.heap_alloc _ _ mb (by simp; omega)).trans ((Below.heap_alloc _ _ mb hmb).trans hm))
  clear hm
  go_enter Try.func13, Try.ntmps13
  go_wp2
  go_ret
  exact ⟨rfl, rfl⟩

set_option maxRecDepth 100000 in
theorem addCall_any (cb mb ck : Nat) (id t : Int) (w : World) (h : w.cell? ⟨cb, 16, none⟩ = some (.map (some mb))) (hm : w.heap[mb]? = some (.map #[] ck)) :
    Calls Try.prog 24 #[.pointer (some ⟨cb, 0, none⟩), .int .u64 id, .int .i64 t] w fun e w' => e = .returned (.pointer (some ⟨w.heap.size + 1, 0, none⟩)) ∧
      w' = setB ((w.alloc (.chan 1 #[] false 0 0 false)).alloc (.cells #[.chan (some w.heap.size), .bool false, .slice none 0 0, .int .i64 0, .chan none, .int .i64 t] 55)) mb (.map #[⟨.int .u64 id, .pointer (some ⟨w.heap.size + 1, 0, none⟩), ck⟩] (ck + 1)) := by
  have hcb : cb < w.heap.size := heap_lt h
  have hmb : mb < w.heap.size := lt_of_heap hm
  have hu := upd_empty ((w.alloc (.chan 1 #[] false 0 0 false)).alloc (.cells #[.chan (some w.heap.size), .bool false, .slice none 0 0, .int .i64 0, .chan none, .int .i64 t] 55)) id (.pointer (some ⟨w.heap.size + 1, 0, none⟩))
    ((Below.heap_alloc _ _ mb (by simp; omega)).trans ((Below.heap_alloc _ _ mb hmb).trans hm))
  clear hm
  go_enter Try.func24, Try.ntmps24
  go_wp2_with (go_at_call 8; refine (newWaiter_any t _).mono ?_; rintro e w' ⟨rfl, rfl⟩)
  go_ret
  exact ⟨rfl, rfl⟩

set_option maxHeartbeats 400000 in
theorem takeAnswer_any (wb ac cap s r : Nat) (t id : Int) (ba : Option Addr) (bl bc : Nat) (w : World) (h : w.cell? ⟨wb, 0, none⟩ = some (.chan (some ac)))
    (hc : w.heap[ac]? = some (.chan cap #[.agg #[.int .u8 t, .int .u64 id, .slice ba bl bc]] false s r false)) :
    Calls Try.prog 27 #[.pointer (some ⟨wb, 0, none⟩)] w fun e w' => e = .returned (.tuple #[.int .u8 t, .int .u64 id, .slice ba bl bc]) ∧ Kept w w' (· = ac) := by
  go_enter Try.func27, Try.ntmps27
  go_upto_region 1 with fail
  refine wp_region_S ?_
  show WpS _ _ _ [0, 1, 2, 3, 4, 5, 6] _ _
  refine WpS.value (v := .pointer (some ⟨wb, 0, none⟩)) (w' := w) 6 rfl rfl rfl (by go_simp) ?_
  refine WpS.value (v := .pointer (some ⟨wb, 0, none⟩)) (w' := w) 7 rfl rfl rfl (by go_simp) ?_
  refine WpS.value (v := .pointer (some ⟨wb, 0, none⟩)) (w' := w) 8 rfl rfl rfl (by go_simp) ?_
  refine WpS.value (v := .chan (some ac)) (w' := w) 9 rfl rfl rfl (by go_simp) ?_
  refine WpS.recv (c := ac) (z := .agg #[.int .u8 0, .int .u64 0, .slice none 0 0]) (w₁ := w) 10 rfl rfl rfl (by go_simp; rfl) hc (by simp) ?_
  have hk : Kept w (w.setChan ac cap (#[Value.agg #[.int .u8 t, .int .u64 id, .slice ba bl bc]].extract 1 1) false s (r + 1) false) (· = ac) := (Kept.refl w (· = ac)).setChan rfl _ _ _ _ _ _
  change WpS _ _ _ _ _ (w.setChan ac cap (#[Value.agg #[.int .u8 t, .int .u64 id, .slice ba bl bc]].extract 1 1) false s (r + 1) false)
  generalize w.setChan ac cap (#[Value.agg #[.int .u8 t, .int .u64 id, .slice ba bl bc]].extract 1 1) false s (r + 1) false = W at *
  refine WpS.value (v := .pointer (some ⟨W.heap.size, 0, none⟩)) (w' := W.alloc (.cells #[.int .u8 0, .int .u64 0, .slice none 0 0] 59)) 5 rfl rfl rfl (by go_simp) ?_
  refine WpS.skip (w' := W.alloc (.cells #[.int .u8 t, .int .u64 id, .slice ba bl bc] 59)) rfl rfl rfl (by go_simp) ?_
  refine WpS.nil ?_
  go_wp2
  go_quiet (fail)
  go_wp2
  go_ret3
  exact ⟨rfl, (hk.alloc _).drewN _⟩

end Go.Proofs.Qxb6616696a
