/-
  'deliver' of the answer to a plain call: the walk.
-/
import Derived.Test.Qxb6616696aAnswer
namespace Go.Proofs.Qxb6616696a
open Go.RowKit Go.Conc
attribute [local go_sem ↓] Go.wp_at_zero Go.wp_at_succ

variable {W : World} {cb mb wb rc ck : Nat} {out : Value}

/-- What the answer to a plain call leaves. -/
def AnswerPost (W : World) (cb mb wb rc : Nat) (out : Value) (ck : Nat) (T0 t id : Int) (body : Value) (e : Ending) (w' : World) : Prop :=
  e = .returned (.tuple #[]) ∧ (∃ s r, ES w' cb mb wb rc out #[] ck (callCells rc T0) (.chan 1 #[.agg #[.int .u8 t, .int .u64 id, body]] false s r false)) ∧ Kept W w' (fun k => k = cb ∨ k = mb ∨ k = rc)

set_option maxHeartbeats 2000000 in
set_option maxRecDepth 100000 in
theorem deliver_answer (t id T0 : Int) (ht : (t != 7) = true) (born : Nat) (ba : Option Addr) (bl bc s r : Nat)
    (E : ES W cb mb wb rc out #[⟨.int .u64 id, .pointer (some ⟨wb, 0, none⟩), born⟩] ck (callCells rc T0) (.chan 1 #[] false s r false)) :
    Calls Try.prog 29 #[.pointer (some ⟨cb, 0, none⟩), .agg #[.int .u8 t, .int .u64 id, .slice ba bl bc]] W (AnswerPost W cb mb wb rc out ck T0 t id (.slice ba bl bc)) := by
  have ht7 : ¬ t = 7 := by simpa using ht
  have D0 := E.boxed #[.int .u8 t, .int .u64 id, .slice ba bl bc]
  have hk0 : Kept W (W.alloc (.cells #[.int .u8 t, .int .u64 id, .slice ba bl bc] 59)) (fun k => k = cb ∨ k = mb ∨ k = rc) := (Kept.refl W _).alloc _
  obtain ⟨fb, hfb⟩ : ∃ fb, W.heap.size = fb := ⟨_, rfl⟩
  rw [hfb] at D0
  go_enter Try.func29, Try.ntmps29
  go_wp2_with fail
  refine (lock14 D0).mono ?_
  rintro e W1 ⟨rfl, D1, k1⟩
  have hk1 := hk0.trans (k1.mono fun k h => .inl h)
  clear D0 hk0 k1 E
  obtain ⟨C1, hC1⟩ := D1.conn
  have a16 := (hC1.cell 16).trans hC1.c16
  have f0 : W1.cell? ⟨fb, 0, none⟩ = some (.int .u8 t) := cell_of D1.box 0
  have f1 : W1.cell? ⟨fb, 1, none⟩ = some (.int .u64 id) := cell_of D1.box 1
  have hm1 := look_hit W1.drew id (.pointer (some ⟨wb, 0, none⟩)) born false D1.map
  simp only [Bool.false_eq_true, if_false] at hm1
  have hd1 := fun ty => del_hit W1.drew.drew ty id (.pointer (some ⟨wb, 0, none⟩)) born D1.map
  have D2' := D1.drew.drew.setMap #[] ck
  obtain ⟨C2, hC2⟩ := D2'.conn
  have b16 := (hC2.cell 16).trans hC2.c16
  have b1 : (setB W1.drew.drew mb (.map #[] ck)).cell? ⟨fb, 1, none⟩ = some (.int .u64 id) := cell_of D2'.box 1
  go_wp2_with fail
  go_region_held3 (fun w' => w'.cell? ⟨cb, 16, none⟩ = some (.map (some mb)) ∧ w'.cell? ⟨fb, 1, none⟩ = some (.int .u64 id)) (go_keep) (fail)
  clear hm1
  go_wp2_with fail
  go_region_held3 (fun w' => w'.cell? ⟨cb, 16, none⟩ = some (.map (some mb)) ∧ w'.cell? ⟨fb, 1, none⟩ = some (.int .u64 id)) (first | go_keep | exact ⟨b16, b1⟩) (fail)
  have hk2 := (hk1.drew.drew).setB (r := mb) (.inr (.inl rfl)) (.map #[] ck)
  clear a16 f0 f1 hC1 hC2 b16 b1 D1 hk1 hd1
  generalize setB W1.drew.drew mb (.map #[] ck) = W6 at *
  have f0 : W6.cell? ⟨fb, 0, none⟩ = some (.int .u8 t) := cell_of D2'.box 0
  have f1 : W6.cell? ⟨fb, 1, none⟩ = some (.int .u64 id) := cell_of D2'.box 1
  have f2 : W6.cell? ⟨fb, 2, none⟩ = some (.slice ba bl bc) := cell_of D2'.box 2
  have w1 : W6.cell? ⟨wb, 1, none⟩ = some (.bool false) := cell_of D2'.wait 1
  have w0 : W6.cell? ⟨wb, 0, none⟩ = some (.chan (some rc)) := cell_of D2'.wait 0
  obtain ⟨_, _, _, _, _, _, _, n8, _, n10⟩ := D2'.ne
  go_upto_region 6 with fail
  refine wp_region_draw_S fun tt => ?_
  have hfo : Try.prog.follows .mixedOrders = true := by kernel_rfl
  simp only [Region.schedule, hfo, Bool.true_or, if_true, Region.linearise]
  refine send_region (W := W6.drew) (wb := wb) (fb := fb) (rc := rc) (s := s) (r := r) (t := t) (id := id) (ba := ba) (bl := bl) (bc := bc) ?_ ?_ ?_ ?_ ?_ ?_ ?_ ?_ ?_ ?_ ?_ w0 f0 f1 f2 D2'.chan n8 n10.symm ?_ _ tt ?_
  · exact ⟨_, rfl, rfl, rfl, rfl⟩
  · exact ⟨_, rfl, rfl, rfl, rfl⟩
  · exact ⟨_, rfl, rfl, rfl, rfl⟩
  · exact ⟨_, rfl, rfl, rfl, rfl⟩
  · exact ⟨_, rfl, rfl, rfl, rfl⟩
  · exact ⟨_, rfl, rfl, rfl, rfl⟩
  · decide +kernel
  · decide +kernel
  · exact (by decide : 30 < 85)
  · rfl
  · rfl
  rotate_left
  · decide
  have D3 := D2'.drew.setChan 1 #[.agg #[.int .u8 t, .int .u64 id, .slice ba bl bc]] false (s + 1) r false
  have hk3 := hk2.drew.setChan (c := rc) (.inr (.inr rfl)) 1 #[.agg #[.int .u8 t, .int .u64 id, .slice ba bl bc]] false (s + 1) r false
  clear f0 f1 f2 w0 w1 D2' hk2
  generalize W6.drew.setChan rc 1 #[.agg #[.int .u8 t, .int .u64 id, .slice ba bl bc]] false (s + 1) r false = W7 at *
  go_wp2_with fail
  refine (unlock14 D3).mono ?_
  rintro e W8 ⟨rfl, D4, k4⟩
  go_wp2
  go_end0
  exact ⟨rfl, ⟨_, _, D4.unbox⟩, hk3.trans (k4.mono fun k h => .inl h)⟩
end Go.Proofs.Qxb6616696a
