/-
  The walks of pastThreshold, outgrown, ZZoutgrown, zzBytes.
-/
import Derived.Test.Qxb6616071aRows
import Derived.Test.Qxb6616071aOut
import Derived.WalkKit
import Derived.WalkLawsBesides
import Derived.Laws.FloatArith
namespace Go.Proofs.Qxb6616071a
open Go.RowKit Rnd

/-! ### Operations -/
/-- A word that is a NaN. -/
def IsNan (x : Nat) : Prop := ∃ s f, Ieee.double.read x = .nan s f

theorem cut_nan (x y t : Nat) : IsNan ((Question.nanBits .f64 x y).cut t) := by
  have e : (Question.nanBits .f64 x y).cut t = (t % 2) * 2 ^ 63 + 0x7ff0000000000000 + 1 + (t / 2) % (2 ^ 52 - 1) := rfl
  rw [e]
  have h1 : (t / 2) % (2 ^ 52 - 1) < 2 ^ 52 - 1 := Nat.mod_lt _ (by omega)
  generalize (t / 2) % (2 ^ 52 - 1) = q at *
  have h2 : t % 2 = 0 ∨ t % 2 = 1 := by omega
  have key : ∀ neg : Bool, IsNan (Ieee.double.word neg (0x7ff0000000000000 + 1 + q)) := fun neg => by
    refine ⟨neg, 0x7ff0000000000000 + 1 + q - Ieee.double.infRung, ?_⟩
    rw [read_parts neg _ (by rw [sw]; omega), if_neg (by rw [bin]; omega), if_neg (by rw [infv]; omega), if_neg (by rw [infv]; omega)]
  rcases h2 with h2 | h2
  · have := key false
    rw [word_false] at this
    rw [h2, Nat.zero_mul, Nat.zero_add]
    exact this
  · have := key true
    rw [word_true, sw] at this
    rw [h2, Nat.one_mul, Nat.add_assoc, Nat.add_assoc, ← Nat.add_assoc 0x7ff0000000000000]
    exact this

theorem add_nan {x y : Nat} (h : IsNan y) : Ieee.double.add x y = none := by
  obtain ⟨s, f, e⟩ := h
  unfold Ieee.Format.add
  rw [e]
  cases Ieee.double.read x <;> rfl
theorem order_nan {x y : Nat} (h : IsNan y) : Ieee.double.order x y = none := by
  obtain ⟨s, f, e⟩ := h
  unfold Ieee.Format.order
  rw [e]
  cases Ieee.double.read x <;> rfl

section
variable {P : Program} (w : World)
theorem run_mul_nan (t : TypeId) (x y : Nat) (h : Ieee.double.mul x y = none) : (binOp .mul t (.float .f64 x) (.float .f64 y)).run P w = .ok (.float .f64 ((Question.nanBits .f64 x y).cut (w.tape w.drawn (.nanBits .f64 x y)))) w.drew := by
  have h' : FloatKind.f64.format.mul x y = none := h
  simp [binOp, Op.floatArith, h', choose]
  rfl
theorem run_add_nan (t : TypeId) (x y : Nat) (h : Ieee.double.add x y = none) : (binOp .add t (.float .f64 x) (.float .f64 y)).run P w = .ok (.float .f64 ((Question.nanBits .f64 x y).cut (w.tape w.drawn (.nanBits .f64 x y)))) w.drew := by
  have h' : FloatKind.f64.format.add x y = none := h
  simp [binOp, Op.floatArith, h', choose]
  rfl
theorem run_max0 (ts : Array TypeId) (t : TypeId) (x : Nat) (h : ge0 x = true) : (Builtin.max_ ts t #[.float .f64 x, .float .f64 0]).run P w = .ok (.float .f64 (mx x)) w := by
  unfold ge0 at h
  rw [Bool.or_eq_true, beq_iff_eq, beq_iff_eq] at h
  unfold mx
  rcases h with h | h
  · have h' : FloatKind.f64.format.order x 0 = some .gt := h
    simp [Builtin.max_, Builtin.max2, h', h]
  · have h' : FloatKind.f64.format.order x 0 = some .eq := h
    simp only [h]
    simp [Builtin.max_, Builtin.max2, h']
    rfl
end

set_option maxHeartbeats 400000 in
theorem past_any (nm : ByteArray) (n : Int) (cnt base scale : Nat) (hc : ge0 cnt = true) (w : World) :
    Calls Try.prog 9 #[.agg #[.string nm, .int .i64 n, .float .f64 cnt, .float .f64 base, .float .f64 scale]] w fun e w' => e = .returned (.bool (past (cv n) base scale (mx cnt))) ∧ Grown w w' := by
  have hmax := fun (w : World) => run_max0 (P := Try.prog) w #[22, 22] 22 cnt hc
  cases h1 : Ieee.double.mul scale (mx cnt) with
  | none =>
    have HP : Hid (past (cv n) base scale (mx cnt) = false) := by show _ = _; unfold past; rw [h1]
    obtain ⟨f, hf⟩ : ∃ f : World → Nat, ∀ w, IsNan (f w) ∧ (binOp .mul 22 (.float .f64 scale) (.float .f64 (mx cnt))).run Try.prog w = .ok (.float .f64 (f w)) w.drew :=
      ⟨_, fun w => ⟨cut_nan _ _ _, run_mul_nan w 22 _ _ h1⟩⟩
    obtain ⟨g, hg⟩ : ∃ g : World → World → Nat, ∀ w0 w, IsNan (g w0 w) ∧ (binOp .add 22 (.float .f64 base) (.float .f64 (f w0))).run Try.prog w = .ok (.float .f64 (g w0 w)) w.drew :=
      ⟨_, fun w0 w => ⟨cut_nan _ _ _, run_add_nan w 22 _ _ (add_nan (hf w0).1)⟩⟩
    have hmul := fun w => (hf w).2
    have hadd := fun w0 w => (hg w0 w).2
    have hord : ∀ c w0 w, FloatKind.f64.format.order c (g w0 w) = none := fun c w0 w => order_nan (hg w0 w).1
    clear h1 hc hf hg
    go_enter Try.func9, Try.ntmps9
    go_wp2
    go_ret
    rw [HP.out]
    exact ⟨rfl, Grown.drew (Grown.drew (Grown.alloc (Grown.refl _) _ _))⟩
  | some p =>
    have hmul := fun (w : World) => run_float_arith (P := Try.prog) w .mul 22 .f64 _ _ p h1
    cases h2 : Ieee.double.add base p with
    | none =>
      have HP : Hid (past (cv n) base scale (mx cnt) = false) := by show _ = _; unfold past; rw [h1]; simp only; rw [h2]
      obtain ⟨g, hg⟩ : ∃ g : World → Nat, ∀ w, IsNan (g w) ∧ (binOp .add 22 (.float .f64 base) (.float .f64 p)).run Try.prog w = .ok (.float .f64 (g w)) w.drew :=
        ⟨_, fun w => ⟨cut_nan _ _ _, run_add_nan w 22 _ _ h2⟩⟩
      have hadd := fun w => (hg w).2
      have hord : ∀ c w, FloatKind.f64.format.order c (g w) = none := fun c w => order_nan (hg w).1
      clear h1 h2 hc hg
      go_enter Try.func9, Try.ntmps9
      go_wp2
      go_ret
      rw [HP.out]
      exact ⟨rfl, Grown.drew (Grown.alloc (Grown.refl _) _ _)⟩
    | some T =>
      have HP : Hid (past (cv n) base scale (mx cnt) = (Ieee.double.order (cv n) T == some .gt)) := by show _ = _; unfold past; rw [h1]; simp only; rw [h2]
      have hadd := fun (w : World) => run_float_arith (P := Try.prog) w .add 22 .f64 _ _ T h2
      clear h1 h2 hc
      go_enter Try.func9, Try.ntmps9
      go_wp2
      go_ret
      rw [HP.out]
      exact ⟨rfl, Grown.alloc (Grown.refl _) _ _⟩

theorem grown_trans {a b c : World} (h : Grown a b) (k : Grown b c) : Grown a c :=
  ⟨World.keptBut_trans h.1 k.1, fun x => (k.2.1 x).trans (h.2.1 x), Nat.le_trans h.2.2 k.2.2⟩

/-- 'x >= 0' and 'c > x', as the walk shows them. -/
theorem ge0_show (x : Nat) : (FloatKind.f64.format.order x 0 == some .gt || FloatKind.f64.format.order x 0 == some .eq) = ge0 x := rfl

set_option maxHeartbeats 400000 in
theorem outgrown_any (nm : ByteArray) (n : Int) (cnt base scale : Nat) (w : World) :
    Calls Try.prog 8 #[.agg #[.string nm, .int .i64 n, .float .f64 cnt, .float .f64 base, .float .f64 scale]] w fun e w' => e = .returned (.bool (outg n cnt base scale)) ∧ Grown w w' := by
  cases h1 : ge0 cnt with
  | false =>
    have HP : Hid (outg n cnt base scale = false) := by show _ = _; unfold outg; rw [h1]; rfl
    have h1' : (FloatKind.f64.format.order cnt 0 == some .gt || FloatKind.f64.format.order cnt 0 == some .eq) = false := h1
    rw [Bool.or_eq_false_iff] at h1'
    obtain ⟨ha, hb⟩ := h1'
    clear h1
    go_enter Try.func8, Try.ntmps8
    go_wp2
    go_ret
    rw [HP.out]
    exact ⟨rfl, Grown.alloc (Grown.refl _) _ _⟩
  | true =>
    have h1' : (FloatKind.f64.format.order cnt 0 == some .gt || FloatKind.f64.format.order cnt 0 == some .eq) = true := h1
    have H1 : Hid (ge0 cnt = true) := h1
    cases h2 : (Ieee.double.order (cv n) cnt == some .gt) with
    | false =>
      have HP : Hid (outg n cnt base scale = false) := by show _ = _; unfold outg; rw [h2, Bool.and_false]; rfl
      have h2' : (FloatKind.f64.format.order (floatOfInt .f64 n) cnt == some .gt) = false := h2
      clear h1 h2
      go_enter Try.func8, Try.ntmps8
      go_wp2
      go_ret
      rw [HP.out]
      exact ⟨rfl, Grown.alloc (Grown.refl _) _ _⟩
    | true =>
      have HP : Hid (outg n cnt base scale = past (cv n) base scale (mx cnt)) := by show _ = _; unfold outg; rw [h1, h2]; rfl
      have h2' : (FloatKind.f64.format.order (floatOfInt .f64 n) cnt == some .gt) = true := h2
      clear h1 h2
      go_enter Try.func8, Try.ntmps8
      go_wp2_with fail
      refine (past_any nm n cnt base scale H1.out _).mono ?_
      rintro e w1 ⟨rfl, hg⟩
      go_wp2
      go_ret
      rw [HP.out]
      exact ⟨rfl, grown_trans (Grown.alloc (Grown.refl _) _ _) hg⟩

theorem zzout_any (nm : ByteArray) (n : Int) (cnt base scale : Nat) (w : World) :
    Calls Try.prog 6 #[.string nm, .int .i64 n, .float .f64 cnt, .float .f64 base, .float .f64 scale] w fun e w' => e = .returned (.bool (outg n cnt base scale)) ∧ Grown w w' := by
  go_enter Try.func6, Try.ntmps6
  go_wp2_with fail
  refine (outgrown_any nm n cnt base scale _).mono ?_
  rintro e w1 ⟨rfl, hg⟩
  go_wp2
  go_ret
  exact ⟨rfl, hg⟩

def SaysAny (w : World) (e : Ending) (w' : World) : Prop := ∃ r : Bool, e = .returned (.bool r) ∧ w' = w
theorem says_mk (r : Bool) (w : World) : SaysAny w (.returned (.bool r)) w := ⟨r, rfl, rfl⟩

theorem zz5 (nm : ByteArray) (n m : Int) (a b c : Nat) (hs : nm.size ≤ maxLen) (w : World) : Calls Try.prog 5 #[.string nm, .int .i64 n, .int .i64 m, .float .f64 a, .float .f64 b, .float .f64 c] w (SaysAny w) := by
  unfold maxLen at hs
  by_cases h : (1048576 : Int) < nm.size
  · go_enter Try.func5, Try.ntmps5
    go_wp2
    go_ret
    exact says_mk false w
  · go_enter Try.func5, Try.ntmps5
    go_wp2
    go_ret
    exact says_mk true w
theorem zz7 (nm : ByteArray) (n : Int) (a b c d e f : Nat) (hs : nm.size ≤ maxLen) (w : World) : Calls Try.prog 7 #[.string nm, .int .i64 n, .float .f64 a, .float .f64 b, .float .f64 c, .float .f64 d, .float .f64 e, .float .f64 f] w (SaysAny w) := by
  unfold maxLen at hs
  by_cases h : (1048576 : Int) < nm.size
  · go_enter Try.func7, Try.ntmps7
    go_wp2
    go_ret
    exact says_mk false w
  · go_enter Try.func7, Try.ntmps7
    go_wp2
    go_ret
    exact says_mk true w

end Go.Proofs.Qxb6616071a
