/-
  The walk of 'FnDeliverKeepsOnPartFramesInOrder'.
-/
import Derived.Test.Qxb6616696aState
import Derived.Deep.RegionHeld3
import Derived.Deep.DrawnRows
namespace Go.Proofs.Qxb6616696a
open Go.RowKit
attribute [local go_sem ↓] Go.wp_at_zero Go.wp_at_succ

theorem IsBody.below {W0 w : World} {f : Fr} (h : IsBody W0 f) (hb : Below W0.heap.size W0 w) : IsBody w f := by
  obtain ⟨h1, h2, h3, h4, h5, h6⟩ := h
  refine ⟨h1, h2, h3, h4, h5, ?_⟩
  rcases h6 with h | ⟨b, o, e, hl, hc⟩
  · exact .inl h
  · exact .inr ⟨b, o, e, Nat.lt_of_lt_of_le hl hb.size, fun i hi => (hb.cell (p := ⟨b, o + i, none⟩) hl).trans (hc i hi)⟩

variable {W0 W w : World} {H cb mb wb rc kept : Nat} {id : Int} {opn : Bool}

theorem clone_after {w w1 w2 : World} {g n bc : Nat} {ba : Option Addr} {bs : List Int} (h : IsClone w1 g (.slice ba n bc) n bs) (hb : Between w w1 w2) (hg : w.heap.size ≤ g) : IsClone w2 g (.slice ba n bc) n bs := by
  obtain ⟨ba', bc', e, h⟩ := h
  refine ⟨ba', bc', e, ?_⟩
  rcases h with h | ⟨e', hc⟩
  · exact .inl h
  · by_cases h0 : n = 0
    · exact .inl h0
    · refine .inr ⟨e', fun i hi => ?_⟩
      have hl := heap_lt (hc i hi)
      rw [← hc i hi]
      exact World.cell?_of_block (w := w1) (hb g hg hl)

theorem clone_same {w : World} {g bc : Nat} {ba : Option Addr} {f : Fr} (h : IsClone w g (.slice ba f.bl bc) f.bl f.bs) (hB : IsBody w f) (hL : (f.bl : Int) ≤ 1048576) :
    Calls Try.prog 18 #[.slice ba f.bl bc, .slice f.ba f.bl f.bc] w fun e w' => e = .returned (.bool true) ∧ Same w w' := by
  obtain ⟨_, _, _, _, _, hrow⟩ := hB
  obtain ⟨ba', bc', e, h⟩ := h
  cases e
  refine same_any _ _ f.bl _ _ (fun i => f.bs.getD i 0) w (by omega) ?_
  rcases h with h | ⟨e', hc⟩
  · exact .inl h
  · rcases hrow with h | ⟨b, o, e, _, hr⟩
    · exact .inl h
    · exact .inr ⟨g, 0, b, o, e', e, fun i hi => by rw [Nat.zero_add]; exact hc i hi, hr⟩

theorem framesLen_St (S : St W0 H id cb mb wb rc opn kept w) : Calls Try.prog 16 #[.pointer (some ⟨wb, 0, none⟩)] w fun e w' => e = .returned (.int .i64 kept) ∧ w' = w := by
  obtain ⟨⟨a, c, h⟩, _⟩ := S.reads
  exact framesLen_any wb kept c a w h
theorem out_St (S : St W0 H id cb mb wb rc opn kept w) : Calls Try.prog 20 #[.pointer (some ⟨cb, 0, none⟩)] w fun e w' => e = .returned (.slice none 0 0) ∧ w' = w :=
  out_any cb 0 0 none w S.reads.2.1
theorem isWaiting_St (S : St W0 H id cb mb wb rc opn kept w) : Calls Try.prog 19 #[.pointer (some ⟨cb, 0, none⟩), .int .u64 id] w fun e w' => e = .returned (.bool opn) ∧ w' = w := by
  have h16 := S.reads.2.2.1
  obtain ⟨_, _, _, es, ck, fs, xs, buf, s, r, E, ho, _⟩ := S
  rcases ho with ⟨rfl, born, rfl⟩ | ⟨rfl, rfl⟩
  · exact isWaiting_yes cb mb ck born id _ w h16 E.map
  · exact isWaiting_no cb mb ck id w h16 E.map
theorem waitingLen_St (S : St W0 H id cb mb wb rc opn kept w) : Calls Try.prog 22 #[.pointer (some ⟨cb, 0, none⟩)] w fun e w' => e = .returned (.int .i64 (if opn then 1 else 0)) ∧ w' = w := by
  have h16 := S.reads.2.2.1
  obtain ⟨_, _, _, es, ck, fs, xs, buf, s, r, E, ho, _⟩ := S
  rcases ho with ⟨rfl, born, rfl⟩ | ⟨rfl, rfl⟩
  · exact waitingLen_any cb mb ck _ w h16 E.map
  · exact waitingLen_any cb mb ck _ w h16 E.map
theorem readyLen_St (S : St W0 H id cb mb wb rc opn kept w) : Calls Try.prog 21 #[.pointer (some ⟨wb, 0, none⟩)] w fun e w' => e = .returned (.int .i64 (if 0 < kept then 1 else 0)) ∧ w' = w := by
  have h4 := S.reads.2.2.2
  obtain ⟨_, _, _, es, ck, fs, xs, buf, s, r, E, _, hk, _⟩ := S
  rcases hk with ⟨rfl, rfl⟩ | ⟨hk, rfl⟩
  · exact readyLen_any wb rc 1 s r _ false w h4 E.chan
  · rw [if_pos hk]
    exact readyLen_any wb rc 1 s r _ false w h4 E.chan

theorem framesLen_next (S : St W0 H id cb mb wb rc opn (kept + 1) w) : Calls Try.prog 16 #[.pointer (some ⟨wb, 0, none⟩)] w fun e w' => e = .returned (.int .i64 ((kept : Int) + 1)) ∧ w' = w := framesLen_St S
theorem clone_kept {w1 w2 : World} {g n bc : Nat} {ba : Option Addr} {bs : List Int} (h : IsClone w1 g (.slice ba n bc) n bs) (hk : Kept w1 w2 Nothing) : IsClone w2 g (.slice ba n bc) n bs :=
  clone_after (w := { w1 with heap := #[] }) h (fun k _ h => hk.block k h nofun) (Nat.zero_le _)

/-- How it starts. -/
theorem St.start {C : Array Value} (hb : Below H W0 w) (hs : H ≤ w.heap.size) (hC : ConnAt w cb mb 0 0 (.slice none 0 0) C) (hm : w.heap[mb]? = some (.map #[] 0)) (h1 : H ≤ cb) (h2 : H ≤ mb) (id : Int) :
    St W0 H id cb mb (w.heap.size + 1) w.heap.size true 0
      (setB ((w.alloc (.chan 1 #[] false 0 0 false)).alloc (.cells #[.chan none, .bool true, .slice none 0 0, .int .i64 0, .chan (some w.heap.size), .int .i64 0] 55)) mb (.map #[⟨.int .u64 id, .pointer (some ⟨w.heap.size + 1, 0, none⟩), 0⟩] 1)) := by
  have l1 := lt_of_heap hC.heap
  have l2 := lt_of_heap hm
  have hne : cb ≠ mb := fun e => by subst e; rw [hC.heap] at hm; cases hm
  have hk : Kept w (setB ((w.alloc (.chan 1 #[] false 0 0 false)).alloc (.cells #[.chan none, .bool true, .slice none 0 0, .int .i64 0, .chan (some w.heap.size), .int .i64 0] 55)) mb (.map #[⟨.int .u64 id, .pointer (some ⟨w.heap.size + 1, 0, none⟩), 0⟩] 1)) (· = mb) :=
    (((Kept.refl w (· = mb)).alloc _).alloc _).setB (r := mb) rfl _
  refine ⟨hb.trans (hk.below hs fun k e => by rw [e]; exact h2), Nat.le_trans hs hk.size, ⟨h1, h2, by omega, hs⟩, _, 1, .slice none 0 0, [], #[], 0, 0, ⟨⟨C, hC.of_heap (hk.block cb l1 hne)⟩, ?_, ?_, ?_, ⟨_, _, _, _, _, _, rfl⟩⟩, .inl ⟨rfl, 0, rfl⟩, .inl ⟨rfl, rfl⟩, rfl, .inl ⟨rfl, rfl⟩⟩
  · exact setB_same (o' := .map #[] 0) ((Below.heap_alloc _ _ mb (by simp; omega)).trans ((Below.heap_alloc _ _ mb l2).trans hm))
  · rw [setB_other (by omega)]
    have := (MapKept.heap_alloc (w.alloc (.chan 1 #[] false 0 0 false)) (.cells #[.chan none, .bool true, .slice none 0 0, .int .i64 0, .chan (some w.heap.size), .int .i64 0] 55)).1
    simpa [partsCells] using this
  · rw [setB_other (by omega), Below.heap_alloc _ _ _ (by simp)]
    exact (MapKept.heap_alloc w _).1

def KeepsPost (w : World) (e : Ending) (w' : World) : Prop := e = .returned (.bool true) ∧ Below w.heap.size w w'
theorem keeps_true {w w' : World} (h : Below w.heap.size w w') : KeepsPost w (.returned (.bool true)) w' := ⟨rfl, h⟩

set_option maxRecDepth 100000 in
set_option maxHeartbeats 4000000 in
theorem keepsLaw (id : Int) (a : Option Addr) (len cap : Nat) (F : Nat → Fr) (w : World) (hF : IsFrames w a len F) :
    Calls Try.prog 4 #[.int .u64 id, .slice a len cap] w (KeepsPost w) := by
  go_enter Try.func4, Try.ntmps4
  go_wp2_with fail
  refine (zz11 id a len cap F w hF).mono ?_
  rintro e w1 ⟨r, rfl, rfl, hsm⟩
  cases r
  · go_wp2
    go_ret
    exact keeps_true (Below.refl _ _)
  have hs := hsm rfl
  clear hsm
  go_wp2_with fail
  refine (big7 a len cap F w1 hF hs).mono ?_
  rintro e w2 ⟨r, rfl, rfl, hfit⟩
  cases r
  rotate_left
  · go_wp2
    go_ret
    exact keeps_true (Below.refl _ _)
  have ht := hfit rfl
  clear hfit
  have hlen : len ≤ 30000 := by have := sumB_nonneg F len; omega
  have hm := hF.1
  unfold maxLen at hm
  go_wp2_with fail
  refine (newConn_any _ _).mono ?_
  rintro e w3 ⟨cb, mb, C, rfl, hC, hmap, h1, h2, hb3⟩
  go_wp2_with fail
  refine (addParts_any cb mb 0 id w3 ((hC.cell 16).trans hC.c16) hmap).mono ?_
  rintro e w4 ⟨rfl, rfl⟩
  have S0 := St.start hb3 hb3.size hC hmap h2 h1 id
  generalize hw4 : setB _ mb _ = w4 at *
  generalize hwb : w3.heap.size + 1 = wb at *
  generalize hrc : w3.heap.size = rc at *
  clear hw4 hwb hrc hC hmap hb3 ht
  obtain ⟨H, hH⟩ : ∃ H, H = w2.heap.size := ⟨_, rfl⟩
  rw [← hH] at S0 h1 h2
  go_wp2
  go_loopw [7, 8, 9] (fun kp op i wr => ∃ (k n : Nat) (b : Bool), k ≤ len ∧ n ≤ k ∧ i = .int .i64 k ∧ kp = .int .i64 n ∧ op = .bool b ∧ St w2 H id cb mb wb rc b n wr) (fun _ _ i _ => len - (intOf i).toNat)
  case atStart => exact ⟨0, 0, true, Nat.zero_le _, Nat.le_refl _, rfl, rfl, rfl, S0⟩
  case round =>
    obtain ⟨k, n, b, hk, hn, rfl, rfl, rfl, S⟩ := hrel
    clear S0
    by_cases hlt : k < len
    · rcases hF.2 with hl0 | ⟨gb, go, ha, hb, hfr⟩
      · omega
      subst ha
      obtain ⟨q0, q1, q2, _, _, hbody⟩ := hfr k hlt
      have hL := hs k hlt
      have hcln := fun (W : World) (hB : IsBody W (F k)) => clone_any (F k) W hB hL
      have hsam := fun (W : World) (g bc : Nat) (ba : Option Addr) (h : IsClone W g (.slice ba (F k).bl bc) (F k).bl (F k).bs) (hB : IsBody W (F k)) => clone_same h hB hL
      clear hfr
      generalize F k = f at *
      obtain ⟨ft, fi, fa, L, fc, bs⟩ := f
      simp only at q0 q1 q2 hL hcln hsam
      have HCL := Hid.mk hcln
      have HSA := Hid.mk hsam
      have HBO := Hid.mk hbody
      have HKP : Hid (∀ {b : Bool} {n : Nat} {w' : World}, St w2 H id cb mb wb rc b n w' → w'.cell? ⟨gb, go + k * 3, none⟩ = some (.int .u8 ft) ∧ w'.cell? ⟨gb, go + k * 3 + 1, none⟩ = some (.int .u64 fi) ∧ w'.cell? ⟨gb, go + k * 3 + 2, none⟩ = some (.slice fa L fc)) :=
        fun {b n w'} S => ⟨(S.bel.cell (p := ⟨gb, go + k * 3, none⟩) (by rw [hH]; exact hb)).trans q0, (S.bel.cell (p := ⟨gb, go + k * 3 + 1, none⟩) (by rw [hH]; exact hb)).trans q1, (S.bel.cell (p := ⟨gb, go + k * 3 + 2, none⟩) (by rw [hH]; exact hb)).trans q2⟩
      clear hcln hsam hbody q0 q1 q2 hs
      obtain ⟨c0, c1, c2⟩ := HKP.out S
      by_cases hit : b = true ∧ fi = id
      · obtain ⟨rfl, hid⟩ := hit
        subst hid
        have HNN : Hid (n ≤ 30000) := Nat.le_trans hn (Nat.le_trans hk hlen)
        by_cases h7 : ft = 7
        · subst h7
          have HD : Hid (decide ((7 : Int) = 7) = true) := rfl
          go_wp2_with fail
          go_region_held3 (fun w' => w'.cell? ⟨gb, go + k * 3, none⟩ = some (.int .u8 7) ∧ w'.cell? ⟨gb, go + k * 3 + 1, none⟩ = some (.int .u64 fi) ∧ w'.cell? ⟨gb, go + k * 3 + 2, none⟩ = some (.slice fa L fc))
            (first | go_keep | exact HKP.out S6 | exact HKP.out S5)
            (first
              | (go_at_call 15; refine (HCL.out _ (HBO.out.below (hH ▸ S.bel.drew))).mono ?_; rintro e w5 ⟨v, rfl, ⟨ba', bc', rfl, hcl⟩, hb5⟩; have S5 := S.below ((Below.refl _ _).drew.trans hb5))
              | (go_at_call 14; refine (deliver_hit S ((Below.refl _ _).drew.trans hb5) (by omega) 7 _ _ _).mono ?_; rintro e w6 ⟨rfl, S6, hbt, hlast⟩))
          rw [HD.out] at S6
          have hcl6 := clone_after ⟨ba', bc', rfl, hcl⟩ hbt (Nat.le_refl _)
          obtain ⟨g, cp, l2, la, li, lb⟩ := hlast
          obtain ⟨d0, d1, d2⟩ := HKP.out S6
          clear S S5 hb5 hbt hcl c0 c1 c2
          have HF6 := Hid.mk (framesLen_next S6)
          go_wp2_with (first
            | (go_at_call 16; first | refine (framesLen_next S8).mono ?_ | refine HF6.out.mono ?_; rintro e w' ⟨rfl, rfl⟩)
            | (go_at_call 17; refine (frameAt_any wb g (n + 1) cp n 7 fi _ _ _ _ l2 (Nat.lt_succ_self n) la li lb).mono ?_; rintro e w7 ⟨rfl, hk7⟩; have S7 := S6.below (hk7.below (Nat.le_refl _) nofun); have hcl7 := clone_kept hcl6 hk7; obtain ⟨e0, e1, e2⟩ := HKP.out S7)
            | (go_at_call 18; refine (HSA.out _ _ _ _ hcl7 (HBO.out.below (hH ▸ S7.bel))).mono ?_; rintro e w8 ⟨rfl, hs8⟩; have S8 := S7.below hs8.below; obtain ⟨x0, x1, x2⟩ := HKP.out S8)
            | (go_at_call 19; refine (isWaiting_St S8).mono ?_; rintro e w' ⟨rfl, rfl⟩)
            | (go_at_call 20; refine (out_St S8).mono ?_; rintro e w' ⟨rfl, rfl⟩))
          go_roundw
          case rel => exact ⟨k + 1, n + 1, true, by omega, by omega, by go_num, by go_num, rfl, S8⟩
          case measure => simp [intOf]; omega
        · have HD : Hid (decide (ft = 7) = false) := by show decide (ft = 7) = false; simp [h7]
          go_wp2_with fail
          go_region_held3 (fun w' => w'.cell? ⟨gb, go + k * 3, none⟩ = some (.int .u8 ft) ∧ w'.cell? ⟨gb, go + k * 3 + 1, none⟩ = some (.int .u64 fi) ∧ w'.cell? ⟨gb, go + k * 3 + 2, none⟩ = some (.slice fa L fc))
            (first | go_keep | exact HKP.out S6 | exact HKP.out S5)
            (first
              | (go_at_call 15; refine (HCL.out _ (HBO.out.below (hH ▸ S.bel.drew))).mono ?_; rintro e w5 ⟨v, rfl, ⟨ba', bc', rfl, hcl⟩, hb5⟩; have S5 := S.below ((Below.refl _ _).drew.trans hb5))
              | (go_at_call 14; refine (deliver_hit S ((Below.refl _ _).drew.trans hb5) (by omega) ft _ _ _).mono ?_; rintro e w6 ⟨rfl, S6, hbt, hlast⟩))
          rw [HD.out] at S6
          have hcl6 := clone_after ⟨ba', bc', rfl, hcl⟩ hbt (Nat.le_refl _)
          obtain ⟨g, cp, l2, la, li, lb⟩ := hlast
          obtain ⟨d0, d1, d2⟩ := HKP.out S6
          clear S S5 hb5 hbt hcl c0 c1 c2
          have HF6 := Hid.mk (framesLen_next S6)
          go_wp2_with (first
            | (go_at_call 16; first | refine (framesLen_next S8).mono ?_ | refine HF6.out.mono ?_; rintro e w' ⟨rfl, rfl⟩)
            | (go_at_call 17; refine (frameAt_any wb g (n + 1) cp n ft fi _ _ _ _ l2 (Nat.lt_succ_self n) la li lb).mono ?_; rintro e w7 ⟨rfl, hk7⟩; have S7 := S6.below (hk7.below (Nat.le_refl _) nofun); have hcl7 := clone_kept hcl6 hk7; obtain ⟨e0, e1, e2⟩ := HKP.out S7)
            | (go_at_call 18; refine (HSA.out _ _ _ _ hcl7 (HBO.out.below (hH ▸ S7.bel))).mono ?_; rintro e w8 ⟨rfl, hs8⟩; have S8 := S7.below hs8.below; obtain ⟨x0, x1, x2⟩ := HKP.out S8)
            | (go_at_call 19; refine (isWaiting_St S8).mono ?_; rintro e w' ⟨rfl, rfl⟩)
            | (go_at_call 20; refine (out_St S8).mono ?_; rintro e w' ⟨rfl, rfl⟩))
          go_roundw
          case rel => exact ⟨k + 1, n + 1, false, by omega, by omega, by go_num, by go_num, rfl, S8⟩
          case measure => simp [intOf]; omega
      · have hno : b = true → fi ≠ id := fun h1 h2 => hit ⟨h1, h2⟩
        have HNO := Hid.mk hno
        clear hno hit
        go_wp2_with fail
        go_region_held3 (fun w' => w'.cell? ⟨gb, go + k * 3, none⟩ = some (.int .u8 ft) ∧ w'.cell? ⟨gb, go + k * 3 + 1, none⟩ = some (.int .u64 fi) ∧ w'.cell? ⟨gb, go + k * 3 + 2, none⟩ = some (.slice fa L fc))
          (first | go_keep | exact HKP.out S6 | exact HKP.out S5)
          (first
            | (go_at_call 15; refine (HCL.out _ (HBO.out.below (hH ▸ S.bel.drew))).mono ?_; rintro e w5 ⟨v, rfl, ⟨ba', bc', rfl, hcl⟩, hb5⟩; have S5 := S.below ((Below.refl _ _).drew.trans hb5))
            | (go_at_call 14; refine (deliver_miss S ((Below.refl _ _).drew.trans hb5) ft fi _ _ _ HNO.out).mono ?_; rintro e w6 ⟨rfl, S6, hbt⟩))
        clear S S5 hb5 hbt hcl c0 c1 c2
        obtain ⟨d0, d1, d2⟩ := HKP.out S6
        cases b
        · go_wp2_with (first
            | (go_at_call 16; refine (framesLen_St S6).mono ?_; rintro e w' ⟨rfl, rfl⟩)
            | (go_at_call 19; refine (isWaiting_St S6).mono ?_; rintro e w' ⟨rfl, rfl⟩)
            | (go_at_call 20; refine (out_St S6).mono ?_; rintro e w' ⟨rfl, rfl⟩))
          go_roundw
          case rel => exact ⟨k + 1, n, false, by omega, by omega, by go_num, rfl, rfl, S6⟩
          case measure => simp [intOf]; omega
        · have hne := HNO.out rfl
          go_wp2_with (first
            | (go_at_call 16; refine (framesLen_St S6).mono ?_; rintro e w' ⟨rfl, rfl⟩)
            | (go_at_call 19; refine (isWaiting_St S6).mono ?_; rintro e w' ⟨rfl, rfl⟩)
            | (go_at_call 20; refine (out_St S6).mono ?_; rintro e w' ⟨rfl, rfl⟩))
          go_roundw
          case rel => exact ⟨k + 1, n, true, by omega, by omega, by go_num, rfl, rfl, S6⟩
          case measure => simp [intOf]; omega
    · have hbel := S.bel
      rw [hH] at hbel
      have S6 := S
      clear hF hs S
      by_cases h0 : 0 < n
      all_goals
        cases b
        all_goals
          go_wp2_with (first
            | (go_at_call 21; refine (readyLen_St S6).mono ?_; rintro e w' ⟨rfl, rfl⟩)
            | (go_at_call 22; refine (waitingLen_St S6).mono ?_; rintro e w' ⟨rfl, rfl⟩))
          go_ret
          exact keeps_true hbel
end Go.Proofs.Qxb6616696a
