/-
  The walk of 'FnDeliverGivesBackWhatTookCounts', where something was taken before.
-/
import Derived.Test.Qxb6616696aInv
import Derived.Deep.RegionHeld3
import Derived.Deep.DrawnRows
namespace Go.Proofs.Qxb6616696a
open Go.RowKit
attribute [local go_sem ↓] Go.wp_at_zero Go.wp_at_succ

set_option maxRecDepth 100000 in
set_option maxHeartbeats 8000000 in
theorem givesPos (v : Nat) (hv : v < 18446744073709551616) (tk : Int) (h0 : 0 ≤ tk) (h1 : tk < 32768) (h3 : 0 < tk) (h5 : 13 ≤ tk) (a : Option Addr) (len cap : Nat) (F : Nat → Fr) (w : World) (hF : IsFrames w a len F) :
    Calls Try.prog 5 #[.int .u64 v, .int .i64 tk, .slice a len cap] w (KeepsPost w) := by
  go_enter Try.func5, Try.ntmps5
  go_wp2_with fail
  refine (zz23 v tk a len cap F w hF).mono ?_
  rintro e w1 ⟨r, rfl, rfl, hsm⟩
  cases r
  · go_wp2
    go_ret
    exact keeps_true (Below.refl _ _)
  have hs := hsm rfl
  clear hsm
  go_wp2_with fail
  refine (big7 a len cap F w1 hF hs).mono ?_
  rintro e w2 ⟨r, rfl, rfl, hfit⟩
  cases r
  rotate_left
  · go_wp2
    go_ret
    exact keeps_true (Below.refl _ _)
  have ht := hfit rfl
  clear hfit
  have hlen : len ≤ 30000 := by have := sumB_nonneg F len; omega
  have hm := hF.1
  unfold maxLen at hm
  go_wp2_with fail
  refine (newConn_any _ _).mono ?_
  rintro e w3 ⟨cb, mb, C, rfl, hC, hmap, g1, g2, hb3⟩
  go_wp2_with fail
  refine (addCall_any cb mb 0 v tk w3 ((hC.cell 16).trans hC.c16) hmap).mono ?_
  rintro e w4 ⟨rfl, rfl⟩
  go_wp2_with fail
  refine (newConn_any _ _).mono ?_
  rintro e w5 ⟨db, mdb, C2, rfl, hC5, _, g3, g4, hb5⟩
  go_wp2_with fail
  refine (newWaiter_any tk _).mono ?_
  rintro e w6 ⟨rfl, rfl⟩
  have S0 := Two.start hb3 hb3.size hC hmap g2 g1 _ rfl hC5 g4 hb5
  generalize World.alloc (World.alloc w5 _) _ = w6 at *
  generalize w3.heap.size + 1 = wb at *
  generalize w3.heap.size = ac at *
  generalize w5.heap.size + 1 = vb at *
  generalize w5.heap.size = vc at *
  clear hC hmap hb3 hC5 hb5 g1 g2 g3 g4
  obtain ⟨H, hH⟩ : ∃ H, H = w2.heap.size := ⟨_, rfl⟩
  rw [← hH] at S0
  go_wp2
  go_loopw [11, 12, 13, 14, 15] (fun gv gt op at' i wr => ∃ (k n : Nat) (b : Bool) (T g q at0 : Int) (z : List Int), k ≤ len ∧ i = .int .i64 k ∧ gv = .int .i64 g ∧ gt = .int .i64 q ∧ op = .bool b ∧ at' = .int .i64 at0 ∧ 0 ≤ T ∧ T < 32768 ∧ 0 ≤ g ∧ 0 ≤ q ∧
      Hid (g + T = tk + q) ∧ q ≤ 13 * k + sumB F k ∧ n ≤ 17 * k ∧ Inv3 w2 H v cb mb wb ac db mdb vb vc len F b at0 T n z wr) (fun _ _ _ _ i _ => len - (intOf i).toNat)
  case atStart =>
    exact ⟨0, 0, true, tk, 0, 0, -1, [], Nat.zero_le _, rfl, rfl, rfl, rfl, rfl, by omega, by omega, by omega, by omega, (by show (0 : Int) + tk = tk + 0; omega), by simp [sumB], by omega, .inl ⟨rfl, rfl, S0⟩⟩
  case round =>
    obtain ⟨k, n, b, T, g, q, at0, z, hk, rfl, rfl, rfl, rfl, rfl, hT0, hT1, hg0, hq0, HG, hq, hn, hinv⟩ := hrel
    clear S0
    by_cases hlt : k < len
    · rcases hF.2 with hl0 | ⟨gb, go, ha, hb, hfr⟩
      · omega
      subst ha
      obtain ⟨q0, q1, q2, _, _, hbody⟩ := hfr k hlt
      have hL := hs k hlt
      have hcln := fun (W : World) (hB : IsBody W (F k)) => clone_any (F k) W hB hL
      have hsum := sumB_le F (show k + 1 ≤ len from hlt)
      have hsucc : sumB F (k + 1) = sumB F k + (F k).bl := rfl
      have hbnd : q + 13 + (F k).bl ≤ 1100000 := by omega
      have HQ : Hid (q ≤ 13 * k + sumB F k) := hq
      have HSU : Hid (sumB F (k + 1) = sumB F k + (F k).bl) := hsucc
      clear hfr hsucc hsum hq
      obtain ⟨f, hf⟩ : ∃ f, f = F k := ⟨_, rfl⟩
      rw [← hf] at q0 q1 q2 hbody hL hcln hbnd HSU
      obtain ⟨ft, fi, fa, L, fc, bs⟩ := f
      have HFK := Hid.mk hf
      simp only at q0 q1 q2 hL hcln hbnd HSU
      have HCL := Hid.mk hcln
      have HBO := Hid.mk hbody
      have HKP : Hid (∀ {es : Array MapEntry} {buf : Array Value} {TA : Int} {nA : Nat} {zA : List Int} {TB : Int} {nB : Nat} {zB : List Int} {w' : World}, Two w2 H cb mb wb ac db mdb vb vc es buf TA nA zA TB nB zB w' → w'.cell? ⟨gb, go + k * 3, none⟩ = some (.int .u8 ft) ∧ w'.cell? ⟨gb, go + k * 3 + 1, none⟩ = some (.int .u64 fi) ∧ w'.cell? ⟨gb, go + k * 3 + 2, none⟩ = some (.slice fa L fc)) :=
        fun S => ⟨(S.bel.cell (p := ⟨gb, go + k * 3, none⟩) (by rw [hH]; exact hb)).trans q0, (S.bel.cell (p := ⟨gb, go + k * 3 + 1, none⟩) (by rw [hH]; exact hb)).trans q1, (S.bel.cell (p := ⟨gb, go + k * 3 + 2, none⟩) (by rw [hH]; exact hb)).trans q2⟩
      clear hcln hbody q0 q1 q2 hs hf
      have hn1 : n ≤ 600000 := by omega
      rcases hinv with ⟨rfl, rfl, S⟩ | ⟨rfl, j, hj, rfl, ba, bc, cg, S, hcl0, ng1, ng2, ng3⟩
      · obtain ⟨c0, c1, c2⟩ := HKP.out S
        by_cases hid : fi = v
        · subst hid
          by_cases h7 : ft = 7
          · subst h7
            obtain ⟨m, hRm⟩ : ∃ m : Nat, tookR T L = m := ⟨(tookR T L).toNat, by rcases took_cases T L with ⟨h, _⟩ | ⟨h, _⟩ <;> omega⟩
            obtain ⟨T', hTm⟩ : ∃ T', tookT T L = T' := ⟨_, rfl⟩
            have hcs : (m = 0 ∧ T' = T + (13 + L) ∧ T + (13 + L) < 32768) ∨ (32768 ≤ (m : Int) ∧ (m : Int) = T + (13 + L) ∧ T' = 0) := by
              rcases took_cases T L with ⟨h1, h2, h3⟩ | ⟨h1, h2, h3⟩
              · left; exact ⟨by omega, by omega, h3⟩
              · right; exact ⟨by omega, by omega, by omega⟩
            have HR := Hid.mk hRm
            have HT := Hid.mk hTm
            clear hRm hTm
            have hT'0 : 0 ≤ T' := by omega
            have hT'1 : T' < 32768 := by omega
            have hmb : (m : Int) ≤ 1200000 := by omega
            have hgb : g ≤ 1200000 := by have := HG.out; omega
            rcases hcs with ⟨rfl, hT', hlow⟩ | ⟨hbig, hm', hT'⟩
            all_goals have HT' := Hid.mk hT'
            rotate_left
            all_goals try have HM := Hid.mk hm'
            all_goals clear hT'
            all_goals try clear hm'
            rotate_left
            · go_wp2_with fail
              go_region_held3 (fun w' => w'.cell? ⟨gb, go + k * 3, none⟩ = some (.int .u8 7) ∧ w'.cell? ⟨gb, go + k * 3 + 1, none⟩ = some (.int .u64 v) ∧ w'.cell? ⟨gb, go + k * 3 + 2, none⟩ = some (.slice fa L fc))
                (first | go_keep | exact HKP.out S6 | exact HKP.out S5)
                (first
                  | (go_at_call 15; refine (HCL.out _ (HBO.out.below (hH ▸ S.bel.drew))).mono ?_; rintro e w5 ⟨u, rfl, ⟨ba', bc', rfl, hcl⟩, hb5⟩; have S5 := S.below ((Below.refl _ _).drew.trans hb5))
                  | (go_at_call 14; refine (two_take v 0 0 T' S5 _ _ _ (by omega) hv hT0 hT1 hL HR.out HT.out).mono ?_; rintro e w6 ⟨rfl, S6⟩))
              simp only [if_true] at S6
              clear S S5 hb5 hcl c0 c1 c2
              obtain ⟨d0, d1, d2⟩ := HKP.out S6
              go_wp2_with fail
              go_region_held3 (fun w' => w'.cell? ⟨gb, go + k * 3, none⟩ = some (.int .u8 7) ∧ w'.cell? ⟨gb, go + k * 3 + 1, none⟩ = some (.int .u64 v) ∧ w'.cell? ⟨gb, go + k * 3 + 2, none⟩ = some (.slice fa L fc))
                (first | go_keep | exact HKP.out S7)
                (first | (go_at_call 9; refine (two_took (S6.below (Below.drew (Below.refl _ _))) 7 v fa L fc 0 T' hT0 hT1 hL HR.out HT.out).mono ?_; rintro e w7 ⟨rfl, S7⟩))
              clear S6 d0 d1 d2
              have S8 := S7
              clear S7
              obtain ⟨r5, q5, _, _, _, _, _, _⟩ := S8.reads
              obtain ⟨aA, cA, aB, cB, o8, p8, HS⟩ := S8.outs (by omega)
              go_wp2_with fail
              refine (taken_any wb _ _ r5).mono ?_
              rintro e w' ⟨rfl, rfl⟩
              go_wp2_with fail
              refine (taken_any vb _ _ q5).mono ?_
              rintro e w' ⟨rfl, rfl⟩
              go_wp2_with fail
              refine (out_any cb _ _ _ _ o8).mono ?_
              rintro e w' ⟨rfl, rfl⟩
              go_wp2_with fail
              refine (out_any db _ _ _ _ p8).mono ?_
              rintro e w' ⟨rfl, rfl⟩
              go_wp2_with fail
              refine HS.out.mono ?_
              rintro e w9 ⟨rfl, hs9⟩
              have S9 := S8.below hs9.below
              obtain ⟨_, _, x16, ⟨ck9, hm9⟩, x0, s9, r9, hc9⟩ := S9.reads
              clear r5 q5 o8 p8 HS S8
              go_wp2_with fail
              refine (isWaiting_yes cb mb _ _ v _ _ x16 hm9).mono ?_
              rintro e w' ⟨rfl, rfl⟩
              go_wp2_with fail
              refine (answerLen_any wb ac 1 _ _ _ _ _ x0 hc9).mono ?_
              rintro e w' ⟨rfl, rfl⟩
              go_wp2
              go_roundw
              case rel =>
                refine ⟨k + 1, n, true, T', g, _, -1, z, by omega, by go_num, rfl, rfl, rfl, rfl, hT'0, hT'1, hg0, by omega, ?_, ?_, by omega, .inl ⟨rfl, rfl, S9⟩⟩
                · have h1 := HG.out
                  have h2 := HT'.out
                  show _ = _
                  omega
                · have h1 := HQ.out
                  have h2 := HSU.out
                  omega
              case measure => simp [intOf]; omega
            · have hm0 : ¬ m = 0 := by omega
              go_wp2_with fail
              go_region_held3 (fun w' => w'.cell? ⟨gb, go + k * 3, none⟩ = some (.int .u8 7) ∧ w'.cell? ⟨gb, go + k * 3 + 1, none⟩ = some (.int .u64 v) ∧ w'.cell? ⟨gb, go + k * 3 + 2, none⟩ = some (.slice fa L fc))
                (first | go_keep | exact HKP.out S6 | exact HKP.out S5)
                (first
                  | (go_at_call 15; refine (HCL.out _ (HBO.out.below (hH ▸ S.bel.drew))).mono ?_; rintro e w5 ⟨u, rfl, ⟨ba', bc', rfl, hcl⟩, hb5⟩; have S5 := S.below ((Below.refl _ _).drew.trans hb5))
                  | (go_at_call 14; refine (two_take v m 0 T' S5 _ _ _ (by omega) hv hT0 hT1 hL HR.out HT.out).mono ?_; rintro e w6 ⟨rfl, S6⟩))
              try simp only [if_neg hm0] at S6
              clear S S5 hb5 hcl c0 c1 c2
              obtain ⟨d0, d1, d2⟩ := HKP.out S6
              go_wp2_with fail
              go_region_held3 (fun w' => w'.cell? ⟨gb, go + k * 3, none⟩ = some (.int .u8 7) ∧ w'.cell? ⟨gb, go + k * 3 + 1, none⟩ = some (.int .u64 v) ∧ w'.cell? ⟨gb, go + k * 3 + 2, none⟩ = some (.slice fa L fc))
                (first | go_keep | exact HKP.out S7)
                (first | (go_at_call 9; refine (two_took (S6.below (Below.drew (Below.refl _ _))) 7 v fa L fc m T' hT0 hT1 hL HR.out HT.out).mono ?_; rintro e w7 ⟨rfl, S7⟩))
              clear S6 d0 d1 d2
              have hmne : (m : Int) ≠ 0 := by omega
              go_wp2_with fail
              refine (two_more S7 v m hv (by omega) (by omega)).mono ?_
              rintro e w8 ⟨rfl, S8⟩
              clear S7
              obtain ⟨r5, q5, _, _, _, _, _, _⟩ := S8.reads
              obtain ⟨aA, cA, aB, cB, o8, p8, HS⟩ := S8.outs (by omega)
              go_wp2_with fail
              refine (taken_any wb _ _ r5).mono ?_
              rintro e w' ⟨rfl, rfl⟩
              go_wp2_with fail
              refine (taken_any vb _ _ q5).mono ?_
              rintro e w' ⟨rfl, rfl⟩
              go_wp2_with fail
              refine (out_any cb _ _ _ _ o8).mono ?_
              rintro e w' ⟨rfl, rfl⟩
              go_wp2_with fail
              refine (out_any db _ _ _ _ p8).mono ?_
              rintro e w' ⟨rfl, rfl⟩
              go_wp2_with fail
              refine HS.out.mono ?_
              rintro e w9 ⟨rfl, hs9⟩
              have S9 := S8.below hs9.below
              obtain ⟨_, _, x16, ⟨ck9, hm9⟩, x0, s9, r9, hc9⟩ := S9.reads
              clear r5 q5 o8 p8 HS S8
              go_wp2_with fail
              refine (isWaiting_yes cb mb _ _ v _ _ x16 hm9).mono ?_
              rintro e w' ⟨rfl, rfl⟩
              go_wp2_with fail
              refine (answerLen_any wb ac 1 _ _ _ _ _ x0 hc9).mono ?_
              rintro e w' ⟨rfl, rfl⟩
              go_wp2
              go_roundw
              case rel =>
                refine ⟨k + 1, n + 17, true, T', _, _, -1, z ++ moreZ v m, by omega, by go_num, rfl, rfl, rfl, rfl, hT'0, hT'1, by omega, by omega, ?_, ?_, by omega, .inl ⟨rfl, rfl, S9⟩⟩
                · have h1 := HG.out
                  have h2 := HM.out
                  have h3 := HT'.out
                  show _ = _
                  omega
                · have h1 := HQ.out
                  have h2 := HSU.out
                  omega
              case measure => simp [intOf]; omega
          · go_wp2_with fail
            go_region_held3 (fun w' => w'.cell? ⟨gb, go + k * 3, none⟩ = some (.int .u8 ft) ∧ w'.cell? ⟨gb, go + k * 3 + 1, none⟩ = some (.int .u64 v) ∧ w'.cell? ⟨gb, go + k * 3 + 2, none⟩ = some (.slice fa L fc))
              (first | go_keep | exact HKP.out S6 | exact HKP.out S5)
              (first
                | (go_at_call 15; refine (HCL.out _ (HBO.out.below (hH ▸ S.bel.drew))).mono ?_; rintro e w5 ⟨u, rfl, ⟨ba', bc', rfl, hcl⟩, hb5⟩; have S5 := S.below ((Below.refl _ _).drew.trans hb5))
                | (go_at_call 14; refine (two_answer ft v 0 S5 _ _ _ h7).mono ?_; rintro e w6 ⟨rfl, S6, hk6⟩))
            have hcl6 := clone_keep (w2 := w6) ⟨ba', bc', rfl, hcl⟩ hk6 (by obtain ⟨l1, l2, l3⟩ := S.lt; show ¬ (wr.heap.size = cb ∨ wr.heap.size = mb ∨ wr.heap.size = ac); omega)
            have hlts := S.lt
            have S8 := S6
            clear S S5 S6 hb5 hk6 hcl c0 c1 c2
            obtain ⟨d0, d1, d2⟩ := HKP.out S8
            obtain ⟨r5, q5, _, _, _, _, _, _⟩ := S8.reads
            obtain ⟨aA, cA, aB, cB, o8, p8, HS⟩ := S8.outs (by omega)
            go_wp2_with fail
            refine (taken_any wb _ _ r5).mono ?_
            rintro e w' ⟨rfl, rfl⟩
            go_wp2_with fail
            refine (taken_any vb _ _ q5).mono ?_
            rintro e w' ⟨rfl, rfl⟩
            go_wp2_with fail
            refine (out_any cb _ _ _ _ o8).mono ?_
            rintro e w' ⟨rfl, rfl⟩
            go_wp2_with fail
            refine (out_any db _ _ _ _ p8).mono ?_
            rintro e w' ⟨rfl, rfl⟩
            go_wp2_with fail
            refine HS.out.mono ?_
            rintro e w9 ⟨rfl, hs9⟩
            have S9 := S8.below hs9.below
            obtain ⟨_, _, x16, ⟨ck9, hm9⟩, x0, s9, r9, hc9⟩ := S9.reads
            clear r5 q5 o8 p8 HS S8
            go_wp2_with fail
            refine (isWaiting_no cb mb _ v _ x16 hm9).mono ?_
            rintro e w' ⟨rfl, rfl⟩
            go_wp2_with fail
            refine (answerLen_any wb ac 1 _ _ _ _ _ x0 hc9).mono ?_
            rintro e w' ⟨rfl, rfl⟩
            go_wp2
            go_roundw
            case rel =>
              have hcl9 := clone_keep hcl6 (Kept.of_same (S := Nothing) hs9) nofun
              refine ⟨k + 1, n, false, T, g, q, k, z, by omega, by go_num, rfl, rfl, rfl, rfl, hT0, hT1, hg0, hq0, HG, by have h1 := HQ.out; have h2 := HSU.out; omega, by omega, .inr ⟨rfl, k, hlt, rfl, ba', bc', wr.heap.size, ?_, ?_, by omega, by omega, by omega⟩⟩
              · rw [← HFK.out]; exact S9
              · rw [← HFK.out]; exact hcl9
            case measure => simp [intOf]; omega
        · go_wp2_with fail
          go_region_held3 (fun w' => w'.cell? ⟨gb, go + k * 3, none⟩ = some (.int .u8 ft) ∧ w'.cell? ⟨gb, go + k * 3 + 1, none⟩ = some (.int .u64 fi) ∧ w'.cell? ⟨gb, go + k * 3 + 2, none⟩ = some (.slice fa L fc))
            (first | go_keep | exact HKP.out S6 | exact HKP.out S5)
            (first
              | (go_at_call 15; refine (HCL.out _ (HBO.out.below (hH ▸ S.bel.drew))).mono ?_; rintro e w5 ⟨u, rfl, ⟨ba', bc', rfl, hcl⟩, hb5⟩; have S5 := S.below ((Below.refl _ _).drew.trans hb5))
              | (go_at_call 14; refine (two_miss S5 ft fi _ _ _ (.inr ⟨v, 0, hid, rfl⟩)).mono ?_; rintro e w6 ⟨rfl, S6, hk6⟩))
          have S8 := S6
          clear S S5 S6 hb5 hk6 hcl c0 c1 c2
          obtain ⟨d0, d1, d2⟩ := HKP.out S8
          obtain ⟨r5, q5, _, _, _, _, _, _⟩ := S8.reads
          obtain ⟨aA, cA, aB, cB, o8, p8, HS⟩ := S8.outs (by omega)
          go_wp2_with fail
          refine (taken_any wb _ _ r5).mono ?_
          rintro e w' ⟨rfl, rfl⟩
          go_wp2_with fail
          refine (taken_any vb _ _ q5).mono ?_
          rintro e w' ⟨rfl, rfl⟩
          go_wp2_with fail
          refine (out_any cb _ _ _ _ o8).mono ?_
          rintro e w' ⟨rfl, rfl⟩
          go_wp2_with fail
          refine (out_any db _ _ _ _ p8).mono ?_
          rintro e w' ⟨rfl, rfl⟩
          go_wp2_with fail
          refine HS.out.mono ?_
          rintro e w9 ⟨rfl, hs9⟩
          have S9 := S8.below hs9.below
          obtain ⟨_, _, x16, ⟨ck9, hm9⟩, x0, s9, r9, hc9⟩ := S9.reads
          clear r5 q5 o8 p8 HS S8
          go_wp2_with fail
          refine (isWaiting_yes cb mb _ _ v _ _ x16 hm9).mono ?_
          rintro e w' ⟨rfl, rfl⟩
          go_wp2_with fail
          refine (answerLen_any wb ac 1 _ _ _ _ _ x0 hc9).mono ?_
          rintro e w' ⟨rfl, rfl⟩
          go_wp2
          go_roundw
          case rel =>
            exact ⟨k + 1, n, true, T, g, q, -1, z, by omega, by go_num, rfl, rfl, rfl, rfl, hT0, hT1, hg0, hq0, HG, by have h1 := HQ.out; have h2 := HSU.out; omega, by omega, .inl ⟨rfl, rfl, S9⟩⟩
          case measure => simp [intOf]; omega
      · obtain ⟨c0, c1, c2⟩ := HKP.out S
        go_wp2_with fail
        go_region_held3 (fun w' => w'.cell? ⟨gb, go + k * 3, none⟩ = some (.int .u8 ft) ∧ w'.cell? ⟨gb, go + k * 3 + 1, none⟩ = some (.int .u64 fi) ∧ w'.cell? ⟨gb, go + k * 3 + 2, none⟩ = some (.slice fa L fc))
          (first | go_keep | exact HKP.out S6 | exact HKP.out S5)
          (first
            | (go_at_call 15; refine (HCL.out _ (HBO.out.below (hH ▸ S.bel.drew))).mono ?_; rintro e w5 ⟨u, rfl, ⟨ba', bc', rfl, hcl⟩, hb5⟩; have S5 := S.below ((Below.refl _ _).drew.trans hb5))
            | (go_at_call 14; refine (two_miss S5 ft fi _ _ _ (.inl rfl)).mono ?_; rintro e w6 ⟨rfl, S6, hk6⟩))
        have hcl5 := clone_keep (w2 := w5) hcl0 (kept_of_below ((Below.refl _ _).drew.trans hb5)) nofun
        have hcl6 := clone_keep hcl5 hk6 (by rintro (h | h); exact ng1 h; exact ng2 h)
        have S8 := S6
        clear S S5 S6 hb5 hk6 hcl hcl0 hcl5 c0 c1 c2
        obtain ⟨d0, d1, d2⟩ := HKP.out S8
        obtain ⟨r5, q5, _, _, _, _, _, _⟩ := S8.reads
        obtain ⟨aA, cA, aB, cB, o8, p8, HS⟩ := S8.outs (by omega)
        go_wp2_with fail
        refine (taken_any wb _ _ r5).mono ?_
        rintro e w' ⟨rfl, rfl⟩
        go_wp2_with fail
        refine (taken_any vb _ _ q5).mono ?_
        rintro e w' ⟨rfl, rfl⟩
        go_wp2_with fail
        refine (out_any cb _ _ _ _ o8).mono ?_
        rintro e w' ⟨rfl, rfl⟩
        go_wp2_with fail
        refine (out_any db _ _ _ _ p8).mono ?_
        rintro e w' ⟨rfl, rfl⟩
        go_wp2_with fail
        refine HS.out.mono ?_
        rintro e w9 ⟨rfl, hs9⟩
        have S9 := S8.below hs9.below
        obtain ⟨_, _, x16, ⟨ck9, hm9⟩, x0, s9, r9, hc9⟩ := S9.reads
        clear r5 q5 o8 p8 HS S8
        go_wp2_with fail
        refine (isWaiting_no cb mb _ v _ x16 hm9).mono ?_
        rintro e w' ⟨rfl, rfl⟩
        go_wp2_with fail
        refine (answerLen_any wb ac 1 _ _ _ _ _ x0 hc9).mono ?_
        rintro e w' ⟨rfl, rfl⟩
        go_wp2
        go_roundw
        case rel =>
          have hcl9 := clone_keep hcl6 (Kept.of_same (S := Nothing) hs9) nofun
          exact ⟨k + 1, n, false, T, g, q, j, z, by omega, by go_num, rfl, rfl, rfl, rfl, hT0, hT1, hg0, hq0, HG, by have h1 := HQ.out; have h2 := HSU.out; omega, by omega, .inr ⟨rfl, j, hj, rfl, ba, bc, cg, S9, hcl9, ng1, ng2, ng3⟩⟩
        case measure => simp [intOf]; omega
    · have hsum := sumB_le F hk
      have hq1 : q ≤ 1100000 := by omega
      have hGe := HG.out
      have hg1 : g ≤ 1200000 := by omega
      clear HG hq hsum
      rcases hinv with ⟨rfl, rfl, S⟩ | ⟨rfl, j, hj, rfl, ba, bc, cg, S, hcl0, ng1, ng2, ng3⟩
      · have hbel := S.bel
        rw [hH] at hbel
        obtain ⟨_, q5, _, _, _, _, _, _⟩ := S.reads
        clear hF hs S
        go_wp2_with fail
        refine (taken_any vb _ _ q5).mono ?_
        rintro e w' ⟨rfl, rfl⟩
        go_wp2
        go_ret
        exact keeps_true hbel
      · rcases hF.2 with hl0 | ⟨gb, go, ha, hb, hfr⟩
        · omega
        subst ha
        obtain ⟨q0, q1, q2, _, _, hbody⟩ := hfr j hj
        have hL := hs j hj
        have hsam := fun (W : World) (g bc : Nat) (ba : Option Addr) (h : IsClone W g (.slice ba (F j).bl bc) (F j).bl (F j).bs) (hB : IsBody W (F j)) => clone_same h hB hL
        clear hfr hs
        generalize F j = f at *
        obtain ⟨ft, fi, fa, L, fc, bs⟩ := f
        simp only at q0 q1 q2 hL hsam S hcl0
        have HSA := Hid.mk hsam
        have HBO := Hid.mk hbody
        clear hsam hbody hF
        obtain ⟨_, q5, _, _, x0, s9, r9, hc9⟩ := S.reads
        have hjl : (j : Int) < len := by omega
        have HTA := Hid.mk (takeAnswer_any wb ac 1 s9 r9 ft fi ba L bc wr x0 hc9)
        have HK : Hid (∀ w' : World, Kept wr w' (· = ac) → Below w2.heap.size w2 w' ∧ IsClone w' cg (.slice ba L bc) L bs) := fun w' kp =>
          ⟨hH ▸ S.bel.trans (kp.below S.size fun k e => by rw [e]; exact S.up.2.2.2.1), clone_keep hcl0 kp ng3⟩
        clear S hcl0 hc9 x0
        go_wp2_with fail
        refine (taken_any vb _ _ q5).mono ?_
        rintro e w' ⟨rfl, rfl⟩
        go_wp2_with fail
        refine HTA.out.mono ?_
        rintro e w7 ⟨rfl, kp7⟩
        obtain ⟨bel7, cl7⟩ := HK.out w7 kp7
        have e0 := (bel7.cell (p := ⟨gb, go + j * 3, none⟩) hb).trans q0
        have e1 := (bel7.cell (p := ⟨gb, go + j * 3 + 1, none⟩) hb).trans q1
        have e2 := (bel7.cell (p := ⟨gb, go + j * 3 + 2, none⟩) hb).trans q2
        clear HK HTA q5 q0 q1 q2 kp7
        go_wp2_with fail
        refine (HSA.out w7 cg bc ba cl7 (HBO.out.below bel7)).mono ?_
        rintro e w8 ⟨rfl, hs8⟩
        go_wp2
        go_ret
        exact keeps_true (bel7.trans hs8.below)
end Go.Proofs.Qxb6616696a
