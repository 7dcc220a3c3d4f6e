/- nat: divBasic. -/
import Derived.Deep.CutRange
import Derived.Test.YtonepclpllelfaaGreatDoorC11
namespace Go.Proofs.YtonepclpllelfaaGreatDoor
open Go Go.RowKit

/-- The state of a long division: the digits from J on are known. -/
structure DivInv (w1 wr : World) (bu bq bh bv ov : Nat) (U0 V : List Nat) (M N lQ lH J : Nat) (U Q H : List Nat) : Prop where
  hU : Arr wr bu U
  lU : U.length = U0.length
  hQ : Arr wr bq Q
  lQ : Q.length = lQ
  hH : Arr wr bh H
  lH : H.length = lH
  hV : At wr bv ov V
  chg : Chg w1 wr (fun k => k = bu ∨ k = bq ∨ k = bh)
  eq : val (U0.take N) = val (U.take N) + val V * (WB ^ J * val ((Q.take M).drop J))
  lt : val ((U.take N).drop J) < val V

theorem DivInv.drewN {w1 wr : World} {bu bq bh bv ov : Nat} {U0 V : List Nat} {M N lQ lH J : Nat} {U Q H : List Nat} (h : DivInv w1 wr bu bq bh bv ov U0 V M N lQ lH J U Q H) (n : Nat) : DivInv w1 (wr.drewN n) bu bq bh bv ov U0 V M N lQ lH J U Q H :=
  ⟨h.hU.drewN n, h.lU, h.hQ.drewN n, h.lQ, h.hH.drewN n, h.lH, h.hV.chg ((Chg.refl wr (fun _ => False)).drewN n) (fun h => h), h.chg.drewN n, h.eq, h.lt⟩

set_option maxRecDepth 200000 in
set_option maxHeartbeats 4000000 in
theorem divBasic_c (w : World) (stk : Value) (bq cq bu cu bv ov cv M k l0 : Nat) (U Q V : List Nat) (Pw : World → Nat → Prop) (Post : World → World → Prop)
    (hk : k ≤ 300) (hM0 : 0 < M) (hM : M ≤ 300)
    (hV : V.length = k + 2) (WV : Wd V) (hnorm : WB ≤ 2 * nth V (k + 1))
    (hcq : M ≤ cq) (hcu : M + (k + 2) ≤ cu) (hQl : M ≤ Q.length) (hUl : M + (k + 2) ≤ U.length) (hqu : bq ≠ bu) (hbv1 : bv ≠ bu) (hbv2 : bv ≠ bq)
    (htop : nth U (M + (k + 1)) < nth V (k + 1))
    (hsave : Calls Tryz.prog 181 #[stk] w fun e w' => e = .returned (.int .i64 l0) ∧ w = w')
    (hnat : Calls Tryz.prog 182 #[stk, .int .i64 ((k + 3 : Nat) : Int)] w fun e w1 => ∃ bh oh G H, e = .returned (.slice (some ⟨bh, oh, none⟩) (k + 3) G) ∧ Arr w1 bh H ∧ oh + (k + 3) ≤ H.length ∧ k + 3 ≤ G ∧ bh ≠ bu ∧ bh ≠ bq ∧ Arr w1 bu U ∧ Arr w1 bq Q ∧ At w1 bv ov V ∧ (bv ≠ bh ∨ ov + V.length ≤ oh) ∧ Pw w1 bh)
    (hrest : ∀ w1 bh w2, Pw w1 bh → Chg w1 w2 (fun k => k = bu ∨ k = bq ∨ k = bh) → CallsD Tryz.prog 180 #[stk, .int .i64 l0] .returning w2 fun e u' w3 => u' = .returning ∧ e = .returned (.tuple #[]) ∧ Post w2 w3) :
    Calls Tryz.prog 187 #[.slice (some ⟨bq, 0, none⟩) M cq, stk, .slice (some ⟨bu, 0, none⟩) (M + (k + 2)) cu, .slice (some ⟨bv, ov, none⟩) (k + 2) cv] w fun e w' =>
      e = .returned (.tuple #[]) ∧ ∃ w1 bh w2 U' Q', Pw w1 bh ∧ Chg w1 w2 (fun k => k = bu ∨ k = bq ∨ k = bh) ∧ Arr w2 bu U' ∧ U'.length = U.length ∧ Arr w2 bq Q' ∧ Q'.length = Q.length ∧
        val (U'.take (M + (k + 2))) = val (U.take (M + (k + 2))) % val V ∧ val (Q'.take M) = val (U.take (M + (k + 2))) / val V ∧ Post w2 w' := by
  rw [show ((k + 3 : Nat) : Int) = (k : Int) + 2 + 1 by omega] at hnat
  have e1 : IntKind.i64.wrap ((M : Int) + ((k : Int) + 2) - ((k : Int) + 2)) = (M : Int) := by rw [show (M : Int) + ((k : Int) + 2) - ((k : Int) + 2) = (M : Int) by omega]; exact IntWalk.i64_in _ (by omega)
  replace hrest := Lib.hid hrest
  replace hnorm := Lib.hid hnorm
  replace htop := Lib.hid htop
  go_enter_defers Tryz.func187, Tryz.ntmps187
  go_wp2_with fail
  refine hsave.mono ?_
  rintro e w' ⟨rfl, hw⟩
  obtain rfl := hw
  go_wp2_with fail
  refine hnat.mono ?_
  rintro e w1 ⟨bh, oh, G, H, rfl, hH, hHl, hG, hhu, hhq, hU, hQ, hAt, hsep, hP⟩
  have hvk := hAt (k + 1) (by omega)
  have hrc := fun w => reciprocalWord_c (nth V (k + 1)) (WV.nth _) (by have := hnorm.out; have := WB_two; omega) w
  go_wp2_with fail
  refine (hrc _).mono ?_
  rintro e w1' ⟨rfl, nd, rfl⟩
  have hinv0 : DivInv w1 (w1.drewN nd) bu bq bh bv ov U V M (M + (k + 2)) Q.length H.length (M + 1) U Q H := by
    refine ⟨hU.drewN _, rfl, hQ.drewN _, rfl, hH.drewN _, rfl, hAt.chg ((Chg.refl w1 (fun _ => False)).drewN nd) (fun h => h), (Chg.refl w1 _).drewN nd, ?_, ?_⟩
    · rw [List.drop_of_length_le (by simp; omega)]; simp
    · have hw : Wd ((U.take (M + (k + 2))).drop (M + 1)) := (hU.wd.take _).drop _
      have h1 := val_lt hw
      rw [List.length_drop, List.length_take, Nat.min_eq_left (by omega), show M + (k + 2) - (M + 1) = k + 1 by omega] at h1
      have h2 := val_take_succ (l := V) (k := k + 1) (by omega)
      rw [List.take_of_length_le (by omega)] at h2
      have h3 : WB ^ (k + 1) * 1 ≤ WB ^ (k + 1) * nth V (k + 1) := Nat.mul_le_mul_left _ (by have := hnorm.out; have := WB_two; omega)
      omega
  replace hinv0 := Lib.hid hinv0
  clear hnat hsave hrc hvk
  go_wp2
  go_loopw [13, 14] (fun uj i wr => ∃ J : Nat, J ≤ M + 1 ∧ i = .int .i64 ((J : Int) - 1) ∧ ∃ U' Q' H', DivInv w1 wr bu bq bh bv ov U V M (M + (k + 2)) Q.length H.length J U' Q' H' ∧ uj = .int .u64 (nth (U'.take (M + (k + 2))) (J + (k + 1)) : Int) ∧ (J = M + 1 → U' = U)) (fun _ i _ => (intOf i + 1).toNat)
  case atStart =>
    refine ⟨M + 1, Nat.le_refl _, by congr 1; omega, U, Q, H, hinv0.out, ?_, fun _ => rfl⟩
    rw [nth_ge (by simp; omega)]; rfl
  case round =>
    obtain ⟨J, hJ, rfl, U', Q', H', hi, rfl, hJM⟩ := hrel
    by_cases hJ0 : J = 0
    · subst hJ0
      have hend : val (U'.take (M + (k + 2))) = val (U.take (M + (k + 2))) % val V ∧ val (Q'.take M) = val (U.take (M + (k + 2))) / val V := by
        have h1 := hi.eq
        have h2 := hi.lt
        rw [Nat.pow_zero, Nat.one_mul, List.drop_zero] at h1
        rw [List.drop_zero] at h2
        rw [h1, Nat.add_mul_mod_self_left, Nat.mod_eq_of_lt h2, Nat.add_mul_div_left _ _ (by omega), Nat.div_eq_of_lt h2, Nat.zero_add]
        exact ⟨rfl, rfl⟩
      have hrr := hrest.out w1 bh wr hP hi.chg
      replace hend := Lib.hid hend
      go_wp2
      refine leaves_cons (f := 180) (args := #[stk, .int .i64 l0]) (by simp) (by simp [go_sem]) ?_
      refine hrr.mono ?_
      rintro e u' w'' ⟨rfl, rfl, hpost⟩
      exact ⟨_, results_none rfl _ _ _, rfl, w1, bh, wr, U', Q', hP, hi.chg, hi.hU, hi.lU, hi.hQ, hi.lQ, hend.out.1, hend.out.2, hpost⟩
    · obtain ⟨j, rfl⟩ : ∃ j, J = j + 1 := ⟨J - 1, by omega⟩
      rw [show (((j + 1 : Nat) : Int) - 1) = (j : Int) by omega]
      clear hrest
      by_cases hjM : j = M
      · subst hjM
        obtain rfl := hJM rfl
        have hlU := hi.lU
        have hlH := hi.lH
        have hu0 : nth (U'.take (j + (k + 2))) (j + 1 + (k + 1)) = 0 := nth_ge (by simp; omega)
        rw [hu0]
        have hv1 := hi.hV (k + 1) (by omega)
        have hv2 := hi.hV k (by omega)
        have wv1 := WV.nth (k + 1)
        have wv2 := WV.nth k
        have hc1 := hi.hU.cellN (i := j + (k + 1)) (by omega)
        have hc3 := hi.hU.cellN (i := j + (k + 2) - 2) (by omega)
        have hw1 := hi.hU.wd.nth (j + (k + 1))
        have hltop := htop.out
        have hv1pos : 0 < nth V (k + 1) := by omega
        have hd : (((0 : Nat) : Int) != (nth V (k + 1) : Int)) = true := by simp; omega
        have hdw := fun w => divWW_c 0 (nth U' (j + (k + 1))) (nth V (k + 1)) wv1 hv1pos hv1pos hw1 w
        have hq0 : wdiv (0 * WB + nth U' (j + (k + 1))) (nth V (k + 1)) = 0 := by
          rw [Nat.zero_mul, Nat.zero_add]; exact Nat.div_eq_of_lt hltop
        have hr0 : wmod (0 * WB + nth U' (j + (k + 1))) (nth V (k + 1)) = nth U' (j + (k + 1)) := by
          rw [Nat.zero_mul, Nat.zero_add]; exact Nat.mod_eq_of_lt hltop
        rw [hq0, hr0] at hdw
        have hmw := fun w => mulWW_c 0 (nth V k) WB_pos wv2 w
        rw [show mulhi 0 (nth V k) = 0 by unfold mulhi; rw [Nat.zero_mul, Nat.zero_div], show mullo 0 (nth V k) = 0 by unfold mullo; rw [Nat.zero_mul, Nat.zero_mod]] at hmw
        have hgt := fun w => greaterThan_c 0 0 (nth U' (j + (k + 1))) (nth U' (j + (k + 2) - 2)) w
        have hma := mulAddVWW_c wr bh oh (k + 2) G bv ov cv 0 0 H' V (by omega) hi.hH (by omega) hV WV WB_pos WB_pos (hi.hV.rd hi.hH hV (by omega) hsep)
        replace htop := Lib.hid hltop
        have hlt : val ((U'.take (j + (k + 2))).drop j) < val V := by
          have hl : ((U'.take (j + (k + 2))).drop j).length = k + 2 := by simp; omega
          have hw : Wd ((U'.take (j + (k + 2))).drop j) := (hi.hU.wd.take _).drop _
          have h1 := val_take_succ (l := (U'.take (j + (k + 2))).drop j) (k := k + 1) (by omega)
          rw [List.take_of_length_le (by omega), nth_drop, nth_take (by omega)] at h1
          have h2 := val_lt (hw.take (k + 1))
          rw [List.length_take, Nat.min_eq_left (by omega)] at h2
          have h3 := val_take_succ (l := V) (k := k + 1) (by omega)
          rw [List.take_of_length_le (by omega)] at h3
          have h4 : WB ^ (k + 1) * (nth U' (j + (k + 1)) + 1) ≤ WB ^ (k + 1) * nth V (k + 1) := Nat.mul_le_mul_left _ hltop
          rw [Nat.mul_add, Nat.mul_one] at h4
          omega
        replace hlt := Lib.hid hlt
        rw [show decide (nth U' (j + (k + 1)) < 0 ∨ 0 = nth U' (j + (k + 1)) ∧ nth U' (j + (k + 2) - 2) < 0) = false by simp] at hgt
        generalize hgt1 : nth U' (j + (k + 1)) = t1 at *
        generalize hgt2 : nth U' (j + (k + 2) - 2) = t2 at *
        generalize hgv1 : nth V (k + 1) = v1 at *
        generalize hgv2 : nth V k = v2 at *
        replace hgt1 := Lib.hid hgt1
        replace hgt2 := Lib.hid hgt2
        replace hgv1 := Lib.hid hgv1
        replace hgv2 := Lib.hid hgv2
        clear hq0 hr0 hltop
        go_wp2_with fail
        refine (hdw _).mono ?_
        rintro e w' ⟨rfl, hw⟩
        obtain rfl := hw
        clear hdw
        go_wp2_with fail
        refine (hmw _).mono ?_
        rintro e w' ⟨rfl, hw⟩
        obtain rfl := hw.symm
        clear hmw
        go_wp2_with fail
        go_loopw [15, 16, 18, 19] (fun a b c d wr' => wr = wr' ∧ a = .int .u64 ((0 : Nat) : Int) ∧ b = .int .u64 (t1 : Int) ∧ c = .int .u64 ((0 : Nat) : Int) ∧ d = .int .u64 ((0 : Nat) : Int)) (fun _ _ _ _ _ => 0)
        case atStart => exact ⟨rfl, rfl, rfl, rfl, rfl⟩
        case round =>
          obtain ⟨hwr, rfl, rfl, rfl, rfl⟩ := hrel
          obtain rfl := hwr
          go_wp2_with fail
          refine (hgt _).mono ?_
          rintro e w' ⟨rfl, hw⟩
          obtain rfl := hw
          go_wp2_with fail
          refine hma.mono ?_
          rintro e w2 ⟨R, c, rfl, hS, hR, hcw, hv⟩
          have hc0 : c = 0 ∧ val R = 0 := by
            rw [Nat.mul_zero, Nat.add_zero] at hv
            rcases Nat.eq_zero_or_pos c with h | h
            · exact ⟨h, by omega⟩
            · have := Nat.mul_pos (WB_pow_pos (k + 2)) h
              omega
          obtain ⟨rfl, hvR⟩ := hc0
          have hwR : Wd R := by
            have h1 := hS.arr.wd
            unfold spl at h1
            exact h1.left.right
          have hz1 := hS.arr.cellN (i := oh + (k + 2)) (by rw [spl_length (by omega)]; omega)
          have hz2 := hS.arr.frozen (oh + (k + 2))
          have hS3 := hS.next (k := k + 2) hR (by omega) 0 WB_pos
          have hl3 : (R ++ [0]).length = k + 3 := by rw [List.length_append, hR]; rfl
          have hU3 := hS3.other (Ne.symm hhu) hi.hU
          have hV3 : At (w2.setCell ⟨bh, oh + (k + 2), none⟩ (.int .u64 ((0 : Nat) : Int))) bv ov V := hi.hV.sub hi.hH hS3 (by omega) hsep
          have hc3' : Chg wr (w2.setCell ⟨bh, oh + (k + 2), none⟩ (.int .u64 ((0 : Nat) : Int))) (fun k => k = bu ∨ k = bh) := hS3.chg.mono (fun _ _ h => .inr h)
          have hcz := hS3.arr.cellN (i := oh + (k + 2)) (by rw [spl_length (by omega)]; omega)
          rw [nth_spl_mid (C := H') (o := oh) (R := R ++ [0]) (by omega) (by omega), nth_append_right (by omega), hR, Nat.sub_self] at hcz
          have hn0 : nth [0] 0 = 0 := rfl
          rw [hn0] at hcz
          have t0' : (j : Int) + ((k : Int) + 2) < (j : Int) + ((k : Int) + 3) := by omega
          clear hma hv hS
          go_upto_region 28 with (fail)
          rw [show (k : Int) + 3 - 1 = (k : Int) + 2 by omega]
          have hH3 := hS3.arr
          generalize w2.setCell ⟨bh, oh + (k + 2), none⟩ (.int .u64 ((0 : Nat) : Int)) = w3 at hU3 hV3 hc3' hH3 ⊢
          have hd : Chg w3 w3.drew (fun _ => False) := (Chg.refl w3 _).drew
          have hU4 := hd.arr hU3 (fun h => h)
          have hH4 := hd.arr hH3 (fun h => h)
          have hV4 := hV3.chg hd (fun h => h)
          have hc4 : Chg wr w3.drew (fun k => k = bu ∨ k = bh) := hc3'.trans (hd.mono (fun _ _ h => h.elim))
          have hYh : ((spl H' oh (R ++ [0])).drop oh).take (k + 2) = R := by
            have h2 := spl_take_drop (C := H') (R := R ++ [0]) (o := oh) (by omega)
            rw [hl3] at h2
            rw [show ((spl H' oh (R ++ [0])).drop oh).take (k + 2) = (((spl H' oh (R ++ [0])).drop oh).take (k + 3)).take (k + 2) by rw [List.take_take, Nat.min_eq_left (by omega)], h2, List.take_append_of_le_length (by omega), List.take_of_length_le (by omega)]
          have hTl : ((U'.drop j).take (k + 2)).length = k + 2 := by simp; omega
          have hTw : Wd ((U'.drop j).take (k + 2)) := (hi.hU.wd.drop j).take _
          have hsub := subVV_c w3.drew bu j (k + 2) (cu - j) bu j (cu - j) bh oh G U' ((U'.drop j).take (k + 2)) R (by omega) hU4 (by omega) hTl hR hTw hwR
            (Rd.mk hU4 (by omega) hU4 (by omega) (.inr (Nat.le_refl _)))
            (by
              have h1 := Rd.mk (n := k + 2) (ox := oh) hU4 (oz := j) (by omega) hH4 (by rw [spl_length (by omega)]; omega) (.inl hhu)
              rwa [hYh] at h1)
          have s1 : IntKind.i64.wrap ((j : Int) + ((k : Int) + 2)) = (j : Int) + ((k : Int) + 2) := IntWalk.i64_in _ (by omega)
          have s2 : (j : Int) ≤ (j : Int) + ((k : Int) + 2) := by omega
          have s3 : (j : Int) + ((k : Int) + 2) ≤ (cu : Int) := by omega
          have s4 : ((j : Int) + ((k : Int) + 2)).toNat = j + (k + 2) := by omega
          have s5 : (0 : Int) ≤ (j : Int) + ((k : Int) + 2) := by omega
          have s6 : ¬ cu = j := by omega
          have s7 : (0 : Int) ≤ (k : Int) + 2 := by omega
          have s8 : (k : Int) + 2 ≤ (G : Int) := by omega
          have s9 : ((k : Int) + 2).toNat = k + 2 := by omega
          clear hd hU3 hH3 hV3 hc3' hS3 hz1 hz2 hcz
          replace hYh := Lib.hid hYh
          go_still_tail 15, (by kernel_rfl)
          change wpList _ _ _ _ _ w3.drew
          go_wp2_with fail
          refine hsub.mono ?_
          rintro e w4 ⟨R2, c2, rfl, hS5, hR2, hWR2, hc2l, hv5⟩
          have hsame : c2 = 0 ∧ R2 = (U'.drop j).take (k + 2) := by
            have h1 := val_lt hWR2
            rw [hR2] at h1
            rw [hvR, Nat.add_zero] at hv5
            rcases Nat.eq_zero_or_pos c2 with h | h
            · subst h
              rw [Nat.mul_zero, Nat.add_zero] at hv5
              exact ⟨rfl, (val_inj hTw hWR2 (by rw [hTl, hR2]) hv5).symm⟩
            · have := Nat.mul_le_mul_left (WB ^ (k + 2)) h
              rw [Nat.mul_one] at this
              omega
          obtain ⟨rfl, rfl⟩ := hsame
          have hself : spl U' j ((U'.drop j).take (k + 2)) = U' := by
            have h1 := spl_self (C := U') (o := j) (n := k + 2) (R := []) (by omega) (by simp)
            simpa [spl_nil] using h1
          rw [hself] at hS5
          have hH5 := hS5.other hhu hH4
          have hV5 := hV4.chg hS5.chg hbv1
          have hc5 : Chg wr w4 (fun k => k = bu ∨ k = bh) := hc4.trans (hS5.chg.mono (fun _ _ h => .inl (.inl h)))
          have hu1 := hS5.arr.cellN (i := j + (k + 1)) (by omega)
          rw [hgt1.out] at hu1
          have hinv : DivInv w1 w4 bu bq bh bv ov U' V j (j + (k + 2)) Q.length H.length j U' Q' (spl H' oh (R ++ [0])) := by
            refine ⟨hS5.arr, rfl, hc5.arr hi.hQ (fun h => h.elim hqu (fun h => hhq h.symm)), hi.lQ, hH5, by rw [spl_length (by omega)]; exact hi.lH, hV5,
              hi.chg.trans (hc5.mono (fun _ _ h => .inl (h.elim .inl (fun h => .inr (.inr h))))), ?_, hlt.out⟩
            rw [List.drop_of_length_le (by simp; omega)]
            simp
          have hnu : nth (U'.take (j + (k + 2))) (j + (k + 1)) = t1 := by rw [nth_take (by omega), hgt1.out]
          replace hinv := Lib.hid hinv
          replace hnu := Lib.hid hnu
          clear hsub hi hS5 hH5 hV5 hc5 hH4 hV4 hc4 hU4 hv5 hself
          go_wp2
          go_roundw
          case rel => exact ⟨j, by omega, rfl, _, _, _, hinv.out, by rw [hnu.out], fun h => by omega⟩
          case measure => simp [intOf]
      · have hjlt : j < M := by omega
        have hTl : ((((U'.take (M + (k + 2))).drop j).take (k + 3))).length = k + 3 := by
          have := hi.lU
          simp; omega
        have hLw : Wd (U'.take (M + (k + 2))) := hi.hU.wd.take _
        have hLl : (U'.take (M + (k + 2))).length = M + (k + 2) := by have := hi.lU; rw [List.length_take]; omega
        have hTv : val ((U'.take (M + (k + 2))).drop j) = val (((U'.take (M + (k + 2))).drop j).take (k + 3)) ∧ val ((U'.take (M + (k + 2))).drop j) < WB * val V := by
          have h1 : (U'.take (M + (k + 2))).drop j = nth (U'.take (M + (k + 2))) j :: (U'.take (M + (k + 2))).drop (j + 1) := drop_nth (by omega)
          have h2 : val ((U'.take (M + (k + 2))).drop j) < WB * val V := by
            rw [h1, val_cons]
            have h3 := hLw.nth j
            have h4 : WB * (val ((U'.take (M + (k + 2))).drop (j + 1)) + 1) ≤ WB * val V := Nat.mul_le_mul_left _ hi.lt
            rw [Nat.mul_add, Nat.mul_one] at h4
            omega
          refine ⟨?_, h2⟩
          have h5 := val_take_drop ((U'.take (M + (k + 2))).drop j) (k + 3) (by rw [List.length_drop, hLl]; omega)
          have h6 := val_lt WV
          rw [hV] at h6
          have h7 : WB * val V ≤ WB ^ (k + 3) * 1 := by
            rw [Nat.mul_one, Nat.pow_succ, Nat.mul_comm (WB ^ (k + 2))]
            exact Nat.mul_le_mul_left _ (Nat.le_of_lt h6)
          have h8 : val (((U'.take (M + (k + 2))).drop j).drop (k + 3)) < 1 := by
            refine Nat.lt_of_mul_lt_mul_left (a := WB ^ (k + 3)) ?_
            omega
          have h9 : val (((U'.take (M + (k + 2))).drop j).drop (k + 3)) = 0 := by omega
          rw [h9, Nat.mul_zero, Nat.add_zero] at h5
          exact h5
        have hTw : Wd (((U'.take (M + (k + 2))).drop j).take (k + 3)) := (hLw.drop j).take _
        have hT0 : nth (((U'.take (M + (k + 2))).drop j).take (k + 3)) (k + 2) = nth (U'.take (M + (k + 2))) (j + 1 + (k + 1)) := by rw [nth_take (by omega), nth_drop]; congr 1; omega
        have hT1 : nth (((U'.take (M + (k + 2))).drop j).take (k + 3)) (k + 1) = nth U' (j + (k + 1)) := by rw [nth_take (by omega), nth_drop, nth_take (by omega)]
        have hT2 : nth (((U'.take (M + (k + 2))).drop j).take (k + 3)) k = nth U' (j + k) := by rw [nth_take (by omega), nth_drop, nth_take (by omega)]
        rw [← hT0]
        have hc1 := hi.hU.cellN (i := j + (k + 1)) (by have := hi.lU; omega)
        have hc2 := hi.hU.cellN (i := j + k) (by have := hi.lU; omega)
        rw [← hT1] at hc1
        rw [← hT2] at hc2
        have hc3 : wr.cell? ⟨bu, j + (k + 2) - 2, none⟩ = some (.int .u64 (nth (((U'.take (M + (k + 2))).drop j).take (k + 3)) k : Int)) := by rw [show j + (k + 2) - 2 = j + k by omega]; exact hc2
        obtain ⟨hTv1, hTv2⟩ := hTv
        rw [hTv1] at hTv2
        generalize hT : ((U'.take (M + (k + 2))).drop j).take (k + 3) = T at *
        have hb := digit_bounds hV hTl WV hTw hnorm.out hTv2
        obtain ⟨hb1, hb2, hb3⟩ := hb
        have hw0 := hTw.nth (k + 2)
        have hw1 := hTw.nth (k + 1)
        have hw2 := hTw.nth k
        generalize nth T (k + 2) = t0 at *
        generalize nth T (k + 1) = t1 at *
        generalize nth T k = t2 at *
        have hv1 := hi.hV (k + 1) (by omega)
        have hv2 := hi.hV k (by omega)
        have wv1 := WV.nth (k + 1)
        have wv2 := WV.nth k
        have hv1pos : 0 < nth V (k + 1) := by have := hnorm.out; have := WB_two; omega
        replace hnorm := Lib.hid hnorm.out
        generalize hgv1 : nth V (k + 1) = v1 at *
        generalize hgv2 : nth V k = v2 at *
        replace hb2 := Lib.hid hb2
        replace hb3 := Lib.hid hb3
        replace hTv1 := Lib.hid hTv1
        replace hTv2 := Lib.hid hTv2
        replace hT0 := Lib.hid hT0
        replace hT1 := Lib.hid hT1
        replace hT2 := Lib.hid hT2
        replace hgv1 := Lib.hid hgv1
        replace hgv2 := Lib.hid hgv2
        replace hT := Lib.hid hT
        replace hLl := Lib.hid hLl
        replace hTl := Lib.hid hTl
        go_upto_if 51 with (fail)
        go_cut [15] from 45 to 200 (fun q wr' => wr = wr' ∧ ∃ qh : Nat, q = .int .u64 qh ∧ qh < WB ∧ val T / val V ≤ qh ∧ qh ≤ val T / val V + 1)
        case first =>
          by_cases he : t0 = v1
          · have hd : ((t0 : Int) != (v1 : Int)) = false := by simp; omega
            have hmx := hb2.out he
            replace hmx := Lib.hid hmx
            go_wp2
            go_meet
            refine ⟨rfl, WB - 1, by rw [WB_eq]; rfl, by have := WB_two; omega, hmx.out.1, hmx.out.2⟩
          · have hd : ((t0 : Int) != (v1 : Int)) = true := by simp; omega
            have hlt : t0 < v1 := by omega
            have hdw := fun w => divWW_c t0 t1 v1 wv1 hv1pos hlt hw1 w
            have hq0 : wdiv (t0 * WB + t1) v1 = (t0 * WB + t1) / v1 := rfl
            have hr0 : wmod (t0 * WB + t1) v1 = (t0 * WB + t1) % v1 := rfl
            have hqr : (t0 * WB + t1) / v1 * v1 + (t0 * WB + t1) % v1 = t0 * WB + t1 := by rw [Nat.mul_comm]; exact Nat.div_add_mod _ _
            have hrl : (t0 * WB + t1) % v1 < v1 := Nat.mod_lt _ hv1pos
            have hql : (t0 * WB + t1) / v1 < WB := by
              rw [Nat.div_lt_iff_lt_mul hv1pos]
              have := Nat.mul_le_mul_right WB (Nat.succ_le_of_lt hlt)
              rw [Nat.succ_mul] at this
              rw [Nat.mul_comm WB]
              omega
            have hgs := guess_start (t0 := t0) (t1 := t1) (v2 := v2) hv1pos hw2
            rw [hq0, hr0] at hdw
            generalize (t0 * WB + t1) / v1 = q0 at *
            generalize (t0 * WB + t1) % v1 = r0 at *
            have hmw := fun w => mulWW_c q0 v2 hql wv2 w
            have hmm := mullo_mulhi q0 v2
            have hmh := mulhi_lt hql wv2
            have hml := mullo_lt q0 v2
            replace hqr := Lib.hid hqr
            replace hgs := Lib.hid hgs
            replace hmm := Lib.hid hmm
            clear hq0 hr0
            go_wp2_with fail
            refine (hdw _).mono ?_
            rintro e w' ⟨rfl, hw⟩
            obtain rfl := hw
            clear hdw
            go_wp2_with fail
            refine (hmw _).mono ?_
            rintro e w' ⟨rfl, hw⟩
            obtain rfl := hw.symm
            clear hmw
            go_wp2_with fail
            go_loopw [15, 16, 18, 19] (fun a b c d wr' => wr = wr' ∧ ∃ q r x1 x2 : Nat, a = .int .u64 q ∧ b = .int .u64 r ∧ c = .int .u64 x1 ∧ d = .int .u64 x2 ∧ q < WB ∧ r < WB ∧ x1 < WB ∧ x2 < WB ∧ q * v1 + r = t0 * WB + t1 ∧ x1 * WB + x2 = q * v2 ∧ t2 + WB * t1 + WB * WB * t0 < (q + 1) * (v2 + WB * v1)) (fun a _ _ _ _ => (intOf a).toNat)
            case atStart => exact ⟨rfl, q0, r0, mulhi q0 v2, mullo q0 v2, rfl, rfl, rfl, rfl, hql, by omega, hmh, hml, hqr.out, by have := hmm.out; rw [Nat.mul_comm WB] at this; omega, hgs.out⟩
            case round =>
              obtain ⟨hwr, q, r, x1, x2, rfl, rfl, rfl, rfl, h1, h2, h3, h4, h5, h6, h7⟩ := hrel
              obtain rfl := hwr
              have hgt := fun w => greaterThan_c x1 x2 r t2 w
              by_cases hg : r < x1 ∨ x1 = r ∧ t2 < x2
              · have hgd : decide (r < x1 ∨ x1 = r ∧ t2 < x2) = true := by simpa using hg
                rw [hgd] at hgt
                have hx := (two_words h4 hw2).1 hg
                have hf := guess_fail (v2 := v2) h5 h6 hx
                have hqp : 0 < q := by
                  rcases Nat.eq_zero_or_pos q with h0 | h0
                  · subst h0; omega
                  · exact h0
                have hlg := less_guess h6 hqp wv2 h3 h4
                have hq1 : wsub q 1 = q - 1 := wsub_of hqp h1
                by_cases hov : WB ≤ r + v1
                · have hlt2 : wadd r v1 < v1 := by
                    have : wadd r v1 = r + v1 - WB := by
                      unfold wadd
                      rw [Nat.mod_eq_sub_mod hov, Nat.mod_eq_of_lt (by omega)]
                    omega
                  have hgo := guess_over (q := q - 1) (r := r + v1) (v1 := v1) (v2 := v2) (t0 := t0) (t1 := t1) (t2 := t2) (by
                    obtain ⟨c, rfl⟩ : ∃ c, q = c + 1 := ⟨q - 1, by omega⟩
                    rw [Nat.succ_mul] at h5
                    rw [Nat.add_sub_cancel]; omega) (by omega) wv2 hov
                  have hfin := hb3.out (q - 1) (by omega) hgo (by rw [Nat.sub_add_cancel hqp]; exact hf)
                  replace hfin := Lib.hid hfin
                  replace hq1 := Lib.hid hq1
                  clear hlg hf hgo hx h5 h6 h7 hg
                  go_wp2_with fail
                  refine (hgt _).mono ?_
                  rintro e w' ⟨rfl, hw⟩
                  obtain rfl := hw
                  go_wp2
                  go_meet
                  exact ⟨rfl, q - 1, by rw [hq1.out], by omega, hfin.out.1, hfin.out.2⟩
                · have hra : wadd r v1 = r + v1 := wadd_of (by omega)
                  have hlt2 : ¬ wadd r v1 < v1 := by omega
                  have hnr : (q - 1) * v1 + (r + v1) = t0 * WB + t1 := by
                    obtain ⟨c, rfl⟩ : ∃ c, q = c + 1 := ⟨q - 1, by omega⟩
                    rw [Nat.succ_mul] at h5
                    rw [Nat.add_sub_cancel]; omega
                  have hnu : t2 + WB * t1 + WB * WB * t0 < (q - 1 + 1) * (v2 + WB * v1) := by rw [Nat.sub_add_cancel hqp]; exact hf
                  have hws := wsub_lt x2 v2
                  replace hnr := Lib.hid hnr
                  replace hnu := Lib.hid hnu
                  replace hq1 := Lib.hid hq1
                  replace hra := Lib.hid hra
                  clear hf hx h5 h6 h7 hg
                  by_cases hbr : x2 < v2
                  · rw [if_pos hbr] at hlg
                    replace hlg := Lib.hid hlg
                    go_wp2_with fail
                    refine (hgt _).mono ?_
                    rintro e w' ⟨rfl, hw⟩
                    obtain rfl := hw
                    go_wp2
                    go_roundw
                    case rel => exact ⟨by first | trivial | rfl, q - 1, r + v1, wsub x1 1, wsub x2 v2, by rw [hq1.out], by rw [hra.out], rfl, rfl, by omega, by omega, hlg.out.2, hws, hnr.out, hlg.out.1, hnu.out⟩
                    case measure => rw [hq1.out]; simp [intOf]; omega
                  · rw [if_neg hbr] at hlg
                    replace hlg := Lib.hid hlg
                    go_wp2_with fail
                    refine (hgt _).mono ?_
                    rintro e w' ⟨rfl, hw⟩
                    obtain rfl := hw
                    go_wp2
                    go_roundw
                    case rel => exact ⟨by first | trivial | rfl, q - 1, r + v1, x1, wsub x2 v2, by rw [hq1.out], by rw [hra.out], rfl, rfl, by omega, by omega, h3, hws, hnr.out, hlg.out.1, hnu.out⟩
                    case measure => rw [hq1.out]; simp [intOf]; omega
              · have hgd : decide (r < x1 ∨ x1 = r ∧ t2 < x2) = false := by simpa using hg
                rw [hgd] at hgt
                have hx : x1 * WB + x2 ≤ r * WB + t2 := Nat.le_of_not_lt (fun h => hg ((two_words h4 hw2).2 h))
                have hps := guess_pass (t2 := t2) h5 h6 hx
                have hfin := hb3.out q h1 hps h7
                replace hfin := Lib.hid hfin
                clear hx hps h5 h6 h7 hg
                go_wp2_with fail
                refine (hgt _).mono ?_
                rintro e w' ⟨rfl, hw⟩
                obtain rfl := hw
                go_wp2
                go_meet
                exact ⟨rfl, q, rfl, h1, hfin.out.1, hfin.out.2⟩
        case rest =>
          obtain ⟨hwr, qh, rfl, hq1, hq2, hq3⟩ := hcut
          obtain rfl := hwr
          have hlU := hi.lU
          have hlH := hi.lH
          have hma := mulAddVWW_c wr bh oh (k + 2) G bv ov cv qh 0 H' V (by omega) hi.hH (by omega) hV WV hq1 WB_pos (hi.hV.rd hi.hH hV (by omega) hsep)
          have t0' : ¬ (M : Int) + ((k : Int) + 2) < (j : Int) + ((k : Int) + 3) := by omega
          replace hq2 := Lib.hid hq2
          replace hq3 := Lib.hid hq3
          go_wp2_with fail
          refine hma.mono ?_
          rintro e w2 ⟨R, c, rfl, hS, hR, hcw, hv⟩
          have hz1 := hS.arr.cellN (i := oh + (k + 2)) (by rw [spl_length (by omega)]; omega)
          have hz2 := hS.arr.frozen (oh + (k + 2))
          have hS3 := hS.next (k := k + 2) hR (by omega) c hcw
          have hv3 : val (R ++ [c]) = val V * qh := by rw [val_snoc, hR, hv, Nat.add_zero]
          have hl3 : (R ++ [c]).length = k + 3 := by rw [List.length_append, hR]; rfl
          have hw3 : Wd (R ++ [c]) := by
            have h1 := hS3.arr.wd
            unfold spl at h1
            exact h1.left.right
          generalize R ++ [c] = RH at hS3 hv3 hl3 hw3
          have hU3 := hS3.other (Ne.symm hhu) hi.hU
          have hV3 : At (w2.setCell ⟨bh, oh + (k + 2), none⟩ (.int .u64 (c : Int))) bv ov V := hi.hV.sub hi.hH hS3 (by omega) hsep
          have hc3' : Chg wr (w2.setCell ⟨bh, oh + (k + 2), none⟩ (.int .u64 (c : Int))) (fun k => k = bu ∨ k = bh) := hS3.chg.mono (fun _ _ h => .inr h)
          replace hv3 := Lib.hid hv3
          clear hma hv hS
          go_upto_region 28 with (fail)
          have hH3 := hS3.arr
          generalize w2.setCell ⟨bh, oh + (k + 2), none⟩ (.int .u64 (c : Int)) = w3 at hU3 hV3 hc3' hH3 ⊢
          have hd : Chg w3 w3.drew (fun _ => False) := (Chg.refl w3 _).drew
          have hbT := hT.out
          have hU4 := hd.arr hU3 (fun h => h)
          have hH4 := hd.arr hH3 (fun h => h)
          have hV4 := hV3.chg hd (fun h => h)
          have hc4 : Chg wr w3.drew (fun k => k = bu ∨ k = bh) := hc3'.trans (hd.mono (fun _ _ h => h.elim))
          have hTU : (U'.drop j).take (k + 3) = T := by rw [← hbT, List.drop_take, List.take_take, Nat.min_eq_left (by omega)]
          have hsub := subVV_c w3.drew bu j (k + 3) (cu - j) bu j (cu - j) bh oh G U' T RH (by omega) hU4 (by omega) hTl.out hl3 hTw hw3
            (by rw [← hTU]; exact Rd.mk hU4 (by omega) hU4 (by omega) (.inr (Nat.le_refl _)))
            (by
              have h1 := Rd.mk (n := k + 3) (ox := oh) hU4 (oz := j) (by omega) hH4 (by rw [spl_length (by omega)]; omega) (.inl hhu)
              have h2 := spl_take_drop (C := H') (R := RH) (o := oh) (by omega)
              rw [hl3] at h2
              rwa [h2] at h1)
          have hbT2 := Lib.hid hbT
          have s1 : IntKind.i64.wrap ((j : Int) + ((k : Int) + 3)) = (j : Int) + ((k : Int) + 3) := IntWalk.i64_in _ (by omega)
          have s2 : (j : Int) ≤ (j : Int) + ((k : Int) + 3) := by omega
          have s3 : (j : Int) + ((k : Int) + 3) ≤ (cu : Int) := by omega
          have s4 : ((j : Int) + ((k : Int) + 3)).toNat = j + (k + 3) := by omega
          have s5 : (0 : Int) ≤ (j : Int) + ((k : Int) + 3) := by omega
          have s6 : ¬ cu = j := by omega
          have s7 : (0 : Int) ≤ (k : Int) + 3 := by omega
          have s8 : (k : Int) + 3 ≤ (G : Int) := by omega
          have s9 : ((k : Int) + 3).toNat = k + 3 := by omega
          clear hd hbT hU3 hH3 hV3 hc3' hS3 hc1 hc2 hc3
          replace hTU := Lib.hid hTU
          go_still_tail 15, (by kernel_rfl)
          change wpList _ _ _ _ _ w3.drew
          go_wp2_with fail
          refine hsub.mono ?_
          rintro e w4 ⟨R2, c2, rfl, hS5, hR2, hWR2, hc2l, hv5⟩
          have hH5 := hS5.other hhu hH4
          have hV5 := hV4.chg hS5.chg hbv1
          have hc5 : Chg wr w4 (fun k => k = bu ∨ k = bh) := hc4.trans (hS5.chg.mono (fun _ _ h => .inl (.inl h)))
          have hvpos : 0 < val V := by
            rcases Nat.eq_zero_or_pos (val V) with h | h
            · have h1 := hTv2.out
              rw [h] at h1; omega
            · exact h
          have hdm : val T / val V * val V + val T % val V = val T := by rw [Nat.mul_comm]; exact Nat.div_add_mod _ _
          have hml : val T % val V < val V := Nat.mod_lt _ hvpos
          replace hdm := Lib.hid hdm
          replace hv5 := Lib.hid hv5
          clear hsub hc4
          go_upto_if 148 with (fail)
          go_cut [15] from 45 to 200 (fun q wr' => q = .int .u64 ((val T / val V : Nat) : Int) ∧ ∃ R5, Arr wr' bu (spl U' j R5) ∧ R5.length = k + 3 ∧ val R5 = val T % val V ∧ Arr wr' bh (spl H' oh RH) ∧ At wr' bv ov V ∧ Chg wr wr' (fun k => k = bu ∨ k = bh))
          case first =>
            by_cases hc0 : c2 = 0
            · subst hc0
              have hqe : qh = val T / val V ∧ val R2 = val T % val V := by
                have h1 := hv5.out
                have h2 := hv3.out
                have h3 := hdm.out
                rw [Nat.mul_zero, Nat.add_zero, h2] at h1
                have h4 : qh = val T / val V := by
                  have h5 := hq2.out
                  have h6 := hq3.out
                  rcases Nat.lt_or_ge (val T / val V) qh with h7 | h7
                  · have h8 : qh = val T / val V + 1 := by omega
                    rw [h8, Nat.mul_succ, Nat.mul_comm (val V)] at h1
                    omega
                  · omega
                refine ⟨h4, ?_⟩
                rw [h4, Nat.mul_comm (val V)] at h1
                omega
              obtain ⟨hqe1, hqe2⟩ := hqe
              replace hqe2 := Lib.hid hqe2
              replace hqe1 := Lib.hid hqe1
              go_wp2
              go_meet
              exact ⟨by rw [hqe1.out], R2, hS5.arr, hR2, hqe2.out, hH5, hV5, hc5⟩
            · obtain rfl : c2 = 1 := by omega
              have hqe : qh = val T / val V + 1 ∧ val R2 + val V = val T % val V + WB ^ (k + 3) := by
                have h1 := hv5.out
                have h2 := hv3.out
                have h3 := hdm.out
                have hwR := val_lt hWR2
                rw [hR2] at hwR
                rw [Nat.mul_one, h2] at h1
                have h4 : qh = val T / val V + 1 := by
                  have h5 := hq2.out
                  have h6 := hq3.out
                  rcases Nat.lt_or_ge (val T / val V) qh with h7 | h7
                  · omega
                  · have h8 : qh = val T / val V := by omega
                    rw [h8, Nat.mul_comm (val V)] at h1
                    omega
                refine ⟨h4, ?_⟩
                rw [h4, Nat.mul_succ, Nat.mul_comm (val V)] at h1
                omega
              obtain ⟨hqe1, hqe2⟩ := hqe
              have hq1' : wsub qh 1 = val T / val V := by
                have h1 : val T / val V + 1 < WB := by rw [← hqe1]; exact hq1
                rw [hqe1, wsub_of (x := val T / val V + 1) (y := 1) (Nat.le_add_left _ _) h1, Nat.add_sub_cancel]
              have hd5 : Chg w4 w4.drew (fun _ => False) := (Chg.refl w4 _).drew
              have hU6 := hd5.arr hS5.arr (fun h => h)
              have hH6 := hd5.arr hH5 (fun h => h)
              have hV6 := hV5.chg hd5 (fun h => h)
              have hc6 : Chg wr w4.drew (fun k => k = bu ∨ k = bh) := hc5.trans (hd5.mono (fun _ _ h => h.elim))
              have hspl : (spl U' j R2).length = U'.length := spl_length (by omega)
              have hX6 : ((spl U' j R2).drop j).take (k + 2) = R2.take (k + 2) := by
                have h1 := spl_take_drop (C := U') (R := R2) (o := j) (by omega)
                rw [hR2] at h1
                rw [show ((spl U' j R2).drop j).take (k + 2) = (((spl U' j R2).drop j).take (k + 3)).take (k + 2) by rw [List.take_take, Nat.min_eq_left (by omega)], h1]
              have hadd := addVV_c w4.drew bu j (k + 2) (cu - j) bu j (cu - j) bv ov cv (spl U' j R2) (R2.take (k + 2)) V (by omega) hU6 (by omega) (by rw [List.length_take]; omega) hV (hWR2.take _) WV
                (by rw [← hX6]; exact Rd.mk hU6 (by omega) hU6 (by omega) (.inr (Nat.le_refl _))) (hV6.rd hU6 hV (by omega) (.inl hbv1))
              have r1 : IntKind.i64.wrap ((j : Int) + ((k : Int) + 2)) = (j : Int) + ((k : Int) + 2) := IntWalk.i64_in _ (by omega)
              have r2 : (j : Int) ≤ (j : Int) + ((k : Int) + 2) := by omega
              have r3 : (j : Int) + ((k : Int) + 2) ≤ (cu : Int) := by omega
              have r4 : ((j : Int) + ((k : Int) + 2)).toNat = j + (k + 2) := by omega
              have r5 : (0 : Int) ≤ (j : Int) + ((k : Int) + 2) := by omega
              have r6 : (k : Int) + 2 < (k : Int) + 3 := by omega
              have r7 : (j : Int) + ((k : Int) + 2) < (M : Int) + ((k : Int) + 2) := by omega
              replace hqe1 := Lib.hid hqe1
              replace hqe2 := Lib.hid hqe2
              replace hq1' := Lib.hid hq1'
              replace hX6 := Lib.hid hX6
              clear hd5
              go_upto_region 30 with (fail)
              go_still_tail 13, (by kernel_rfl)
              change wpList _ _ _ _ _ w4.drew
              go_wp2_with fail
              refine hadd.mono ?_
              rintro e w5 ⟨R3, c3, rfl, hS7, hR3, hc3l, hv7⟩
              clear hadd
              have hlR3 : (spl (spl U' j R2) j R3).length = U'.length := by rw [spl_length (by omega), hspl]
              have hu1 := hS7.arr.cellN (i := j + (k + 2)) (by omega)
              have hu2 := hS7.arr.frozen (j + (k + 2))
              have htopd : nth (spl (spl U' j R2) j R3) (j + (k + 2)) = nth R2 (k + 2) := by
                rw [nth_spl_ge (C := spl U' j R2) (o := j) (R := R3) (by omega) (by omega), nth_spl_mid (C := U') (o := j) (R := R2) (by omega) (by omega)]
              have hspl2 := spl_fix (U := U') (j := j) (x := wadd (nth R2 (k + 2)) c3) (by omega) hR2 hR3
              have hS8 := hS7.set (i := j + (k + 2)) _ (wadd_lt (nth R2 (k + 2)) c3)
              rw [hspl2] at hS8
              have hwR3 : Wd R3 := by
                have h1 := hS7.arr.wd
                unfold spl at h1
                exact h1.left.right
              have hrl : val T % val V < WB ^ (k + 2) := by
                have h1 := val_lt WV
                rw [hV] at h1
                omega
              have hval := back_val hR2 hR3 hwR3 hv7 hqe2.out hrl
              have hH8 := hS8.other hhu hH6
              have hV8 := hV6.chg hS8.chg hbv1
              have hc8 : Chg wr _ (fun k => k = bu ∨ k = bh) := hc6.trans (hS8.chg.mono (fun _ _ h => .inl (.inl h)))
              rw [htopd] at hu1
              replace hval := Lib.hid hval
              replace htopd := Lib.hid htopd
              replace hspl2 := Lib.hid hspl2
              have hl8 : (R3 ++ [wadd (nth R2 (k + 2)) c3]).length = k + 3 := by rw [List.length_append, hR3]; rfl
              go_wp2
              go_meet
              exact ⟨by rw [hq1'.out], _, hS8.arr, hl8, hval.out, hH8, hV8, hc8⟩
          case rest =>
            obtain ⟨hq, R5, hU9, hR5, hv9, hH9, hV9, hc9⟩ := hcut
            have hst := div_step (k := k) (j := j) (M := M) (N := M + (k + 2)) rfl hjlt (by omega) (by have := hi.lQ; omega) hT.out hTv1.out hR5 hv9 hvpos hi.eq
            have hqw : val T / val V < WB := by
              have h1 := hq2.out
              omega
            clear hq2 hq3 hdm hb2 hb3
            generalize val T / val V = q at hq hst hqw
            subst hq
            have hl9 : (spl U' j R5).length = U'.length := spl_length (by omega)
            have hQ9 := hc9.arr hi.hQ (fun h => h.elim hqu (fun h => hhq h.symm))
            have hlQ := hi.lQ
            have hu1 := hU9.cellN (i := j + (k + 1)) (by omega)
            have hz1 := hQ9.cellN (i := j) (by omega)
            have hz2 := hQ9.frozen j
            have hjm : ((j : Int) == (M : Int)) = false := by rw [beq_eq_false_iff_ne]; omega
            have hS9 := (Sub.refl hQ9).set (i := j) _ hqw
            have hcA : Chg w1 wr (fun k => k = bu ∨ k = bq ∨ k = bh) := hi.chg
            have hlU9 := hi.lU
            have hlH9 := hi.lH
            have hnu : nth ((spl U' j R5).take (M + (k + 2))) (j + (k + 1)) = nth (spl U' j R5) (j + (k + 1)) := nth_take (by omega)
            have hinv : DivInv w1 (wc.setCell ⟨bq, j, none⟩ (.int .u64 (q : Int))) bu bq bh bv ov U V M (M + (k + 2)) Q.length H.length j (spl U' j R5) (Q'.set j q) (spl H' oh RH) :=
              ⟨hS9.other (Ne.symm hqu) hU9, by omega, hS9.arr, by rw [List.length_set]; exact hlQ, hS9.other hhq hH9, by rw [spl_length (by omega)]; exact hlH9, hV9.chg hS9.chg hbv2,
                (hcA.trans (hc9.mono (fun _ _ h => .inl (h.elim .inl (fun h => .inr (.inr h)))))).trans (hS9.chg.mono (fun _ _ h => .inl (.inr (.inl h)))), hst.1, hst.2⟩
            replace hinv := Lib.hid hinv
            replace hnu := Lib.hid hnu
            replace hqw := Lib.hid hqw
            clear hi hc5 hH5 hV5 hS5 hv5 hst hv9
            go_wp2
            go_roundw
            case rel => exact ⟨j, by omega, rfl, _, _, _, hinv.out, by rw [hnu.out], fun h => by omega⟩
            case measure => simp [intOf]
end Go.Proofs.YtonepclpllelfaaGreatDoor
