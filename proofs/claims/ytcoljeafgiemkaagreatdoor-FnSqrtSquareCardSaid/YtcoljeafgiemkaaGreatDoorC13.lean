/- nat: divBasic. nat: divLarge. nat: div. nat: expNN without a modulus: a power of a word. -/
import Derived.Deep.CutRange
import Derived.Test.YtcoljeafgiemkaaGreatDoorC07
import Derived.Test.YtcoljeafgiemkaaGreatDoorC08
import Derived.Test.YtcoljeafgiemkaaGreatDoorC10
namespace Go.Proofs.YtcoljeafgiemkaaGreatDoor
open Go Go.RowKit

/-- The state of a long division: the digits from J on are known. -/
structure DivInv (w1 wr : World) (bu bq bh bv ov : Nat) (U0 V : List Nat) (M N lQ lH J : Nat) (U Q H : List Nat) : Prop where
  hU : Arr wr bu U
  lU : U.length = U0.length
  hQ : Arr wr bq Q
  lQ : Q.length = lQ
  hH : Arr wr bh H
  lH : H.length = lH
  hV : At wr bv ov V
  chg : Chg w1 wr (fun k => k = bu ∨ k = bq ∨ k = bh)
  eq : val (U0.take N) = val (U.take N) + val V * (WB ^ J * val ((Q.take M).drop J))
  lt : val ((U.take N).drop J) < val V

theorem DivInv.drewN {w1 wr : World} {bu bq bh bv ov : Nat} {U0 V : List Nat} {M N lQ lH J : Nat} {U Q H : List Nat} (h : DivInv w1 wr bu bq bh bv ov U0 V M N lQ lH J U Q H) (n : Nat) : DivInv w1 (wr.drewN n) bu bq bh bv ov U0 V M N lQ lH J U Q H :=
  ⟨h.hU.drewN n, h.lU, h.hQ.drewN n, h.lQ, h.hH.drewN n, h.lH, h.hV.chg ((Chg.refl wr (fun _ => False)).drewN n) (fun h => h), h.chg.drewN n, h.eq, h.lt⟩

set_option maxRecDepth 200000 in
set_option maxHeartbeats 4000000 in
theorem divBasic_c (w : World) (stk : Value) (bq cq bu cu bv ov cv M k l0 : Nat) (U Q V : List Nat) (Pw : World → Nat → Prop) (Post : World → World → Prop)
    (hk : k ≤ 300) (hM0 : 0 < M) (hM : M ≤ 300)
    (hV : V.length = k + 2) (WV : Wd V) (hnorm : WB ≤ 2 * nth V (k + 1))
    (hcq : M ≤ cq) (hcu : M + (k + 2) ≤ cu) (hQl : M ≤ Q.length) (hUl : M + (k + 2) ≤ U.length) (hqu : bq ≠ bu) (hbv1 : bv ≠ bu) (hbv2 : bv ≠ bq)
    (htop : nth U (M + (k + 1)) < nth V (k + 1))
    (hsave : Calls Tryz.prog 222 #[stk] w fun e w' => e = .returned (.int .i64 l0) ∧ w = w')
    (hnat : Calls Tryz.prog 223 #[stk, .int .i64 ((k + 3 : Nat) : Int)] w fun e w1 => ∃ bh oh G H, e = .returned (.slice (some ⟨bh, oh, none⟩) (k + 3) G) ∧ Arr w1 bh H ∧ oh + (k + 3) ≤ H.length ∧ k + 3 ≤ G ∧ bh ≠ bu ∧ bh ≠ bq ∧ Arr w1 bu U ∧ Arr w1 bq Q ∧ At w1 bv ov V ∧ (bv ≠ bh ∨ ov + V.length ≤ oh) ∧ Pw w1 bh)
    (hrest : ∀ w1 bh w2, Pw w1 bh → Chg w1 w2 (fun k => k = bu ∨ k = bq ∨ k = bh) → CallsD Tryz.prog 221 #[stk, .int .i64 l0] .returning w2 fun e u' w3 => u' = .returning ∧ e = .returned (.tuple #[]) ∧ Post w2 w3) :
    Calls Tryz.prog 233 #[.slice (some ⟨bq, 0, none⟩) M cq, stk, .slice (some ⟨bu, 0, none⟩) (M + (k + 2)) cu, .slice (some ⟨bv, ov, none⟩) (k + 2) cv] w fun e w' =>
      e = .returned (.tuple #[]) ∧ ∃ w1 bh w2 U' Q', Pw w1 bh ∧ Chg w1 w2 (fun k => k = bu ∨ k = bq ∨ k = bh) ∧ Arr w2 bu U' ∧ U'.length = U.length ∧ Arr w2 bq Q' ∧ Q'.length = Q.length ∧
        val (U'.take (M + (k + 2))) = val (U.take (M + (k + 2))) % val V ∧ val (Q'.take M) = val (U.take (M + (k + 2))) / val V ∧ Post w2 w' := by
  rw [show ((k + 3 : Nat) : Int) = (k : Int) + 2 + 1 by omega] at hnat
  have e1 : IntKind.i64.wrap ((M : Int) + ((k : Int) + 2) - ((k : Int) + 2)) = (M : Int) := by rw [show (M : Int) + ((k : Int) + 2) - ((k : Int) + 2) = (M : Int) by omega]; exact IntWalk.i64_in _ (by omega)
  replace hrest := Lib.hid hrest
  replace hnorm := Lib.hid hnorm
  replace htop := Lib.hid htop
  go_enter_defers Tryz.func233, Tryz.ntmps233
  go_wp2_with fail
  refine hsave.mono ?_
  rintro e w' ⟨rfl, hw⟩
  obtain rfl := hw
  go_wp2_with fail
  refine hnat.mono ?_
  rintro e w1 ⟨bh, oh, G, H, rfl, hH, hHl, hG, hhu, hhq, hU, hQ, hAt, hsep, hP⟩
  have hvk := hAt (k + 1) (by omega)
  have hrc := fun w => reciprocalWord_c (nth V (k + 1)) (WV.nth _) (by have := hnorm.out; have := WB_two; omega) w
  go_wp2_with fail
  refine (hrc _).mono ?_
  rintro e w1' ⟨rfl, nd, rfl⟩
  have hinv0 : DivInv w1 (w1.drewN nd) bu bq bh bv ov U V M (M + (k + 2)) Q.length H.length (M + 1) U Q H := by
    refine ⟨hU.drewN _, rfl, hQ.drewN _, rfl, hH.drewN _, rfl, hAt.chg ((Chg.refl w1 (fun _ => False)).drewN nd) (fun h => h), (Chg.refl w1 _).drewN nd, ?_, ?_⟩
    · rw [List.drop_of_length_le (by simp; omega)]; simp
    · have hw : Wd ((U.take (M + (k + 2))).drop (M + 1)) := (hU.wd.take _).drop _
      have h1 := val_lt hw
      rw [List.length_drop, List.length_take, Nat.min_eq_left (by omega), show M + (k + 2) - (M + 1) = k + 1 by omega] at h1
      have h2 := val_take_succ (l := V) (k := k + 1) (by omega)
      rw [List.take_of_length_le (by omega)] at h2
      have h3 : WB ^ (k + 1) * 1 ≤ WB ^ (k + 1) * nth V (k + 1) := Nat.mul_le_mul_left _ (by have := hnorm.out; have := WB_two; omega)
      omega
  replace hinv0 := Lib.hid hinv0
  clear hnat hsave hrc hvk
  go_wp2
  go_loopw [13, 14] (fun uj i wr => ∃ J : Nat, J ≤ M + 1 ∧ i = .int .i64 ((J : Int) - 1) ∧ ∃ U' Q' H', DivInv w1 wr bu bq bh bv ov U V M (M + (k + 2)) Q.length H.length J U' Q' H' ∧ uj = .int .u64 (nth (U'.take (M + (k + 2))) (J + (k + 1)) : Int) ∧ (J = M + 1 → U' = U)) (fun _ i _ => (intOf i + 1).toNat)
  case atStart =>
    refine ⟨M + 1, Nat.le_refl _, by congr 1; omega, U, Q, H, hinv0.out, ?_, fun _ => rfl⟩
    rw [nth_ge (by simp; omega)]; rfl
  case round =>
    obtain ⟨J, hJ, rfl, U', Q', H', hi, rfl, hJM⟩ := hrel
    by_cases hJ0 : J = 0
    · subst hJ0
      have hend : val (U'.take (M + (k + 2))) = val (U.take (M + (k + 2))) % val V ∧ val (Q'.take M) = val (U.take (M + (k + 2))) / val V := by
        have h1 := hi.eq
        have h2 := hi.lt
        rw [Nat.pow_zero, Nat.one_mul, List.drop_zero] at h1
        rw [List.drop_zero] at h2
        rw [h1, Nat.add_mul_mod_self_left, Nat.mod_eq_of_lt h2, Nat.add_mul_div_left _ _ (by omega), Nat.div_eq_of_lt h2, Nat.zero_add]
        exact ⟨rfl, rfl⟩
      have hrr := hrest.out w1 bh wr hP hi.chg
      replace hend := Lib.hid hend
      go_wp2
      refine leaves_cons (f := 221) (args := #[stk, .int .i64 l0]) (by simp) (by simp [go_sem]) ?_
      refine hrr.mono ?_
      rintro e u' w'' ⟨rfl, rfl, hpost⟩
      exact ⟨_, results_none rfl _ _ _, rfl, w1, bh, wr, U', Q', hP, hi.chg, hi.hU, hi.lU, hi.hQ, hi.lQ, hend.out.1, hend.out.2, hpost⟩
    · obtain ⟨j, rfl⟩ : ∃ j, J = j + 1 := ⟨J - 1, by omega⟩
      rw [show (((j + 1 : Nat) : Int) - 1) = (j : Int) by omega]
      clear hrest
      by_cases hjM : j = M
      · subst hjM
        obtain rfl := hJM rfl
        have hlU := hi.lU
        have hlH := hi.lH
        have hu0 : nth (U'.take (j + (k + 2))) (j + 1 + (k + 1)) = 0 := nth_ge (by simp; omega)
        rw [hu0]
        have hv1 := hi.hV (k + 1) (by omega)
        have hv2 := hi.hV k (by omega)
        have wv1 := WV.nth (k + 1)
        have wv2 := WV.nth k
        have hc1 := hi.hU.cellN (i := j + (k + 1)) (by omega)
        have hc3 := hi.hU.cellN (i := j + (k + 2) - 2) (by omega)
        have hw1 := hi.hU.wd.nth (j + (k + 1))
        have hltop := htop.out
        have hv1pos : 0 < nth V (k + 1) := by omega
        have hd : (((0 : Nat) : Int) != (nth V (k + 1) : Int)) = true := by simp; omega
        have hdw := fun w => divWW_c 0 (nth U' (j + (k + 1))) (nth V (k + 1)) wv1 hv1pos hv1pos hw1 w
        have hq0 : wdiv (0 * WB + nth U' (j + (k + 1))) (nth V (k + 1)) = 0 := by
          rw [Nat.zero_mul, Nat.zero_add]; exact Nat.div_eq_of_lt hltop
        have hr0 : wmod (0 * WB + nth U' (j + (k + 1))) (nth V (k + 1)) = nth U' (j + (k + 1)) := by
          rw [Nat.zero_mul, Nat.zero_add]; exact Nat.mod_eq_of_lt hltop
        rw [hq0, hr0] at hdw
        have hmw := fun w => mulWW_c 0 (nth V k) WB_pos wv2 w
        rw [show mulhi 0 (nth V k) = 0 by unfold mulhi; rw [Nat.zero_mul, Nat.zero_div], show mullo 0 (nth V k) = 0 by unfold mullo; rw [Nat.zero_mul, Nat.zero_mod]] at hmw
        have hgt := fun w => greaterThan_c 0 0 (nth U' (j + (k + 1))) (nth U' (j + (k + 2) - 2)) w
        have hma := mulAddVWW_c wr bh oh (k + 2) G bv ov cv 0 0 H' V (by omega) hi.hH (by omega) hV WV WB_pos WB_pos (hi.hV.rd hi.hH hV (by omega) hsep)
        replace htop := Lib.hid hltop
        have hlt : val ((U'.take (j + (k + 2))).drop j) < val V := by
          have hl : ((U'.take (j + (k + 2))).drop j).length = k + 2 := by simp; omega
          have hw : Wd ((U'.take (j + (k + 2))).drop j) := (hi.hU.wd.take _).drop _
          have h1 := val_take_succ (l := (U'.take (j + (k + 2))).drop j) (k := k + 1) (by omega)
          rw [List.take_of_length_le (by omega), nth_drop, nth_take (by omega)] at h1
          have h2 := val_lt (hw.take (k + 1))
          rw [List.length_take, Nat.min_eq_left (by omega)] at h2
          have h3 := val_take_succ (l := V) (k := k + 1) (by omega)
          rw [List.take_of_length_le (by omega)] at h3
          have h4 : WB ^ (k + 1) * (nth U' (j + (k + 1)) + 1) ≤ WB ^ (k + 1) * nth V (k + 1) := Nat.mul_le_mul_left _ hltop
          rw [Nat.mul_add, Nat.mul_one] at h4
          omega
        replace hlt := Lib.hid hlt
        rw [show decide (nth U' (j + (k + 1)) < 0 ∨ 0 = nth U' (j + (k + 1)) ∧ nth U' (j + (k + 2) - 2) < 0) = false by simp] at hgt
        generalize hgt1 : nth U' (j + (k + 1)) = t1 at *
        generalize hgt2 : nth U' (j + (k + 2) - 2) = t2 at *
        generalize hgv1 : nth V (k + 1) = v1 at *
        generalize hgv2 : nth V k = v2 at *
        replace hgt1 := Lib.hid hgt1
        replace hgt2 := Lib.hid hgt2
        replace hgv1 := Lib.hid hgv1
        replace hgv2 := Lib.hid hgv2
        clear hq0 hr0 hltop
        go_wp2_with fail
        refine (hdw _).mono ?_
        rintro e w' ⟨rfl, hw⟩
        obtain rfl := hw
        clear hdw
        go_wp2_with fail
        refine (hmw _).mono ?_
        rintro e w' ⟨rfl, hw⟩
        obtain rfl := hw.symm
        clear hmw
        go_wp2_with fail
        go_loopw [15, 16, 18, 19] (fun a b c d wr' => wr = wr' ∧ a = .int .u64 ((0 : Nat) : Int) ∧ b = .int .u64 (t1 : Int) ∧ c = .int .u64 ((0 : Nat) : Int) ∧ d = .int .u64 ((0 : Nat) : Int)) (fun _ _ _ _ _ => 0)
        case atStart => exact ⟨rfl, rfl, rfl, rfl, rfl⟩
        case round =>
          obtain ⟨hwr, rfl, rfl, rfl, rfl⟩ := hrel
          obtain rfl := hwr
          go_wp2_with fail
          refine (hgt _).mono ?_
          rintro e w' ⟨rfl, hw⟩
          obtain rfl := hw
          go_wp2_with fail
          refine hma.mono ?_
          rintro e w2 ⟨R, c, rfl, hS, hR, hcw, hv⟩
          have hc0 : c = 0 ∧ val R = 0 := by
            rw [Nat.mul_zero, Nat.add_zero] at hv
            rcases Nat.eq_zero_or_pos c with h | h
            · exact ⟨h, by omega⟩
            · have := Nat.mul_pos (WB_pow_pos (k + 2)) h
              omega
          obtain ⟨rfl, hvR⟩ := hc0
          have hwR : Wd R := by
            have h1 := hS.arr.wd
            unfold spl at h1
            exact h1.left.right
          have hz1 := hS.arr.cellN (i := oh + (k + 2)) (by rw [spl_length (by omega)]; omega)
          have hz2 := hS.arr.frozen (oh + (k + 2))
          have hS3 := hS.next (k := k + 2) hR (by omega) 0 WB_pos
          have hl3 : (R ++ [0]).length = k + 3 := by rw [List.length_append, hR]; rfl
          have hU3 := hS3.other (Ne.symm hhu) hi.hU
          have hV3 : At (w2.setCell ⟨bh, oh + (k + 2), none⟩ (.int .u64 ((0 : Nat) : Int))) bv ov V := hi.hV.sub hi.hH hS3 (by omega) hsep
          have hc3' : Chg wr (w2.setCell ⟨bh, oh + (k + 2), none⟩ (.int .u64 ((0 : Nat) : Int))) (fun k => k = bu ∨ k = bh) := hS3.chg.mono (fun _ _ h => .inr h)
          have hcz := hS3.arr.cellN (i := oh + (k + 2)) (by rw [spl_length (by omega)]; omega)
          rw [nth_spl_mid (C := H') (o := oh) (R := R ++ [0]) (by omega) (by omega), nth_append_right (by omega), hR, Nat.sub_self] at hcz
          have hn0 : nth [0] 0 = 0 := rfl
          rw [hn0] at hcz
          have t0' : (j : Int) + ((k : Int) + 2) < (j : Int) + ((k : Int) + 3) := by omega
          clear hma hv hS
          go_upto_region 28 with (fail)
          rw [show (k : Int) + 3 - 1 = (k : Int) + 2 by omega]
          have hH3 := hS3.arr
          generalize w2.setCell ⟨bh, oh + (k + 2), none⟩ (.int .u64 ((0 : Nat) : Int)) = w3 at hU3 hV3 hc3' hH3 ⊢
          have hd : Chg w3 w3.drew (fun _ => False) := (Chg.refl w3 _).drew
          have hU4 := hd.arr hU3 (fun h => h)
          have hH4 := hd.arr hH3 (fun h => h)
          have hV4 := hV3.chg hd (fun h => h)
          have hc4 : Chg wr w3.drew (fun k => k = bu ∨ k = bh) := hc3'.trans (hd.mono (fun _ _ h => h.elim))
          have hYh : ((spl H' oh (R ++ [0])).drop oh).take (k + 2) = R := by
            have h2 := spl_take_drop (C := H') (R := R ++ [0]) (o := oh) (by omega)
            rw [hl3] at h2
            rw [show ((spl H' oh (R ++ [0])).drop oh).take (k + 2) = (((spl H' oh (R ++ [0])).drop oh).take (k + 3)).take (k + 2) by rw [List.take_take, Nat.min_eq_left (by omega)], h2, List.take_append_of_le_length (by omega), List.take_of_length_le (by omega)]
          have hTl : ((U'.drop j).take (k + 2)).length = k + 2 := by simp; omega
          have hTw : Wd ((U'.drop j).take (k + 2)) := (hi.hU.wd.drop j).take _
          have hsub := subVV_c w3.drew bu j (k + 2) (cu - j) bu j (cu - j) bh oh G U' ((U'.drop j).take (k + 2)) R (by omega) hU4 (by omega) hTl hR hTw hwR
            (Rd.mk hU4 (by omega) hU4 (by omega) (.inr (Nat.le_refl _)))
            (by
              have h1 := Rd.mk (n := k + 2) (ox := oh) hU4 (oz := j) (by omega) hH4 (by rw [spl_length (by omega)]; omega) (.inl hhu)
              rwa [hYh] at h1)
          have s1 : IntKind.i64.wrap ((j : Int) + ((k : Int) + 2)) = (j : Int) + ((k : Int) + 2) := IntWalk.i64_in _ (by omega)
          have s2 : (j : Int) ≤ (j : Int) + ((k : Int) + 2) := by omega
          have s3 : (j : Int) + ((k : Int) + 2) ≤ (cu : Int) := by omega
          have s4 : ((j : Int) + ((k : Int) + 2)).toNat = j + (k + 2) := by omega
          have s5 : (0 : Int) ≤ (j : Int) + ((k : Int) + 2) := by omega
          have s6 : ¬ cu = j := by omega
          have s7 : (0 : Int) ≤ (k : Int) + 2 := by omega
          have s8 : (k : Int) + 2 ≤ (G : Int) := by omega
          have s9 : ((k : Int) + 2).toNat = k + 2 := by omega
          clear hd hU3 hH3 hV3 hc3' hS3 hz1 hz2 hcz
          replace hYh := Lib.hid hYh
          go_still_tail 15, (by kernel_rfl)
          change wpList _ _ _ _ _ w3.drew
          go_wp2_with fail
          refine hsub.mono ?_
          rintro e w4 ⟨R2, c2, rfl, hS5, hR2, hWR2, hc2l, hv5⟩
          have hsame : c2 = 0 ∧ R2 = (U'.drop j).take (k + 2) := by
            have h1 := val_lt hWR2
            rw [hR2] at h1
            rw [hvR, Nat.add_zero] at hv5
            rcases Nat.eq_zero_or_pos c2 with h | h
            · subst h
              rw [Nat.mul_zero, Nat.add_zero] at hv5
              exact ⟨rfl, (val_inj hTw hWR2 (by rw [hTl, hR2]) hv5).symm⟩
            · have := Nat.mul_le_mul_left (WB ^ (k + 2)) h
              rw [Nat.mul_one] at this
              omega
          obtain ⟨rfl, rfl⟩ := hsame
          have hself : spl U' j ((U'.drop j).take (k + 2)) = U' := by
            have h1 := spl_self (C := U') (o := j) (n := k + 2) (R := []) (by omega) (by simp)
            simpa [spl_nil] using h1
          rw [hself] at hS5
          have hH5 := hS5.other hhu hH4
          have hV5 := hV4.chg hS5.chg hbv1
          have hc5 : Chg wr w4 (fun k => k = bu ∨ k = bh) := hc4.trans (hS5.chg.mono (fun _ _ h => .inl (.inl h)))
          have hu1 := hS5.arr.cellN (i := j + (k + 1)) (by omega)
          rw [hgt1.out] at hu1
          have hinv : DivInv w1 w4 bu bq bh bv ov U' V j (j + (k + 2)) Q.length H.length j U' Q' (spl H' oh (R ++ [0])) := by
            refine ⟨hS5.arr, rfl, hc5.arr hi.hQ (fun h => h.elim hqu (fun h => hhq h.symm)), hi.lQ, hH5, by rw [spl_length (by omega)]; exact hi.lH, hV5,
              hi.chg.trans (hc5.mono (fun _ _ h => .inl (h.elim .inl (fun h => .inr (.inr h))))), ?_, hlt.out⟩
            rw [List.drop_of_length_le (by simp; omega)]
            simp
          have hnu : nth (U'.take (j + (k + 2))) (j + (k + 1)) = t1 := by rw [nth_take (by omega), hgt1.out]
          replace hinv := Lib.hid hinv
          replace hnu := Lib.hid hnu
          clear hsub hi hS5 hH5 hV5 hc5 hH4 hV4 hc4 hU4 hv5 hself
          go_wp2
          go_roundw
          case rel => exact ⟨j, by omega, rfl, _, _, _, hinv.out, by rw [hnu.out], fun h => by omega⟩
          case measure => simp [intOf]
      · have hjlt : j < M := by omega
        have hTl : ((((U'.take (M + (k + 2))).drop j).take (k + 3))).length = k + 3 := by
          have := hi.lU
          simp; omega
        have hLw : Wd (U'.take (M + (k + 2))) := hi.hU.wd.take _
        have hLl : (U'.take (M + (k + 2))).length = M + (k + 2) := by have := hi.lU; rw [List.length_take]; omega
        have hTv : val ((U'.take (M + (k + 2))).drop j) = val (((U'.take (M + (k + 2))).drop j).take (k + 3)) ∧ val ((U'.take (M + (k + 2))).drop j) < WB * val V := by
          have h1 : (U'.take (M + (k + 2))).drop j = nth (U'.take (M + (k + 2))) j :: (U'.take (M + (k + 2))).drop (j + 1) := drop_nth (by omega)
          have h2 : val ((U'.take (M + (k + 2))).drop j) < WB * val V := by
            rw [h1, val_cons]
            have h3 := hLw.nth j
            have h4 : WB * (val ((U'.take (M + (k + 2))).drop (j + 1)) + 1) ≤ WB * val V := Nat.mul_le_mul_left _ hi.lt
            rw [Nat.mul_add, Nat.mul_one] at h4
            omega
          refine ⟨?_, h2⟩
          have h5 := val_take_drop ((U'.take (M + (k + 2))).drop j) (k + 3) (by rw [List.length_drop, hLl]; omega)
          have h6 := val_lt WV
          rw [hV] at h6
          have h7 : WB * val V ≤ WB ^ (k + 3) * 1 := by
            rw [Nat.mul_one, Nat.pow_succ, Nat.mul_comm (WB ^ (k + 2))]
            exact Nat.mul_le_mul_left _ (Nat.le_of_lt h6)
          have h8 : val (((U'.take (M + (k + 2))).drop j).drop (k + 3)) < 1 := by
            refine Nat.lt_of_mul_lt_mul_left (a := WB ^ (k + 3)) ?_
            omega
          have h9 : val (((U'.take (M + (k + 2))).drop j).drop (k + 3)) = 0 := by omega
          rw [h9, Nat.mul_zero, Nat.add_zero] at h5
          exact h5
        have hTw : Wd (((U'.take (M + (k + 2))).drop j).take (k + 3)) := (hLw.drop j).take _
        have hT0 : nth (((U'.take (M + (k + 2))).drop j).take (k + 3)) (k + 2) = nth (U'.take (M + (k + 2))) (j + 1 + (k + 1)) := by rw [nth_take (by omega), nth_drop]; congr 1; omega
        have hT1 : nth (((U'.take (M + (k + 2))).drop j).take (k + 3)) (k + 1) = nth U' (j + (k + 1)) := by rw [nth_take (by omega), nth_drop, nth_take (by omega)]
        have hT2 : nth (((U'.take (M + (k + 2))).drop j).take (k + 3)) k = nth U' (j + k) := by rw [nth_take (by omega), nth_drop, nth_take (by omega)]
        rw [← hT0]
        have hc1 := hi.hU.cellN (i := j + (k + 1)) (by have := hi.lU; omega)
        have hc2 := hi.hU.cellN (i := j + k) (by have := hi.lU; omega)
        rw [← hT1] at hc1
        rw [← hT2] at hc2
        have hc3 : wr.cell? ⟨bu, j + (k + 2) - 2, none⟩ = some (.int .u64 (nth (((U'.take (M + (k + 2))).drop j).take (k + 3)) k : Int)) := by rw [show j + (k + 2) - 2 = j + k by omega]; exact hc2
        obtain ⟨hTv1, hTv2⟩ := hTv
        rw [hTv1] at hTv2
        generalize hT : ((U'.take (M + (k + 2))).drop j).take (k + 3) = T at *
        have hb := digit_bounds hV hTl WV hTw hnorm.out hTv2
        obtain ⟨hb1, hb2, hb3⟩ := hb
        have hw0 := hTw.nth (k + 2)
        have hw1 := hTw.nth (k + 1)
        have hw2 := hTw.nth k
        generalize nth T (k + 2) = t0 at *
        generalize nth T (k + 1) = t1 at *
        generalize nth T k = t2 at *
        have hv1 := hi.hV (k + 1) (by omega)
        have hv2 := hi.hV k (by omega)
        have wv1 := WV.nth (k + 1)
        have wv2 := WV.nth k
        have hv1pos : 0 < nth V (k + 1) := by have := hnorm.out; have := WB_two; omega
        replace hnorm := Lib.hid hnorm.out
        generalize hgv1 : nth V (k + 1) = v1 at *
        generalize hgv2 : nth V k = v2 at *
        replace hb2 := Lib.hid hb2
        replace hb3 := Lib.hid hb3
        replace hTv1 := Lib.hid hTv1
        replace hTv2 := Lib.hid hTv2
        replace hT0 := Lib.hid hT0
        replace hT1 := Lib.hid hT1
        replace hT2 := Lib.hid hT2
        replace hgv1 := Lib.hid hgv1
        replace hgv2 := Lib.hid hgv2
        replace hT := Lib.hid hT
        replace hLl := Lib.hid hLl
        replace hTl := Lib.hid hTl
        go_upto_if 51 with (fail)
        go_cut [15] from 45 to 200 (fun q wr' => wr = wr' ∧ ∃ qh : Nat, q = .int .u64 qh ∧ qh < WB ∧ val T / val V ≤ qh ∧ qh ≤ val T / val V + 1)
        case first =>
          by_cases he : t0 = v1
          · have hd : ((t0 : Int) != (v1 : Int)) = false := by simp; omega
            have hmx := hb2.out he
            replace hmx := Lib.hid hmx
            go_wp2
            go_meet
            refine ⟨rfl, WB - 1, by rw [WB_eq]; rfl, by have := WB_two; omega, hmx.out.1, hmx.out.2⟩
          · have hd : ((t0 : Int) != (v1 : Int)) = true := by simp; omega
            have hlt : t0 < v1 := by omega
            have hdw := fun w => divWW_c t0 t1 v1 wv1 hv1pos hlt hw1 w
            have hq0 : wdiv (t0 * WB + t1) v1 = (t0 * WB + t1) / v1 := rfl
            have hr0 : wmod (t0 * WB + t1) v1 = (t0 * WB + t1) % v1 := rfl
            have hqr : (t0 * WB + t1) / v1 * v1 + (t0 * WB + t1) % v1 = t0 * WB + t1 := by rw [Nat.mul_comm]; exact Nat.div_add_mod _ _
            have hrl : (t0 * WB + t1) % v1 < v1 := Nat.mod_lt _ hv1pos
            have hql : (t0 * WB + t1) / v1 < WB := by
              rw [Nat.div_lt_iff_lt_mul hv1pos]
              have := Nat.mul_le_mul_right WB (Nat.succ_le_of_lt hlt)
              rw [Nat.succ_mul] at this
              rw [Nat.mul_comm WB]
              omega
            have hgs := guess_start (t0 := t0) (t1 := t1) (v2 := v2) hv1pos hw2
            rw [hq0, hr0] at hdw
            generalize (t0 * WB + t1) / v1 = q0 at *
            generalize (t0 * WB + t1) % v1 = r0 at *
            have hmw := fun w => mulWW_c q0 v2 hql wv2 w
            have hmm := mullo_mulhi q0 v2
            have hmh := mulhi_lt hql wv2
            have hml := mullo_lt q0 v2
            replace hqr := Lib.hid hqr
            replace hgs := Lib.hid hgs
            replace hmm := Lib.hid hmm
            clear hq0 hr0
            go_wp2_with fail
            refine (hdw _).mono ?_
            rintro e w' ⟨rfl, hw⟩
            obtain rfl := hw
            clear hdw
            go_wp2_with fail
            refine (hmw _).mono ?_
            rintro e w' ⟨rfl, hw⟩
            obtain rfl := hw.symm
            clear hmw
            go_wp2_with fail
            go_loopw [15, 16, 18, 19] (fun a b c d wr' => wr = wr' ∧ ∃ q r x1 x2 : Nat, a = .int .u64 q ∧ b = .int .u64 r ∧ c = .int .u64 x1 ∧ d = .int .u64 x2 ∧ q < WB ∧ r < WB ∧ x1 < WB ∧ x2 < WB ∧ q * v1 + r = t0 * WB + t1 ∧ x1 * WB + x2 = q * v2 ∧ t2 + WB * t1 + WB * WB * t0 < (q + 1) * (v2 + WB * v1)) (fun a _ _ _ _ => (intOf a).toNat)
            case atStart => exact ⟨rfl, q0, r0, mulhi q0 v2, mullo q0 v2, rfl, rfl, rfl, rfl, hql, by omega, hmh, hml, hqr.out, by have := hmm.out; rw [Nat.mul_comm WB] at this; omega, hgs.out⟩
            case round =>
              obtain ⟨hwr, q, r, x1, x2, rfl, rfl, rfl, rfl, h1, h2, h3, h4, h5, h6, h7⟩ := hrel
              obtain rfl := hwr
              have hgt := fun w => greaterThan_c x1 x2 r t2 w
              by_cases hg : r < x1 ∨ x1 = r ∧ t2 < x2
              · have hgd : decide (r < x1 ∨ x1 = r ∧ t2 < x2) = true := by simpa using hg
                rw [hgd] at hgt
                have hx := (two_words h4 hw2).1 hg
                have hf := guess_fail (v2 := v2) h5 h6 hx
                have hqp : 0 < q := by
                  rcases Nat.eq_zero_or_pos q with h0 | h0
                  · subst h0; omega
                  · exact h0
                have hlg := less_guess h6 hqp wv2 h3 h4
                have hq1 : wsub q 1 = q - 1 := wsub_of hqp h1
                by_cases hov : WB ≤ r + v1
                · have hlt2 : wadd r v1 < v1 := by
                    have : wadd r v1 = r + v1 - WB := by
                      unfold wadd
                      rw [Nat.mod_eq_sub_mod hov, Nat.mod_eq_of_lt (by omega)]
                    omega
                  have hgo := guess_over (q := q - 1) (r := r + v1) (v1 := v1) (v2 := v2) (t0 := t0) (t1 := t1) (t2 := t2) (by
                    obtain ⟨c, rfl⟩ : ∃ c, q = c + 1 := ⟨q - 1, by omega⟩
                    rw [Nat.succ_mul] at h5
                    rw [Nat.add_sub_cancel]; omega) (by omega) wv2 hov
                  have hfin := hb3.out (q - 1) (by omega) hgo (by rw [Nat.sub_add_cancel hqp]; exact hf)
                  replace hfin := Lib.hid hfin
                  replace hq1 := Lib.hid hq1
                  clear hlg hf hgo hx h5 h6 h7 hg
                  go_wp2_with fail
                  refine (hgt _).mono ?_
                  rintro e w' ⟨rfl, hw⟩
                  obtain rfl := hw
                  go_wp2
                  go_meet
                  exact ⟨rfl, q - 1, by rw [hq1.out], by omega, hfin.out.1, hfin.out.2⟩
                · have hra : wadd r v1 = r + v1 := wadd_of (by omega)
                  have hlt2 : ¬ wadd r v1 < v1 := by omega
                  have hnr : (q - 1) * v1 + (r + v1) = t0 * WB + t1 := by
                    obtain ⟨c, rfl⟩ : ∃ c, q = c + 1 := ⟨q - 1, by omega⟩
                    rw [Nat.succ_mul] at h5
                    rw [Nat.add_sub_cancel]; omega
                  have hnu : t2 + WB * t1 + WB * WB * t0 < (q - 1 + 1) * (v2 + WB * v1) := by rw [Nat.sub_add_cancel hqp]; exact hf
                  have hws := wsub_lt x2 v2
                  replace hnr := Lib.hid hnr
                  replace hnu := Lib.hid hnu
                  replace hq1 := Lib.hid hq1
                  replace hra := Lib.hid hra
                  clear hf hx h5 h6 h7 hg
                  by_cases hbr : x2 < v2
                  · rw [if_pos hbr] at hlg
                    replace hlg := Lib.hid hlg
                    go_wp2_with fail
                    refine (hgt _).mono ?_
                    rintro e w' ⟨rfl, hw⟩
                    obtain rfl := hw
                    go_wp2
                    go_roundw
                    case rel => exact ⟨by first | trivial | rfl, q - 1, r + v1, wsub x1 1, wsub x2 v2, by rw [hq1.out], by rw [hra.out], rfl, rfl, by omega, by omega, hlg.out.2, hws, hnr.out, hlg.out.1, hnu.out⟩
                    case measure => rw [hq1.out]; simp [intOf]; omega
                  · rw [if_neg hbr] at hlg
                    replace hlg := Lib.hid hlg
                    go_wp2_with fail
                    refine (hgt _).mono ?_
                    rintro e w' ⟨rfl, hw⟩
                    obtain rfl := hw
                    go_wp2
                    go_roundw
                    case rel => exact ⟨by first | trivial | rfl, q - 1, r + v1, x1, wsub x2 v2, by rw [hq1.out], by rw [hra.out], rfl, rfl, by omega, by omega, h3, hws, hnr.out, hlg.out.1, hnu.out⟩
                    case measure => rw [hq1.out]; simp [intOf]; omega
              · have hgd : decide (r < x1 ∨ x1 = r ∧ t2 < x2) = false := by simpa using hg
                rw [hgd] at hgt
                have hx : x1 * WB + x2 ≤ r * WB + t2 := Nat.le_of_not_lt (fun h => hg ((two_words h4 hw2).2 h))
                have hps := guess_pass (t2 := t2) h5 h6 hx
                have hfin := hb3.out q h1 hps h7
                replace hfin := Lib.hid hfin
                clear hx hps h5 h6 h7 hg
                go_wp2_with fail
                refine (hgt _).mono ?_
                rintro e w' ⟨rfl, hw⟩
                obtain rfl := hw
                go_wp2
                go_meet
                exact ⟨rfl, q, rfl, h1, hfin.out.1, hfin.out.2⟩
        case rest =>
          obtain ⟨hwr, qh, rfl, hq1, hq2, hq3⟩ := hcut
          obtain rfl := hwr
          have hlU := hi.lU
          have hlH := hi.lH
          have hma := mulAddVWW_c wr bh oh (k + 2) G bv ov cv qh 0 H' V (by omega) hi.hH (by omega) hV WV hq1 WB_pos (hi.hV.rd hi.hH hV (by omega) hsep)
          have t0' : ¬ (M : Int) + ((k : Int) + 2) < (j : Int) + ((k : Int) + 3) := by omega
          replace hq2 := Lib.hid hq2
          replace hq3 := Lib.hid hq3
          go_wp2_with fail
          refine hma.mono ?_
          rintro e w2 ⟨R, c, rfl, hS, hR, hcw, hv⟩
          have hz1 := hS.arr.cellN (i := oh + (k + 2)) (by rw [spl_length (by omega)]; omega)
          have hz2 := hS.arr.frozen (oh + (k + 2))
          have hS3 := hS.next (k := k + 2) hR (by omega) c hcw
          have hv3 : val (R ++ [c]) = val V * qh := by rw [val_snoc, hR, hv, Nat.add_zero]
          have hl3 : (R ++ [c]).length = k + 3 := by rw [List.length_append, hR]; rfl
          have hw3 : Wd (R ++ [c]) := by
            have h1 := hS3.arr.wd
            unfold spl at h1
            exact h1.left.right
          generalize R ++ [c] = RH at hS3 hv3 hl3 hw3
          have hU3 := hS3.other (Ne.symm hhu) hi.hU
          have hV3 : At (w2.setCell ⟨bh, oh + (k + 2), none⟩ (.int .u64 (c : Int))) bv ov V := hi.hV.sub hi.hH hS3 (by omega) hsep
          have hc3' : Chg wr (w2.setCell ⟨bh, oh + (k + 2), none⟩ (.int .u64 (c : Int))) (fun k => k = bu ∨ k = bh) := hS3.chg.mono (fun _ _ h => .inr h)
          replace hv3 := Lib.hid hv3
          clear hma hv hS
          go_upto_region 28 with (fail)
          have hH3 := hS3.arr
          generalize w2.setCell ⟨bh, oh + (k + 2), none⟩ (.int .u64 (c : Int)) = w3 at hU3 hV3 hc3' hH3 ⊢
          have hd : Chg w3 w3.drew (fun _ => False) := (Chg.refl w3 _).drew
          have hbT := hT.out
          have hU4 := hd.arr hU3 (fun h => h)
          have hH4 := hd.arr hH3 (fun h => h)
          have hV4 := hV3.chg hd (fun h => h)
          have hc4 : Chg wr w3.drew (fun k => k = bu ∨ k = bh) := hc3'.trans (hd.mono (fun _ _ h => h.elim))
          have hTU : (U'.drop j).take (k + 3) = T := by rw [← hbT, List.drop_take, List.take_take, Nat.min_eq_left (by omega)]
          have hsub := subVV_c w3.drew bu j (k + 3) (cu - j) bu j (cu - j) bh oh G U' T RH (by omega) hU4 (by omega) hTl.out hl3 hTw hw3
            (by rw [← hTU]; exact Rd.mk hU4 (by omega) hU4 (by omega) (.inr (Nat.le_refl _)))
            (by
              have h1 := Rd.mk (n := k + 3) (ox := oh) hU4 (oz := j) (by omega) hH4 (by rw [spl_length (by omega)]; omega) (.inl hhu)
              have h2 := spl_take_drop (C := H') (R := RH) (o := oh) (by omega)
              rw [hl3] at h2
              rwa [h2] at h1)
          have hbT2 := Lib.hid hbT
          have s1 : IntKind.i64.wrap ((j : Int) + ((k : Int) + 3)) = (j : Int) + ((k : Int) + 3) := IntWalk.i64_in _ (by omega)
          have s2 : (j : Int) ≤ (j : Int) + ((k : Int) + 3) := by omega
          have s3 : (j : Int) + ((k : Int) + 3) ≤ (cu : Int) := by omega
          have s4 : ((j : Int) + ((k : Int) + 3)).toNat = j + (k + 3) := by omega
          have s5 : (0 : Int) ≤ (j : Int) + ((k : Int) + 3) := by omega
          have s6 : ¬ cu = j := by omega
          have s7 : (0 : Int) ≤ (k : Int) + 3 := by omega
          have s8 : (k : Int) + 3 ≤ (G : Int) := by omega
          have s9 : ((k : Int) + 3).toNat = k + 3 := by omega
          clear hd hbT hU3 hH3 hV3 hc3' hS3 hc1 hc2 hc3
          replace hTU := Lib.hid hTU
          go_still_tail 15, (by kernel_rfl)
          change wpList _ _ _ _ _ w3.drew
          go_wp2_with fail
          refine hsub.mono ?_
          rintro e w4 ⟨R2, c2, rfl, hS5, hR2, hWR2, hc2l, hv5⟩
          have hH5 := hS5.other hhu hH4
          have hV5 := hV4.chg hS5.chg hbv1
          have hc5 : Chg wr w4 (fun k => k = bu ∨ k = bh) := hc4.trans (hS5.chg.mono (fun _ _ h => .inl (.inl h)))
          have hvpos : 0 < val V := by
            rcases Nat.eq_zero_or_pos (val V) with h | h
            · have h1 := hTv2.out
              rw [h] at h1; omega
            · exact h
          have hdm : val T / val V * val V + val T % val V = val T := by rw [Nat.mul_comm]; exact Nat.div_add_mod _ _
          have hml : val T % val V < val V := Nat.mod_lt _ hvpos
          replace hdm := Lib.hid hdm
          replace hv5 := Lib.hid hv5
          clear hsub hc4
          go_upto_if 148 with (fail)
          go_cut [15] from 45 to 200 (fun q wr' => q = .int .u64 ((val T / val V : Nat) : Int) ∧ ∃ R5, Arr wr' bu (spl U' j R5) ∧ R5.length = k + 3 ∧ val R5 = val T % val V ∧ Arr wr' bh (spl H' oh RH) ∧ At wr' bv ov V ∧ Chg wr wr' (fun k => k = bu ∨ k = bh))
          case first =>
            by_cases hc0 : c2 = 0
            · subst hc0
              have hqe : qh = val T / val V ∧ val R2 = val T % val V := by
                have h1 := hv5.out
                have h2 := hv3.out
                have h3 := hdm.out
                rw [Nat.mul_zero, Nat.add_zero, h2] at h1
                have h4 : qh = val T / val V := by
                  have h5 := hq2.out
                  have h6 := hq3.out
                  rcases Nat.lt_or_ge (val T / val V) qh with h7 | h7
                  · have h8 : qh = val T / val V + 1 := by omega
                    rw [h8, Nat.mul_succ, Nat.mul_comm (val V)] at h1
                    omega
                  · omega
                refine ⟨h4, ?_⟩
                rw [h4, Nat.mul_comm (val V)] at h1
                omega
              obtain ⟨hqe1, hqe2⟩ := hqe
              replace hqe2 := Lib.hid hqe2
              replace hqe1 := Lib.hid hqe1
              go_wp2
              go_meet
              exact ⟨by rw [hqe1.out], R2, hS5.arr, hR2, hqe2.out, hH5, hV5, hc5⟩
            · obtain rfl : c2 = 1 := by omega
              have hqe : qh = val T / val V + 1 ∧ val R2 + val V = val T % val V + WB ^ (k + 3) := by
                have h1 := hv5.out
                have h2 := hv3.out
                have h3 := hdm.out
                have hwR := val_lt hWR2
                rw [hR2] at hwR
                rw [Nat.mul_one, h2] at h1
                have h4 : qh = val T / val V + 1 := by
                  have h5 := hq2.out
                  have h6 := hq3.out
                  rcases Nat.lt_or_ge (val T / val V) qh with h7 | h7
                  · omega
                  · have h8 : qh = val T / val V := by omega
                    rw [h8, Nat.mul_comm (val V)] at h1
                    omega
                refine ⟨h4, ?_⟩
                rw [h4, Nat.mul_succ, Nat.mul_comm (val V)] at h1
                omega
              obtain ⟨hqe1, hqe2⟩ := hqe
              have hq1' : wsub qh 1 = val T / val V := by
                have h1 : val T / val V + 1 < WB := by rw [← hqe1]; exact hq1
                rw [hqe1, wsub_of (x := val T / val V + 1) (y := 1) (Nat.le_add_left _ _) h1, Nat.add_sub_cancel]
              have hd5 : Chg w4 w4.drew (fun _ => False) := (Chg.refl w4 _).drew
              have hU6 := hd5.arr hS5.arr (fun h => h)
              have hH6 := hd5.arr hH5 (fun h => h)
              have hV6 := hV5.chg hd5 (fun h => h)
              have hc6 : Chg wr w4.drew (fun k => k = bu ∨ k = bh) := hc5.trans (hd5.mono (fun _ _ h => h.elim))
              have hspl : (spl U' j R2).length = U'.length := spl_length (by omega)
              have hX6 : ((spl U' j R2).drop j).take (k + 2) = R2.take (k + 2) := by
                have h1 := spl_take_drop (C := U') (R := R2) (o := j) (by omega)
                rw [hR2] at h1
                rw [show ((spl U' j R2).drop j).take (k + 2) = (((spl U' j R2).drop j).take (k + 3)).take (k + 2) by rw [List.take_take, Nat.min_eq_left (by omega)], h1]
              have hadd := addVV_c w4.drew bu j (k + 2) (cu - j) bu j (cu - j) bv ov cv (spl U' j R2) (R2.take (k + 2)) V (by omega) hU6 (by omega) (by rw [List.length_take]; omega) hV (hWR2.take _) WV
                (by rw [← hX6]; exact Rd.mk hU6 (by omega) hU6 (by omega) (.inr (Nat.le_refl _))) (hV6.rd hU6 hV (by omega) (.inl hbv1))
              have r1 : IntKind.i64.wrap ((j : Int) + ((k : Int) + 2)) = (j : Int) + ((k : Int) + 2) := IntWalk.i64_in _ (by omega)
              have r2 : (j : Int) ≤ (j : Int) + ((k : Int) + 2) := by omega
              have r3 : (j : Int) + ((k : Int) + 2) ≤ (cu : Int) := by omega
              have r4 : ((j : Int) + ((k : Int) + 2)).toNat = j + (k + 2) := by omega
              have r5 : (0 : Int) ≤ (j : Int) + ((k : Int) + 2) := by omega
              have r6 : (k : Int) + 2 < (k : Int) + 3 := by omega
              have r7 : (j : Int) + ((k : Int) + 2) < (M : Int) + ((k : Int) + 2) := by omega
              replace hqe1 := Lib.hid hqe1
              replace hqe2 := Lib.hid hqe2
              replace hq1' := Lib.hid hq1'
              replace hX6 := Lib.hid hX6
              clear hd5
              go_upto_region 30 with (fail)
              go_still_tail 13, (by kernel_rfl)
              change wpList _ _ _ _ _ w4.drew
              go_wp2_with fail
              refine hadd.mono ?_
              rintro e w5 ⟨R3, c3, rfl, hS7, hR3, hc3l, hv7⟩
              clear hadd
              have hlR3 : (spl (spl U' j R2) j R3).length = U'.length := by rw [spl_length (by omega), hspl]
              have hu1 := hS7.arr.cellN (i := j + (k + 2)) (by omega)
              have hu2 := hS7.arr.frozen (j + (k + 2))
              have htopd : nth (spl (spl U' j R2) j R3) (j + (k + 2)) = nth R2 (k + 2) := by
                rw [nth_spl_ge (C := spl U' j R2) (o := j) (R := R3) (by omega) (by omega), nth_spl_mid (C := U') (o := j) (R := R2) (by omega) (by omega)]
              have hspl2 := spl_fix (U := U') (j := j) (x := wadd (nth R2 (k + 2)) c3) (by omega) hR2 hR3
              have hS8 := hS7.set (i := j + (k + 2)) _ (wadd_lt (nth R2 (k + 2)) c3)
              rw [hspl2] at hS8
              have hwR3 : Wd R3 := by
                have h1 := hS7.arr.wd
                unfold spl at h1
                exact h1.left.right
              have hrl : val T % val V < WB ^ (k + 2) := by
                have h1 := val_lt WV
                rw [hV] at h1
                omega
              have hval := back_val hR2 hR3 hwR3 hv7 hqe2.out hrl
              have hH8 := hS8.other hhu hH6
              have hV8 := hV6.chg hS8.chg hbv1
              have hc8 : Chg wr _ (fun k => k = bu ∨ k = bh) := hc6.trans (hS8.chg.mono (fun _ _ h => .inl (.inl h)))
              rw [htopd] at hu1
              replace hval := Lib.hid hval
              replace htopd := Lib.hid htopd
              replace hspl2 := Lib.hid hspl2
              have hl8 : (R3 ++ [wadd (nth R2 (k + 2)) c3]).length = k + 3 := by rw [List.length_append, hR3]; rfl
              go_wp2
              go_meet
              exact ⟨by rw [hq1'.out], _, hS8.arr, hl8, hval.out, hH8, hV8, hc8⟩
          case rest =>
            obtain ⟨hq, R5, hU9, hR5, hv9, hH9, hV9, hc9⟩ := hcut
            have hst := div_step (k := k) (j := j) (M := M) (N := M + (k + 2)) rfl hjlt (by omega) (by have := hi.lQ; omega) hT.out hTv1.out hR5 hv9 hvpos hi.eq
            have hqw : val T / val V < WB := by
              have h1 := hq2.out
              omega
            clear hq2 hq3 hdm hb2 hb3
            generalize val T / val V = q at hq hst hqw
            subst hq
            have hl9 : (spl U' j R5).length = U'.length := spl_length (by omega)
            have hQ9 := hc9.arr hi.hQ (fun h => h.elim hqu (fun h => hhq h.symm))
            have hlQ := hi.lQ
            have hu1 := hU9.cellN (i := j + (k + 1)) (by omega)
            have hz1 := hQ9.cellN (i := j) (by omega)
            have hz2 := hQ9.frozen j
            have hjm : ((j : Int) == (M : Int)) = false := by rw [beq_eq_false_iff_ne]; omega
            have hS9 := (Sub.refl hQ9).set (i := j) _ hqw
            have hcA : Chg w1 wr (fun k => k = bu ∨ k = bq ∨ k = bh) := hi.chg
            have hlU9 := hi.lU
            have hlH9 := hi.lH
            have hnu : nth ((spl U' j R5).take (M + (k + 2))) (j + (k + 1)) = nth (spl U' j R5) (j + (k + 1)) := nth_take (by omega)
            have hinv : DivInv w1 (wc.setCell ⟨bq, j, none⟩ (.int .u64 (q : Int))) bu bq bh bv ov U V M (M + (k + 2)) Q.length H.length j (spl U' j R5) (Q'.set j q) (spl H' oh RH) :=
              ⟨hS9.other (Ne.symm hqu) hU9, by omega, hS9.arr, by rw [List.length_set]; exact hlQ, hS9.other hhq hH9, by rw [spl_length (by omega)]; exact hlH9, hV9.chg hS9.chg hbv2,
                (hcA.trans (hc9.mono (fun _ _ h => .inl (h.elim .inl (fun h => .inr (.inr h)))))).trans (hS9.chg.mono (fun _ _ h => .inl (.inr (.inl h)))), hst.1, hst.2⟩
            replace hinv := Lib.hid hinv
            replace hnu := Lib.hid hnu
            replace hqw := Lib.hid hqw
            clear hi hc5 hH5 hV5 hS5 hv5 hst hv9
            go_wp2
            go_roundw
            case rel => exact ⟨j, by omega, rfl, _, _, _, hinv.out, by rw [hnu.out], fun h => by omega⟩
            case measure => simp [intOf]
end Go.Proofs.YtcoljeafgiemkaaGreatDoor

namespace Go.Proofs.YtcoljeafgiemkaaGreatDoor
open Go Go.RowKit

/-- What divLarge and div hand back: quotient and remainder, each in its own place. -/
def DivRes (w w' : World) (oz o2 : Option Nat) (rq rr : Value) (q r : Nat) : Prop :=
  ∃ oq or', IsNat w' rq q oq ∧ IsNat w' rr r or' ∧ (oq = oz ∨ oq = none ∨ ∃ b, oq = some b ∧ w.heap.size ≤ b) ∧ (or' = o2 ∨ or' = none ∨ ∃ b, or' = some b ∧ w.heap.size ≤ b) ∧ (∀ b, oq = some b → or' ≠ some b)

theorem digs_top {n : Nat} (h : n ≠ 0) : nth (digs n) ((digs n).length - 1) ≠ 0 := by
  have hne : digs n ≠ [] := fun e => h (digs_eq_nil.1 e)
  have h1 := digs_last hne
  rw [List.getLast_eq_getElem] at h1
  unfold nth
  rw [List.getElem?_eq_getElem (by have := List.length_pos_iff.2 hne; omega)]
  exact h1

theorem Stor.ne {w : World} {v : Value} {b t : Nat} {cs : Array Value} {T : TypeId} (h : Stor w v (some b)) (ht : w.heap[t]? = some (.cells cs T (0, 0))) (hT : T ≠ 154) : b ≠ t := by
  rcases h with ⟨_, h⟩ | ⟨b', l, cap, C, h, _, _, ha, _⟩
  · cases h
  · cases h; exact ha.ne ht hT

theorem Arr.neVar {w : World} {b g : Nat} {C : List Nat} {n : Int} (ha : Arr w b C) (hC : 0 < C.length) (h : w.cell? ⟨g, 0, none⟩ = some (.int .i64 n)) : b ≠ g := by
  rintro rfl
  rw [ha.cellN hC] at h
  simp at h
def topOf : Option (Nat × Nat × Nat) → Nat
  | none => 0
  | some (_, _, l) => l
theorem ltB' {w : World} {b : Nat} {o : Obj} (h : w.heap[b]? = some o) : b < w.heap.size := by
  rcases Nat.lt_or_ge b w.heap.size with h' | h'
  · exact h'
  · rw [Array.getElem?_eq_none h'] at h; cases h
theorem Stor.neVar {w : World} {v : Value} {b g : Nat} {n : Int} (hs : Stor w v (some b)) (h : w.cell? ⟨g, 0, none⟩ = some (.int .i64 n)) : b ≠ g := by
  rcases hs with ⟨_, hs⟩ | ⟨b', l, cap, C, hs, _, _, ha, hc, hcap⟩
  · cases hs
  · cases hs; exact ha.neVar (by omega) h

set_option maxRecDepth 200000 in
set_option maxHeartbeats 4000000 in
theorem divLarge_c (w : World) (z z2 u v : Value) (U V s : Nat) (oz o2 ou ov : Option Nat) (hG : Glob w) (hs : Stk0 w s) (hz : Stor w z oz) (h2 : Stor w z2 o2) (hu : IsNat w u U ou) (hv : IsNat w v V ov)
    (hdist : ∀ b, oz = some b → o2 ≠ some b) (hV2 : 2 ≤ (digs V).length) (hV40 : (digs V).length < 40) (hle : V ≤ U) (hU : (digs U).length ≤ 250) :
    Calls Tryz.prog 204 #[z, .pointer (some ⟨s, 0, none⟩), z2, u, v] w fun e w' => ∃ rq rr, e = .returned (.tuple #[rq, rr]) ∧ DivRes w w' oz o2 rq rr (U / V) (U % V) ∧
      StkW w' s w.heap.size 0 ∧ Chg w w' (fun k => some k = oz ∨ some k = o2 ∨ k = s) := by
  have hV0 : V ≠ 0 := by rintro rfl; rw [digs_zero] at hV2; simp at hV2
  have hU0 : U ≠ 0 := by omega
  obtain ⟨bvi, cvi, Cvi, rfl, rfl, havi, hcvi, hcapvi, htvi, hlvi, hpvi⟩ := hv.pos hV0
  obtain ⟨bui, cui, Cui, rfl, rfl, haui, hcui, hcapui, htui, hlui, hpui⟩ := hu.pos hU0
  have hlen : (digs V).length ≤ (digs U).length := digs_len_mono hle
  obtain ⟨pz, lz, cz, rfl⟩ := stor_slice hz
  obtain ⟨p2, l2, c2, rfl⟩ := stor_slice h2
  have hvV : val (digs V) = V := val_digs V
  have hvU : val (digs U) = U := val_digs U
  have hwV := Wd_digs V
  have hwU := Wd_digs U
  have htop := digs_top hV0
  generalize hVL : digs V = VL at *
  generalize hUL : digs U = UL at *
  obtain ⟨k, hk⟩ : ∃ k, VL.length = k + 2 := ⟨VL.length - 2, by omega⟩
  obtain ⟨m0, hm⟩ : ∃ m0, UL.length = m0 + (k + 2) := ⟨UL.length - (k + 2), by omega⟩
  rw [hk, show k + 2 - 1 = k + 1 by omega] at htop
  have hwt := hwV.nth (k + 1)
  have hct := havi.cellN (i := k + 1) (by omega)
  have hct2 : nth Cvi (k + 1) = nth VL (k + 1) := by
    have := nth_take (l := Cvi) (i := k + 1) (k := VL.length) (by omega)
    rw [htvi] at this
    exact this.symm
  rw [hct2] at hct
  have hnl := fun w => nlz_c (nth VL (k + 1)) hwt w
  have hsh := nlzN_lt hwt (by omega)
  have hnz := nlz_shift hwt (by omega)
  generalize nlzN (nth VL (k + 1)) = sh at hnl hsh hnz
  replace hnz := Lib.hid hnz
  have hsv := save0 w s hs
  have hnat := stkNat0 w s (k + 2) hs (by omega) (by omega)
  have htvi0 : (Cvi.drop 0).take (k + 2) = VL := by rw [List.drop_zero, ← hk]; exact htvi
  have htui0 : (Cui.drop 0).take (m0 + (k + 2)) = UL := by rw [List.drop_zero, ← hm]; exact htui
  have hk' := hk
  have hm' := hm
  have hlv2 : k + 2 ≤ Cvi.length := by omega
  have hlu2 : m0 + (k + 2) ≤ Cui.length := by omega
  rw [hk, hm]
  rw [show ((k + 2 : Nat) : Int) = (k : Int) + 2 by omega] at hnat
  replace hk := Lib.hid hk
  replace hm := Lib.hid hm
  replace htvi0 := Lib.hid htvi0
  replace htui0 := Lib.hid htui0
  replace hvV := Lib.hid hvV
  replace hvU := Lib.hid hvU
  replace hVL := Lib.hid hVL
  replace hUL := Lib.hid hUL
  have hm1 : m0 + (k + 2) ≤ 250 := by omega
  have hk1 : k + 2 < 40 := by omega
  clear hk' hm' htvi htui hct2 hv hu hlen hV2 hV40 hU hlvi hlui hpvi hpui
  go_enter_defers Tryz.func204, Tryz.ntmps204
  go_wp2_with fail
  refine hsv.mono ?_
  rintro e w' ⟨rfl, hw⟩
  obtain rfl := hw
  go_wp2_with fail
  refine (hnl _).mono ?_
  rintro e w' ⟨rfl, hw⟩
  obtain rfl := hw
  go_wp2_with fail
  refine hnat.mono ?_
  rintro e w1 ⟨bv, Gv, Cv, st, rfl, hbv, hav, hlv, hGv, hch1, hst, hstd⟩
  have h2s : ∀ b, o2 = some b → ¬ b = s := fun b e => Stor.ne (e ▸ h2) hs (by decide)
  have hzs : ∀ b, oz = some b → ¬ b = s := fun b e => Stor.ne (e ▸ hz) hs (by decide)
  have hmk := make_c w1 _ o2 (h2.chg hch1 h2s) (m0 + (k + 2) + 1) (by omega) (by omega)
  rw [show ((m0 + (k + 2) + 1 : Nat) : Int) = (m0 : Int) + ((k : Int) + 2) + 1 by omega] at hmk
  go_wp2_with fail
  refine hmk.mono ?_
  rintro e w2 ⟨r, rfl, bu, capu, Cu, rfl, hau, hCu, hnu, hcapu, hbu, hch2⟩
  have hbu1 : bu ≠ bv := by
    rcases hbu with ⟨e, _⟩ | e
    · have h3 : bu < w.heap.size := by
        subst e
        exact h2.lt
      omega
    · have := hav.lt; omega
  have hav2 := hch2.arr hav (fun h => h)
  have havi1 := hch1.arr havi (havi.ne hs (by decide))
  have haui1 := hch1.arr haui (haui.ne hs (by decide))
  have havi2 := hch2.arr havi1 (fun h => h)
  have haui2 := hch2.arr haui1 (fun h => h)
  have hbvi : bvi ≠ bv := by have := havi.lt; omega
  have hbui : bui ≠ bv := by have := haui.lt; omega
  clear hmk hnat hnl hsv hct
  go_upto_if 40 with (fail)
  go_cut [] from 40 to 100 (fun wr => ∃ V' U', V'.length = k + 2 ∧ U'.length = m0 + (k + 2) + 1 ∧ val V' = V * 2 ^ sh ∧ val U' = U * 2 ^ sh ∧ WB ≤ 2 * nth V' (k + 1) ∧ nth U' (m0 + (k + 2)) < nth V' (k + 1) ∧ Wd V' ∧ Arr wr bv (spl Cv 0 V') ∧ Arr wr bu (spl Cu 0 U') ∧ Chg w2 wr (fun k => k = bv ∨ k = bu))
  case first =>
    by_cases h0 : sh = 0
    · have hz0 : ((sh : Int) == 0) = true := by simp; exact h0
      replace h0 := Lib.hid h0
      have hsrc1 : ∀ j, j < VL.length → w2.cell? ⟨bvi, 0 + j, none⟩ = some (.int .u64 (nth VL j : Int)) := by
        intro i hi
        have h3 := hk.out
        rw [Nat.zero_add, havi2.cellN (by omega), ← htvi0.out, nth_take (by omega), List.drop_zero]
      have hmin1 : VL.length = Nat.min (k + 2) (k + 2) := by rw [hk.out]; simp
      have hmin2 : UL.length = Nat.min (m0 + (k + 2)) (m0 + (k + 2)) := by rw [hm.out]; simp
      have hf1 : 0 + VL.length ≤ Cv.length := by rw [hk.out]; omega
      have hf2 : 0 + UL.length ≤ Cu.length := by rw [hm.out]; omega
      replace hsrc1 := Lib.hid hsrc1
      replace hmin1 := Lib.hid hmin1
      replace hmin2 := Lib.hid hmin2
      replace hf1 := Lib.hid hf1
      replace hf2 := Lib.hid hf2
      have c1 : (m0 : Int) + ((k : Int) + 2) ≤ (capu : Int) := by omega
      have c2' : ((m0 : Int) + ((k : Int) + 2)).toNat = m0 + (k + 2) := by omega
      have c3 : (0 : Int) ≤ (m0 : Int) + ((k : Int) + 2) := by omega
      go_upto_region 8 with (fail)
      refine wp_region_lit ?_
      go_wp2_with (refine wpList_copyW rfl (.tmp 41) (.tmp 42) 69 69 rfl Tryz.underlying69 bv 0 (k + 2) Gv bvi 0 (k + 2) cvi rfl rfl Cv VL hav2 hwV hmin1.out hf1.out hsrc1.out ?_)
      intro w3 hS3
      have hau3 := hS3.other hbu1 hau
      have haui3 := hS3.other hbui haui2
      have hsrc2 : ∀ j, j < UL.length → w3.cell? ⟨bui, 0 + j, none⟩ = some (.int .u64 (nth UL j : Int)) := by
        intro i hi
        have h3 := hm.out
        rw [Nat.zero_add, haui3.cellN (by omega), ← htui0.out, nth_take (by omega), List.drop_zero]
      replace hsrc2 := Lib.hid hsrc2
      go_upto_region 9 with (fail)
      refine wp_region_lit ?_
      go_wp2_with (refine wpList_copyW rfl (.tmp 47) (.tmp 48) 69 69 rfl Tryz.underlying69 bu 0 (m0 + (k + 2)) capu bui 0 (m0 + (k + 2)) cui rfl rfl Cu UL hau3 hwU hmin2.out hf2.out hsrc2.out ?_)
      intro w4 hS4
      have hz1 := hS4.arr.cellN (i := m0 + (k + 2)) (by rw [spl_length hf2.out]; omega)
      have hz2 := hS4.arr.frozen (m0 + (k + 2))
      have hS5 := hS4.next (k := m0 + (k + 2)) hm.out (by omega) 0 WB_pos
      rw [Nat.zero_add] at hS5
      go_wp2
      go_meet
      have e2 : 2 ^ sh = 1 := by rw [h0.out]
      have hn2 := hnz.out
      rw [e2, Nat.mul_one] at hn2
      refine ⟨VL, UL ++ [0], hk.out, by simp [hm.out], by rw [e2, hvV.out, Nat.mul_one], ?_, hn2.2, ?_, hwV, hS5.other hbu1.symm hS3.arr, hS5.arr, (hS3.chg.mono (fun _ _ h => .inl h)).trans (hS5.chg.mono (fun _ _ h => .inl (.inr h)))⟩
      · rw [e2, Nat.mul_one, show UL ++ [0] = UL ++ List.replicate 1 0 from rfl, val_append_zeros, hvU.out]
      · have h9 : nth (UL ++ [0]) (m0 + (k + 2)) = 0 := by
          rw [← hm.out]; unfold nth; simp
        rw [h9]; omega
    · have hz0 : ((sh : Int) == 0) = false := by simp; exact h0
      have hsp : 0 < sh := by omega
      have q1 := lshVU_c w2 bv 0 (k + 1) Gv bvi 0 cvi sh Cv Cvi (by omega) hsp hsh hav2 (by omega) havi2 (by omega) (.inl hbvi)
      rw [show k + 1 + 1 = k + 2 by omega] at q1
      replace q1 := Lib.hid q1
      replace h0 := Lib.hid h0
      go_wp2_with fail
      with_reducible refine q1.out.mono ?_
      rintro e w3 ⟨R, cc, rfl, hS3, hR, hcc, hval⟩
      have hau3 := hS3.other hbu1 hau
      have haui3 := hS3.other hbui haui2
      have q2 := lshVU_c w3 bu 0 (m0 + k + 1) capu bui 0 cui sh Cu Cui (by omega) hsp hsh hau3 (by omega) haui3 (by omega) (.inr (by omega))
      rw [show m0 + k + 1 + 1 = m0 + (k + 2) by omega] at q2
      replace q2 := Lib.hid q2
      replace hS3 := Lib.hid hS3
      replace hval := Lib.hid hval
      have c1 : (m0 : Int) + ((k : Int) + 2) ≤ (capu : Int) := by omega
      have c2' : ((m0 : Int) + ((k : Int) + 2)).toNat = m0 + (k + 2) := by omega
      have c3 : (0 : Int) ≤ (m0 : Int) + ((k : Int) + 2) := by omega
      go_wp2_with fail
      with_reducible refine q2.out.mono ?_
      rintro e w4 ⟨RU, cu, rfl, hS4, hRU, hcu, hvalU⟩
      have hf2 : 0 + RU.length ≤ Cu.length := by omega
      have hz1 := hS4.arr.cellN (i := m0 + (k + 2)) (by rw [spl_length hf2]; omega)
      have hz2 := hS4.arr.frozen (m0 + (k + 2))
      have hS5 := hS4.next (k := m0 + (k + 2)) hRU (by omega) cu hcu
      rw [Nat.zero_add] at hS5
      replace hS5 := Lib.hid hS5
      replace hvalU := Lib.hid hvalU
      go_wp2
      go_meet
      have wd : ∀ {C L : List Nat}, Wd (spl C 0 L) → Wd L := fun h x hx => h x (by unfold spl; simp [hx])
      have hwR := wd hS3.out.arr.wd
      have hv1 := hval.out
      rw [htvi0.out] at hv1
      have hk3 := hk.out
      obtain ⟨r1, r2⟩ := top_shift (k := k + 1) hsh hwV hk3 hR hwR hv1 hnz.out
      have hv2 := hvalU.out
      rw [htui0.out] at hv2
      have r3 := carry_lt hwU hm.out hv2
      have hp : 2 ^ sh ≤ nth VL (k + 1) * 2 ^ sh := Nat.le_mul_of_pos_left _ (by omega)
      have hn2 := hnz.out.2
      have r4 : nth (RU ++ [cu]) (m0 + (k + 2)) = cu := by rw [← hRU]; unfold nth; simp
      refine ⟨R, RU ++ [cu], hR, by simp [hRU], by rw [r1, hvV.out], ?_, by omega, by rw [r4]; omega, hwR, hS5.out.other hbu1.symm hS3.out.arr, hS5.out.arr, (hS3.out.chg.mono (fun _ _ h => .inl h)).trans (hS5.out.chg.mono (fun _ _ h => .inl (.inr h)))⟩
      rw [val_append, hRU, ← hvU.out, ← hv2]; simp [val]
  case rest =>
    obtain ⟨V', U', hlV', hlU', hvV', hvU', hnV', htU', hwV', haV', haU', hch3⟩ := hcut
    have hchc : Chg w wc (fun k => k = s ∨ k = bv ∨ k = bu) := ((hch1.mono (fun _ _ h => .inl h)).trans (hch2.mono (fun _ _ h => h.elim))).trans (hch3.mono (fun _ _ h => .inl (.inr h)))
    have hozu : oz ≠ some bu := by
      intro e
      rcases hbu with ⟨e2, _⟩ | e2
      · exact hdist _ e e2
      · have h3 : bu < w.heap.size := by subst e; exact hz.lt
        have := hch1.size
        omega
    have hozv : oz ≠ some bv := by
      rintro e
      have h3 : bv < w.heap.size := by subst e; exact hz.lt
      omega
    have hzc := hz.chg hchc (fun b e => by
      rintro (h | h | h)
      · exact hzs b e h
      · exact hozv (h ▸ e)
      · exact hozu (h ▸ e))
    have hlU2 : (spl Cu 0 U').length = capu := by rw [spl_length (by omega), hCu]
    have huc : Stor wc (.slice (some ⟨bu, 0, none⟩) (m0 + (k + 2) + 1) capu) (some bu) := .inr ⟨bu, _, capu, _, rfl, rfl, hnu, haU', hlU2, hcapu⟩
    have hal := alias_c wc _ _ oz (some bu) hzc huc
    rw [show (decide (oz = some bu ∧ oz ≠ none)) = false by simp [hozu]] at hal
    have hg3 : wc.cell? ⟨3, 0, none⟩ = some (.int .i64 40) := by
      refine hchc.cell hG.g3 ?_
      rintro (h | h | h)
      · have h4 := cell1 hs
        have h5 := hG.g3
        have h6 : (3 : Nat) = s := h
        subst h6
        rw [h4] at h5; simp at h5
      · have h5 := lt_of_cell? hG.g3
        have h6 : (3 : Nat) = bv := h
        have h7 : (3 : Nat) < w.heap.size := h5
        omega
      · have h6 : (3 : Nat) = bu := h
        have h7 : (3 : Nat) < w.heap.size := lt_of_cell? hG.g3
        rcases hbu with ⟨e2, _⟩ | e2
        · subst e2; exact (h2.neVar hG.g3) h6.symm
        · have := hch1.size
          omega
    have hmq := fun n => make_c (wc.drewN n) _ oz (hzc.chg ((Chg.refl wc (fun _ => False)).drewN n) (fun _ _ h => h)) (m0 + 1) (by omega) (by omega)
    replace hmq := Lib.hid hmq
    go_wp2_with fail
    refine hal.mono ?_
    rintro e w' ⟨rfl, na, rfl⟩
    have hmq := hmq.out na
    rw [show ((m0 + 1 : Nat) : Int) = (m0 : Int) + 1 by omega] at hmq
    have q1 : IntKind.i64.wrap ((m0 : Int) + ((k : Int) + 2) - ((k : Int) + 2)) = (m0 : Int) := by rw [show (m0 : Int) + ((k : Int) + 2) - ((k : Int) + 2) = (m0 : Int) by omega]; exact IntWalk.i64_in _ (by omega)
    go_wp2_with fail
    refine hmq.mono ?_
    rintro e w5 ⟨r, rfl, bq, capq, Cq, rfl, haq, hCq, hnq, hcapq, hbq, hch5⟩
    have hch5' : Chg wc w5 (fun _ => False) := ((Chg.refl wc (fun _ => False)).drewN na).trans (hch5.mono (fun _ _ h => h.elim))
    have hbqu : bq ≠ bu := by
      rcases hbq with ⟨e, _⟩ | e
      · rintro rfl; exact hozu e
      · have h3 := haU'.lt
        have h4 : (wc.drewN na).heap.size = wc.heap.size := rfl
        omega
    have hbqv : bv ≠ bq := by
      rcases hbq with ⟨e, _⟩ | e
      · rintro rfl; exact hozv e
      · have h3 := haV'.lt
        have h4 : (wc.drewN na).heap.size = wc.heap.size := rfl
        omega
    have hg5 := hch5'.cell hg3 (fun h => h)
    have haV5 := hch5'.arr haV' (fun h => h)
    have haU5 := hch5'.arr haU' (fun h => h)
    have k40 : (k : Int) + 2 < 40 := by omega
    have hlC : V'.length ≤ Cv.length := by omega
    have hlCu : U'.length ≤ Cu.length := by omega
    have hne : s ≠ bv ∧ s ≠ bu ∧ s ≠ bq := by
      have hsc := lt_of_cell? (cell1 hs)
      have h1 : s < w.heap.size := hsc
      have h3 := hch1.size
      refine ⟨by omega, ?_, ?_⟩
      · rcases hbu with ⟨e, _⟩ | e
        · exact fun h => h2s _ e h.symm
        · omega
      · rcases hbq with ⟨e, _⟩ | e
        · exact fun h => hzs _ e h.symm
        · have h4 := haV'.lt
          have h5 : (wc.drewN na).heap.size = wc.heap.size := rfl
          have h6 := hchc.size
          omega
    have hcw5 : Chg w1 w5 (fun k => k = bv ∨ k = bu) := ((hch2.mono (fun _ _ h => h.elim)).trans (hch3.mono (fun _ _ h => .inl h))).trans (hch5'.mono (fun _ _ h => h.elim))
    have hst5 : StkS w5 s st := by
      refine hst.upd hcw5 (fun h => h.elim hne.1 hne.2.1) ?_ ?_
      · rintro t b l e
        subst e
        obtain ⟨c, C, hS⟩ := hst
        rintro (h | h)
        · exact hav.ne hS.ht (by decide) h.symm
        · subst h
          rcases hbu with ⟨e, _⟩ | e
          · exact (Stor.ne (e ▸ h2.chg hch1 h2s) hS.ht (by decide)) rfl
          · have := ltB' hS.ht; omega
      · rintro t b l C e hC
        rcases hstd with h | ⟨t', l', h, _, _, _⟩
        · rw [h] at e; cases e
        · rw [h] at e
          simp only [Option.some.injEq, Prod.mk.injEq] at e
          obtain ⟨_, rfl, _⟩ := e
          have := hav.uniq hC
          subst this
          exact ⟨_, haV5, by rw [spl_length (by omega)]⟩
    have hAt : At w5 bv 0 V' := fun i hi => by rw [Nat.zero_add, haV5.cellN (by rw [spl_length (by omega)]; omega), nth_spl0 hlC hi]
    have hsave : Calls Tryz.prog 222 #[.pointer (some ⟨s, 0, none⟩)] w5 fun e w' => e = .returned (.int .i64 ((topOf st : Nat) : Int)) ∧ w5 = w' := by
      have h := StkS.save hst5
      match st, hst5, h with
      | none, _, h => exact h
      | some (_, _, _), _, h => exact h
    have hnat := stkNat w5 s (k + 3) bv st V' hst5 (by omega) (by omega) hAt ⟨_, haV5, by rw [spl_length (by omega)]; omega⟩ (by
      rcases hstd with h | ⟨t', l', h, _, h1, h2⟩
      · exact .inl h
      · exact .inr ⟨t', l', h, by omega, by omega⟩)
    have nst : ∀ {x : Nat} {C : List Nat}, Arr w5 x C → x ≠ bv → ¬ StkBlk s st x := by
      intro x C hx hxv
      match st, hst5, hstd with
      | none, h, _ => exact fun e => hx.ne h (by decide) e
      | some (t, b, l), ⟨c, D, h⟩, hstd =>
        rcases hstd with h' | ⟨t', l', h', _, _, _⟩
        · cases h'
        · simp only [Option.some.injEq, Prod.mk.injEq] at h'
          obtain ⟨_, rfl, _⟩ := h'
          rintro (e | e)
          · exact hx.ne h.ht (by decide) e
          · exact hxv e
    have nbu := nst haU5 hbu1
    have nbq := nst haq hbqv.symm
    have hs15 : w.heap.size ≤ w5.heap.size := Nat.le_trans hch1.size hcw5.size
    have hdb := divBasic_c w5 (.pointer (some ⟨s, 0, none⟩)) bq capq bu capu bv 0 Gv (m0 + 1) k (topOf st) (spl Cu 0 U') Cq V'
      (fun v bh => Chg w5 v (StkBlk s st) ∧ (w5.heap.size ≤ bh ∨ bh = bv) ∧ (∃ H, Arr v bh H) ∧ StkW v s w.heap.size (topOf st))
      (fun v v' => StkW v' s w.heap.size 0 ∧ Chg v v' (Inner v w.heap.size))
      (by omega) (by omega) (by omega) hlV' hwV' hnV' (by omega) (by omega) (by omega) (by rw [hlU2]; omega) hbqu hbu1.symm hbqv
      (by rw [show m0 + 1 + (k + 1) = m0 + (k + 2) by omega, nth_spl0 hlCu (by omega)]; exact htU') hsave
      (hnat.mono (by
        rintro e v ⟨bh, oh, G, H, st', rfl, a1, a2, a3, a4, a5, a6, a7, a8, a9, a10⟩
        refine ⟨bh, oh, G, H, rfl, a1, a2, a3, ?_, ?_, a8.arr haU5 nbu, a8.arr haq nbq, a5, a6, a8, a4, ⟨H, a1⟩, ?_⟩
        · rcases a4 with h | h
          · have := haU5.lt; omega
          · rw [h]; exact hbu1.symm
        · rcases a4 with h | h
          · have := haq.lt; omega
          · rw [h]; exact hbqv
        · rcases hstd with h | ⟨t, l, h, ht, _, _⟩
          · subst h
            refine a7.weak (fun t b l e => ?_) (fun t b l e => Nat.zero_le _)
            rcases a9 rfl with h | ⟨t', b', l', h, h1, _⟩
            · rw [h] at e; cases e
            · rw [h] at e
              simp only [Option.some.injEq, Prod.mk.injEq] at e
              obtain ⟨rfl, _, _⟩ := e
              omega
          · subst h
            obtain ⟨l', e', hlo⟩ := a10 _ _ _ rfl
            subst e'
            obtain ⟨c, C, h1⟩ := a7
            have hu := a1.uniq h1.hb
            subst hu
            have := h1.hC
            exact .inr ⟨t, bh, l', c, ht, h1.hs, h1.ht, (show l ≤ c by omega), h1.hc⟩))
      (by
        rintro v bh v2 ⟨p1, p2', ⟨H, p3⟩, p4⟩ hc
        have au := p1.arr haU5 nbu
        have aq := p1.arr haq nbq
        have nin : ∀ {t : Nat} {cs : Array Value} {T : TypeId}, T ≠ 154 → v.heap[t]? = some (.cells cs T (0, 0)) → ¬ (t = bu ∨ t = bq ∨ t = bh) := by
          intro t cs T hT ht
          rintro (h | h | h)
          · exact au.ne ht hT h.symm
          · exact aq.ne ht hT h.symm
          · exact p3.ne ht hT h.symm
        have hns : ¬ (s = bu ∨ s = bq ∨ s = bh) := by
          rcases p4 with h | ⟨t, b, l, c, _, h, _⟩
          · exact nin (by decide) h
          · exact nin (by decide) h
        refine (restoreW v2 s w.heap.size (topOf st) .returning (p4.chg hc hns (fun t cs ht => nin (by decide) ht))).mono ?_
        rintro e u' v3 ⟨rfl, rfl, h⟩
        exact ⟨rfl, rfl, h⟩)
    rw [show m0 + 1 + (k + 2) = m0 + (k + 2) + 1 by omega] at hdb
    go_wp2_with fail
    with_reducible refine hdb.mono ?_
    rintro e w6 ⟨rfl, v1, bh, v2, U2, Q2, ⟨p1, p2', ⟨H, p3⟩, p4⟩, hcA, haU6, hlU6, haQ6, hlQ6, hmod, hdiv, hS6, hcB⟩
    have haQ7 := hcB.arr haQ6 (Inner.arr haQ6)
    have haU7 := hcB.arr haU6 (Inner.arr haU6)
    have tk : (spl Cu 0 U').take (m0 + (k + 2) + 1) = U' := by rw [← hlU']; exact spl_zero_take hlCu
    have hp : 0 < 2 ^ sh := Nat.pow_pos (by omega)
    rw [tk, hvV', hvU', Nat.mul_mod_mul_right] at hmod
    rw [tk, hvV', hvU', Nat.mul_div_mul_right _ _ hp] at hdiv
    have n1 := norm_c w6 bq (m0 + 1) capq Q2 haQ7 (by omega) (by omega) (by omega)
    rw [hdiv] at n1
    have hS0 : ∀ k, k = bu → (some k = oz ∨ some k = o2 ∨ k = s) ∨ w.heap.size ≤ k := by
      rintro k rfl
      rcases hbu with ⟨e, _⟩ | e
      · exact .inl (.inr (.inl e.symm))
      · have := hch1.size; exact .inr (by omega)
    have hS1 : ∀ k, k = bq → (some k = oz ∨ some k = o2 ∨ k = s) ∨ w.heap.size ≤ k := by
      rintro k rfl
      rcases hbq with ⟨e, _⟩ | e
      · exact .inl (.inl e.symm)
      · have h5 : (wc.drewN na).heap.size = wc.heap.size := rfl
        have h6 := hchc.size
        exact .inr (by omega)
    have hblk : ∀ k, StkBlk s st k → (some k = oz ∨ some k = o2 ∨ k = s) ∨ w.heap.size ≤ k := by
      intro k h
      rcases hstd with e | ⟨t, l, e, ht, _, _⟩
      · subst e; exact .inl (.inr (.inr h))
      · subst e
        rcases h with h | h
        · exact .inr (by omega)
        · exact .inr (by omega)
    have t0 : Chg w w6 (fun k => some k = oz ∨ some k = o2 ∨ k = s) := by
      have u0 : Chg w wc (fun k => some k = oz ∨ some k = o2 ∨ k = s) := hchc.mono (fun k hk h => by
        rcases h with h | h | h
        · exact .inr (.inr h)
        · omega
        · exact (hS0 k h).resolve_right (by omega))
      have u1 := u0.trans (hch5'.mono (fun _ _ h => h.elim))
      have u2 := u1.trans (p1.mono (fun k _ h => hblk k h))
      have u3 := u2.trans (hcA.mono (fun k _ h => by
        rcases h with h | h | h
        · exact hS0 k h
        · exact hS1 k h
        · rcases p2' with h' | h' <;> exact .inr (by omega)))
      exact u3.trans (hcB.mono (fun k _ h => .inr h.1))
    have fin : ∀ wf UF, Chg w6 wf (fun k => k = bu) → Arr wf bu UF → UF.length = capu → val (UF.take (m0 + (k + 2) + 1)) = U % V → ∀ w7, StkW w7 s w.heap.size 0 → Chg wf w7 (Inner wf w.heap.size) →
        DivRes w w7 oz o2 (.slice (some ⟨bq, 0, none⟩) (digs (U / V)).length capq) (.slice (some ⟨bu, 0, none⟩) (digs (U % V)).length capu) (U / V) (U % V) ∧ StkW w7 s w.heap.size 0 ∧ Chg w w7 (fun k => some k = oz ∨ some k = o2 ∨ k = s) := by
      intro wf UF hc ha hl hv w7 hs7 hc7
      have aq := hc.arr haQ7 hbqu
      have aq7 := hc7.arr aq (Inner.arr aq)
      have au7 := hc7.arr ha (Inner.arr ha)
      have iq := isNat_of (l := m0 + 1) aq7 (hlQ6.trans hCq) hcapq (by omega)
      have iu := isNat_of (l := m0 + (k + 2) + 1) au7 hl hcapu (by omega)
      rw [hdiv] at iq
      rw [hv] at iu
      refine ⟨⟨some bq, some bu, iq, iu, ?_, ?_, fun b h => by cases h; intro h; exact hbqu (Option.some.inj h).symm⟩, hs7, (t0.trans (hc.mono (fun k _ h => hS0 k h))).trans (hc7.mono (fun k _ h => .inr h.1))⟩
      · rcases hS1 bq rfl with (h | h | h) | h
        · exact .inl h
        · exact absurd h (fun h => by
            rcases hbq with ⟨e, _⟩ | e
            · exact hdist _ e h.symm
            · have h5 : (wc.drewN na).heap.size = wc.heap.size := rfl
              have h6 := hchc.size
              have h7 : bq < w.heap.size := by rw [← h] at h2; exact h2.lt
              omega)
        · exact absurd h.symm hne.2.2
        · exact .inr (.inr ⟨bq, rfl, h⟩)
      · rcases hbu with ⟨e, _⟩ | e
        · exact .inl e.symm
        · have := hch1.size; exact .inr (.inr ⟨bu, rfl, by omega⟩)
    replace fin := Lib.hid fin
    have hlU6c : U2.length = capu := hlU6.trans hlU2
    replace n1 := Lib.hid n1
    clear hdb hsave hnat nst nbu nbq hS0 hS1 hblk t0 hcA hcB p1 p2' p3 p4 tk
    go_wp2_with fail
    with_reducible refine n1.out.mono ?_
    rintro e w' ⟨rfl, hw⟩
    obtain rfl := hw
    by_cases h0 : sh = 0
    · have e2 : 2 ^ sh = 1 := by rw [h0]
      rw [e2, Nat.mul_one] at hmod
      have hz0 : ((sh : Int) != 0) = false := by simp; exact h0
      have n2 := norm_c w6 bu (m0 + (k + 2) + 1) capu U2 haU7 (by omega) (by omega) (by omega)
      rw [hmod] at n2
      have hfin := fin.out w6 U2 (Chg.refl _ _) haU7 hlU6c hmod
      have hrs := restoreW w6 s w.heap.size 0 .returning hS6
      replace n2 := Lib.hid n2
      replace hfin := Lib.hid hfin
      replace hrs := Lib.hid hrs
      replace h0 := Lib.hid h0
      clear e2
      go_wp2_with fail
      with_reducible refine n2.out.mono ?_
      rintro e w' ⟨rfl, hw⟩
      obtain rfl := hw
      go_wp2
      refine leaves_cons (f := 221) (args := #[.pointer (some ⟨s, 0, none⟩), .int .i64 0]) (by simp) (by simp [go_sem]) ?_
      refine hrs.out.mono ?_
      rintro e u' w'' ⟨rfl, rfl, h1, h2⟩
      exact ⟨.tuple #[.slice (some ⟨bq, 0, none⟩) (digs (U / V)).length capq, .slice (some ⟨bu, 0, none⟩) (digs (U % V)).length capu], by simp [results, Tryz.results204, go_sem], _, _, rfl, hfin.out w'' h1 h2⟩
    · have hz0 : ((sh : Int) != 0) = true := by simp; exact h0
      have q3 := rshVU_c w6 bu 0 (m0 + (k + 2)) capu bu 0 capu sh U2 U2 (by omega) (by omega) hsh haU7 (by omega) haU7 (by omega) (.inr (Nat.le_refl _))
      rw [List.drop_zero, hmod, Nat.mul_div_cancel _ hp] at q3
      have hrs := fun wf (h : Chg w6 wf (fun k => k = bu)) (ha : Arr wf bu (spl U2 0 (digs 0))) => restoreW wf s w.heap.size 0 .returning (hS6.chg h (fun e => hne.2.1 e) (fun t cs ht e => haU7.ne ht (by decide) e.symm))
      have hns : ∀ wf, Chg w6 wf (fun k => k = bu) → StkW wf s w.heap.size 0 := fun wf h => hS6.chg h (fun e => hne.2.1 e) (fun t cs ht e => haU7.ne ht (by decide) e.symm)
      clear hrs
      replace q3 := Lib.hid q3
      replace h0 := Lib.hid h0
      replace hns := Lib.hid hns
      go_wp2_with fail
      with_reducible refine q3.out.mono ?_
      rintro e w7 ⟨R, c, rfl, hS7, hR, hval⟩
      have hlR : (spl U2 0 R).length = capu := by rw [spl_length (by omega)]; exact hlU6c
      have tk2 : (spl U2 0 R).take (m0 + (k + 2) + 1) = R := by rw [← hR]; exact spl_zero_take (by omega)
      have n2 := norm_c w7 bu (m0 + (k + 2) + 1) capu (spl U2 0 R) hS7.arr (by omega) (by omega) (by omega)
      rw [tk2, hval] at n2
      have hfin := fin.out w7 (spl U2 0 R) hS7.chg hS7.arr hlR (by rw [tk2]; exact hval)
      have hrs := restoreW w7 s w.heap.size 0 .returning (hns.out w7 hS7.chg)
      replace n2 := Lib.hid n2
      replace hfin := Lib.hid hfin
      replace hrs := Lib.hid hrs
      clear tk2 hlR
      go_wp2_with fail
      with_reducible refine n2.out.mono ?_
      rintro e w' ⟨rfl, hw⟩
      obtain rfl := hw
      go_wp2
      refine leaves_cons (f := 221) (args := #[.pointer (some ⟨s, 0, none⟩), .int .i64 0]) (by simp) (by simp [go_sem]) ?_
      refine hrs.out.mono ?_
      rintro e u' w'' ⟨rfl, rfl, h1, h2⟩
      exact ⟨.tuple #[.slice (some ⟨bq, 0, none⟩) (digs (U / V)).length capq, .slice (some ⟨bu, 0, none⟩) (digs (U % V)).length capu], by simp [results, Tryz.results204, go_sem], _, _, rfl, hfin.out w'' h1 h2⟩
end Go.Proofs.YtcoljeafgiemkaaGreatDoor

namespace Go.Proofs.YtcoljeafgiemkaaGreatDoor
open Go Go.RowKit

set_option maxRecDepth 200000 in
set_option maxHeartbeats 4000000 in
theorem divBig_c (w : World) (z z2 u v : Value) (U V : Nat) (oz o2 ou ov : Option Nat) (hG : Glob w) (hz : Stor w z oz) (h2 : Stor w z2 o2) (hu : IsNat w u U ou) (hv : IsNat w v V ov)
    (hdist : ∀ b, oz = some b → o2 ≠ some b) (hV2 : 2 ≤ (digs V).length) (hV40 : (digs V).length < 40) (hle : V ≤ U) (hU : (digs U).length ≤ 250) :
    Calls Tryz.prog 184 #[z, .pointer none, z2, u, v] w fun e w' => ∃ rq rr, e = .returned (.tuple #[rq, rr]) ∧ DivRes w w' oz o2 rq rr (U / V) (U % V) ∧ Chg w w' (fun k => some k = oz ∨ some k = o2) := by
  have hcmp := natcmp_c w u v U V ou ov hu hv
  have hord : 0 ≤ ordN U V := by unfold ordN; split <;> (try split) <;> omega
  have hV0 : V ≠ 0 := by rintro rfl; rw [digs_zero] at hV2; simp at hV2
  have hz' := hz
  have h2' := h2
  obtain ⟨pz, lz, cz, rfl⟩ := stor_slice hz'
  obtain ⟨p2, l2, c2, rfl⟩ := stor_slice h2'
  obtain ⟨pv, cv, rfl, _, _⟩ := hv.shape
  obtain ⟨pu, cu, rfl, _, _⟩ := hu.shape
  have hlt : ∀ k, w.heap.size ≤ k → ¬ (some k = oz ∨ some k = o2) := by
    rintro k hk (h | h)
    · rw [← h] at hz'; have := hz'.lt; omega
    · rw [← h] at h2'; have := h2'.lt; omega
  have hdl := fun w1 s (hs : Stk0 w1 s) (hc : Chg w w1 (fun _ => False)) => divLarge_c w1 (.slice pz lz cz) (.slice p2 l2 c2) _ _ U V s oz o2 ou ov (hG.chg hc (fun _ _ h => h)) hs (hz.chg hc (fun _ _ h => h)) (h2.chg hc (fun _ _ h => h)) (hu.chg hc (fun _ _ h => h)) (hv.chg hc (fun _ _ h => h)) hdist hV2 hV40 hle hU
  replace hdl := Lib.hid hdl
  replace hcmp := Lib.hid hcmp
  generalize hL : (digs V).length = L at *
  generalize hM : (digs U).length = M at *
  replace hL := Lib.hid hL
  replace hM := Lib.hid hM
  go_enter_defers Tryz.func184, Tryz.ntmps184
  go_wp2_with fail
  with_reducible refine hcmp.out.mono ?_
  rintro e w' ⟨rfl, n, hw⟩
  have hc0 : Chg w w' (fun _ => False) := by rw [hw]; exact (Chg.refl w _).drewN n
  have hsz : w'.heap.size = w.heap.size := by rw [hw]; rfl
  clear hw hcmp
  replace hsz := Lib.hid hsz
  generalize ordN U V = r at hord ⊢
  have hgs := getStack_c w'
  have e0 : decide (r < 0) = false := by simp; omega
  go_wp2_with fail
  with_reducible refine hgs.mono ?_
  rintro e w1 ⟨rfl, hs1, hc1⟩
  have hc01 : Chg w w1 (fun _ => False) := hc0.trans (hc1.mono (fun _ _ h => h.elim))
  have hd := hdl.out w1 _ hs1 hc01
  replace hd := Lib.hid hd
  go_wp2_with fail
  with_reducible refine hd.out.mono ?_
  rintro e w2 ⟨rq, rr, rfl, ⟨oq, or', hq, hrr, hoq, hor, hne⟩, hsw, hc2⟩
  have hfr := freeW w2 _ _ .returning hsw
  replace hfr := Lib.hid hfr
  go_wp2
  refine leaves_cons (f := 203) (args := #[.pointer (some ⟨w'.heap.size, 0, none⟩)]) (by simp) (by simp [go_sem]) ?_
  refine hfr.out.mono ?_
  rintro e u' w3 ⟨rfl, rfl, h1⟩
  have hni : ∀ {v : Value} {N : Nat} {o : Option Nat}, IsNat w2 v N o → ∀ k, o = some k → ¬ Inner w2 w1.heap.size k := by
    intro v N o h k hk
    rcases h with ⟨_, _, h⟩ | ⟨b, _, C, h, _, ha, _⟩
    · rw [h] at hk; cases hk
    · rw [h] at hk; cases hk; exact Inner.arr ha
  have hs1' := hc01.size
  have hsz' := hsz.out
  refine ⟨.tuple #[rq, rr], by simp [results, Tryz.results184, go_sem], rq, rr, rfl, ⟨oq, or', hq.chg h1 (hni hq), hrr.chg h1 (hni hrr), ?_, ?_, hne⟩, ?_⟩
  · rcases hoq with h | h | ⟨b, h, hb⟩
    · exact .inl h
    · exact .inr (.inl h)
    · exact .inr (.inr ⟨b, h, by omega⟩)
  · rcases hor with h | h | ⟨b, h, hb⟩
    · exact .inl h
    · exact .inr (.inl h)
    · exact .inr (.inr ⟨b, h, by omega⟩)
  · refine ((hc01.mono (fun _ _ h => h.elim)).trans (hc2.mono (fun k _ h => ?_))).trans (h1.mono (fun k _ h => .inr (by have := h.1; omega)))
    rcases h with h | h | h
    · exact .inl (.inl h)
    · exact .inl (.inr h)
    · exact .inr (by omega)

theorem Stor.cut {w : World} {p : Option Addr} {l c : Nat} {o : Option Nat} (h : Stor w (.slice p l c) o) : IsNat w (.slice p 0 c) 0 o := by
  rcases h with ⟨h, rfl⟩ | ⟨b, l', cap, C, rfl, h, _, ha, hc, hcap⟩
  · injection h with h1 h2 h3
    subst h1 h2 h3
    exact .inl ⟨rfl, rfl, rfl⟩
  · injection h with h1 h2 h3
    subst h1 h2 h3
    exact .inr ⟨b, c, C, rfl, by rw [digs_zero]; rfl, ha, hc, hcap, by rw [digs_zero]; rfl⟩
set_option maxHeartbeats 4000000 in
theorem divLess_c (w : World) (z z2 u v : Value) (U V : Nat) (oz o2 ou ov : Option Nat) (hz : Stor w z oz) (h2 : Stor w z2 o2) (hu : IsNat w u U ou) (hv : IsNat w v V ov)
    (hdist : ∀ b, oz = some b → o2 ≠ some b) (hV2 : 2 ≤ (digs V).length) (hlt : U < V) (hU : (digs U).length ≤ 1000) :
    Calls Tryz.prog 184 #[z, .pointer none, z2, u, v] w fun e w' => ∃ rq rr, e = .returned (.tuple #[rq, rr]) ∧ DivRes w w' oz o2 rq rr (U / V) (U % V) ∧ Chg w w' (fun k => some k = oz ∨ some k = o2) := by
  have hcmp := natcmp_c w u v U V ou ov hu hv
  rw [ordN_lt hlt] at hcmp
  rw [Nat.div_eq_of_lt hlt, Nat.mod_eq_of_lt hlt]
  have hset := fun n => set_c (w.drewN n) z2 u U o2 ou (h2.chg ((Chg.refl w (fun _ => False)).drewN n) (fun _ _ h => h)) (hu.chg ((Chg.refl w (fun _ => False)).drewN n) (fun _ _ h => h)) hU
  obtain ⟨pz, lz, cz, rfl⟩ := stor_slice hz
  obtain ⟨pv, cv, rfl, _, _⟩ := hv.shape
  have hcut := hz.cut
  have hlz : lz ≤ cz := by
    rcases hz with ⟨h, _⟩ | ⟨b, l', cap, C, _, h, h3, _, h4, h5⟩
    · injection h with _ h1 h2; omega
    · injection h with _ h1 h2; omega
  have hz0 : pz = none → cz = 0 := by
    rintro rfl
    rcases hz with ⟨h, _⟩ | ⟨b, l', cap, C, _, h, _⟩
    · injection h
    · injection h with h1; cases h1
  generalize hL : (digs V).length = L at *
  replace hL := Lib.hid hL
  replace hset := Lib.hid hset
  replace hcmp := Lib.hid hcmp
  replace hcut := Lib.hid hcut
  have hk : ∀ w', Chg w w' (fun k => some k = o2) → IsNat w' (.slice pz 0 cz) 0 oz := fun w' hc => hcut.out.chg hc (fun b e h => hdist b e h.symm)
  replace hk := Lib.hid hk
  go_enter_defers Tryz.func184, Tryz.ntmps184
  go_wp2_with fail
  with_reducible refine hcmp.out.mono ?_
  rintro e w' ⟨rfl, n, hw⟩
  obtain rfl := hw
  go_wp2_with fail
  with_reducible refine (hset.out n).mono ?_
  rintro e w2 ⟨rr, rfl, or', hrr, hor, hch⟩
  go_wp2
  have hq := hk.out w2 (((Chg.refl w (fun _ => False)).drewN n |>.mono (fun _ _ h => h.elim)).trans (hch.mono (fun k _ h => .inl h)))
  refine ⟨.tuple #[.slice pz 0 cz, rr], by simp [results, Tryz.results184, go_sem], _, _, rfl, ⟨oz, or', hq, hrr, .inl rfl, hor, fun b hb hb2 => ?_⟩, ((Chg.refl w (fun _ => False)).drewN n |>.mono (fun _ _ h => h.elim)).trans (hch.mono (fun k _ h => .inl (.inr h)))⟩
  rcases hor with h | h | ⟨b', h, hb'⟩
  · rw [h] at hb2; exact hdist b hb hb2
  · rw [h] at hb2; cases hb2
  · rw [h] at hb2
    have hbl : b < w.heap.size := by rw [hb] at hz; exact hz.lt
    have h5 : (w.drewN n).heap.size = w.heap.size := rfl
    cases hb2
    omega

set_option maxHeartbeats 4000000 in
theorem divOne_c (w : World) (z z2 u v : Value) (U V : Nat) (oz o2 ou ov : Option Nat) (hz : Stor w z oz) (h2 : Stor w z2 o2) (hu : IsNat w u U ou) (hv : IsNat w v V ov)
    (hdist : ∀ b, oz = some b → o2 ≠ some b) (hV0 : V ≠ 0) (hV1 : V < WB) (hU : (digs U).length ≤ 900) :
    Calls Tryz.prog 184 #[z, .pointer none, z2, u, v] w fun e w' => ∃ rq rr, e = .returned (.tuple #[rq, rr]) ∧ DivRes w w' oz o2 rq rr (U / V) (U % V) ∧ Chg w w' (fun k => some k = oz ∨ some k = o2) := by
  have hdw := divW_c w z u U V oz ou hz hu hU hV1 (by omega)
  have hr : U % V < WB := Nat.lt_trans (Nat.mod_lt _ (by omega)) hV1
  obtain ⟨bv, cv, Cv, rfl, rfl, hav, hcv, hcapv, htv, hlv, hpv⟩ := hv.pos hV0
  have hd1 : (digs V).length = 1 := by
    have h1 : (digs V).length ≤ 1 := digs_len_le.2 (by simpa using hV1)
    have h2 := digs_len_pos hV0
    omega
  have hdv : nth Cv 0 = V := by
    have h1 := nth_take (l := Cv) (i := 0) (k := (digs V).length) (by omega)
    rw [htv] at h1
    rw [← h1]
    have h3 := val_digs V
    match hh : digs V, hd1 with
    | [x], _ => rw [hh] at h3; simp [val] at h3; simp [nth, h3]
  have hc := hav.cellN (i := 0) (by omega)
  rw [hdv] at hc
  rw [hd1]
  obtain ⟨rm, hrm⟩ : ∃ rm, U % V = rm := ⟨_, rfl⟩
  rw [hrm] at hdw hr ⊢
  have hsw := fun w1 (h : Stor w1 z2 o2) => setWord_c w1 z2 rm o2 h hr
  clear hrm
  replace hdw := Lib.hid hdw
  replace hsw := Lib.hid hsw
  have hdd := hdist
  replace hdd := Lib.hid hdd
  go_enter_defers Tryz.func184, Tryz.ntmps184
  go_wp2_with fail
  with_reducible refine hdw.out.mono ?_
  rintro e w1 ⟨rq, rfl, oq, hq, hoq, hch1⟩
  have h21 : Stor w1 z2 o2 := h2.chg hch1 (fun b hb e => hdist b e.symm hb)
  go_wp2_with fail
  with_reducible refine (hsw.out w1 h21).mono ?_
  rintro e w2 ⟨rr, rfl, or', hrr, hor, hch2⟩
  go_wp2
  have s1 := hch1.size
  have noq : ∀ b, oq = some b → o2 ≠ some b := by
    intro b hb ho
    rcases hoq with h | h | ⟨b', h, hb'⟩
    · exact hdist b (h ▸ hb) ho
    · rw [h] at hb; cases hb
    · rw [h] at hb
      cases hb
      have : b < w.heap.size := by rw [ho] at h2; exact h2.lt
      omega
  refine ⟨.tuple #[rq, rr], by simp [results, Tryz.results184, go_sem], _, _, rfl, ⟨oq, or', hq.chg hch2 (fun b hb e => noq b hb e.symm), hrr, hoq, ?_, fun b hb hb2 => ?_⟩, (hch1.mono (fun _ _ h => .inl h)).trans (hch2.mono (fun k _ h => .inl (.inr h)))⟩
  · rcases hor with h | h | ⟨b', h, hb'⟩
    · exact .inl h
    · exact .inr (.inl h)
    · exact .inr (.inr ⟨b', h, by omega⟩)
  · rcases hor with h | h | ⟨b', h, hb'⟩
    · exact noq b hb (h ▸ hb2)
    · rw [h] at hb2; cases hb2
    · rw [h] at hb2
      cases hb2
      have := hq.stor
      rw [hb] at this
      have := this.lt
      omega

/-- Quotient and remainder of natural numbers. -/
theorem natDiv_c (w : World) (z z2 u v : Value) (U V : Nat) (oz o2 ou ov : Option Nat) (hG : Glob w) (hz : Stor w z oz) (h2 : Stor w z2 o2) (hu : IsNat w u U ou) (hv : IsNat w v V ov)
    (hdist : ∀ b, oz = some b → o2 ≠ some b) (hV0 : V ≠ 0) (hV40 : (digs V).length < 40) (hU : (digs U).length ≤ 250) :
    Calls Tryz.prog 184 #[z, .pointer none, z2, u, v] w fun e w' => ∃ rq rr, e = .returned (.tuple #[rq, rr]) ∧ DivRes w w' oz o2 rq rr (U / V) (U % V) ∧ Chg w w' (fun k => some k = oz ∨ some k = o2) := by
  by_cases h1 : V < WB
  · exact divOne_c w z z2 u v U V oz o2 ou ov hz h2 hu hv hdist hV0 h1 (by omega)
  · have hV2 : 2 ≤ (digs V).length := by
      rcases Nat.lt_or_ge (digs V).length 2 with h | h
      · exact absurd (by have := digs_len_le.1 (show (digs V).length ≤ 1 by omega); simpa using this) h1
      · exact h
    by_cases hlt : U < V
    · exact divLess_c w z z2 u v U V oz o2 ou ov hz h2 hu hv hdist hV2 hlt (by omega)
    · exact divBig_c w z z2 u v U V oz o2 ou ov hG hz h2 hu hv hdist hV2 hV40 (by omega) hU
end Go.Proofs.YtcoljeafgiemkaaGreatDoor

namespace Go.Proofs.YtcoljeafgiemkaaGreatDoor
open Go Go.RowKit

theorem Glob.chgS {w w' : World} {v : Value} {o : Option Nat} (h : Glob w) (hs : Stor w v o) (hc : Chg w w' (fun k => some k = o)) : Glob w' :=
  ⟨hc.cell h.g0 (fun e => Stor.neVar (by rw [e]; exact hs) h.g0 rfl), hc.cell h.g1 (fun e => Stor.neVar (by rw [e]; exact hs) h.g1 rfl), hc.cell h.g2 (fun e => Stor.neVar (by rw [e]; exact hs) h.g2 rfl), hc.cell h.g3 (fun e => Stor.neVar (by rw [e]; exact hs) h.g3 rfl), hc.cell h.g6 (fun e => Stor.neVar (by rw [e]; exact hs) h.g6 rfl)⟩
theorem shlw_shlw (Y a : Nat) : shlw (shlw Y a) 1 = shlw Y (a + 1) := by
  unfold shlw
  rw [WB_eq]
  have := @next_word Y a
  rw [Nat.pow_one]; exact this
/-- The bit at the top. -/
theorem bits_top (x : Nat) (hx : x < WB) : bits .and .u64 (x : Int) 9223372036854775808 = ((x / 9223372036854775808 * 9223372036854775808 : Nat) : Int) := by
  have h1 := bits_and_u64_nat x 9223372036854775808 (by rw [WB_eq] at hx; omega) (by omega)
  rw [show (9223372036854775808 : Int) = ((9223372036854775808 : Nat) : Int) from rfl, h1]
  congr 1
  rw [WB_eq] at hx
  rcases (by omega : x / 9223372036854775808 = 0 ∨ x / 9223372036854775808 = 1) with h | h
  · rw [h, Nat.zero_mul]
    apply Nat.eq_of_testBit_eq
    intro i
    rw [Nat.testBit_and, show (9223372036854775808 : Nat) = 2 ^ 63 from rfl, Nat.testBit_two_pow, Nat.zero_testBit]
    by_cases hi : 63 = i
    · subst hi
      rw [Nat.testBit_lt_two_pow (by omega)]; rfl
    · simp [hi]
  · rw [h, Nat.one_mul]
    apply Nat.eq_of_testBit_eq
    intro i
    rw [Nat.testBit_and, show (9223372036854775808 : Nat) = 2 ^ 63 from rfl, Nat.testBit_two_pow]
    by_cases hi : 63 = i
    · subst hi
      rw [Nat.testBit_eq_decide_div_mod_eq, show (2 : Nat) ^ 63 = 9223372036854775808 from rfl, h]; rfl
    · simp [hi]
theorem norm_nat (w : World) (v : Value) (N : Nat) (o : Option Nat) (h : IsNat w v N o) (h0 : N ≠ 0) (hn : (digs N).length ≤ 1000000) : Calls Tryz.prog 172 #[v] w fun e w' => e = .returned v ∧ w = w' := by
  obtain ⟨b, cap, C, rfl, rfl, ha, hc, hcap, ht, hl, hp⟩ := h.pos h0
  have := norm_c w b (digs N).length cap C ha hl (by omega) hn
  rw [ht, val_digs] at this
  exact this

end Go.Proofs.YtcoljeafgiemkaaGreatDoor
