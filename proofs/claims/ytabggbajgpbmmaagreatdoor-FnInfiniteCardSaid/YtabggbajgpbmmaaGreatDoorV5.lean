/- A word taken off a row of words. -/
import Derived.Test.YtabggbajgpbmmaaGreatDoorV4
namespace Go.Proofs.YtabggbajgpbmmaaGreatDoor
open Go Go.RowKit
theorem castmax : ((WB - 1 : Nat) : Int) = 18446744073709551615 := by rw [WB_eq]; omega
theorem store_max {w wr : World} {b o k : Nat} {C R : List Nat} (h : Sub w wr b (spl C o R)) (hk : R.length = k) (hl : o + k < C.length) :
    Sub w (wr.setCell ⟨b, o + k, none⟩ (.int .u64 18446744073709551615)) b (spl C o (R ++ [WB - 1])) := by
  have := h.next hk hl (WB - 1) (by have := WB_pos; omega)
  rwa [castmax] at this
set_option maxRecDepth 100000 in
set_option maxHeartbeats 2000000 in
theorem subVW_c (w : World) (bz oz m cz bx ox cx y : Nat) (Cz Cx : List Nat) (hn : m < 1000000) (hy : y ≤ 1)
    (hz : Arr w bz Cz) (hzl : oz + (m + 1) ≤ Cz.length) (hx : Arr w bx Cx) (hxl : ox + (m + 1) ≤ Cx.length) (hcase : bx ≠ bz ∨ (bx = bz ∧ ox = oz)) (hc0 : m + 1 ≤ cz) (hc1 : m + 1 ≤ cx) :
    Calls Tryz.prog 157 #[.slice (some ⟨bz, oz, none⟩) (m + 1) cz, .slice (some ⟨bx, ox, none⟩) (m + 1) cx, .int .u64 y] w fun e w' =>
      ∃ R c, e = .returned (.int .u64 ((c : Nat) : Int)) ∧ Sub w w' bz (spl Cz oz R) ∧ R.length = m + 1 ∧ c ≤ 1 ∧ val ((Cx.drop ox).take (m + 1)) + WB ^ (m + 1) * c = val R + y := by
  have e1 : ((m : Int) + 1 == 0) = false := by simp; omega
  have hX : ((Cx.drop ox).take (m + 1)).length = m + 1 := by simp; omega
  replace hX := Lib.hid hX
  have hl := hx.cellN (i := ox) (by omega)
  have hwl := hx.wd.nth ox
  have hz1 := hz.cellN (i := oz) (by omega)
  have hz2 := hz.frozen oz
  have hx0 : val (((Cx.drop ox).take (m + 1)).take 1) = nth Cx ox := by
    rw [val_take_succ (by rw [hX.out]; omega), nth_dt _ _ _ _ (by omega)]; simp
  have hyw : y < WB := Nat.lt_of_le_of_lt hy (by rw [WB_eq]; decide)
  have hsum := subs_subc hwl hyw (Nat.zero_le 1)
  have hcc := subc_le (nth Cx ox) y 0
  replace hx0 := Lib.hid hx0
  replace hsum := Lib.hid hsum
  replace hcc := Lib.hid hcc
  go_enter Tryz.func157, Tryz.ntmps157
  go_wp2_with (go_at_call 189; refine (bits_Sub _ _ 0 (by omega) _).mono ?_; rintro e w' ⟨rfl, hw⟩; obtain rfl := hw.symm)
  · have hc0' : subc (nth Cx ox) y 0 = 0 := by simpa using ‹((subc (nth Cx ox) y 0 : Int) == 0) = true›
    have hS1 := (Sub.refl hz).set (i := oz) _ (subs_lt (nth Cx ox) y 0)
    have hsp : Cz.set oz (subs (nth Cx ox) y 0) = spl Cz oz [subs (nth Cx ox) y 0] := by
      have := spl_next (C := Cz) (o := oz) (R := []) (by simp; omega) (subs (nth Cx ox) y 0)
      rw [spl_nil] at this; simpa using this
    rw [hsp] at hS1
    clear hsp
    replace hc0' := Lib.hid hc0'
    generalize w.setCell ⟨bz, oz, none⟩ _ = w1 at hS1 ⊢
    have hv : val [subs (nth Cx ox) y 0] + y = val (((Cx.drop ox).take (m + 1)).take 1) := by
      have h1 := hsum.out; have h2 := hx0.out; have h3 := hc0'.out; rw [h3] at h1; rw [h2]; simp [val]; omega
    replace hv := Lib.hid hv
    rcases hcase with hne | ⟨rfl, rfl⟩
    · have hxw := hS1.other hne hx
      have hp := neq_word_ptr (oz := oz) (ox := ox) hS1.arr hxw hne
      go_quiet (fail)
      clear hp
      by_cases hm : 0 < m
      · have h1 : (1 : Int) ≤ (m : Int) + 1 := by omega
        have h2 : ¬ cz = 1 := by omega
        have h3 : ¬ cx = 1 := by omega
        go_wp2
        go_still_tail 4, (by kernel_rfl)
        change wpList _ _ _ _ _ (w1.drewN _).drew
        have hT : ((Cx.drop (ox + 1)).take m).length = m := by simp; omega
        refine wpList_copyW rfl (.tmp 40) (.tmp 42) 51 51 rfl Tryz.underlying51 bz (oz + 1) m (cz - 1) bx (ox + 1) m (cx - 1) rfl rfl _ ((Cx.drop (ox + 1)).take m) ((hS1.drewN _).drew).arr ((hx.wd.drop _).take _) ?_ ?_ ?_ ?_
        · rw [hT]; simp
        · rw [hT, spl_length (by simp; omega)]; omega
        · intro j hj
          rw [hT] at hj
          rw [nth_dt _ _ _ _ hj]
          exact hxw.cellN (by omega)
        intro w2 hS2
        have hS3 := Sub.tail ((hS1.drewN _).drew) (k := 1) rfl hS2 (by rw [hT]; omega)
        go_wp2
        go_ret
        refine ⟨_, 0, rfl, hS3, by simp; omega, by omega, ?_⟩
        have := val_tail_sub (k := 1) (by rw [hX.out]; omega) rfl hv.out
        rw [dt_drop, Nat.add_sub_cancel] at this
        rw [this]; omega
      · obtain rfl : m = 0 := by omega
        have h1 : (1 : Int) ≤ ((0 : Nat) : Int) + 1 := by omega
        go_wp2
        go_still_tail 4, (by kernel_rfl)
        change wpList _ _ _ _ _ (w1.drewN _).drew
        refine wpList_copy_nothing rfl (.tmp 40) (.tmp 42) 51 51 rfl 128 Tryz.underlying51 infoW _ _ 0 (cz - 1) 0 (cx - 1) rfl rfl rfl ?_
        have hend : val (List.take 1 (List.drop ox Cx)) + WB * 0 = val [subs (nth Cx ox) y 0] + y := by
          have := hv.out
          rw [this, List.take_take]; simp
        replace hend := Lib.hid hend
        go_wp2
        all_goals
          go_ret
          exact ⟨_, 0, rfl, (hS1.drewN _).drew, rfl, by omega, hend.out⟩
    · obtain rfl := hz.inj hx
      have hp := neq_word_ptr_same (w := w1) ⟨bx, ox, none⟩
      go_quiet (fail)
      go_wp2
      go_ret
      have hs := spl_self (C := Cz) (o := ox) (n := m + 1) (R := [subs (nth Cz ox) y 0]) (by omega) (by simp)
      refine ⟨_, 0, rfl, by rw [hs]; exact hS1.drewN _, by simp; omega, by omega, ?_⟩
      have := val_tail_sub (k := 1) (by rw [hX.out]; omega) rfl hv.out
      rw [List.length_singleton, this]; omega
  · have hc1' : subc (nth Cx ox) y 0 = 1 := by
      have h := ‹((subc (nth Cx ox) y 0 : Int) == 0) = false›
      have := hcc.out
      simp at h; omega
    have hS1 := (Sub.refl hz).set (i := oz) _ (subs_lt (nth Cx ox) y 0)
    have hsp : Cz.set oz (subs (nth Cx ox) y 0) = spl Cz oz [subs (nth Cx ox) y 0] := by
      have := spl_next (C := Cz) (o := oz) (R := []) (by simp; omega) (subs (nth Cx ox) y 0)
      rw [spl_nil] at this; simpa using this
    rw [hsp] at hS1
    clear hsp
    replace hc1' := Lib.hid hc1'
    generalize w.setCell ⟨bz, oz, none⟩ _ = w1 at hS1 ⊢
    have hv : val (((Cx.drop ox).take (m + 1)).take 1) + WB ^ 1 * 1 = val [subs (nth Cx ox) y 0] + y := by
      have h1 := hsum.out; have h2 := hx0.out; have h3 := hc1'.out; rw [h3] at h1; rw [h2]; simp [val]; omega
    replace hv := Lib.hid hv

    go_loopw [9] (fun i wr => ∃ k : Nat, k ≤ m ∧ i = .int .i64 (k + 1) ∧ ∃ R : List Nat, R.length = k + 1 ∧ val (((Cx.drop ox).take (m + 1)).take (k + 1)) + WB ^ (k + 1) * 1 = val R + y ∧ Sub w wr bz (spl Cz oz R)) (fun i _ => m + 1 - (intOf i).toNat)
    case atStart => exact ⟨0, by omega, by go_num, _, rfl, hv.out, hS1⟩
    case round =>
      obtain ⟨k, hk, rfl, R, hR1, hR3, hS⟩ := hrel
      by_cases hlt : k < m
      · have hxk := hS.read (p := ox + (k + 1)) hz hx (by omega) (by omega) (by rcases hcase with h | ⟨h1, h2⟩ <;> omega)
        have hwx := hx.wd.nth (ox + (k + 1))
        have hz1 := hS.arr.cellN (i := oz + (k + 1)) (by rw [spl_length (by omega)]; omega)
        have hz2 := hS.arr.frozen (oz + (k + 1))
        replace hR3 := Lib.hid hR3
        replace hR1 := Lib.hid hR1
        go_wp2


        · obtain ⟨x, hxx⟩ : ∃ x, nth Cx (ox + (k + 1)) = x + 1 := by
            have h := ‹((nth Cx (ox + (k + 1)) : Int) != 0) = true›
            simp at h
            exact ⟨nth Cx (ox + (k + 1)) - 1, by omega⟩
          rw [hxx] at hwx
          have hxm : x < WB := by omega
          have hww := wrap_u64_nat _ hxm
          rw [hxx]
          rw [show (((x + 1 : Nat) : Int) - 1) = (x : Int) from by omega]
          try rw [hww]
          have hS1 := hS.next hR1.out (by omega) _ hxm
          have hstep : val (R ++ [x]) + y = val (((Cx.drop ox).take (m + 1)).take (k + 1 + 1)) := by
            have h3 := hR3.out
            rw [val_snoc, hR1.out, val_take_succ (by rw [hX.out]; omega), nth_dt _ _ _ _ (by omega), hxx, Nat.mul_add]; omega
          have hl2 : (R ++ [x]).length = k + 1 + 1 := by simp; exact hR1.out
          generalize wr.setCell ⟨bz, oz + (k + 1), none⟩ _ = w3 at hS1 ⊢
          generalize R ++ [x] = R' at hS1 hstep hl2
          replace hstep := Lib.hid hstep
          replace hl2 := Lib.hid hl2
          clear hww
          rcases hcase with hne | ⟨rfl, rfl⟩
          · have hxw := hS1.other hne hx
            have hp := neq_word_ptr (oz := oz) (ox := ox) hS1.arr hxw hne
            go_quiet (fail)
            clear hp
            have i1 : IntKind.i64.wrap ((k : Int) + 1 + 1) = (k : Int) + 1 + 1 := IntWalk.i64_in _ (by omega)
            have i2 : (0 : Int) ≤ (k : Int) + 1 + 1 := by omega
            have i3 : ((k : Int) + 1 + 1).toNat = k + 2 := by omega
            have i4 : (k : Int) + 1 + 1 ≤ (m : Int) + 1 := by omega
            by_cases hm : k + 1 < m
            · have h2 : ¬ cz = k + 2 := by omega
              have h3 : ¬ cx = k + 2 := by omega
              go_wp2
              go_still_tail 8, (by kernel_rfl)
              change wpList _ _ _ _ _ (w3.drewN _).drew
              have hT : ((Cx.drop (ox + (k + 2))).take (m - (k + 1))).length = m - (k + 1) := by simp; omega
              refine wpList_copyW rfl (.tmp 69) (.tmp 73) 51 51 rfl Tryz.underlying51 bz (oz + (k + 2)) (m - (k + 1)) (cz - (k + 2)) bx (ox + (k + 2)) (m - (k + 1)) (cx - (k + 2)) rfl rfl _ ((Cx.drop (ox + (k + 2))).take (m - (k + 1))) ((hS1.drewN _).drew).arr ((hx.wd.drop _).take _) ?_ ?_ ?_ ?_
              · rw [hT]; simp
              · have := hl2.out; rw [hT, spl_length (by omega)]; omega
              · intro j hj
                rw [hT] at hj
                rw [nth_dt _ _ _ _ hj]
                exact hxw.cellN (by omega)
              intro w4 hS4
              have hS5 := Sub.tail ((hS1.drewN _).drew) (k := k + 2) hl2.out hS4 (by rw [hT]; omega)
              go_wp2
              go_ret
              refine ⟨_, 0, rfl, hS5, by rw [List.length_append, hT, hl2.out]; omega, by omega, ?_⟩
              have := val_tail_sub (k := k + 2) (by rw [hX.out]; omega) hl2.out hstep.out
              rw [dt_drop, show m + 1 - (k + 2) = m - (k + 1) by omega] at this
              rw [this]; omega
            · obtain rfl : m = k + 1 := by omega
              go_wp2
              go_still_tail 8, (by kernel_rfl)
              change wpList _ _ _ _ _ (w3.drewN _).drew
              refine wpList_copy_nothing rfl (.tmp 69) (.tmp 73) 51 51 rfl 128 Tryz.underlying51 infoW _ _ _ _ _ _ rfl rfl (by simp) ?_
              have hend : val (List.take (k + 2) (List.drop ox Cx)) + WB ^ (k + 2) * 0 = val R' + y := by
                have := hstep.out
                rw [List.take_of_length_le (by rw [hX.out]; omega)] at this
                rw [Nat.mul_zero, Nat.add_zero, ← this]
              replace hend := Lib.hid hend
              go_wp2
              all_goals
                go_ret
                exact ⟨_, 0, rfl, (hS1.drewN _).drew, hl2.out, by omega, hend.out⟩
          · obtain rfl := hz.inj hx
            have hp := neq_word_ptr_same (w := w3) ⟨bx, ox, none⟩
            go_quiet (fail)
            go_wp2
            go_ret
            have hs := spl_self (C := Cz) (o := ox) (n := m + 1) (R := R') (by omega) (by rw [hl2.out]; omega)
            refine ⟨_, 0, rfl, by rw [hs]; exact Sub.drewN (by assumption) _, by simp; have := hl2.out; omega, by omega, ?_⟩
            have := val_tail_sub (k := k + 1 + 1) (by rw [hX.out]; omega) hl2.out hstep.out
            rw [hl2.out, this]; omega
        · go_roundw
          case rel =>
            have hx0 : nth Cx (ox + (k + 1)) = 0 := by
              have h := ‹((nth Cx (ox + (k + 1)) : Int) != 0) = false›
              simp at h; omega
            have hB : WB - 1 < WB := by have := WB_pos; omega
            refine ⟨k + 1, by omega, by go_num, R ++ [WB - 1], by simp; exact hR1.out, ?_, ?_⟩
            · have h3 := hR3.out
              rw [val_snoc, hR1.out, val_take_succ (by rw [hX.out]; omega), nth_dt _ _ _ _ (by omega), hx0]
              have h4 : WB ^ (k + 1 + 1) = WB ^ (k + 1) * (WB - 1) + WB ^ (k + 1) := by
                rw [Nat.pow_succ WB (k + 1)]
                have : WB = WB - 1 + 1 := by omega
                rw [this, Nat.mul_add, Nat.mul_one, ← this]
              omega
            · exact store_max hS hR1.out (by omega)
          case measure => simp [intOf]; omega
      · obtain rfl : k = m := by omega
        replace hR3 := Lib.hid hR3
        replace hR1 := Lib.hid hR1
        go_wp2
        go_ret
        refine ⟨R, 1, rfl, hS, hR1.out, by omega, ?_⟩
        have := hR3.out
        rw [List.take_of_length_le (by rw [hX.out]; omega)] at this
        omega
end Go.Proofs.YtabggbajgpbmmaaGreatDoor
