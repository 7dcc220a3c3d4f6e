/- A word taken off a row of words. Division of two words by one: the numbers alone. Words reckoned with modulo the base. -/
import Derived.Test.YtlnillnngckegaaGreatDoorM01
import Derived.Test.YtlnillnngckegaaGreatDoorM04
namespace Go.Proofs.YtlnillnngckegaaGreatDoor
open Go Go.RowKit
theorem castmax : ((WB - 1 : Nat) : Int) = 18446744073709551615 := by rw [WB_eq]; omega
theorem store_max {w wr : World} {b o k : Nat} {C R : List Nat} (h : Sub w wr b (spl C o R)) (hk : R.length = k) (hl : o + k < C.length) :
    Sub w (wr.setCell ⟨b, o + k, none⟩ (.int .u64 18446744073709551615)) b (spl C o (R ++ [WB - 1])) := by
  have := h.next hk hl (WB - 1) (by have := WB_pos; omega)
  rwa [castmax] at this
set_option maxRecDepth 100000 in
set_option maxHeartbeats 2000000 in
theorem subVW_c (w : World) (bz oz m cz bx ox cx y : Nat) (Cz Cx : List Nat) (hn : m < 1000000) (hy : y ≤ 1)
    (hz : Arr w bz Cz) (hzl : oz + (m + 1) ≤ Cz.length) (hx : Arr w bx Cx) (hxl : ox + (m + 1) ≤ Cx.length) (hcase : bx ≠ bz ∨ (bx = bz ∧ ox = oz)) (hc0 : m + 1 ≤ cz) (hc1 : m + 1 ≤ cx) :
    Calls Tryz.prog 172 #[.slice (some ⟨bz, oz, none⟩) (m + 1) cz, .slice (some ⟨bx, ox, none⟩) (m + 1) cx, .int .u64 y] w fun e w' =>
      ∃ R c, e = .returned (.int .u64 ((c : Nat) : Int)) ∧ Sub w w' bz (spl Cz oz R) ∧ R.length = m + 1 ∧ c ≤ 1 ∧ val ((Cx.drop ox).take (m + 1)) + WB ^ (m + 1) * c = val R + y := by
  have e1 : ((m : Int) + 1 == 0) = false := by simp; omega
  have hX : ((Cx.drop ox).take (m + 1)).length = m + 1 := by simp; omega
  replace hX := Lib.hid hX
  have hl := hx.cellN (i := ox) (by omega)
  have hwl := hx.wd.nth ox
  have hz1 := hz.cellN (i := oz) (by omega)
  have hz2 := hz.frozen oz
  have hx0 : val (((Cx.drop ox).take (m + 1)).take 1) = nth Cx ox := by
    rw [val_take_succ (by rw [hX.out]; omega), nth_dt _ _ _ _ (by omega)]; simp
  have hyw : y < WB := Nat.lt_of_le_of_lt hy (by rw [WB_eq]; decide)
  have hsum := subs_subc hwl hyw (Nat.zero_le 1)
  have hcc := subc_le (nth Cx ox) y 0
  replace hx0 := Lib.hid hx0
  replace hsum := Lib.hid hsum
  replace hcc := Lib.hid hcc
  go_enter Tryz.func172, Tryz.ntmps172
  go_wp2_with (go_at_call 196; refine (bits_Sub _ _ 0 (by omega) _).mono ?_; rintro e w' ⟨rfl, hw⟩; obtain rfl := hw.symm)
  · have hc0' : subc (nth Cx ox) y 0 = 0 := by simpa using ‹((subc (nth Cx ox) y 0 : Int) == 0) = true›
    have hS1 := (Sub.refl hz).set (i := oz) _ (subs_lt (nth Cx ox) y 0)
    have hsp : Cz.set oz (subs (nth Cx ox) y 0) = spl Cz oz [subs (nth Cx ox) y 0] := by
      have := spl_next (C := Cz) (o := oz) (R := []) (by simp; omega) (subs (nth Cx ox) y 0)
      rw [spl_nil] at this; simpa using this
    rw [hsp] at hS1
    clear hsp
    replace hc0' := Lib.hid hc0'
    generalize w.setCell ⟨bz, oz, none⟩ _ = w1 at hS1 ⊢
    have hv : val [subs (nth Cx ox) y 0] + y = val (((Cx.drop ox).take (m + 1)).take 1) := by
      have h1 := hsum.out; have h2 := hx0.out; have h3 := hc0'.out; rw [h3] at h1; rw [h2]; simp [val]; omega
    replace hv := Lib.hid hv
    rcases hcase with hne | ⟨rfl, rfl⟩
    · have hxw := hS1.other hne hx
      have hp := neq_word_ptr (oz := oz) (ox := ox) hS1.arr hxw hne
      go_quiet (fail)
      clear hp
      by_cases hm : 0 < m
      · have h1 : (1 : Int) ≤ (m : Int) + 1 := by omega
        have h2 : ¬ cz = 1 := by omega
        have h3 : ¬ cx = 1 := by omega
        go_wp2
        go_still_tail 4, (by kernel_rfl)
        change wpList _ _ _ _ _ (w1.drewN _).drew
        have hT : ((Cx.drop (ox + 1)).take m).length = m := by simp; omega
        refine wpList_copyW rfl (.tmp 40) (.tmp 42) 49 49 rfl Tryz.underlying49 bz (oz + 1) m (cz - 1) bx (ox + 1) m (cx - 1) rfl rfl _ ((Cx.drop (ox + 1)).take m) ((hS1.drewN _).drew).arr ((hx.wd.drop _).take _) ?_ ?_ ?_ ?_
        · rw [hT]; simp
        · rw [hT, spl_length (by simp; omega)]; omega
        · intro j hj
          rw [hT] at hj
          rw [nth_dt _ _ _ _ hj]
          exact hxw.cellN (by omega)
        intro w2 hS2
        have hS3 := Sub.tail ((hS1.drewN _).drew) (k := 1) rfl hS2 (by rw [hT]; omega)
        go_wp2
        go_ret
        refine ⟨_, 0, rfl, hS3, by simp; omega, by omega, ?_⟩
        have := val_tail_sub (k := 1) (by rw [hX.out]; omega) rfl hv.out
        rw [dt_drop, Nat.add_sub_cancel] at this
        rw [this]; omega
      · obtain rfl : m = 0 := by omega
        have h1 : (1 : Int) ≤ ((0 : Nat) : Int) + 1 := by omega
        go_wp2
        go_still_tail 4, (by kernel_rfl)
        change wpList _ _ _ _ _ (w1.drewN _).drew
        refine wpList_copy_nothing rfl (.tmp 40) (.tmp 42) 49 49 rfl 104 Tryz.underlying49 infoW _ _ 0 (cz - 1) 0 (cx - 1) rfl rfl rfl ?_
        have hend : val (List.take 1 (List.drop ox Cx)) + WB * 0 = val [subs (nth Cx ox) y 0] + y := by
          have := hv.out
          rw [this, List.take_take]; simp
        replace hend := Lib.hid hend
        go_wp2
        all_goals
          go_ret
          exact ⟨_, 0, rfl, (hS1.drewN _).drew, rfl, by omega, hend.out⟩
    · obtain rfl := hz.inj hx
      have hp := neq_word_ptr_same (w := w1) ⟨bx, ox, none⟩
      go_quiet (fail)
      go_wp2
      go_ret
      have hs := spl_self (C := Cz) (o := ox) (n := m + 1) (R := [subs (nth Cz ox) y 0]) (by omega) (by simp)
      refine ⟨_, 0, rfl, by rw [hs]; exact hS1.drewN _, by simp; omega, by omega, ?_⟩
      have := val_tail_sub (k := 1) (by rw [hX.out]; omega) rfl hv.out
      rw [List.length_singleton, this]; omega
  · have hc1' : subc (nth Cx ox) y 0 = 1 := by
      have h := ‹((subc (nth Cx ox) y 0 : Int) == 0) = false›
      have := hcc.out
      simp at h; omega
    have hS1 := (Sub.refl hz).set (i := oz) _ (subs_lt (nth Cx ox) y 0)
    have hsp : Cz.set oz (subs (nth Cx ox) y 0) = spl Cz oz [subs (nth Cx ox) y 0] := by
      have := spl_next (C := Cz) (o := oz) (R := []) (by simp; omega) (subs (nth Cx ox) y 0)
      rw [spl_nil] at this; simpa using this
    rw [hsp] at hS1
    clear hsp
    replace hc1' := Lib.hid hc1'
    generalize w.setCell ⟨bz, oz, none⟩ _ = w1 at hS1 ⊢
    have hv : val (((Cx.drop ox).take (m + 1)).take 1) + WB ^ 1 * 1 = val [subs (nth Cx ox) y 0] + y := by
      have h1 := hsum.out; have h2 := hx0.out; have h3 := hc1'.out; rw [h3] at h1; rw [h2]; simp [val]; omega
    replace hv := Lib.hid hv

    go_loopw [9] (fun i wr => ∃ k : Nat, k ≤ m ∧ i = .int .i64 (k + 1) ∧ ∃ R : List Nat, R.length = k + 1 ∧ val (((Cx.drop ox).take (m + 1)).take (k + 1)) + WB ^ (k + 1) * 1 = val R + y ∧ Sub w wr bz (spl Cz oz R)) (fun i _ => m + 1 - (intOf i).toNat)
    case atStart => exact ⟨0, by omega, by go_num, _, rfl, hv.out, hS1⟩
    case round =>
      obtain ⟨k, hk, rfl, R, hR1, hR3, hS⟩ := hrel
      by_cases hlt : k < m
      · have hxk := hS.read (p := ox + (k + 1)) hz hx (by omega) (by omega) (by rcases hcase with h | ⟨h1, h2⟩ <;> omega)
        have hwx := hx.wd.nth (ox + (k + 1))
        have hz1 := hS.arr.cellN (i := oz + (k + 1)) (by rw [spl_length (by omega)]; omega)
        have hz2 := hS.arr.frozen (oz + (k + 1))
        replace hR3 := Lib.hid hR3
        replace hR1 := Lib.hid hR1
        go_wp2


        · obtain ⟨x, hxx⟩ : ∃ x, nth Cx (ox + (k + 1)) = x + 1 := by
            have h := ‹((nth Cx (ox + (k + 1)) : Int) != 0) = true›
            simp at h
            exact ⟨nth Cx (ox + (k + 1)) - 1, by omega⟩
          rw [hxx] at hwx
          have hxm : x < WB := by omega
          have hww := wrap_u64_nat _ hxm
          rw [hxx]
          rw [show (((x + 1 : Nat) : Int) - 1) = (x : Int) from by omega]
          try rw [hww]
          have hS1 := hS.next hR1.out (by omega) _ hxm
          have hstep : val (R ++ [x]) + y = val (((Cx.drop ox).take (m + 1)).take (k + 1 + 1)) := by
            have h3 := hR3.out
            rw [val_snoc, hR1.out, val_take_succ (by rw [hX.out]; omega), nth_dt _ _ _ _ (by omega), hxx, Nat.mul_add]; omega
          have hl2 : (R ++ [x]).length = k + 1 + 1 := by simp; exact hR1.out
          generalize wr.setCell ⟨bz, oz + (k + 1), none⟩ _ = w3 at hS1 ⊢
          generalize R ++ [x] = R' at hS1 hstep hl2
          replace hstep := Lib.hid hstep
          replace hl2 := Lib.hid hl2
          clear hww
          rcases hcase with hne | ⟨rfl, rfl⟩
          · have hxw := hS1.other hne hx
            have hp := neq_word_ptr (oz := oz) (ox := ox) hS1.arr hxw hne
            go_quiet (fail)
            clear hp
            have i1 : IntKind.i64.wrap ((k : Int) + 1 + 1) = (k : Int) + 1 + 1 := IntWalk.i64_in _ (by omega)
            have i2 : (0 : Int) ≤ (k : Int) + 1 + 1 := by omega
            have i3 : ((k : Int) + 1 + 1).toNat = k + 2 := by omega
            have i4 : (k : Int) + 1 + 1 ≤ (m : Int) + 1 := by omega
            by_cases hm : k + 1 < m
            · have h2 : ¬ cz = k + 2 := by omega
              have h3 : ¬ cx = k + 2 := by omega
              go_wp2
              go_still_tail 8, (by kernel_rfl)
              change wpList _ _ _ _ _ (w3.drewN _).drew
              have hT : ((Cx.drop (ox + (k + 2))).take (m - (k + 1))).length = m - (k + 1) := by simp; omega
              refine wpList_copyW rfl (.tmp 69) (.tmp 73) 49 49 rfl Tryz.underlying49 bz (oz + (k + 2)) (m - (k + 1)) (cz - (k + 2)) bx (ox + (k + 2)) (m - (k + 1)) (cx - (k + 2)) rfl rfl _ ((Cx.drop (ox + (k + 2))).take (m - (k + 1))) ((hS1.drewN _).drew).arr ((hx.wd.drop _).take _) ?_ ?_ ?_ ?_
              · rw [hT]; simp
              · have := hl2.out; rw [hT, spl_length (by omega)]; omega
              · intro j hj
                rw [hT] at hj
                rw [nth_dt _ _ _ _ hj]
                exact hxw.cellN (by omega)
              intro w4 hS4
              have hS5 := Sub.tail ((hS1.drewN _).drew) (k := k + 2) hl2.out hS4 (by rw [hT]; omega)
              go_wp2
              go_ret
              refine ⟨_, 0, rfl, hS5, by rw [List.length_append, hT, hl2.out]; omega, by omega, ?_⟩
              have := val_tail_sub (k := k + 2) (by rw [hX.out]; omega) hl2.out hstep.out
              rw [dt_drop, show m + 1 - (k + 2) = m - (k + 1) by omega] at this
              rw [this]; omega
            · obtain rfl : m = k + 1 := by omega
              go_wp2
              go_still_tail 8, (by kernel_rfl)
              change wpList _ _ _ _ _ (w3.drewN _).drew
              refine wpList_copy_nothing rfl (.tmp 69) (.tmp 73) 49 49 rfl 104 Tryz.underlying49 infoW _ _ _ _ _ _ rfl rfl (by simp) ?_
              have hend : val (List.take (k + 2) (List.drop ox Cx)) + WB ^ (k + 2) * 0 = val R' + y := by
                have := hstep.out
                rw [List.take_of_length_le (by rw [hX.out]; omega)] at this
                rw [Nat.mul_zero, Nat.add_zero, ← this]
              replace hend := Lib.hid hend
              go_wp2
              all_goals
                go_ret
                exact ⟨_, 0, rfl, (hS1.drewN _).drew, hl2.out, by omega, hend.out⟩
          · obtain rfl := hz.inj hx
            have hp := neq_word_ptr_same (w := w3) ⟨bx, ox, none⟩
            go_quiet (fail)
            go_wp2
            go_ret
            have hs := spl_self (C := Cz) (o := ox) (n := m + 1) (R := R') (by omega) (by rw [hl2.out]; omega)
            refine ⟨_, 0, rfl, by rw [hs]; exact Sub.drewN (by assumption) _, by simp; have := hl2.out; omega, by omega, ?_⟩
            have := val_tail_sub (k := k + 1 + 1) (by rw [hX.out]; omega) hl2.out hstep.out
            rw [hl2.out, this]; omega
        · go_roundw
          case rel =>
            have hx0 : nth Cx (ox + (k + 1)) = 0 := by
              have h := ‹((nth Cx (ox + (k + 1)) : Int) != 0) = false›
              simp at h; omega
            have hB : WB - 1 < WB := by have := WB_pos; omega
            refine ⟨k + 1, by omega, by go_num, R ++ [WB - 1], by simp; exact hR1.out, ?_, ?_⟩
            · have h3 := hR3.out
              rw [val_snoc, hR1.out, val_take_succ (by rw [hX.out]; omega), nth_dt _ _ _ _ (by omega), hx0]
              have h4 : WB ^ (k + 1 + 1) = WB ^ (k + 1) * (WB - 1) + WB ^ (k + 1) := by
                rw [Nat.pow_succ WB (k + 1)]
                have : WB = WB - 1 + 1 := by omega
                rw [this, Nat.mul_add, Nat.mul_one, ← this]
              omega
            · exact store_max hS hR1.out (by omega)
          case measure => simp [intOf]; omega
      · obtain rfl : k = m := by omega
        replace hR3 := Lib.hid hR3
        replace hR1 := Lib.hid hR1
        go_wp2
        go_ret
        refine ⟨R, 1, rfl, hS, hR1.out, by omega, ?_⟩
        have := hR3.out
        rw [List.take_of_length_le (by rw [hX.out]; omega)] at this
        omega
end Go.Proofs.YtlnillnngckegaaGreatDoor

namespace Go.Proofs.YtlnillnngckegaaGreatDoor

/-- One step of a long division by halves of words: the guess q is at least the true digit; r is what it leaves of the upper part. -/
structure Guess (H a b u v q r : Nat) : Prop where
  split : q * a + r = u
  ge : (u * H + v) / (a * H + b) ≤ q
  le : q ≤ H + 1

theorem Guess.start {H a b u v : Nat} (ha : 0 < a) (hH : H ≤ 2 * a) (hb : b < H) (hv : v < H) (hu : u < a * H + b) : Guess H a b u v (u / a) (u % a) := by
  refine ⟨Nat.div_add_mod' u a, ?_, ?_⟩
  · rw [Nat.div_le_iff_le_mul_add_pred (by have := Nat.mul_pos ha (Nat.lt_of_le_of_lt (Nat.zero_le b) hb); omega)]
    have h1 : u < (u / a + 1) * a := by rw [Nat.add_mul]; have := Nat.div_add_mod' u a; have := Nat.mod_lt u ha; omega
    have h2 : (u + 1) * H ≤ ((u / a + 1) * a) * H := Nat.mul_le_mul_right H h1
    rw [Nat.add_mul, Nat.one_mul] at h2
    have h3 : ((u / a + 1) * a) * H = (a * H) * (u / a) + a * H := by rw [Nat.add_mul, Nat.one_mul, Nat.add_mul, Nat.mul_comm (u / a) a, Nat.mul_right_comm]
    have h4 : (a * H) * (u / a) ≤ (a * H + b) * (u / a) := Nat.mul_le_mul_right _ (Nat.le_add_right _ _)
    have h5 : 0 < a * H := Nat.mul_pos ha (Nat.lt_of_le_of_lt (Nat.zero_le b) hb)
    omega
  · have h1 : u / a ≤ (a * H + (H - 1)) / a := Nat.div_le_div_right (by omega)
    have h2 : (a * H + (H - 1)) / a = H + (H - 1) / a := Nat.mul_add_div ha _ _
    have h3 : (H - 1) / a ≤ 1 := by
      have : (H - 1) / a < 2 := by rw [Nat.div_lt_iff_lt_mul ha]; omega
      omega
    omega

theorem Guess.done {H a b u v q r : Nat} (h : Guess H a b u v q r) (hc : q * b ≤ H * r + v) (hd : 0 < a * H + b) : q = (u * H + v) / (a * H + b) := by
  refine Nat.le_antisymm ?_ h.ge
  rw [Nat.le_div_iff_mul_le hd]
  rw [Nat.mul_add, ← h.split, Nat.add_mul, ← Nat.mul_assoc, Nat.mul_comm r H]
  omega

theorem Guess.next {H a b u v q r : Nat} (h : Guess H a b u v q r) (hv : v < H) (hu : u < a * H + b) (hc : H ≤ q ∨ H * r + v < q * b) : 0 < q ∧ Guess H a b u v (q - 1) (r + a) := by
  have hd : 0 < a * H + b := by omega
  have hq : (u * H + v) / (a * H + b) < q := by
    rw [Nat.div_lt_iff_lt_mul hd]
    rcases hc with h1 | h1
    · have h2 : (u + 1) * H ≤ (a * H + b) * H := Nat.mul_le_mul_right H hu
      rw [Nat.add_mul, Nat.one_mul] at h2
      have h3 : (a * H + b) * H ≤ q * (a * H + b) := by rw [Nat.mul_comm]; exact Nat.mul_le_mul_right _ h1
      omega
    · have e1 : u * H = q * (a * H) + H * r := by rw [← h.split, Nat.add_mul, ← Nat.mul_assoc, Nat.mul_comm r H]
      rw [Nat.mul_add]
      omega
  have hq0 : 0 < q := Nat.lt_of_le_of_lt (Nat.zero_le _) hq
  have hle := h.le
  refine ⟨hq0, ?_, Nat.le_sub_one_of_lt hq, by clear hq; omega⟩
  have := h.split
  obtain ⟨p, rfl⟩ : ∃ p, q = p + 1 := ⟨q - 1, by clear hq; omega⟩
  rw [Nat.add_mul, Nat.one_mul] at this
  rw [Nat.add_sub_cancel]
  clear hq hc
  omega

/-- When the rest has no room in half a word any more the guess is right. -/
theorem Guess.full {H a b u v q r : Nat} (h : Guess H a b u v q r) (hb : b < H) (hr : H ≤ r) (hq : q ≤ H) (hd : 0 < a * H + b) : q = (u * H + v) / (a * H + b) := by
  refine h.done ?_ hd
  have h1 : q * b ≤ H * b := Nat.mul_le_mul_right _ hq
  have h2 : H * b ≤ H * r := Nat.mul_le_mul_left _ (by omega)
  omega

/-- A difference, taken modulo M. -/
theorem mod_diff {M a b r : Nat} (h : a = b + r) (hr : r < M) : (a % M + (M - b % M)) % M = r := by
  have hb := Nat.mod_lt b (Nat.lt_of_le_of_lt (Nat.zero_le r) hr)
  subst h
  rw [Nat.add_mod, Nat.mod_mod, Nat.add_mod b r, Nat.mod_eq_of_lt hr]
  generalize b % M = b' at *
  rcases Nat.lt_or_ge (b' + r) M with h1 | h1
  · rw [Nat.mod_eq_of_lt h1]
    rcases Nat.eq_zero_or_pos b' with h0 | h0
    · subst h0; simp [Nat.mod_eq_of_lt hr]
    · rw [Nat.mod_eq_of_lt (show M - b' < M by omega), show b' + r + (M - b') = r + M by omega, Nat.add_mod_right, Nat.mod_eq_of_lt hr]
  · rw [show b' + r = (b' + r - M) + M by omega, Nat.add_mod_right, Nat.mod_eq_of_lt (show b' + r - M < M by omega)]
    rcases Nat.eq_zero_or_pos b' with h0 | h0
    · omega
    · rw [Nat.mod_eq_of_lt (show M - b' < M by omega), show b' + r - M + (M - b') = r by omega, Nat.mod_eq_of_lt hr]

/-- The guess by a reciprocal: at most two too low. -/
theorem recip_guess {B d m x1 x0 : Nat} (hd : d < B) (hm1 : d * (m + B) + 1 ≤ B * B) (hm2 : B * B ≤ d * (m + B) + d) (hx1 : x1 < d) (hx0 : x0 < B) :
    (x1 * m + x1 * B + x0) / B * d ≤ x1 * B + x0 ∧ x1 * B + x0 < (x1 * m + x1 * B + x0) / B * d + B + d := by
  have hB : 0 < B := by omega
  have e := Nat.div_add_mod (x1 * m + x1 * B + x0) B
  have l := Nat.mod_lt (x1 * m + x1 * B + x0) hB
  generalize (x1 * m + x1 * B + x0) / B = q at *
  generalize (x1 * m + x1 * B + x0) % B = s at *
  -- B q + s = x1 (m + B) + x0
  have e1 : B * q + s = x1 * (m + B) + x0 := by rw [Nat.mul_add]; omega
  have e2 : B * (q * d) + s * d = x1 * (d * (m + B)) + x0 * d := by
    have := congrArg (· * d) e1
    simp only [Nat.add_mul] at this
    rw [Nat.mul_assoc] at this
    rw [this, Nat.mul_assoc, Nat.mul_comm (m + B) d]
  have a1 : x1 * (d * (m + B)) + x1 ≤ x1 * (B * B) := by have := Nat.mul_le_mul_left x1 hm1; rw [Nat.mul_add, Nat.mul_one] at this; exact this
  have a2 : x1 * (B * B) ≤ x1 * (d * (m + B)) + x1 * d := by have := Nat.mul_le_mul_left x1 hm2; rw [Nat.mul_add] at this; exact this
  have a3 : x0 * d ≤ x0 * B := Nat.mul_le_mul_left _ (by omega)
  have e3 : B * (x1 * B + x0) = x1 * (B * B) + x0 * B := by rw [Nat.mul_add, Nat.mul_comm B x0, Nat.mul_comm B (x1 * B), Nat.mul_assoc]
  constructor
  · refine Nat.le_of_mul_le_mul_left (a := q * d) (c := B) ?_ hB
    rw [e3]; omega
  · refine Nat.lt_of_mul_lt_mul_left (a := B) ?_
    rw [e3, Nat.mul_add, Nat.mul_add]
    -- x0 (B - d) + x1 d + s d < B B + B d
    have b1 : x0 * B + d ≤ x0 * d + (B * B - B * d + d) := by
      obtain ⟨k, rfl⟩ : ∃ k, B = d + k := ⟨B - d, by omega⟩
      have : x0 * k + k ≤ (d + k) * k := by have := Nat.mul_le_mul_right k hx0; rw [Nat.succ_mul] at this; exact this
      have e5 : (d + k) * (d + k) - (d + k) * d = (d + k) * k := by rw [← Nat.mul_sub]; congr 1; omega
      rw [e5, Nat.mul_add]; omega
    have b2 : x1 * d + d ≤ d * d := by have := Nat.mul_le_mul_right d hx1; rw [Nat.succ_mul] at this; exact this
    have b3 : s * d + d ≤ B * d := by have := Nat.mul_le_mul_right d l; rw [Nat.succ_mul] at this; exact this
    have b4 : d * d ≤ B * d := Nat.mul_le_mul_right _ (by omega)
    have b5 : B * d ≤ B * B := Nat.mul_le_mul_left _ (by omega)
    have b6 : 0 < d := by omega
    have b7 : d * d < B * d := Nat.mul_lt_mul_of_pos_right hd b6
    omega

end Go.Proofs.YtlnillnngckegaaGreatDoor

namespace Go.Proofs.YtlnillnngckegaaGreatDoor
open Go Go.RowKit

noncomputable def wadd (x y : Nat) : Nat := (x + y) % WB
noncomputable def wsub (x y : Nat) : Nat := (x % WB + (WB - y % WB)) % WB
noncomputable def wmul (x y : Nat) : Nat := x * y % WB
def low32 (x : Nat) : Nat := x % 4294967296
theorem wadd_lt (x y : Nat) : wadd x y < WB := Nat.mod_lt _ WB_pos
theorem wsub_lt (x y : Nat) : wsub x y < WB := Nat.mod_lt _ WB_pos
theorem wmul_lt (x y : Nat) : wmul x y < WB := Nat.mod_lt _ WB_pos
theorem wadd_of {x y : Nat} (h : x + y < WB) : wadd x y = x + y := Nat.mod_eq_of_lt h
theorem wmul_of {x y : Nat} (h : x * y < WB) : wmul x y = x * y := Nat.mod_eq_of_lt h
theorem wsub_of {x y : Nat} (h : y ≤ x) (hx : x < WB) : wsub x y = x - y := mod_diff (by omega) (by omega)
theorem wsub_borrow {x y : Nat} (h : x < y) (hy : y < WB) : wsub x y = x + WB - y := by
  unfold wsub
  rw [Nat.mod_eq_of_lt (show x < WB by omega), Nat.mod_eq_of_lt hy, Nat.mod_eq_of_lt (by omega)]; omega

theorem wsub_chain {u H v q y r : Nat} (h : u * H + v = q * y + r) (hr : r < WB) : wsub (wadd (wmul u H) v) (wmul q y) = r := by
  unfold wsub wadd wmul
  have := mod_diff h hr
  simp only [Nat.mod_mod, Nat.mod_add_mod] at this ⊢
  exact this

theorem wrap_u64_mod (a : Nat) : IntKind.u64.wrap (a : Int) = ((a % WB : Nat) : Int) := by rw [IntKind.wrap_u64, WB_eq]; omega
@[go_sem] theorem wrap_u64_lt (x : Nat) (h : x < WB) : IntKind.u64.wrap (x : Int) = (x : Int) := wrap_u64_nat x h
@[go_sem] theorem wrap_wadd (x y : Nat) : IntKind.u64.wrap ((x : Int) + (y : Int)) = (wadd x y : Int) := by
  rw [← Int.natCast_add, wrap_u64_mod]; rfl
@[go_sem] theorem wrap_wadd1 (x : Nat) : IntKind.u64.wrap ((x : Int) + 1) = (wadd x 1 : Int) := wrap_wadd x 1
@[go_sem] theorem wrap_wmul (x y : Nat) : IntKind.u64.wrap ((x : Int) * (y : Int)) = (wmul x y : Int) := by
  rw [← Int.natCast_mul, wrap_u64_mod]; rfl
@[go_sem] theorem wrap_wsub (x y : Nat) : IntKind.u64.wrap ((x : Int) - (y : Int)) = (wsub x y : Int) := by
  unfold wsub
  rw [IntKind.wrap_u64, WB_eq]
  have := Nat.mod_lt y (show 0 < 18446744073709551616 by decide)
  omega
@[go_sem] theorem wrap_wsub1 (x : Nat) : IntKind.u64.wrap ((x : Int) - 1) = (wsub x 1 : Int) := wrap_wsub x 1
@[go_sem ↓ high] theorem shift_shr_32 (x : Nat) : Op.shift .shr .u64 (x : Int) .u64 32 = pure (.int .u64 (shrw x 32 : Int)) := shift_shr_nat x 32 (by decide)
@[go_sem ↓ high] theorem bits_low32 (x : Nat) (h : x < WB) : bits .and .u64 (x : Int) 4294967295 = (low32 x : Int) := M64.maskN x (by rw [WB_eq] at h; exact h)
def wdiv (x y : Nat) : Nat := x / y
def wmod (x y : Nat) : Nat := x % y
@[go_sem] theorem wrap_tdiv (x y : Nat) (h : x < WB) : IntKind.u64.wrap ((x : Int).tdiv (y : Int)) = (wdiv x y : Int) := by
  rw [← Int.ofNat_tdiv, wrap_u64_nat _ (Nat.lt_of_le_of_lt (Nat.div_le_self x y) h)]; rfl
@[go_sem] theorem wrap_tmod (x y : Nat) (h : x < WB) : IntKind.u64.wrap ((x : Int).tmod (y : Int)) = (wmod x y : Int) := by
  rw [Int.tmod_eq_emod_of_nonneg (by omega), ← Int.natCast_emod, wrap_u64_nat _ (Nat.lt_of_le_of_lt (Nat.mod_le x y) h)]; rfl
@[go_sem] theorem wrap_ediv (x y : Nat) (h : x < WB) : IntKind.u64.wrap ((x : Int) / (y : Int)) = (wdiv x y : Int) := by
  rw [← Int.natCast_ediv, wrap_u64_nat _ (Nat.lt_of_le_of_lt (Nat.div_le_self x y) h)]; rfl
@[go_sem] theorem wrap_emod (x y : Nat) (h : x < WB) : IntKind.u64.wrap ((x : Int) % (y : Int)) = (wmod x y : Int) := by
  rw [← Int.natCast_emod, wrap_u64_nat _ (Nat.lt_of_le_of_lt (Nat.mod_le x y) h)]; rfl
@[go_sem] theorem bits_or_top (x y : Nat) (hx : x < WB) (hy : y < WB) : bits .or .u64 (x : Int) ((y : Int) / 18446744073709551616) = (x : Int) := by
  have : (y : Int) / 18446744073709551616 = ((0 : Nat) : Int) := by rw [WB_eq] at hy; omega
  rw [this, bits_orw x 0 hx WB_pos]
  unfold orw; simp
theorem shrw32 (x : Nat) : shrw x 32 = x / 4294967296 := rfl
theorem low_high (x : Nat) : shrw x 32 * 4294967296 + low32 x = x := Nat.div_add_mod' x 4294967296
theorem low32_lt (x : Nat) : low32 x < 4294967296 := Nat.mod_lt _ (by decide)
theorem HB_ex : ∃ n : Nat, n = 4294967296 := ⟨_, rfl⟩
/-- What half a word counts to. -/
noncomputable def HB : Nat := Classical.choose HB_ex
theorem HB_eq : HB = 4294967296 := Classical.choose_spec HB_ex
theorem HB_pos : 0 < HB := by rw [HB_eq]; decide
theorem HB_int : (HB : Int) = 4294967296 := by rw [HB_eq]; rfl
theorem HB_two_le : HB + HB + 2 ≤ WB := by rw [WB_eq, HB_eq]; decide
theorem WB_half : WB = HB * HB := by rw [WB_eq, HB_eq]
theorem low_highH (x : Nat) : shrw x 32 * HB + low32 x = x := by rw [HB_eq]; exact low_high x
theorem low32_ltH (x : Nat) : low32 x < HB := by rw [HB_eq]; exact low32_lt x
theorem shrw32_ltH {x : Nat} (h : x < WB) : shrw x 32 < HB := by rw [HB_eq, shrw32]; rw [WB_eq] at h; omega
theorem shrw32_geH {x : Nat} (h : WB ≤ 2 * x) : HB ≤ 2 * shrw x 32 := by rw [HB_eq, shrw32]; rw [WB_eq] at h; omega

@[go_sem] theorem wrap_wmul_l (x : Nat) : IntKind.u64.wrap (4294967296 * (x : Int)) = (wmul HB x : Int) := by rw [← HB_int]; exact wrap_wmul HB x
@[go_sem] theorem wrap_wmul_r (x : Nat) : IntKind.u64.wrap ((x : Int) * 4294967296) = (wmul x HB : Int) := by rw [← HB_int]; exact wrap_wmul x HB

end Go.Proofs.YtlnillnngckegaaGreatDoor
