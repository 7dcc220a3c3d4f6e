/- Division of two words by one: the walk. -/
import Derived.Test.YtabggbajgpbmmaaGreatDoorW1
namespace Go.Proofs.YtabggbajgpbmmaaGreatDoor
open Go Go.RowKit
set_option maxRecDepth 100000 in
set_option maxHeartbeats 800000 in
theorem div64_zero (lo y : Nat) (hl : lo < WB) (_hy : y < WB) (hy0 : 0 < y) (w : World) :
    Calls Tryz.prog 237 #[.int .u64 0, .int .u64 lo, .int .u64 y] w fun e w' => e = .returned (.tuple #[.int .u64 ((lo / y : Nat) : Int), .int .u64 ((lo % y : Nat) : Int)]) ∧ w' = w.drew := by
  have e0 : ((y : Int) == 0) = false := by simp; omega
  have e1 : ¬ (y : Int) ≤ 0 := by omega
  go_enter Tryz.func237, Tryz.ntmps237
  go_wp2
  go_region
  go_wp2
  go_ret2
  exact ⟨ret2_i rfl (by simp), rfl⟩

set_option maxRecDepth 100000 in
set_option maxHeartbeats 800000 in
theorem div64_full (hi lo y : Nat) (hl : lo < WB) (hy : y < WB) (hh : hi < y) (hh0 : 0 < hi) (hy0 : WB ≤ 2 * y) (w : World)
  (lz : ∀ w, Calls Tryz.prog 252 #[.int .u64 y] w fun e w' => e = .returned (.int .i64 0) ∧ w = w') :
    Calls Tryz.prog 237 #[.int .u64 hi, .int .u64 lo, .int .u64 y] w fun e w' => e = .returned (.tuple #[.int .u64 (((hi * WB + lo) / y : Nat) : Int), .int .u64 (((hi * WB + lo) % y : Nat) : Int)]) ∧ w = w' := by
  have e0 : ((y : Int) == 0) = false := by simp; omega
  have e1 : ¬ (y : Int) ≤ hi := by omega
  have e2 : ((hi : Int) == 0) = false := by simp; omega
  have hlh := Nat.lt_trans hh hy
  have hm := shrw_lt 32 hy
  have hm0 : ¬ shrw y 32 = 0 := by have := shrw32_geH hy0; have := HB_pos; omega
  replace lz := Lib.hid lz
  have hyy := low_highH y
  have hll := low_highH lo
  have hy0l := low32_ltH y
  have hl0l := low32_ltH lo
  have hl1l := shrw32_ltH hl
  have hy1 := shrw32_geH hy0
  have hy1l := shrw32_ltH hy
  have hu1 : hi < shrw y 32 * HB + low32 y := by omega
  have hg := Guess.start (H := HB) (a := shrw y 32) (b := low32 y) (u := hi) (v := shrw lo 32) (by omega) hy1 hy0l hl1l hu1
  have ha0 : 0 < shrw y 32 := by omega
  go_enter Tryz.func237, Tryz.ntmps237
  go_upto_block 0 with ((go_at_call 252; refine (lz.out _).mono ?_; rintro e w' ⟨rfl, rfl⟩))
  generalize shrw y 32 = a at *
  generalize low32 y = b at *
  generalize shrw lo 32 = v1 at *
  generalize low32 lo = v0 at *
  replace hyy := Lib.hid hyy
  replace hll := Lib.hid hll
  go_cut [15] (fun q wr => q = .int .u64 (wdiv (hi * HB + v1) (a * HB + b) : Int) ∧ w = wr)
  case first =>
    go_wp2_with fail
    go_loopw [15, 16] (fun q r wr => ∃ q' r' : Nat, q = .int .u64 q' ∧ r = .int .u64 r' ∧ r' < HB ∧ Guess HB a b hi v1 q' r' ∧ w = wr) (fun q _ _ => (intOf q).toNat)
    case atStart =>
      refine ⟨hi / a, hi % a, rfl, ?_, by have := Nat.mod_lt hi ha0; omega, hg, rfl⟩
      have h1 : wmul (wdiv hi a) a = hi / a * a := wmul_of (Nat.lt_of_le_of_lt (Nat.div_mul_le_self hi a) hlh)
      rw [h1, wsub_of (Nat.div_mul_le_self hi a) hlh]
      have := Nat.div_add_mod' hi a
      rw [show hi - hi / a * a = hi % a by omega]
    case round =>
      obtain ⟨q, r, rfl, rfl, hr, hG, rfl⟩ := hrel
      have hql := hG.le
      have hwa : wadd r a = r + a := wadd_of (by have := HB_two_le; omega)
      replace hwa := Lib.hid hwa
      by_cases hq : HB ≤ q
      · have hn := hG.next hl1l hu1 (.inl hq)
        have hq' : (4294967296 : Int) ≤ (q : Int) := by rw [← HB_int]; omega
        have hws : wsub q 1 = q - 1 := wsub_of (by omega) (by have := HB_two_le; omega)
        replace hG := Lib.hid hG
        replace hn := Lib.hid hn
        replace hws := Lib.hid hws
        by_cases hr2 : HB ≤ r + a
        · have hr' : (4294967296 : Int) ≤ (wadd r a : Int) := by rw [← HB_int, hwa.out]; omega
          go_wp2
          go_meet
          refine ⟨?_, rfl⟩
          rw [hws.out, hn.out.2.full hy0l hr2 (by omega) (by omega)]; rfl
        · have hr' : ¬ (4294967296 : Int) ≤ (wadd r a : Int) := by rw [← HB_int, hwa.out]; omega
          go_wp2
          go_roundw
          case rel => exact ⟨q - 1, r + a, by rw [hws.out], by rw [hwa.out], by omega, hn.out.2, by trivial⟩
          case measure =>
            simp only [intOf]
            rw [hws.out]; omega
      · have hq' : ¬ (4294967296 : Int) ≤ (q : Int) := by rw [← HB_int]; omega
        have hws : wsub q 1 = q - 1 ∨ q = 0 := by
          by_cases h0 : q = 0
          · exact .inr h0
          · exact .inl (wsub_of (by omega) (by have := HB_two_le; omega))
        have hm1 : wmul q b = q * b := wmul_of (by rw [WB_half]; exact Nat.mul_lt_mul'' (by omega) hy0l)
        have hm2 : wmul HB r = HB * r := wmul_of (by rw [WB_half]; exact Nat.mul_lt_mul_of_pos_left hr HB_pos)
        have hm3 : wadd (wmul HB r) v1 = HB * r + v1 := by
          rw [hm2]
          refine wadd_of ?_
          rw [WB_half]
          have : HB * (r + 1) ≤ HB * HB := Nat.mul_le_mul_left HB hr
          rw [Nat.mul_add] at this; omega
        by_cases hc : HB * r + v1 < q * b
        · have hn := hG.next hl1l hu1 (.inr hc)
          have hct : wadd (wmul HB r) v1 < wmul q b := by rw [hm1, hm3]; exact hc
          replace hG := Lib.hid hG
          replace hws := Lib.hid (hws.resolve_right (by have := hn.1; omega))
          replace hn := Lib.hid hn
          clear hm1 hm2 hm3 hc
          by_cases hr2 : HB ≤ r + a
          · have hr' : (4294967296 : Int) ≤ (wadd r a : Int) := by rw [← HB_int, hwa.out]; omega
            go_wp2
            go_meet
            refine ⟨?_, rfl⟩
            rw [hws.out, hn.out.2.full hy0l hr2 (by omega) (by omega)]; rfl
          · have hr' : ¬ (4294967296 : Int) ≤ (wadd r a : Int) := by rw [← HB_int, hwa.out]; omega
            go_wp2
            go_roundw
            case rel => exact ⟨q - 1, r + a, by rw [hws.out], by rw [hwa.out], by omega, hn.out.2, by trivial⟩
            case measure =>
              have := hn.out.1
              simp only [intOf]
              rw [hws.out]; omega
        · have hd := hG.done (by omega) (by omega)
          have hct : ¬ wadd (wmul HB r) v1 < wmul q b := by rw [hm1, hm3]; exact hc
          replace hG := Lib.hid hG
          replace hd := Lib.hid hd
          clear hm1 hm2 hm3 hc hws
          go_wp2
          go_meet
          exact ⟨by rw [hd.out]; rfl, rfl⟩
  case rest =>
    obtain ⟨rfl, rfl⟩ := hcut
    have hq1e : wdiv (hi * HB + v1) (a * HB + b) = (hi * HB + v1) / y := by unfold wdiv; rw [hyy.out]
    have hq1d := Nat.div_add_mod (hi * HB + v1) y
    have hq1m := Nat.mod_lt (hi * HB + v1) (show 0 < y by omega)
    have hq1l : wdiv (hi * HB + v1) (a * HB + b) < HB := by
      rw [hq1e, Nat.div_lt_iff_lt_mul (by omega)]
      have : (hi + 1) * HB ≤ y * HB := Nat.mul_le_mul_right HB hh
      rw [Nat.add_mul, Nat.one_mul] at this
      rw [Nat.mul_comm HB y]; omega
    rw [← hq1e] at hq1d
    generalize wdiv (hi * HB + v1) (a * HB + b) = q1 at *
    have hud : wsub (wadd (wmul hi HB) v1) (wmul q1 y) = (hi * HB + v1) % y := wsub_chain (by rw [Nat.mul_comm q1 y]; omega) (by omega)
    have hul : wsub (wadd (wmul hi HB) v1) (wmul q1 y) < WB := wsub_lt _ _
    replace hq1d := Lib.hid hq1d
    replace hq1e := Lib.hid hq1e
    replace hq1m := Lib.hid hq1m
    replace hud := Lib.hid hud
    go_upto_block 2 with (fail)
    generalize wsub (wadd (wmul hi HB) v1) (wmul q1 y) = u at *
    have hu2 : u < a * HB + b := by rw [hyy.out, hud.out]; exact hq1m.out
    have hg2 := Guess.start (H := HB) (a := a) (b := b) (u := u) (v := v0) ha0 hy1 hy0l hl0l hu2
    go_cut [18] (fun q wr => q = .int .u64 (wdiv (u * HB + v0) (a * HB + b) : Int) ∧ w = wr)
    case first =>
      go_wp2_with fail
      go_loopw [18, 16] (fun q r wr => ∃ q' r' : Nat, q = .int .u64 q' ∧ r = .int .u64 r' ∧ r' < HB ∧ Guess HB a b u v0 q' r' ∧ w = wr) (fun q _ _ => (intOf q).toNat)
      case atStart =>
        refine ⟨u / a, u % a, rfl, ?_, by have := Nat.mod_lt u ha0; omega, hg2, rfl⟩
        have h1 : wmul (wdiv u a) a = u / a * a := wmul_of (Nat.lt_of_le_of_lt (Nat.div_mul_le_self u a) hul)
        rw [h1, wsub_of (Nat.div_mul_le_self u a) hul]
        have := Nat.div_add_mod' u a
        rw [show u - u / a * a = u % a by omega]
      case round =>
        obtain ⟨q, r, rfl, rfl, hr, hG, rfl⟩ := hrel
        have hql := hG.le
        have hwa : wadd r a = r + a := wadd_of (by have := HB_two_le; omega)
        replace hwa := Lib.hid hwa
        by_cases hq : HB ≤ q
        · have hn := hG.next hl0l hu2 (.inl hq)
          have hq' : (4294967296 : Int) ≤ (q : Int) := by rw [← HB_int]; omega
          have hws : wsub q 1 = q - 1 := wsub_of (by omega) (by have := HB_two_le; omega)
          replace hG := Lib.hid hG
          replace hn := Lib.hid hn
          replace hws := Lib.hid hws
          by_cases hr2 : HB ≤ r + a
          · have hr' : (4294967296 : Int) ≤ (wadd r a : Int) := by rw [← HB_int, hwa.out]; omega
            go_wp2
            go_meet
            refine ⟨?_, rfl⟩
            rw [hws.out, hn.out.2.full hy0l hr2 (by omega) (by omega)]; rfl
          · have hr' : ¬ (4294967296 : Int) ≤ (wadd r a : Int) := by rw [← HB_int, hwa.out]; omega
            go_wp2
            go_roundw
            case rel => exact ⟨q - 1, r + a, by rw [hws.out], by rw [hwa.out], by omega, hn.out.2, by trivial⟩
            case measure =>
              simp only [intOf]
              rw [hws.out]; omega
        · have hq' : ¬ (4294967296 : Int) ≤ (q : Int) := by rw [← HB_int]; omega
          have hws : wsub q 1 = q - 1 ∨ q = 0 := by
            by_cases h0 : q = 0
            · exact .inr h0
            · exact .inl (wsub_of (by omega) (by have := HB_two_le; omega))
          have hm1 : wmul q b = q * b := wmul_of (by rw [WB_half]; exact Nat.mul_lt_mul'' (by omega) hy0l)
          have hm2 : wmul HB r = HB * r := wmul_of (by rw [WB_half]; exact Nat.mul_lt_mul_of_pos_left hr HB_pos)
          have hm3 : wadd (wmul HB r) v0 = HB * r + v0 := by
            rw [hm2]
            refine wadd_of ?_
            rw [WB_half]
            have : HB * (r + 1) ≤ HB * HB := Nat.mul_le_mul_left HB hr
            rw [Nat.mul_add] at this; omega
          by_cases hc : HB * r + v0 < q * b
          · have hn := hG.next hl0l hu2 (.inr hc)
            have hct : wadd (wmul HB r) v0 < wmul q b := by rw [hm1, hm3]; exact hc
            replace hG := Lib.hid hG
            replace hws := Lib.hid (hws.resolve_right (by have := hn.1; omega))
            replace hn := Lib.hid hn
            clear hm1 hm2 hm3 hc
            by_cases hr2 : HB ≤ r + a
            · have hr' : (4294967296 : Int) ≤ (wadd r a : Int) := by rw [← HB_int, hwa.out]; omega
              go_wp2
              go_meet
              refine ⟨?_, rfl⟩
              rw [hws.out, hn.out.2.full hy0l hr2 (by omega) (by omega)]; rfl
            · have hr' : ¬ (4294967296 : Int) ≤ (wadd r a : Int) := by rw [← HB_int, hwa.out]; omega
              go_wp2
              go_roundw
              case rel => exact ⟨q - 1, r + a, by rw [hws.out], by rw [hwa.out], by omega, hn.out.2, by trivial⟩
              case measure =>
                have := hn.out.1
                simp only [intOf]
                rw [hws.out]; omega
          · have hd := hG.done (by omega) (by omega)
            have hct : ¬ wadd (wmul HB r) v0 < wmul q b := by rw [hm1, hm3]; exact hc
            replace hG := Lib.hid hG
            replace hd := Lib.hid hd
            clear hm1 hm2 hm3 hc hws
            go_wp2
            go_meet
            exact ⟨by rw [hd.out]; rfl, rfl⟩

    case rest =>
      obtain ⟨rfl, rfl⟩ := hcut
      have hq2e : wdiv (u * HB + v0) (a * HB + b) = (u * HB + v0) / y := by unfold wdiv; rw [hyy.out]
      have hq2d := Nat.div_add_mod (u * HB + v0) y
      have hq2m := Nat.mod_lt (u * HB + v0) (show 0 < y by omega)
      have hq2l : wdiv (u * HB + v0) (a * HB + b) < HB := by
        rw [hq2e, Nat.div_lt_iff_lt_mul (by omega)]
        have : (u + 1) * HB ≤ y * HB := Nat.mul_le_mul_right HB (by rw [hud.out]; exact hq1m.out)
        rw [Nat.add_mul, Nat.one_mul] at this
        rw [Nat.mul_comm HB y]; omega
      rw [← hq2e] at hq2d
      generalize wdiv (u * HB + v0) (a * HB + b) = q2 at *
      have hud2 : wsub (wadd (wmul u HB) v0) (wmul q2 y) = (u * HB + v0) % y := wsub_chain (by rw [Nat.mul_comm q2 y]; omega) (by omega)
      replace hq2d := Lib.hid hq2d
      replace hq2e := Lib.hid hq2e
      replace hq2m := Lib.hid hq2m
      replace hud2 := Lib.hid hud2
      go_wp2
      go_ret2
      have hqq : wadd (wmul q1 HB) q2 = q1 * HB + q2 := by
        have h1 : (q1 + 1) * HB ≤ HB * HB := Nat.mul_le_mul_right HB hq1l
        rw [Nat.add_mul, Nat.one_mul, ← WB_half] at h1
        rw [wmul_of (by omega)]
        exact wadd_of (by omega)
      have huu : hi * HB + v1 = y * q1 + u := by rw [hud.out]; exact hq1d.out.symm
      have htot : hi * WB + lo = y * (q1 * HB + q2) + (u * HB + v0) % y := by
        rw [← hll.out, WB_half, ← Nat.mul_assoc]
        have e1 : hi * HB * HB + (v1 * HB + v0) = (hi * HB + v1) * HB + v0 := by rw [Nat.add_mul]; omega
        rw [e1, huu, Nat.add_mul, Nat.mul_add, Nat.mul_assoc]
        have := hq2d.out
        omega
      refine ⟨ret2_i ?_ ?_, rfl⟩
      · rw [hqq, htot, Nat.mul_add_div (by omega), Nat.div_eq_of_lt (hq2m.out), Nat.add_zero]
      · rw [htot, Nat.mul_add_mod, Nat.mod_mod]
        rw [hud2.out]

/-- Division of two words by a word whose top bit is set, or of one word by any: quotient and rest. -/
theorem bitsDiv64_c (hi lo y : Nat) (hl : lo < WB) (hy : y < WB) (hh : hi < y) (hy0 : hi = 0 ∨ WB ≤ 2 * y) (w : World)
    (lz : hi ≠ 0 → ∀ w, Calls Tryz.prog 252 #[.int .u64 y] w fun e w' => e = .returned (.int .i64 0) ∧ w = w') :
    Calls Tryz.prog 237 #[.int .u64 hi, .int .u64 lo, .int .u64 y] w fun e w' => e = .returned (.tuple #[.int .u64 (wdiv (hi * WB + lo) y : Int), .int .u64 (wmod (hi * WB + lo) y : Int)]) ∧ ∃ n, w' = w.drewN n := by
  by_cases h0 : hi = 0
  · subst h0
    refine (div64_zero lo y hl hy (by omega) w).mono ?_
    rintro e w' ⟨rfl, rfl⟩
    refine ⟨ret2_i ?_ ?_, 1, rfl⟩ <;> simp [wdiv, wmod]
  · refine (div64_full hi lo y hl hy hh (by omega) (by omega) w (lz h0)).mono ?_
    rintro e w' ⟨rfl, rfl⟩
    exact ⟨rfl, 0, rfl⟩

end Go.Proofs.YtabggbajgpbmmaaGreatDoor
