/- Division of two words by one: the walk. The length of a word in bits. Bits of a number, and its figures. -/
import Derived.Lib.BitFns
import Derived.Test.YtlnillnngckegaaGreatDoorM01
import Derived.Test.YtlnillnngckegaaGreatDoorM05
namespace Go.Proofs.YtlnillnngckegaaGreatDoor
open Go Go.RowKit
set_option maxRecDepth 100000 in
set_option maxHeartbeats 800000 in
theorem div64_zero (lo y : Nat) (hl : lo < WB) (_hy : y < WB) (hy0 : 0 < y) (w : World) :
    Calls Tryz.prog 240 #[.int .u64 0, .int .u64 lo, .int .u64 y] w fun e w' => e = .returned (.tuple #[.int .u64 ((lo / y : Nat) : Int), .int .u64 ((lo % y : Nat) : Int)]) ∧ w' = w.drew := by
  have e0 : ((y : Int) == 0) = false := by simp; omega
  have e1 : ¬ (y : Int) ≤ 0 := by omega
  go_enter Tryz.func240, Tryz.ntmps240
  go_wp2
  go_region
  go_wp2
  go_ret2
  exact ⟨ret2_i rfl (by simp), rfl⟩

set_option maxRecDepth 100000 in
set_option maxHeartbeats 800000 in
theorem div64_full (hi lo y : Nat) (hl : lo < WB) (hy : y < WB) (hh : hi < y) (hh0 : 0 < hi) (hy0 : WB ≤ 2 * y) (w : World)
  (lz : ∀ w, Calls Tryz.prog 254 #[.int .u64 y] w fun e w' => e = .returned (.int .i64 0) ∧ w = w') :
    Calls Tryz.prog 240 #[.int .u64 hi, .int .u64 lo, .int .u64 y] w fun e w' => e = .returned (.tuple #[.int .u64 (((hi * WB + lo) / y : Nat) : Int), .int .u64 (((hi * WB + lo) % y : Nat) : Int)]) ∧ w = w' := by
  have e0 : ((y : Int) == 0) = false := by simp; omega
  have e1 : ¬ (y : Int) ≤ hi := by omega
  have e2 : ((hi : Int) == 0) = false := by simp; omega
  have hlh := Nat.lt_trans hh hy
  have hm := shrw_lt 32 hy
  have hm0 : ¬ shrw y 32 = 0 := by have := shrw32_geH hy0; have := HB_pos; omega
  replace lz := Lib.hid lz
  have hyy := low_highH y
  have hll := low_highH lo
  have hy0l := low32_ltH y
  have hl0l := low32_ltH lo
  have hl1l := shrw32_ltH hl
  have hy1 := shrw32_geH hy0
  have hy1l := shrw32_ltH hy
  have hu1 : hi < shrw y 32 * HB + low32 y := by omega
  have hg := Guess.start (H := HB) (a := shrw y 32) (b := low32 y) (u := hi) (v := shrw lo 32) (by omega) hy1 hy0l hl1l hu1
  have ha0 : 0 < shrw y 32 := by omega
  go_enter Tryz.func240, Tryz.ntmps240
  go_upto_block 0 with ((go_at_call 254; refine (lz.out _).mono ?_; rintro e w' ⟨rfl, rfl⟩))
  generalize shrw y 32 = a at *
  generalize low32 y = b at *
  generalize shrw lo 32 = v1 at *
  generalize low32 lo = v0 at *
  replace hyy := Lib.hid hyy
  replace hll := Lib.hid hll
  go_cut [15] (fun q wr => q = .int .u64 (wdiv (hi * HB + v1) (a * HB + b) : Int) ∧ w = wr)
  case first =>
    go_wp2_with fail
    go_loopw [15, 16] (fun q r wr => ∃ q' r' : Nat, q = .int .u64 q' ∧ r = .int .u64 r' ∧ r' < HB ∧ Guess HB a b hi v1 q' r' ∧ w = wr) (fun q _ _ => (intOf q).toNat)
    case atStart =>
      refine ⟨hi / a, hi % a, rfl, ?_, by have := Nat.mod_lt hi ha0; omega, hg, rfl⟩
      have h1 : wmul (wdiv hi a) a = hi / a * a := wmul_of (Nat.lt_of_le_of_lt (Nat.div_mul_le_self hi a) hlh)
      rw [h1, wsub_of (Nat.div_mul_le_self hi a) hlh]
      have := Nat.div_add_mod' hi a
      rw [show hi - hi / a * a = hi % a by omega]
    case round =>
      obtain ⟨q, r, rfl, rfl, hr, hG, rfl⟩ := hrel
      have hql := hG.le
      have hwa : wadd r a = r + a := wadd_of (by have := HB_two_le; omega)
      replace hwa := Lib.hid hwa
      by_cases hq : HB ≤ q
      · have hn := hG.next hl1l hu1 (.inl hq)
        have hq' : (4294967296 : Int) ≤ (q : Int) := by rw [← HB_int]; omega
        have hws : wsub q 1 = q - 1 := wsub_of (by omega) (by have := HB_two_le; omega)
        replace hG := Lib.hid hG
        replace hn := Lib.hid hn
        replace hws := Lib.hid hws
        by_cases hr2 : HB ≤ r + a
        · have hr' : (4294967296 : Int) ≤ (wadd r a : Int) := by rw [← HB_int, hwa.out]; omega
          go_wp2
          go_meet
          refine ⟨?_, rfl⟩
          rw [hws.out, hn.out.2.full hy0l hr2 (by omega) (by omega)]; rfl
        · have hr' : ¬ (4294967296 : Int) ≤ (wadd r a : Int) := by rw [← HB_int, hwa.out]; omega
          go_wp2
          go_roundw
          case rel => exact ⟨q - 1, r + a, by rw [hws.out], by rw [hwa.out], by omega, hn.out.2, by trivial⟩
          case measure =>
            simp only [intOf]
            rw [hws.out]; omega
      · have hq' : ¬ (4294967296 : Int) ≤ (q : Int) := by rw [← HB_int]; omega
        have hws : wsub q 1 = q - 1 ∨ q = 0 := by
          by_cases h0 : q = 0
          · exact .inr h0
          · exact .inl (wsub_of (by omega) (by have := HB_two_le; omega))
        have hm1 : wmul q b = q * b := wmul_of (by rw [WB_half]; exact Nat.mul_lt_mul'' (by omega) hy0l)
        have hm2 : wmul HB r = HB * r := wmul_of (by rw [WB_half]; exact Nat.mul_lt_mul_of_pos_left hr HB_pos)
        have hm3 : wadd (wmul HB r) v1 = HB * r + v1 := by
          rw [hm2]
          refine wadd_of ?_
          rw [WB_half]
          have : HB * (r + 1) ≤ HB * HB := Nat.mul_le_mul_left HB hr
          rw [Nat.mul_add] at this; omega
        by_cases hc : HB * r + v1 < q * b
        · have hn := hG.next hl1l hu1 (.inr hc)
          have hct : wadd (wmul HB r) v1 < wmul q b := by rw [hm1, hm3]; exact hc
          replace hG := Lib.hid hG
          replace hws := Lib.hid (hws.resolve_right (by have := hn.1; omega))
          replace hn := Lib.hid hn
          clear hm1 hm2 hm3 hc
          by_cases hr2 : HB ≤ r + a
          · have hr' : (4294967296 : Int) ≤ (wadd r a : Int) := by rw [← HB_int, hwa.out]; omega
            go_wp2
            go_meet
            refine ⟨?_, rfl⟩
            rw [hws.out, hn.out.2.full hy0l hr2 (by omega) (by omega)]; rfl
          · have hr' : ¬ (4294967296 : Int) ≤ (wadd r a : Int) := by rw [← HB_int, hwa.out]; omega
            go_wp2
            go_roundw
            case rel => exact ⟨q - 1, r + a, by rw [hws.out], by rw [hwa.out], by omega, hn.out.2, by trivial⟩
            case measure =>
              have := hn.out.1
              simp only [intOf]
              rw [hws.out]; omega
        · have hd := hG.done (by omega) (by omega)
          have hct : ¬ wadd (wmul HB r) v1 < wmul q b := by rw [hm1, hm3]; exact hc
          replace hG := Lib.hid hG
          replace hd := Lib.hid hd
          clear hm1 hm2 hm3 hc hws
          go_wp2
          go_meet
          exact ⟨by rw [hd.out]; rfl, rfl⟩
  case rest =>
    obtain ⟨rfl, rfl⟩ := hcut
    have hq1e : wdiv (hi * HB + v1) (a * HB + b) = (hi * HB + v1) / y := by unfold wdiv; rw [hyy.out]
    have hq1d := Nat.div_add_mod (hi * HB + v1) y
    have hq1m := Nat.mod_lt (hi * HB + v1) (show 0 < y by omega)
    have hq1l : wdiv (hi * HB + v1) (a * HB + b) < HB := by
      rw [hq1e, Nat.div_lt_iff_lt_mul (by omega)]
      have : (hi + 1) * HB ≤ y * HB := Nat.mul_le_mul_right HB hh
      rw [Nat.add_mul, Nat.one_mul] at this
      rw [Nat.mul_comm HB y]; omega
    rw [← hq1e] at hq1d
    generalize wdiv (hi * HB + v1) (a * HB + b) = q1 at *
    have hud : wsub (wadd (wmul hi HB) v1) (wmul q1 y) = (hi * HB + v1) % y := wsub_chain (by rw [Nat.mul_comm q1 y]; omega) (by omega)
    have hul : wsub (wadd (wmul hi HB) v1) (wmul q1 y) < WB := wsub_lt _ _
    replace hq1d := Lib.hid hq1d
    replace hq1e := Lib.hid hq1e
    replace hq1m := Lib.hid hq1m
    replace hud := Lib.hid hud
    go_upto_block 2 with (fail)
    generalize wsub (wadd (wmul hi HB) v1) (wmul q1 y) = u at *
    have hu2 : u < a * HB + b := by rw [hyy.out, hud.out]; exact hq1m.out
    have hg2 := Guess.start (H := HB) (a := a) (b := b) (u := u) (v := v0) ha0 hy1 hy0l hl0l hu2
    go_cut [18] (fun q wr => q = .int .u64 (wdiv (u * HB + v0) (a * HB + b) : Int) ∧ w = wr)
    case first =>
      go_wp2_with fail
      go_loopw [18, 16] (fun q r wr => ∃ q' r' : Nat, q = .int .u64 q' ∧ r = .int .u64 r' ∧ r' < HB ∧ Guess HB a b u v0 q' r' ∧ w = wr) (fun q _ _ => (intOf q).toNat)
      case atStart =>
        refine ⟨u / a, u % a, rfl, ?_, by have := Nat.mod_lt u ha0; omega, hg2, rfl⟩
        have h1 : wmul (wdiv u a) a = u / a * a := wmul_of (Nat.lt_of_le_of_lt (Nat.div_mul_le_self u a) hul)
        rw [h1, wsub_of (Nat.div_mul_le_self u a) hul]
        have := Nat.div_add_mod' u a
        rw [show u - u / a * a = u % a by omega]
      case round =>
        obtain ⟨q, r, rfl, rfl, hr, hG, rfl⟩ := hrel
        have hql := hG.le
        have hwa : wadd r a = r + a := wadd_of (by have := HB_two_le; omega)
        replace hwa := Lib.hid hwa
        by_cases hq : HB ≤ q
        · have hn := hG.next hl0l hu2 (.inl hq)
          have hq' : (4294967296 : Int) ≤ (q : Int) := by rw [← HB_int]; omega
          have hws : wsub q 1 = q - 1 := wsub_of (by omega) (by have := HB_two_le; omega)
          replace hG := Lib.hid hG
          replace hn := Lib.hid hn
          replace hws := Lib.hid hws
          by_cases hr2 : HB ≤ r + a
          · have hr' : (4294967296 : Int) ≤ (wadd r a : Int) := by rw [← HB_int, hwa.out]; omega
            go_wp2
            go_meet
            refine ⟨?_, rfl⟩
            rw [hws.out, hn.out.2.full hy0l hr2 (by omega) (by omega)]; rfl
          · have hr' : ¬ (4294967296 : Int) ≤ (wadd r a : Int) := by rw [← HB_int, hwa.out]; omega
            go_wp2
            go_roundw
            case rel => exact ⟨q - 1, r + a, by rw [hws.out], by rw [hwa.out], by omega, hn.out.2, by trivial⟩
            case measure =>
              simp only [intOf]
              rw [hws.out]; omega
        · have hq' : ¬ (4294967296 : Int) ≤ (q : Int) := by rw [← HB_int]; omega
          have hws : wsub q 1 = q - 1 ∨ q = 0 := by
            by_cases h0 : q = 0
            · exact .inr h0
            · exact .inl (wsub_of (by omega) (by have := HB_two_le; omega))
          have hm1 : wmul q b = q * b := wmul_of (by rw [WB_half]; exact Nat.mul_lt_mul'' (by omega) hy0l)
          have hm2 : wmul HB r = HB * r := wmul_of (by rw [WB_half]; exact Nat.mul_lt_mul_of_pos_left hr HB_pos)
          have hm3 : wadd (wmul HB r) v0 = HB * r + v0 := by
            rw [hm2]
            refine wadd_of ?_
            rw [WB_half]
            have : HB * (r + 1) ≤ HB * HB := Nat.mul_le_mul_left HB hr
            rw [Nat.mul_add] at this; omega
          by_cases hc : HB * r + v0 < q * b
          · have hn := hG.next hl0l hu2 (.inr hc)
            have hct : wadd (wmul HB r) v0 < wmul q b := by rw [hm1, hm3]; exact hc
            replace hG := Lib.hid hG
            replace hws := Lib.hid (hws.resolve_right (by have := hn.1; omega))
            replace hn := Lib.hid hn
            clear hm1 hm2 hm3 hc
            by_cases hr2 : HB ≤ r + a
            · have hr' : (4294967296 : Int) ≤ (wadd r a : Int) := by rw [← HB_int, hwa.out]; omega
              go_wp2
              go_meet
              refine ⟨?_, rfl⟩
              rw [hws.out, hn.out.2.full hy0l hr2 (by omega) (by omega)]; rfl
            · have hr' : ¬ (4294967296 : Int) ≤ (wadd r a : Int) := by rw [← HB_int, hwa.out]; omega
              go_wp2
              go_roundw
              case rel => exact ⟨q - 1, r + a, by rw [hws.out], by rw [hwa.out], by omega, hn.out.2, by trivial⟩
              case measure =>
                have := hn.out.1
                simp only [intOf]
                rw [hws.out]; omega
          · have hd := hG.done (by omega) (by omega)
            have hct : ¬ wadd (wmul HB r) v0 < wmul q b := by rw [hm1, hm3]; exact hc
            replace hG := Lib.hid hG
            replace hd := Lib.hid hd
            clear hm1 hm2 hm3 hc hws
            go_wp2
            go_meet
            exact ⟨by rw [hd.out]; rfl, rfl⟩

    case rest =>
      obtain ⟨rfl, rfl⟩ := hcut
      have hq2e : wdiv (u * HB + v0) (a * HB + b) = (u * HB + v0) / y := by unfold wdiv; rw [hyy.out]
      have hq2d := Nat.div_add_mod (u * HB + v0) y
      have hq2m := Nat.mod_lt (u * HB + v0) (show 0 < y by omega)
      have hq2l : wdiv (u * HB + v0) (a * HB + b) < HB := by
        rw [hq2e, Nat.div_lt_iff_lt_mul (by omega)]
        have : (u + 1) * HB ≤ y * HB := Nat.mul_le_mul_right HB (by rw [hud.out]; exact hq1m.out)
        rw [Nat.add_mul, Nat.one_mul] at this
        rw [Nat.mul_comm HB y]; omega
      rw [← hq2e] at hq2d
      generalize wdiv (u * HB + v0) (a * HB + b) = q2 at *
      have hud2 : wsub (wadd (wmul u HB) v0) (wmul q2 y) = (u * HB + v0) % y := wsub_chain (by rw [Nat.mul_comm q2 y]; omega) (by omega)
      replace hq2d := Lib.hid hq2d
      replace hq2e := Lib.hid hq2e
      replace hq2m := Lib.hid hq2m
      replace hud2 := Lib.hid hud2
      go_wp2
      go_ret2
      have hqq : wadd (wmul q1 HB) q2 = q1 * HB + q2 := by
        have h1 : (q1 + 1) * HB ≤ HB * HB := Nat.mul_le_mul_right HB hq1l
        rw [Nat.add_mul, Nat.one_mul, ← WB_half] at h1
        rw [wmul_of (by omega)]
        exact wadd_of (by omega)
      have huu : hi * HB + v1 = y * q1 + u := by rw [hud.out]; exact hq1d.out.symm
      have htot : hi * WB + lo = y * (q1 * HB + q2) + (u * HB + v0) % y := by
        rw [← hll.out, WB_half, ← Nat.mul_assoc]
        have e1 : hi * HB * HB + (v1 * HB + v0) = (hi * HB + v1) * HB + v0 := by rw [Nat.add_mul]; omega
        rw [e1, huu, Nat.add_mul, Nat.mul_add, Nat.mul_assoc]
        have := hq2d.out
        omega
      refine ⟨ret2_i ?_ ?_, rfl⟩
      · rw [hqq, htot, Nat.mul_add_div (by omega), Nat.div_eq_of_lt (hq2m.out), Nat.add_zero]
      · rw [htot, Nat.mul_add_mod, Nat.mod_mod]
        rw [hud2.out]

/-- Division of two words by a word whose top bit is set, or of one word by any: quotient and rest. -/
theorem bitsDiv64_c (hi lo y : Nat) (hl : lo < WB) (hy : y < WB) (hh : hi < y) (hy0 : hi = 0 ∨ WB ≤ 2 * y) (w : World)
    (lz : hi ≠ 0 → ∀ w, Calls Tryz.prog 254 #[.int .u64 y] w fun e w' => e = .returned (.int .i64 0) ∧ w = w') :
    Calls Tryz.prog 240 #[.int .u64 hi, .int .u64 lo, .int .u64 y] w fun e w' => e = .returned (.tuple #[.int .u64 (wdiv (hi * WB + lo) y : Int), .int .u64 (wmod (hi * WB + lo) y : Int)]) ∧ ∃ n, w' = w.drewN n := by
  by_cases h0 : hi = 0
  · subst h0
    refine (div64_zero lo y hl hy (by omega) w).mono ?_
    rintro e w' ⟨rfl, rfl⟩
    refine ⟨ret2_i ?_ ?_, 1, rfl⟩ <;> simp [wdiv, wmod]
  · refine (div64_full hi lo y hl hy hh (by omega) (by omega) w (lz h0)).mono ?_
    rintro e w' ⟨rfl, rfl⟩
    exact ⟨rfl, 0, rfl⟩

end Go.Proofs.YtlnillnngckegaaGreatDoor

namespace Go.Proofs.YtlnillnngckegaaGreatDoor
open Go Go.RowKit

theorem bl_spec (f : Nat) : ∀ x, x < 2 ^ f → x < 2 ^ Lib.bitLenAux f x ∧ (x ≠ 0 → 2 ^ Lib.bitLenAux f x ≤ 2 * x) ∧ Lib.bitLenAux f x ≤ f := by
  induction f with
  | zero => intro x h; simp at h; subst h; simp [Lib.bitLenAux]
  | succ f ih =>
    intro x h
    by_cases h0 : x = 0
    · subst h0; simp [Lib.bitLenAux]
    · have hs : Lib.bitLenAux (f + 1) x = 1 + Lib.bitLenAux f (x / 2) := by simp [Lib.bitLenAux, h0]
      rw [hs]
      obtain ⟨h1, h2, h3⟩ := ih (x / 2) (by rw [Nat.pow_succ] at h; omega)
      rw [Nat.pow_add, Nat.pow_one]
      refine ⟨by omega, fun _ => ?_, by omega⟩
      by_cases h4 : x / 2 = 0
      · have hx : x = 1 := by omega
        subst hx
        have : Lib.bitLenAux f 0 = 0 := by cases f <;> simp [Lib.bitLenAux]
        simp [this]
      · have := h2 h4; omega
/-- How many bits a word has. -/
def blen (x : Nat) : Nat := Lib.bitLen x
theorem blen_lt {x : Nat} (h : x < WB) : x < 2 ^ blen x := (bl_spec 64 x (by rw [← WB_two_pow]; exact h)).1
theorem blen_ge {x : Nat} (h : x < WB) (h0 : 0 < x) : 2 ^ blen x ≤ 2 * x := (bl_spec 64 x (by rw [← WB_two_pow]; exact h)).2.1 (by omega)
theorem blen_le {x : Nat} (h : x < WB) : blen x ≤ 64 := (bl_spec 64 x (by rw [← WB_two_pow]; exact h)).2.2
theorem blen_pos {x : Nat} (h : x < WB) (h0 : 0 < x) : 0 < blen x := by
  have := blen_lt h
  rcases Nat.eq_zero_or_pos (blen x) with h1 | h1
  · rw [h1] at this; simp at this; omega
  · exact h1
/-- How many noughts stand before its first one. -/
def nlzN (x : Nat) : Nat := 64 - blen x
theorem nlzN_lt {x : Nat} (h : x < WB) (h0 : 0 < x) : nlzN x < 64 := by have := blen_pos h h0; unfold nlzN; omega
theorem nlz_shift {x : Nat} (h : x < WB) (h0 : 0 < x) : x * 2 ^ nlzN x < WB ∧ WB ≤ 2 * (x * 2 ^ nlzN x) := by
  have h1 := blen_lt h
  have h2 := blen_ge h h0
  have h3 := blen_le h
  have e : WB = 2 ^ blen x * 2 ^ nlzN x := by rw [← Nat.pow_add, WB_two_pow]; congr 1; unfold nlzN; omega
  rw [e]
  have hp : 0 < 2 ^ nlzN x := Nat.two_pow_pos _
  exact ⟨Nat.mul_lt_mul_of_pos_right h1 hp, by rw [← Nat.mul_assoc]; exact Nat.mul_le_mul_right _ h2⟩

theorem bits_Len64_c (x : Nat) (h : x < WB) (w : World) : Calls Tryz.prog 229 #[.int .u64 x] w fun e w' => e = .returned (.int .i64 (blen x : Int)) ∧ w = w' := by
  rw [WB_eq] at h
  refine (shelf_bits_Len64 (x : Int) w (by omega) (by omega)).mono ?_
  rintro e w' ⟨rfl, hw⟩
  exact ⟨by unfold blen; rw [Int.toNat_natCast], hw.symm⟩

set_option maxHeartbeats 400000 in
theorem bits_Len_c (x : Nat) (h : x < WB) (w : World) : Calls Tryz.prog 211 #[.int .u64 x] w fun e w' => e = .returned (.int .i64 (blen x : Int)) ∧ w = w' := by
  go_enter Tryz.func211, Tryz.ntmps211
  go_wp2_with (go_at_call 229; refine (bits_Len64_c x h _).mono ?_; rintro e w' ⟨rfl, hw⟩; obtain rfl := hw)
  go_ret
  exact ⟨rfl, rfl⟩
set_option maxHeartbeats 400000 in
theorem bits_LeadingZeros64_c (x : Nat) (h : x < WB) (w : World) : Calls Tryz.prog 254 #[.int .u64 x] w fun e w' => e = .returned (.int .i64 (nlzN x : Int)) ∧ w = w' := by
  have hl := blen_le h
  have hn : nlzN x = 64 - blen x := rfl
  replace hn := Lib.hid hn
  go_enter Tryz.func254, Tryz.ntmps254
  go_wp2_with (go_at_call 229; refine (bits_Len64_c x h _).mono ?_; rintro e w' ⟨rfl, hw⟩; obtain rfl := hw)
  go_ret
  exact ⟨ret_i (by rw [hn.out]; omega), rfl⟩
set_option maxHeartbeats 400000 in
theorem bits_LeadingZeros_c (x : Nat) (h : x < WB) (w : World) : Calls Tryz.prog 223 #[.int .u64 x] w fun e w' => e = .returned (.int .i64 (nlzN x : Int)) ∧ w = w' := by
  have hl := blen_le h
  have hn : nlzN x = 64 - blen x := rfl
  replace hn := Lib.hid hn
  go_enter Tryz.func223, Tryz.ntmps223
  go_wp2_with (go_at_call 211; refine (bits_Len_c x h _).mono ?_; rintro e w' ⟨rfl, hw⟩; obtain rfl := hw)
  go_ret
  exact ⟨ret_i (by rw [hn.out]; omega), rfl⟩
set_option maxHeartbeats 400000 in
theorem nlz_c (x : Nat) (h : x < WB) (w : World) : Calls Tryz.prog 201 #[.int .u64 x] w fun e w' => e = .returned (.int .u64 (nlzN x : Int)) ∧ w = w' := by
  have hl : nlzN x ≤ 64 := Nat.sub_le _ _
  go_enter Tryz.func201, Tryz.ntmps201
  go_wp2_with (go_at_call 223; refine (bits_LeadingZeros_c x h _).mono ?_; rintro e w' ⟨rfl, hw⟩; obtain rfl := hw)
  go_ret
  exact ⟨rfl, rfl⟩

set_option maxHeartbeats 400000 in
theorem bitsDiv_c (hi lo y : Nat) (hl : lo < WB) (hy : y < WB) (hh : hi < y) (hy0 : hi = 0 ∨ WB ≤ 2 * y) (w : World) :
    Calls Tryz.prog 220 #[.int .u64 hi, .int .u64 lo, .int .u64 y] w fun e w' => e = .returned (.tuple #[.int .u64 (wdiv (hi * WB + lo) y : Int), .int .u64 (wmod (hi * WB + lo) y : Int)]) ∧ ∃ n, w' = w.drewN n := by
  have lz : hi ≠ 0 → ∀ w, Calls Tryz.prog 254 #[.int .u64 y] w fun e w' => e = .returned (.int .i64 0) ∧ w = w' := by
    intro h0 w
    have hn : nlzN y = 0 := by
      have h1 := blen_lt hy
      have h2 : WB ≤ 2 * y := hy0.resolve_left h0
      have h3 := blen_le hy
      rcases Nat.lt_or_ge (blen y) 64 with h4 | h4
      · have : 2 ^ blen y ≤ 2 ^ 63 := Nat.pow_le_pow_right (by decide) (by omega)
        have e : 2 * 2 ^ 63 = WB := by rw [WB_two_pow]
        omega
      · unfold nlzN; omega
    have := bits_LeadingZeros64_c y hy w
    rw [hn] at this
    exact this
  replace lz := Lib.hid lz
  go_enter Tryz.func220, Tryz.ntmps220
  go_wp2_with (go_at_call 240; refine (bitsDiv64_c hi lo y hl hy hh hy0 _ lz.out).mono ?_; rintro e w' ⟨rfl, n, rfl⟩)
  go_ret2
  exact ⟨rfl, _, rfl⟩
end Go.Proofs.YtlnillnngckegaaGreatDoor

namespace Go.Proofs.YtlnillnngckegaaGreatDoor
open Go Go.RowKit

/-- How many bits a number has. -/
def nbits (n : Nat) : Nat := if n = 0 then 0 else n.log2 + 1
theorem nbits_zero : nbits 0 = 0 := rfl
theorem nbits_pos {n : Nat} (h : n ≠ 0) : 1 ≤ nbits n := by unfold nbits; rw [if_neg h]; omega
theorem nbits_lt (n : Nat) : n < 2 ^ nbits n := by
  unfold nbits; split
  · next h => subst h; decide
  · next h => exact Nat.lt_log2_self
theorem nbits_ge {n : Nat} (h : n ≠ 0) : 2 ^ (nbits n - 1) ≤ n := by
  unfold nbits; rw [if_neg h, Nat.add_sub_cancel]; exact Nat.log2_self_le h
theorem two_lt_iff {a b : Nat} : 2 ^ a < 2 ^ b ↔ a < b := Nat.pow_lt_pow_iff_right (by omega)
theorem nbits_eq {n k : Nat} (hk : 1 ≤ k) (h1 : 2 ^ (k - 1) ≤ n) (h2 : n < 2 ^ k) : nbits n = k := by
  have h0 : n ≠ 0 := by rintro rfl; have := Nat.pow_pos (n := k - 1) (show 0 < 2 by omega); omega
  have h3 := two_lt_iff.1 (Nat.lt_of_le_of_lt h1 (nbits_lt n))
  have h4 := two_lt_iff.1 (Nat.lt_of_le_of_lt (nbits_ge h0) h2)
  have := nbits_pos h0
  omega
theorem nbits_le_iff {n k : Nat} : nbits n ≤ k ↔ n < 2 ^ k := by
  refine ⟨fun h => Nat.lt_of_lt_of_le (nbits_lt n) (Nat.pow_le_pow_right (by omega) h), fun h => ?_⟩
  by_cases h0 : n = 0
  · subst h0; exact Nat.zero_le _
  · have h4 := two_lt_iff.1 (Nat.lt_of_le_of_lt (nbits_ge h0) h)
    omega
theorem nbits_blen {x : Nat} (h : x < WB) : nbits x = blen x := by
  by_cases h0 : x = 0
  · subst h0; rfl
  · have h1 := blen_lt h
    have h2 := blen_ge h (by omega)
    have h3 := blen_pos h (by omega)
    refine nbits_eq h3 ?_ h1
    obtain ⟨k, hk⟩ : ∃ k, blen x = k + 1 := ⟨blen x - 1, by omega⟩
    rw [hk] at h2 ⊢
    rw [Nat.pow_succ] at h2
    rw [Nat.add_sub_cancel]; omega
/-- A word that has its top bit spread keeps its bits' count. -/
theorem nbits_spread (x s : Nat) : nbits (x ||| x / 2 ^ s) = nbits x := by
  by_cases h0 : x = 0
  · subst h0; simp
  · refine nbits_eq (nbits_pos h0) (Nat.le_trans (nbits_ge h0) Nat.left_le_or) (Nat.or_lt_two_pow (nbits_lt x) (Nat.lt_of_le_of_lt (Nat.div_le_self _ _) (nbits_lt x)))
theorem WB_bits : WB = 2 ^ 64 := by rw [WB_eq]
/-- Bits of a list of words. -/
theorem nbits_digs {n : Nat} (h : n ≠ 0) : nbits n = 64 * ((digs n).length - 1) + nbits (nth (digs n) ((digs n).length - 1)) := by
  have hl : 0 < (digs n).length := Nat.pos_of_ne_zero (fun e => h (digs_len_eq_zero.1 e))
  obtain ⟨k, hk⟩ : ∃ k, (digs n).length = k + 1 := ⟨(digs n).length - 1, by omega⟩
  rw [hk, Nat.add_sub_cancel]
  have hv := val_digs n
  have hw := Wd_digs n
  have ht : nth (digs n) k ≠ 0 := by
    have hne : digs n ≠ [] := fun e => h (digs_eq_nil.1 e)
    have h1 := digs_last hne
    rw [List.getLast_eq_getElem] at h1
    unfold nth
    rw [List.getElem?_eq_getElem (by omega)]
    simp only [hk, Nat.add_sub_cancel] at h1
    exact h1
  have hs : n = val ((digs n).take k) + WB ^ k * nth (digs n) k := by
    conv => lhs; rw [← hv]
    rw [← val_take_succ (by omega), List.take_of_length_le (by omega)]
  have hlt : val ((digs n).take k) < WB ^ k := by
    have := val_lt (hw.take k)
    rw [List.length_take, Nat.min_eq_left (by omega)] at this
    exact this
  have e : WB ^ k = 2 ^ (64 * k) := by rw [WB_bits, ← Nat.pow_mul]
  rw [e] at hs hlt
  generalize nth (digs n) k = t at *
  generalize val ((digs n).take k) = r at *
  have h1 := nbits_lt t
  have h2 := nbits_ge ht
  have h3 := nbits_pos ht
  refine nbits_eq (by omega) ?_ ?_
  · rw [show 64 * k + nbits t - 1 = 64 * k + (nbits t - 1) by omega, Nat.pow_add, hs]
    have := Nat.mul_le_mul_left (2 ^ (64 * k)) h2
    omega
  · rw [Nat.pow_add, hs]
    have := Nat.mul_le_mul_left (2 ^ (64 * k)) (Nat.succ_le_of_lt h1)
    rw [Nat.mul_succ] at this
    omega
end Go.Proofs.YtlnillnngckegaaGreatDoor
