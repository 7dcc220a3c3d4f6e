/- Words reckoned with modulo the base. Division of two words by one: the walk. The length of a word in bits. Division by a word through its reciprocal. Division by a word through its reciprocal: the walks. A row of words divided by a word. Natural numbers in memory: a slice of words, the last one not 0, at the head of a block of its own. nat: norm, make. -/
import Derived.Lib.BitFns
import Derived.Test.YtonepclpllelfaaGreatDoorC02
import Derived.Test.YtonepclpllelfaaGreatDoorC04
import Derived.Test.YtonepclpllelfaaGreatDoorC05
namespace Go.Proofs.YtonepclpllelfaaGreatDoor
open Go Go.RowKit

noncomputable def wadd (x y : Nat) : Nat := (x + y) % WB
noncomputable def wsub (x y : Nat) : Nat := (x % WB + (WB - y % WB)) % WB
noncomputable def wmul (x y : Nat) : Nat := x * y % WB
def low32 (x : Nat) : Nat := x % 4294967296
theorem wadd_lt (x y : Nat) : wadd x y < WB := Nat.mod_lt _ WB_pos
theorem wsub_lt (x y : Nat) : wsub x y < WB := Nat.mod_lt _ WB_pos
theorem wadd_of {x y : Nat} (h : x + y < WB) : wadd x y = x + y := Nat.mod_eq_of_lt h
theorem wmul_of {x y : Nat} (h : x * y < WB) : wmul x y = x * y := Nat.mod_eq_of_lt h
theorem wsub_of {x y : Nat} (h : y ≤ x) (hx : x < WB) : wsub x y = x - y := mod_diff (by omega) (by omega)
theorem wsub_borrow {x y : Nat} (h : x < y) (hy : y < WB) : wsub x y = x + WB - y := by
  unfold wsub
  rw [Nat.mod_eq_of_lt (show x < WB by omega), Nat.mod_eq_of_lt hy, Nat.mod_eq_of_lt (by omega)]; omega

theorem wsub_chain {u H v q y r : Nat} (h : u * H + v = q * y + r) (hr : r < WB) : wsub (wadd (wmul u H) v) (wmul q y) = r := by
  unfold wsub wadd wmul
  have := mod_diff h hr
  simp only [Nat.mod_mod, Nat.mod_add_mod] at this ⊢
  exact this

theorem wrap_u64_mod (a : Nat) : IntKind.u64.wrap (a : Int) = ((a % WB : Nat) : Int) := by rw [IntKind.wrap_u64, WB_eq]; omega
@[go_sem] theorem wrap_u64_lt (x : Nat) (h : x < WB) : IntKind.u64.wrap (x : Int) = (x : Int) := wrap_u64_nat x h
@[go_sem] theorem wrap_wadd (x y : Nat) : IntKind.u64.wrap ((x : Int) + (y : Int)) = (wadd x y : Int) := by
  rw [← Int.natCast_add, wrap_u64_mod]; rfl
@[go_sem] theorem wrap_wadd1 (x : Nat) : IntKind.u64.wrap ((x : Int) + 1) = (wadd x 1 : Int) := wrap_wadd x 1
@[go_sem] theorem wrap_wmul (x y : Nat) : IntKind.u64.wrap ((x : Int) * (y : Int)) = (wmul x y : Int) := by
  rw [← Int.natCast_mul, wrap_u64_mod]; rfl
@[go_sem] theorem wrap_wsub (x y : Nat) : IntKind.u64.wrap ((x : Int) - (y : Int)) = (wsub x y : Int) := by
  unfold wsub
  rw [IntKind.wrap_u64, WB_eq]
  have := Nat.mod_lt y (show 0 < 18446744073709551616 by decide)
  omega
@[go_sem] theorem wrap_wsub1 (x : Nat) : IntKind.u64.wrap ((x : Int) - 1) = (wsub x 1 : Int) := wrap_wsub x 1
@[go_sem ↓ high] theorem shift_shr_32 (x : Nat) : Op.shift .shr .u64 (x : Int) .u64 32 = pure (.int .u64 (shrw x 32 : Int)) := shift_shr_nat x 32 (by decide)
@[go_sem ↓ high] theorem bits_low32 (x : Nat) (h : x < WB) : bits .and .u64 (x : Int) 4294967295 = (low32 x : Int) := M64.maskN x (by rw [WB_eq] at h; exact h)
def wdiv (x y : Nat) : Nat := x / y
def wmod (x y : Nat) : Nat := x % y
@[go_sem] theorem wrap_tdiv (x y : Nat) (h : x < WB) : IntKind.u64.wrap ((x : Int).tdiv (y : Int)) = (wdiv x y : Int) := by
  rw [← Int.ofNat_tdiv, wrap_u64_nat _ (Nat.lt_of_le_of_lt (Nat.div_le_self x y) h)]; rfl
@[go_sem] theorem wrap_tmod (x y : Nat) (h : x < WB) : IntKind.u64.wrap ((x : Int).tmod (y : Int)) = (wmod x y : Int) := by
  rw [Int.tmod_eq_emod_of_nonneg (by omega), ← Int.natCast_emod, wrap_u64_nat _ (Nat.lt_of_le_of_lt (Nat.mod_le x y) h)]; rfl
@[go_sem] theorem wrap_ediv (x y : Nat) (h : x < WB) : IntKind.u64.wrap ((x : Int) / (y : Int)) = (wdiv x y : Int) := by
  rw [← Int.natCast_ediv, wrap_u64_nat _ (Nat.lt_of_le_of_lt (Nat.div_le_self x y) h)]; rfl
@[go_sem] theorem wrap_emod (x y : Nat) (h : x < WB) : IntKind.u64.wrap ((x : Int) % (y : Int)) = (wmod x y : Int) := by
  rw [← Int.natCast_emod, wrap_u64_nat _ (Nat.lt_of_le_of_lt (Nat.mod_le x y) h)]; rfl
@[go_sem] theorem bits_or_top (x y : Nat) (hx : x < WB) (hy : y < WB) : bits .or .u64 (x : Int) ((y : Int) / 18446744073709551616) = (x : Int) := by
  have : (y : Int) / 18446744073709551616 = ((0 : Nat) : Int) := by rw [WB_eq] at hy; omega
  rw [this, bits_orw x 0 hx WB_pos]
  unfold orw; simp
theorem shrw32 (x : Nat) : shrw x 32 = x / 4294967296 := rfl
theorem low_high (x : Nat) : shrw x 32 * 4294967296 + low32 x = x := Nat.div_add_mod' x 4294967296
theorem low32_lt (x : Nat) : low32 x < 4294967296 := Nat.mod_lt _ (by decide)
theorem HB_ex : ∃ n : Nat, n = 4294967296 := ⟨_, rfl⟩
/-- What half a word counts to. -/
noncomputable def HB : Nat := Classical.choose HB_ex
theorem HB_eq : HB = 4294967296 := Classical.choose_spec HB_ex
theorem HB_pos : 0 < HB := by rw [HB_eq]; decide
theorem HB_int : (HB : Int) = 4294967296 := by rw [HB_eq]; rfl
theorem HB_two_le : HB + HB + 2 ≤ WB := by rw [WB_eq, HB_eq]; decide
theorem WB_half : WB = HB * HB := by rw [WB_eq, HB_eq]
theorem low_highH (x : Nat) : shrw x 32 * HB + low32 x = x := by rw [HB_eq]; exact low_high x
theorem low32_ltH (x : Nat) : low32 x < HB := by rw [HB_eq]; exact low32_lt x
theorem shrw32_ltH {x : Nat} (h : x < WB) : shrw x 32 < HB := by rw [HB_eq, shrw32]; rw [WB_eq] at h; omega
theorem shrw32_geH {x : Nat} (h : WB ≤ 2 * x) : HB ≤ 2 * shrw x 32 := by rw [HB_eq, shrw32]; rw [WB_eq] at h; omega

@[go_sem] theorem wrap_wmul_l (x : Nat) : IntKind.u64.wrap (4294967296 * (x : Int)) = (wmul HB x : Int) := by rw [← HB_int]; exact wrap_wmul HB x
@[go_sem] theorem wrap_wmul_r (x : Nat) : IntKind.u64.wrap ((x : Int) * 4294967296) = (wmul x HB : Int) := by rw [← HB_int]; exact wrap_wmul x HB

end Go.Proofs.YtonepclpllelfaaGreatDoor

namespace Go.Proofs.YtonepclpllelfaaGreatDoor
open Go Go.RowKit
set_option maxRecDepth 100000 in
set_option maxHeartbeats 800000 in
theorem div64_zero (lo y : Nat) (hl : lo < WB) (_hy : y < WB) (hy0 : 0 < y) (w : World) :
    Calls Tryz.prog 248 #[.int .u64 0, .int .u64 lo, .int .u64 y] w fun e w' => e = .returned (.tuple #[.int .u64 ((lo / y : Nat) : Int), .int .u64 ((lo % y : Nat) : Int)]) ∧ w' = w.drew := by
  have e0 : ((y : Int) == 0) = false := by simp; omega
  have e1 : ¬ (y : Int) ≤ 0 := by omega
  go_enter Tryz.func248, Tryz.ntmps248
  go_wp2
  go_region
  go_wp2
  go_ret2
  exact ⟨ret2_i rfl (by simp), rfl⟩

set_option maxRecDepth 100000 in
set_option maxHeartbeats 800000 in
theorem div64_full (hi lo y : Nat) (hl : lo < WB) (hy : y < WB) (hh : hi < y) (hh0 : 0 < hi) (hy0 : WB ≤ 2 * y) (w : World)
  (lz : ∀ w, Calls Tryz.prog 257 #[.int .u64 y] w fun e w' => e = .returned (.int .i64 0) ∧ w = w') :
    Calls Tryz.prog 248 #[.int .u64 hi, .int .u64 lo, .int .u64 y] w fun e w' => e = .returned (.tuple #[.int .u64 (((hi * WB + lo) / y : Nat) : Int), .int .u64 (((hi * WB + lo) % y : Nat) : Int)]) ∧ w = w' := by
  have e0 : ((y : Int) == 0) = false := by simp; omega
  have e1 : ¬ (y : Int) ≤ hi := by omega
  have e2 : ((hi : Int) == 0) = false := by simp; omega
  have hlh := Nat.lt_trans hh hy
  have hm := shrw_lt 32 hy
  have hm0 : ¬ shrw y 32 = 0 := by have := shrw32_geH hy0; have := HB_pos; omega
  replace lz := Lib.hid lz
  have hyy := low_highH y
  have hll := low_highH lo
  have hy0l := low32_ltH y
  have hl0l := low32_ltH lo
  have hl1l := shrw32_ltH hl
  have hy1 := shrw32_geH hy0
  have hy1l := shrw32_ltH hy
  have hu1 : hi < shrw y 32 * HB + low32 y := by omega
  have hg := Guess.start (H := HB) (a := shrw y 32) (b := low32 y) (u := hi) (v := shrw lo 32) (by omega) hy1 hy0l hl1l hu1
  have ha0 : 0 < shrw y 32 := by omega
  go_enter Tryz.func248, Tryz.ntmps248
  go_upto_block 0 with ((go_at_call 257; refine (lz.out _).mono ?_; rintro e w' ⟨rfl, rfl⟩))
  generalize shrw y 32 = a at *
  generalize low32 y = b at *
  generalize shrw lo 32 = v1 at *
  generalize low32 lo = v0 at *
  replace hyy := Lib.hid hyy
  replace hll := Lib.hid hll
  go_cut [15] (fun q wr => q = .int .u64 (wdiv (hi * HB + v1) (a * HB + b) : Int) ∧ w = wr)
  case first =>
    go_wp2_with fail
    go_loopw [15, 16] (fun q r wr => ∃ q' r' : Nat, q = .int .u64 q' ∧ r = .int .u64 r' ∧ r' < HB ∧ Guess HB a b hi v1 q' r' ∧ w = wr) (fun q _ _ => (intOf q).toNat)
    case atStart =>
      refine ⟨hi / a, hi % a, rfl, ?_, by have := Nat.mod_lt hi ha0; omega, hg, rfl⟩
      have h1 : wmul (wdiv hi a) a = hi / a * a := wmul_of (Nat.lt_of_le_of_lt (Nat.div_mul_le_self hi a) hlh)
      rw [h1, wsub_of (Nat.div_mul_le_self hi a) hlh]
      have := Nat.div_add_mod' hi a
      rw [show hi - hi / a * a = hi % a by omega]
    case round =>
      obtain ⟨q, r, rfl, rfl, hr, hG, rfl⟩ := hrel
      have hql := hG.le
      have hwa : wadd r a = r + a := wadd_of (by have := HB_two_le; omega)
      replace hwa := Lib.hid hwa
      by_cases hq : HB ≤ q
      · have hn := hG.next hl1l hu1 (.inl hq)
        have hq' : (4294967296 : Int) ≤ (q : Int) := by rw [← HB_int]; omega
        have hws : wsub q 1 = q - 1 := wsub_of (by omega) (by have := HB_two_le; omega)
        replace hG := Lib.hid hG
        replace hn := Lib.hid hn
        replace hws := Lib.hid hws
        by_cases hr2 : HB ≤ r + a
        · have hr' : (4294967296 : Int) ≤ (wadd r a : Int) := by rw [← HB_int, hwa.out]; omega
          go_wp2
          go_meet
          refine ⟨?_, rfl⟩
          rw [hws.out, hn.out.2.full hy0l hr2 (by omega) (by omega)]; rfl
        · have hr' : ¬ (4294967296 : Int) ≤ (wadd r a : Int) := by rw [← HB_int, hwa.out]; omega
          go_wp2
          go_roundw
          case rel => exact ⟨q - 1, r + a, by rw [hws.out], by rw [hwa.out], by omega, hn.out.2, by trivial⟩
          case measure =>
            simp only [intOf]
            rw [hws.out]; omega
      · have hq' : ¬ (4294967296 : Int) ≤ (q : Int) := by rw [← HB_int]; omega
        have hws : wsub q 1 = q - 1 ∨ q = 0 := by
          by_cases h0 : q = 0
          · exact .inr h0
          · exact .inl (wsub_of (by omega) (by have := HB_two_le; omega))
        have hm1 : wmul q b = q * b := wmul_of (by rw [WB_half]; exact Nat.mul_lt_mul'' (by omega) hy0l)
        have hm2 : wmul HB r = HB * r := wmul_of (by rw [WB_half]; exact Nat.mul_lt_mul_of_pos_left hr HB_pos)
        have hm3 : wadd (wmul HB r) v1 = HB * r + v1 := by
          rw [hm2]
          refine wadd_of ?_
          rw [WB_half]
          have : HB * (r + 1) ≤ HB * HB := Nat.mul_le_mul_left HB hr
          rw [Nat.mul_add] at this; omega
        by_cases hc : HB * r + v1 < q * b
        · have hn := hG.next hl1l hu1 (.inr hc)
          have hct : wadd (wmul HB r) v1 < wmul q b := by rw [hm1, hm3]; exact hc
          replace hG := Lib.hid hG
          replace hws := Lib.hid (hws.resolve_right (by have := hn.1; omega))
          replace hn := Lib.hid hn
          clear hm1 hm2 hm3 hc
          by_cases hr2 : HB ≤ r + a
          · have hr' : (4294967296 : Int) ≤ (wadd r a : Int) := by rw [← HB_int, hwa.out]; omega
            go_wp2
            go_meet
            refine ⟨?_, rfl⟩
            rw [hws.out, hn.out.2.full hy0l hr2 (by omega) (by omega)]; rfl
          · have hr' : ¬ (4294967296 : Int) ≤ (wadd r a : Int) := by rw [← HB_int, hwa.out]; omega
            go_wp2
            go_roundw
            case rel => exact ⟨q - 1, r + a, by rw [hws.out], by rw [hwa.out], by omega, hn.out.2, by trivial⟩
            case measure =>
              have := hn.out.1
              simp only [intOf]
              rw [hws.out]; omega
        · have hd := hG.done (by omega) (by omega)
          have hct : ¬ wadd (wmul HB r) v1 < wmul q b := by rw [hm1, hm3]; exact hc
          replace hG := Lib.hid hG
          replace hd := Lib.hid hd
          clear hm1 hm2 hm3 hc hws
          go_wp2
          go_meet
          exact ⟨by rw [hd.out]; rfl, rfl⟩
  case rest =>
    obtain ⟨rfl, rfl⟩ := hcut
    have hq1e : wdiv (hi * HB + v1) (a * HB + b) = (hi * HB + v1) / y := by unfold wdiv; rw [hyy.out]
    have hq1d := Nat.div_add_mod (hi * HB + v1) y
    have hq1m := Nat.mod_lt (hi * HB + v1) (show 0 < y by omega)
    have hq1l : wdiv (hi * HB + v1) (a * HB + b) < HB := by
      rw [hq1e, Nat.div_lt_iff_lt_mul (by omega)]
      have : (hi + 1) * HB ≤ y * HB := Nat.mul_le_mul_right HB hh
      rw [Nat.add_mul, Nat.one_mul] at this
      rw [Nat.mul_comm HB y]; omega
    rw [← hq1e] at hq1d
    generalize wdiv (hi * HB + v1) (a * HB + b) = q1 at *
    have hud : wsub (wadd (wmul hi HB) v1) (wmul q1 y) = (hi * HB + v1) % y := wsub_chain (by rw [Nat.mul_comm q1 y]; omega) (by omega)
    have hul : wsub (wadd (wmul hi HB) v1) (wmul q1 y) < WB := wsub_lt _ _
    replace hq1d := Lib.hid hq1d
    replace hq1e := Lib.hid hq1e
    replace hq1m := Lib.hid hq1m
    replace hud := Lib.hid hud
    go_upto_block 2 with (fail)
    generalize wsub (wadd (wmul hi HB) v1) (wmul q1 y) = u at *
    have hu2 : u < a * HB + b := by rw [hyy.out, hud.out]; exact hq1m.out
    have hg2 := Guess.start (H := HB) (a := a) (b := b) (u := u) (v := v0) ha0 hy1 hy0l hl0l hu2
    go_cut [18] (fun q wr => q = .int .u64 (wdiv (u * HB + v0) (a * HB + b) : Int) ∧ w = wr)
    case first =>
      go_wp2_with fail
      go_loopw [18, 16] (fun q r wr => ∃ q' r' : Nat, q = .int .u64 q' ∧ r = .int .u64 r' ∧ r' < HB ∧ Guess HB a b u v0 q' r' ∧ w = wr) (fun q _ _ => (intOf q).toNat)
      case atStart =>
        refine ⟨u / a, u % a, rfl, ?_, by have := Nat.mod_lt u ha0; omega, hg2, rfl⟩
        have h1 : wmul (wdiv u a) a = u / a * a := wmul_of (Nat.lt_of_le_of_lt (Nat.div_mul_le_self u a) hul)
        rw [h1, wsub_of (Nat.div_mul_le_self u a) hul]
        have := Nat.div_add_mod' u a
        rw [show u - u / a * a = u % a by omega]
      case round =>
        obtain ⟨q, r, rfl, rfl, hr, hG, rfl⟩ := hrel
        have hql := hG.le
        have hwa : wadd r a = r + a := wadd_of (by have := HB_two_le; omega)
        replace hwa := Lib.hid hwa
        by_cases hq : HB ≤ q
        · have hn := hG.next hl0l hu2 (.inl hq)
          have hq' : (4294967296 : Int) ≤ (q : Int) := by rw [← HB_int]; omega
          have hws : wsub q 1 = q - 1 := wsub_of (by omega) (by have := HB_two_le; omega)
          replace hG := Lib.hid hG
          replace hn := Lib.hid hn
          replace hws := Lib.hid hws
          by_cases hr2 : HB ≤ r + a
          · have hr' : (4294967296 : Int) ≤ (wadd r a : Int) := by rw [← HB_int, hwa.out]; omega
            go_wp2
            go_meet
            refine ⟨?_, rfl⟩
            rw [hws.out, hn.out.2.full hy0l hr2 (by omega) (by omega)]; rfl
          · have hr' : ¬ (4294967296 : Int) ≤ (wadd r a : Int) := by rw [← HB_int, hwa.out]; omega
            go_wp2
            go_roundw
            case rel => exact ⟨q - 1, r + a, by rw [hws.out], by rw [hwa.out], by omega, hn.out.2, by trivial⟩
            case measure =>
              simp only [intOf]
              rw [hws.out]; omega
        · have hq' : ¬ (4294967296 : Int) ≤ (q : Int) := by rw [← HB_int]; omega
          have hws : wsub q 1 = q - 1 ∨ q = 0 := by
            by_cases h0 : q = 0
            · exact .inr h0
            · exact .inl (wsub_of (by omega) (by have := HB_two_le; omega))
          have hm1 : wmul q b = q * b := wmul_of (by rw [WB_half]; exact Nat.mul_lt_mul'' (by omega) hy0l)
          have hm2 : wmul HB r = HB * r := wmul_of (by rw [WB_half]; exact Nat.mul_lt_mul_of_pos_left hr HB_pos)
          have hm3 : wadd (wmul HB r) v0 = HB * r + v0 := by
            rw [hm2]
            refine wadd_of ?_
            rw [WB_half]
            have : HB * (r + 1) ≤ HB * HB := Nat.mul_le_mul_left HB hr
            rw [Nat.mul_add] at this; omega
          by_cases hc : HB * r + v0 < q * b
          · have hn := hG.next hl0l hu2 (.inr hc)
            have hct : wadd (wmul HB r) v0 < wmul q b := by rw [hm1, hm3]; exact hc
            replace hG := Lib.hid hG
            replace hws := Lib.hid (hws.resolve_right (by have := hn.1; omega))
            replace hn := Lib.hid hn
            clear hm1 hm2 hm3 hc
            by_cases hr2 : HB ≤ r + a
            · have hr' : (4294967296 : Int) ≤ (wadd r a : Int) := by rw [← HB_int, hwa.out]; omega
              go_wp2
              go_meet
              refine ⟨?_, rfl⟩
              rw [hws.out, hn.out.2.full hy0l hr2 (by omega) (by omega)]; rfl
            · have hr' : ¬ (4294967296 : Int) ≤ (wadd r a : Int) := by rw [← HB_int, hwa.out]; omega
              go_wp2
              go_roundw
              case rel => exact ⟨q - 1, r + a, by rw [hws.out], by rw [hwa.out], by omega, hn.out.2, by trivial⟩
              case measure =>
                have := hn.out.1
                simp only [intOf]
                rw [hws.out]; omega
          · have hd := hG.done (by omega) (by omega)
            have hct : ¬ wadd (wmul HB r) v0 < wmul q b := by rw [hm1, hm3]; exact hc
            replace hG := Lib.hid hG
            replace hd := Lib.hid hd
            clear hm1 hm2 hm3 hc hws
            go_wp2
            go_meet
            exact ⟨by rw [hd.out]; rfl, rfl⟩

    case rest =>
      obtain ⟨rfl, rfl⟩ := hcut
      have hq2e : wdiv (u * HB + v0) (a * HB + b) = (u * HB + v0) / y := by unfold wdiv; rw [hyy.out]
      have hq2d := Nat.div_add_mod (u * HB + v0) y
      have hq2m := Nat.mod_lt (u * HB + v0) (show 0 < y by omega)
      have hq2l : wdiv (u * HB + v0) (a * HB + b) < HB := by
        rw [hq2e, Nat.div_lt_iff_lt_mul (by omega)]
        have : (u + 1) * HB ≤ y * HB := Nat.mul_le_mul_right HB (by rw [hud.out]; exact hq1m.out)
        rw [Nat.add_mul, Nat.one_mul] at this
        rw [Nat.mul_comm HB y]; omega
      rw [← hq2e] at hq2d
      generalize wdiv (u * HB + v0) (a * HB + b) = q2 at *
      have hud2 : wsub (wadd (wmul u HB) v0) (wmul q2 y) = (u * HB + v0) % y := wsub_chain (by rw [Nat.mul_comm q2 y]; omega) (by omega)
      replace hq2d := Lib.hid hq2d
      replace hq2e := Lib.hid hq2e
      replace hq2m := Lib.hid hq2m
      replace hud2 := Lib.hid hud2
      go_wp2
      go_ret2
      have hqq : wadd (wmul q1 HB) q2 = q1 * HB + q2 := by
        have h1 : (q1 + 1) * HB ≤ HB * HB := Nat.mul_le_mul_right HB hq1l
        rw [Nat.add_mul, Nat.one_mul, ← WB_half] at h1
        rw [wmul_of (by omega)]
        exact wadd_of (by omega)
      have huu : hi * HB + v1 = y * q1 + u := by rw [hud.out]; exact hq1d.out.symm
      have htot : hi * WB + lo = y * (q1 * HB + q2) + (u * HB + v0) % y := by
        rw [← hll.out, WB_half, ← Nat.mul_assoc]
        have e1 : hi * HB * HB + (v1 * HB + v0) = (hi * HB + v1) * HB + v0 := by rw [Nat.add_mul]; omega
        rw [e1, huu, Nat.add_mul, Nat.mul_add, Nat.mul_assoc]
        have := hq2d.out
        omega
      refine ⟨ret2_i ?_ ?_, rfl⟩
      · rw [hqq, htot, Nat.mul_add_div (by omega), Nat.div_eq_of_lt (hq2m.out), Nat.add_zero]
      · rw [htot, Nat.mul_add_mod, Nat.mod_mod]
        rw [hud2.out]

/-- Division of two words by a word whose top bit is set, or of one word by any: quotient and rest. -/
theorem bitsDiv64_c (hi lo y : Nat) (hl : lo < WB) (hy : y < WB) (hh : hi < y) (hy0 : hi = 0 ∨ WB ≤ 2 * y) (w : World)
    (lz : hi ≠ 0 → ∀ w, Calls Tryz.prog 257 #[.int .u64 y] w fun e w' => e = .returned (.int .i64 0) ∧ w = w') :
    Calls Tryz.prog 248 #[.int .u64 hi, .int .u64 lo, .int .u64 y] w fun e w' => e = .returned (.tuple #[.int .u64 (wdiv (hi * WB + lo) y : Int), .int .u64 (wmod (hi * WB + lo) y : Int)]) ∧ ∃ n, w' = w.drewN n := by
  by_cases h0 : hi = 0
  · subst h0
    refine (div64_zero lo y hl hy (by omega) w).mono ?_
    rintro e w' ⟨rfl, rfl⟩
    refine ⟨ret2_i ?_ ?_, 1, rfl⟩ <;> simp [wdiv, wmod]
  · refine (div64_full hi lo y hl hy hh (by omega) (by omega) w (lz h0)).mono ?_
    rintro e w' ⟨rfl, rfl⟩
    exact ⟨rfl, 0, rfl⟩

end Go.Proofs.YtonepclpllelfaaGreatDoor

namespace Go.Proofs.YtonepclpllelfaaGreatDoor
open Go Go.RowKit

theorem bl_spec (f : Nat) : ∀ x, x < 2 ^ f → x < 2 ^ Lib.bitLenAux f x ∧ (x ≠ 0 → 2 ^ Lib.bitLenAux f x ≤ 2 * x) ∧ Lib.bitLenAux f x ≤ f := by
  induction f with
  | zero => intro x h; simp at h; subst h; simp [Lib.bitLenAux]
  | succ f ih =>
    intro x h
    by_cases h0 : x = 0
    · subst h0; simp [Lib.bitLenAux]
    · have hs : Lib.bitLenAux (f + 1) x = 1 + Lib.bitLenAux f (x / 2) := by simp [Lib.bitLenAux, h0]
      rw [hs]
      obtain ⟨h1, h2, h3⟩ := ih (x / 2) (by rw [Nat.pow_succ] at h; omega)
      rw [Nat.pow_add, Nat.pow_one]
      refine ⟨by omega, fun _ => ?_, by omega⟩
      by_cases h4 : x / 2 = 0
      · have hx : x = 1 := by omega
        subst hx
        have : Lib.bitLenAux f 0 = 0 := by cases f <;> simp [Lib.bitLenAux]
        simp [this]
      · have := h2 h4; omega
/-- How many bits a word has. -/
def blen (x : Nat) : Nat := Lib.bitLen x
theorem blen_lt {x : Nat} (h : x < WB) : x < 2 ^ blen x := (bl_spec 64 x (by rw [← WB_two_pow]; exact h)).1
theorem blen_ge {x : Nat} (h : x < WB) (h0 : 0 < x) : 2 ^ blen x ≤ 2 * x := (bl_spec 64 x (by rw [← WB_two_pow]; exact h)).2.1 (by omega)
theorem blen_le {x : Nat} (h : x < WB) : blen x ≤ 64 := (bl_spec 64 x (by rw [← WB_two_pow]; exact h)).2.2
theorem blen_pos {x : Nat} (h : x < WB) (h0 : 0 < x) : 0 < blen x := by
  have := blen_lt h
  rcases Nat.eq_zero_or_pos (blen x) with h1 | h1
  · rw [h1] at this; simp at this; omega
  · exact h1
/-- How many noughts stand before its first one. -/
def nlzN (x : Nat) : Nat := 64 - blen x
theorem nlzN_lt {x : Nat} (h : x < WB) (h0 : 0 < x) : nlzN x < 64 := by have := blen_pos h h0; unfold nlzN; omega
theorem nlz_shift {x : Nat} (h : x < WB) (h0 : 0 < x) : x * 2 ^ nlzN x < WB ∧ WB ≤ 2 * (x * 2 ^ nlzN x) := by
  have h1 := blen_lt h
  have h2 := blen_ge h h0
  have h3 := blen_le h
  have e : WB = 2 ^ blen x * 2 ^ nlzN x := by rw [← Nat.pow_add, WB_two_pow]; congr 1; unfold nlzN; omega
  rw [e]
  have hp : 0 < 2 ^ nlzN x := Nat.two_pow_pos _
  exact ⟨Nat.mul_lt_mul_of_pos_right h1 hp, by rw [← Nat.mul_assoc]; exact Nat.mul_le_mul_right _ h2⟩

theorem bits_Len64_c (x : Nat) (h : x < WB) (w : World) : Calls Tryz.prog 167 #[.int .u64 x] w fun e w' => e = .returned (.int .i64 (blen x : Int)) ∧ w = w' := by
  rw [WB_eq] at h
  refine (shelf_bits_Len64 (x : Int) w (by omega) (by omega)).mono ?_
  rintro e w' ⟨rfl, hw⟩
  exact ⟨by unfold blen; rw [Int.toNat_natCast], hw.symm⟩

set_option maxHeartbeats 400000 in
theorem bits_Len_c (x : Nat) (h : x < WB) (w : World) : Calls Tryz.prog 147 #[.int .u64 x] w fun e w' => e = .returned (.int .i64 (blen x : Int)) ∧ w = w' := by
  go_enter Tryz.func147, Tryz.ntmps147
  go_wp2_with (go_at_call 167; refine (bits_Len64_c x h _).mono ?_; rintro e w' ⟨rfl, hw⟩; obtain rfl := hw)
  go_ret
  exact ⟨rfl, rfl⟩
set_option maxHeartbeats 400000 in
theorem bits_LeadingZeros64_c (x : Nat) (h : x < WB) (w : World) : Calls Tryz.prog 257 #[.int .u64 x] w fun e w' => e = .returned (.int .i64 (nlzN x : Int)) ∧ w = w' := by
  have hl := blen_le h
  have hn : nlzN x = 64 - blen x := rfl
  replace hn := Lib.hid hn
  go_enter Tryz.func257, Tryz.ntmps257
  go_wp2_with (go_at_call 167; refine (bits_Len64_c x h _).mono ?_; rintro e w' ⟨rfl, hw⟩; obtain rfl := hw)
  go_ret
  exact ⟨ret_i (by rw [hn.out]; omega), rfl⟩
set_option maxHeartbeats 400000 in
theorem bits_LeadingZeros_c (x : Nat) (h : x < WB) (w : World) : Calls Tryz.prog 222 #[.int .u64 x] w fun e w' => e = .returned (.int .i64 (nlzN x : Int)) ∧ w = w' := by
  have hl := blen_le h
  have hn : nlzN x = 64 - blen x := rfl
  replace hn := Lib.hid hn
  go_enter Tryz.func222, Tryz.ntmps222
  go_wp2_with (go_at_call 147; refine (bits_Len_c x h _).mono ?_; rintro e w' ⟨rfl, hw⟩; obtain rfl := hw)
  go_ret
  exact ⟨ret_i (by rw [hn.out]; omega), rfl⟩
set_option maxHeartbeats 400000 in
theorem nlz_c (x : Nat) (h : x < WB) (w : World) : Calls Tryz.prog 186 #[.int .u64 x] w fun e w' => e = .returned (.int .u64 (nlzN x : Int)) ∧ w = w' := by
  have hl : nlzN x ≤ 64 := Nat.sub_le _ _
  go_enter Tryz.func186, Tryz.ntmps186
  go_wp2_with (go_at_call 222; refine (bits_LeadingZeros_c x h _).mono ?_; rintro e w' ⟨rfl, hw⟩; obtain rfl := hw)
  go_ret
  exact ⟨rfl, rfl⟩

set_option maxHeartbeats 400000 in
theorem bitsDiv_c (hi lo y : Nat) (hl : lo < WB) (hy : y < WB) (hh : hi < y) (hy0 : hi = 0 ∨ WB ≤ 2 * y) (w : World) :
    Calls Tryz.prog 219 #[.int .u64 hi, .int .u64 lo, .int .u64 y] w fun e w' => e = .returned (.tuple #[.int .u64 (wdiv (hi * WB + lo) y : Int), .int .u64 (wmod (hi * WB + lo) y : Int)]) ∧ ∃ n, w' = w.drewN n := by
  have lz : hi ≠ 0 → ∀ w, Calls Tryz.prog 257 #[.int .u64 y] w fun e w' => e = .returned (.int .i64 0) ∧ w = w' := by
    intro h0 w
    have hn : nlzN y = 0 := by
      have h1 := blen_lt hy
      have h2 : WB ≤ 2 * y := hy0.resolve_left h0
      have h3 := blen_le hy
      rcases Nat.lt_or_ge (blen y) 64 with h4 | h4
      · have : 2 ^ blen y ≤ 2 ^ 63 := Nat.pow_le_pow_right (by decide) (by omega)
        have e : 2 * 2 ^ 63 = WB := by rw [WB_two_pow]
        omega
      · unfold nlzN; omega
    have := bits_LeadingZeros64_c y hy w
    rw [hn] at this
    exact this
  replace lz := Lib.hid lz
  go_enter Tryz.func219, Tryz.ntmps219
  go_wp2_with (go_at_call 248; refine (bitsDiv64_c hi lo y hl hy hh hy0 _ lz.out).mono ?_; rintro e w' ⟨rfl, n, rfl⟩)
  go_ret2
  exact ⟨rfl, _, rfl⟩
end Go.Proofs.YtonepclpllelfaaGreatDoor

namespace Go.Proofs.YtonepclpllelfaaGreatDoor
open Go Go.RowKit

/-- The reciprocal of a word whose top bit is set. -/
noncomputable def rcp (u : Nat) : Nat := (WB * WB - 1) / u - WB
theorem rcp_spec {u : Nat} (hu : u < WB) (h2 : WB ≤ 2 * u) : rcp u < WB ∧ u * (rcp u + WB) + 1 ≤ WB * WB ∧ WB * WB ≤ u * (rcp u + WB) + u := by
  have h0 : 0 < u := by have := WB_pos; omega
  have hle : WB ≤ (WB * WB - 1) / u := by
    rw [Nat.le_div_iff_mul_le h0]
    have : WB * (u + 1) ≤ WB * WB := Nat.mul_le_mul_left WB hu
    rw [Nat.mul_add] at this; have := WB_pos; omega
  have e : rcp u + WB = (WB * WB - 1) / u := by unfold rcp; omega
  have hd := Nat.div_add_mod (WB * WB - 1) u
  have hm := Nat.mod_lt (WB * WB - 1) h0
  have hp : 0 < WB * WB := Nat.mul_pos WB_pos WB_pos
  refine ⟨?_, by rw [e]; omega, by rw [e]; omega⟩
  have : (WB * WB - 1) / u < 2 * WB := by
    rw [Nat.div_lt_iff_lt_mul h0]
    have : WB * WB ≤ WB * (2 * u) := Nat.mul_le_mul_left WB h2
    rw [Nat.mul_assoc, Nat.mul_left_comm]
    omega
  omega

theorem divWW_math {d m x1 x0 : Nat} (hd : d < WB) (h2 : WB ≤ 2 * d) (_hm : m < WB) (hm1 : d * (m + WB) + 1 ≤ WB * WB) (hm2 : WB * WB ≤ d * (m + WB) + d) (hx1 : x1 < d) (hx0 : x0 < WB)
    {q r0 r1 : Nat} (hq : q = adds (mulhi m x1) x1 (addc (mullo m x1) x0 0)) (hr0 : r0 = subs x0 (mullo d q) 0) (hr1 : r1 = subs x1 (mulhi d q) (subc x0 (mullo d q) 0)) :
    (r1 = 0 → r0 < d → q = (x1 * WB + x0) / d ∧ r0 = (x1 * WB + x0) % d) ∧
    (r1 = 0 → d ≤ r0 → wadd q 1 = (x1 * WB + x0) / d ∧ wsub r0 d = (x1 * WB + x0) % d) ∧
    (r1 ≠ 0 → wsub r0 d < d → wadd q 1 = (x1 * WB + x0) / d ∧ wsub r0 d = (x1 * WB + x0) % d) ∧
    (r1 ≠ 0 → d ≤ wsub r0 d → wadd (wadd q 1) 1 = (x1 * WB + x0) / d ∧ wsub (wsub r0 d) d = (x1 * WB + x0) % d) := by
  have hp := WB_pos
  have hg := recip_guess hd hm1 hm2 hx1 hx0
  have hx1w : x1 < WB := by omega
  -- the guess
  have hqe : q = (x1 * m + x1 * WB + x0) / WB := by
    have e1 := mullo_mulhi m x1
    have e2 := adds_addc (mullo m x1) x0 0
    have l2 := adds_lt (mullo m x1) x0 0
    have c2 := addc_le (mullo_lt m x1) hx0 (Nat.zero_le 1)
    have e3 := adds_addc (mulhi m x1) x1 (addc (mullo m x1) x0 0)
    have hsum : x1 * m + x1 * WB + x0 = WB * (mulhi m x1 + x1 + addc (mullo m x1) x0 0) + adds (mullo m x1) x0 0 := by
      rw [Nat.mul_add, Nat.mul_add, Nat.mul_comm x1 m, Nat.mul_comm x1 WB]; omega
    have hdiv : (x1 * m + x1 * WB + x0) / WB = mulhi m x1 + x1 + addc (mullo m x1) x0 0 := by
      rw [hsum, Nat.mul_add_div hp, Nat.div_eq_of_lt l2, Nat.add_zero]
    have hlt : (x1 * m + x1 * WB + x0) / WB < WB := by
      have h3 : (x1 * m + x1 * WB + x0) / WB * d < WB * d := by
        have : (x1 + 1) * WB ≤ d * WB := Nat.mul_le_mul_right WB hx1
        rw [Nat.add_mul, Nat.one_mul] at this
        rw [Nat.mul_comm WB d]; omega
      exact Nat.lt_of_mul_lt_mul_right h3
    rw [hq, hdiv]
    unfold adds
    rw [Nat.mod_eq_of_lt (by omega)]
  rw [← hqe] at hg
  have hqw : q < WB := by
    have h3 : q * d < WB * d := by
      have : (x1 + 1) * WB ≤ d * WB := Nat.mul_le_mul_right WB hx1
      rw [Nat.add_mul, Nat.one_mul] at this
      rw [Nat.mul_comm WB d]; omega
    exact Nat.lt_of_mul_lt_mul_right h3
  -- the rest in two words
  have hr0l : r0 < WB := by rw [hr0]; exact subs_lt _ _ _
  have hR : x1 * WB + x0 = q * d + (r1 * WB + r0) := by
    have f1 := subs_subc hx0 (mullo_lt d q) (Nat.zero_le 1)
    have f2 := subs_subc hx1w (mulhi_lt hd hqw) (subc_le x0 (mullo d q) 0)
    have f3 := mullo_mulhi d q
    have f4 := subc_le x1 (mulhi d q) (subc x0 (mullo d q) 0)
    have f5 := subs_lt x1 (mulhi d q) (subc x0 (mullo d q) 0)
    rw [← hr0] at f1
    rw [← hr1] at f2 f5
    generalize subc x0 (mullo d q) 0 = b at *
    generalize subc x1 (mulhi d q) b = b2 at *
    rw [Nat.mul_comm d q] at f3
    have f6 : WB * x1 + WB * (WB * b2) = WB * r1 + WB * mulhi d q + WB * b := by rw [← Nat.mul_add, f2, Nat.mul_add, Nat.mul_add]
    rw [Nat.mul_comm x1 WB, Nat.mul_comm r1 WB] at *
    have hb : b2 = 0 := by
      rcases Nat.eq_zero_or_pos b2 with h | h
      · exact h
      · have hb1 : b2 = 1 := by omega
        rw [hb1, Nat.mul_one] at f6
        have : WB * (r1 + 1) ≤ WB * WB := Nat.mul_le_mul_left WB f5
        rw [Nat.mul_add] at this
        omega
    rw [hb, Nat.mul_zero, Nat.mul_zero] at f6
    omega
  have hr1l : r1 = 0 ∨ r1 = 1 := by
    rcases Nat.lt_or_ge r1 2 with h | h
    · omega
    · have : 2 * WB ≤ r1 * WB := Nat.mul_le_mul_right WB h
      omega
  have hdiv : ∀ k r, x1 * WB + x0 = (q + k) * d + r → r < d → q + k = (x1 * WB + x0) / d ∧ r = (x1 * WB + x0) % d := by
    intro k r e hr
    rw [e, Nat.mul_comm (q + k) d]
    refine ⟨?_, ?_⟩
    · rw [Nat.mul_add_div (by omega), Nat.div_eq_of_lt hr, Nat.add_zero]
    · rw [Nat.mul_add_mod, Nat.mod_eq_of_lt hr]
  have hqk : ∀ k r, x1 * WB + x0 = (q + k) * d + r → q + k < WB := by
    intro k r e
    have h3 : (q + k) * d < WB * d := by
      have : (x1 + 1) * WB ≤ d * WB := Nat.mul_le_mul_right WB hx1
      rw [Nat.add_mul, Nat.one_mul] at this
      rw [Nat.mul_comm WB d]; omega
    exact Nat.lt_of_mul_lt_mul_right h3
  refine ⟨?_, ?_, ?_, ?_⟩
  · intro h hl
    rw [h, Nat.zero_mul, Nat.zero_add] at hR
    exact hdiv 0 r0 hR hl
  · intro h hl
    rw [h, Nat.zero_mul, Nat.zero_add] at hR
    have e : x1 * WB + x0 = (q + 1) * d + (r0 - d) := by rw [Nat.add_mul]; omega
    rw [wsub_of hl hr0l, wadd_of (hqk 1 _ e)]
    exact hdiv 1 _ e (by omega)
  · intro h hl
    have h1 : r1 = 1 := by omega
    rw [h1, Nat.one_mul] at hR
    have hlt : r0 < d := by omega
    rw [wsub_borrow hlt hd] at *
    have e : x1 * WB + x0 = (q + 1) * d + (r0 + WB - d) := by rw [Nat.add_mul]; omega
    rw [wadd_of (hqk 1 _ e)]
    exact hdiv 1 _ e hl
  · intro h hl
    have h1 : r1 = 1 := by omega
    rw [h1, Nat.one_mul] at hR
    have hlt : r0 < d := by omega
    rw [wsub_borrow hlt hd] at *
    have e : x1 * WB + x0 = (q + 2) * d + (r0 + WB - d - d) := by rw [Nat.add_mul]; omega
    have h3 := hqk 2 _ e
    rw [wsub_of hl (by omega), wadd_of (show q + 1 < WB by omega), wadd_of (by omega)]
    exact hdiv 2 _ e (by omega)

end Go.Proofs.YtonepclpllelfaaGreatDoor

namespace Go.Proofs.YtonepclpllelfaaGreatDoor
open Go Go.RowKit

theorem shlw_nlz {y : Nat} (h : y < WB) (h0 : 0 < y) : shlw y (nlzN y) = y * 2 ^ nlzN y := Nat.mod_eq_of_lt (nlz_shift h h0).1
theorem xor_all (x n : Nat) (h : x < 2 ^ n) : (2 ^ n - 1) ^^^ x = 2 ^ n - 1 - x := by
  apply Nat.eq_of_testBit_eq
  intro i
  rw [Nat.testBit_xor, Nat.testBit_two_pow_sub_one, Nat.sub_sub, Nat.add_comm 1 x, Nat.testBit_two_pow_sub_succ h]
  by_cases hi : i < n
  · simp [hi]
  · simp [hi]
    exact Nat.testBit_lt_two_pow (Nat.lt_of_lt_of_le h (Nat.pow_le_pow_right (by decide) (by omega)))
/-- All bits of a word turned. -/
noncomputable def wnot (x : Nat) : Nat := WB - 1 - x
@[go_sem] theorem bits_not (x : Nat) (h : x < WB) : bits .xor .u64 IntKind.u64.max (x : Int) = (wnot x : Int) := by
  have e : IntKind.u64.max = ((2 ^ 64 - 1 : Nat) : Int) := by unfold IntKind.max; simp [IntKind.signed, IntKind.bits]
  rw [e, bits_xor_u64_nat _ _ (by decide) (by rw [WB_eq] at h; exact h), xor_all x 64 (by rw [← WB_two_pow]; exact h), ← WB_two_pow]
  rfl

theorem bitsDiv_max (hi y : Nat) (hy : y < WB) (hh : hi < y) (hy0 : hi = 0 ∨ WB ≤ 2 * y) (w : World) :
    Calls Tryz.prog 219 #[.int .u64 hi, .int .u64 18446744073709551615, .int .u64 y] w fun e w' => e = .returned (.tuple #[.int .u64 (wdiv (hi * WB + (WB - 1)) y : Int), .int .u64 (wmod (hi * WB + (WB - 1)) y : Int)]) ∧ ∃ n, w' = w.drewN n := by
  have := bitsDiv_c hi (WB - 1) y (by have := WB_pos; omega) hy hh hy0 w
  rwa [castmax] at this

set_option maxRecDepth 100000 in
set_option maxHeartbeats 400000 in
theorem reciprocalWord_c (y : Nat) (h : y < WB) (h0 : 0 < y) (w : World) :
    Calls Tryz.prog 220 #[.int .u64 y] w fun e w' => e = .returned (.int .u64 (rcp (y * 2 ^ nlzN y) : Int)) ∧ ∃ n, w' = w.drewN n := by
  have hn := nlzN_lt h h0
  have hu := nlz_shift h h0
  rw [← shlw_nlz h h0] at hu ⊢
  have hul := hu.1
  have hu2 := hu.2
  have hnu : wnot (shlw y (nlzN y)) < shlw y (nlzN y) := by unfold wnot; omega
  have hr : wdiv (wnot (shlw y (nlzN y)) * WB + (WB - 1)) (shlw y (nlzN y)) = rcp (shlw y (nlzN y)) := by
    generalize shlw y (nlzN y) = u at *
    have h1 : wnot u * WB + (WB - 1) = WB * WB - 1 - u * WB := by
      unfold wnot
      rw [Nat.sub_mul, Nat.sub_mul, Nat.one_mul]
      have : (u + 1) * WB ≤ WB * WB := Nat.mul_le_mul_right WB hul
      rw [Nat.add_mul, Nat.one_mul] at this
      have := WB_pos
      omega
    unfold wdiv rcp
    rw [h1, Nat.sub_mul_div]
  replace hu2 := Lib.hid hu2
  replace hr := Lib.hid hr
  clear hu
  go_enter Tryz.func220, Tryz.ntmps220
  go_wp2_with (first
    | (go_at_call 186; refine (nlz_c y h _).mono ?_; rintro e w' ⟨rfl, hw⟩; obtain rfl := hw)
    | fail)
  have hb := bitsDiv_max _ _ hul hnu (.inr hu2.out) w
  refine hb.mono ?_
  rintro e w' ⟨rfl, n, hw⟩
  subst hw
  go_wp2
  go_ret
  exact ⟨ret_i (by rw [hr.out]), _, rfl⟩

theorem divWW_back {s X y : Nat} (_h0 : 0 < y) : X * 2 ^ s / (y * 2 ^ s) = X / y ∧ shrw (X * 2 ^ s % (y * 2 ^ s)) s = X % y := by
  have hp := Nat.two_pow_pos s
  refine ⟨Nat.mul_div_mul_right _ _ hp, ?_⟩
  unfold shrw
  rw [Nat.mul_mod_mul_right, Nat.mul_div_cancel _ hp]


theorem orw_nlz {x1 x0 y : Nat} (h : y < WB) (h0 : 0 < y) (h1 : x1 < y) (hx0 : x0 < WB) {s t : Nat} (hs : s = nlzN y) (hst : s + t = 64) :
    orw (shlw x1 s) (shrw x0 t) * WB + shlw x0 s = (x1 * WB + x0) * 2 ^ s ∧ orw (shlw x1 s) (shrw x0 t) < y * 2 ^ s := by
  have hu := nlz_shift h h0
  have hp := Nat.two_pow_pos s
  rw [← hs] at hu
  have e1 : shlw x1 s = x1 * 2 ^ s := by
    refine Nat.mod_eq_of_lt ?_
    have := Nat.mul_lt_mul_of_pos_right h1 hp
    omega
  have e2 := shl_shr (x := x0) hst
  have hb : shrw x0 t < 2 ^ s := by
    unfold shrw; rw [Nat.div_lt_iff_lt_mul (Nat.two_pow_pos t), ← Nat.pow_add, hst, ← WB_two_pow]; exact hx0
  rw [orw_add hst hx0, e1]
  constructor
  · rw [Nat.add_mul, Nat.add_mul, ← e2, Nat.mul_comm (shrw x0 t) WB, Nat.mul_right_comm]; omega
  · have : (x1 + 1) * 2 ^ s ≤ y * 2 ^ s := Nat.mul_le_mul_right _ h1
    rw [Nat.add_mul, Nat.one_mul] at this
    omega

set_option maxRecDepth 100000 in
set_option maxHeartbeats 800000 in
theorem divWW_c (x1 x0 y : Nat) (h : y < WB) (h0 : 0 < y) (h1 : x1 < y) (hx0 : x0 < WB) (w : World) :
    Calls Tryz.prog 221 #[.int .u64 x1, .int .u64 x0, .int .u64 y, .int .u64 (rcp (y * 2 ^ nlzN y) : Int)] w fun e w' =>
      e = .returned (.tuple #[.int .u64 (wdiv (x1 * WB + x0) y : Int), .int .u64 (wmod (x1 * WB + x0) y : Int)]) ∧ w = w' := by
  have hn := nlzN_lt h h0
  have hu := nlz_shift h h0
  have hx1 : x1 < WB := by omega
  have ho := fun (t : Nat) (hst : nlzN y + t = 64) => orw_nlz h h0 h1 hx0 rfl hst
  have hsy := shlw_nlz h h0
  have hback := divWW_back (s := nlzN y) (X := x1 * WB + x0) h0
  replace hback := Lib.hid hback
  replace ho := Lib.hid ho
  replace hsy := Lib.hid hsy
  have hnl := nlz_c y h
  replace hnl := Lib.hid hnl
  generalize hs : nlzN y = s at *
  replace hs := Lib.hid hs
  obtain ⟨t, hst⟩ : ∃ t, s + t = 64 := ⟨64 - s, by omega⟩
  have htl : s = 0 ∨ t < 64 := by omega
  have hw : IntKind.u64.wrap (64 - (s : Int)) = (t : Int) := by rw [IntKind.wrap_u64]; omega
  replace hst := Lib.hid hst
  generalize hd : y * 2 ^ s = d at *
  replace hd := Lib.hid hd
  go_enter Tryz.func221, Tryz.ntmps221
  go_upto_if 26 with ((go_at_call 186; refine (hnl.out _).mono ?_; rintro e w' ⟨rfl, hw⟩; obtain rfl := hw))
  go_cut [0, 1, 2] (fun v1 v0 vy wr => w = wr ∧ vy = .int .u64 d ∧ ∃ X1 X0 : Nat, v1 = .int .u64 X1 ∧ v0 = .int .u64 X0 ∧ X1 < d ∧ X0 < WB ∧ X1 * WB + X0 = (x1 * WB + x0) * 2 ^ s)
  case first =>
    by_cases hs0 : s = 0
    · subst hs0
      have hdy : y = d := by have := hd.out; simpa using this
      go_wp2
      go_meet
      exact ⟨rfl, by first | rfl | rw [hdy], x1, x0, rfl, rfl, by omega, hx0, by simp⟩
    · have e0 : ((s : Int) == 0) = false := by simp; omega
      have htl := htl.resolve_left hs0
      go_wp2
      go_meet
      have := ho.out t hst.out
      exact ⟨rfl, by rw [hsy.out], _, _, rfl, rfl, this.2, shlw_lt _ _, this.1⟩
  case rest =>
    obtain ⟨rfl, rfl, X1, X0, rfl, rfl, hX1, hX0, hXX⟩ := hcut
    replace hXX := Lib.hid hXX
    clear ho hsy hnl hw htl
    obtain ⟨hm, hm1, hm2⟩ := rcp_spec hu.1 hu.2
    have hd2 := hu.1
    have hX1w : X1 < WB := by omega
    have hmath := fun q r0 r1 => @divWW_math d (rcp d) X1 X0 hu.1 hu.2 hm hm1 hm2 hX1 hX0 q r0 r1
    replace hmath := Lib.hid hmath
    clear hm1 hm2
    replace hu := Lib.hid hu
    have hqw := adds_lt (mulhi (rcp d) X1) X1 (addc (mullo (rcp d) X1) X0 0)
    have hc1 := addc_le (mullo_lt (rcp d) X1) hX0 (Nat.zero_le 1)
    go_wp2_with fail
    refine (bits_Mul (rcp d) X1 hm hX1w _).mono ?_
    rintro e w' ⟨rfl, hw⟩
    obtain rfl := hw.symm
    go_wp2_with fail
    refine (bits_Add (mullo (rcp d) X1) X0 0 (mullo_lt _ _) hX0 (by omega) _).mono ?_
    rintro e w' ⟨rfl, hw⟩
    obtain rfl := hw.symm
    go_wp2_with fail
    refine (bits_Add (mulhi (rcp d) X1) X1 (addc (mullo (rcp d) X1) X0 0) (mulhi_lt hm hX1w) hX1w hc1 _).mono ?_
    rintro e w' ⟨rfl, hw⟩
    obtain rfl := hw.symm
    go_wp2_with fail
    generalize hq : adds (mulhi (rcp d) X1) X1 (addc (mullo (rcp d) X1) X0 0) = q at *
    replace hq := Lib.hid hq
    refine (bits_Mul d q hd2 hqw _).mono ?_
    rintro e w' ⟨rfl, hw⟩
    obtain rfl := hw.symm
    go_wp2_with fail
    refine (bits_Sub X0 (mullo d q) 0 (by omega) _).mono ?_
    rintro e w' ⟨rfl, hw⟩
    obtain rfl := hw.symm
    go_wp2_with fail
    have hc2 := subc_le X0 (mullo d q) 0
    refine (bits_Sub X1 (mulhi d q) (subc X0 (mullo d q) 0) hc2 _).mono ?_
    rintro e w' ⟨rfl, hw⟩
    obtain rfl := hw.symm
    generalize hr1 : subs X1 (mulhi d q) (subc X0 (mullo d q) 0) = r1 at *
    generalize hr0 : subs X0 (mullo d q) 0 = r0 at *
    have hmm := hmath.out q r0 r1 rfl hr0.symm hr1.symm
    replace hmm := Lib.hid hmm
    have hr0l : r0 < WB := by rw [← hr0]; exact subs_lt _ _ _
    clear hr0 hr1 hmath hc1 hc2
    have fin : ∀ Q R, Q = (X1 * WB + X0) / d ∧ R = (X1 * WB + X0) % d → (Q : Int) = (wdiv (x1 * WB + x0) y : Int) ∧ (shrw R s : Int) = (wmod (x1 * WB + x0) y : Int) := by
      intro Q R ⟨e1, e2⟩
      rw [e1, e2, hXX.out, hback.out.1, hback.out.2]
      exact ⟨rfl, rfl⟩
    replace fin := Lib.hid fin
    go_wp2
    · have h3 := ‹((r1 : Int) != 0) = true›
      have f := fin.out _ _ (hmm.out.2.2.2 (by simpa using h3) ‹_›)
      go_ret2
      exact ⟨ret2_i f.1 f.2, rfl⟩
    · have h3 := ‹((r1 : Int) != 0) = true›
      have f := fin.out _ _ (hmm.out.2.2.1 (by simpa using h3) (Nat.lt_of_not_le ‹_›))
      go_ret2
      exact ⟨ret2_i f.1 f.2, rfl⟩
    · have h3 := ‹((r1 : Int) != 0) = false›
      have f := fin.out _ _ (hmm.out.2.1 (by simpa using h3) ‹_›)
      go_ret2
      exact ⟨ret2_i f.1 f.2, rfl⟩
    · have h3 := ‹((r1 : Int) != 0) = false›
      have f := fin.out _ _ (hmm.out.1 (by simpa using h3) (Nat.lt_of_not_le ‹_›))
      go_ret2
      exact ⟨ret2_i f.1 f.2, rfl⟩
end Go.Proofs.YtonepclpllelfaaGreatDoor

namespace Go.Proofs.YtonepclpllelfaaGreatDoor
open Go Go.RowKit

theorem divrow_step {y Q r x : Nat} (h0 : 0 < y) {V : Nat} (hQ : Q = V / y) (hr : r = V % y) :
    (r * WB + x) / y + WB * Q = (x + WB * V) / y ∧ (r * WB + x) % y = (x + WB * V) % y := by
  have e : x + WB * V = y * (WB * Q) + (r * WB + x) := by
    have := Nat.div_add_mod V y
    rw [← hQ, ← hr] at this
    rw [← this, Nat.mul_add, Nat.mul_left_comm, Nat.mul_comm r WB]; omega
  rw [e, Nat.mul_add_div h0, Nat.mul_add_mod]
  exact ⟨Nat.add_comm _ _, rfl⟩

set_option maxRecDepth 100000 in
set_option maxHeartbeats 800000 in
theorem divWVW_c (w : World) (bz oz m cz bx ox cx y : Nat) (Cz Cx : List Nat) (hn : m < 1000000) (hy : y < WB) (hy0 : 0 < y)
    (hz : Arr w bz Cz) (hzl : oz + (m + 1) ≤ Cz.length) (hx : Arr w bx Cx) (hxl : ox + (m + 1) ≤ Cx.length) (hsep : bx ≠ bz ∨ ox ≤ oz) :
    Calls Tryz.prog 184 #[.slice (some ⟨bz, oz, none⟩) (m + 1) cz, .int .u64 0, .slice (some ⟨bx, ox, none⟩) (m + 1) cx, .int .u64 y] w fun e w' =>
      ∃ R, e = .returned (.int .u64 (val ((Cx.drop ox).take (m + 1)) % y : Nat)) ∧ Sub w w' bz (spl Cz oz R) ∧ R.length = m + 1 ∧ val R = val ((Cx.drop ox).take (m + 1)) / y := by
  have hX : ((Cx.drop ox).take (m + 1)).length = m + 1 := by simp; omega
  replace hX := Lib.hid hX
  by_cases hm : m = 0
  · subst hm
    have e1 : (((0 : Nat) : Int) + 1 == 1) = true := by simp
    have hl := hx.cellN (i := ox) (by omega)
    have hwl := hx.wd.nth ox
    have hz1 := hz.cellN (i := oz) (by omega)
    have hz2 := hz.frozen oz
    have hX1 : val ((Cx.drop ox).take (0 + 1)) = nth Cx ox := by
      rw [val_take_succ (by simp; omega), nth_drop]; simp
    replace hX1 := Lib.hid hX1
    go_enter Tryz.func184, Tryz.ntmps184
    go_wp2_with fail
    have hb := bitsDiv_c 0 (nth Cx ox) y hwl hy hy0 (.inl rfl) w
    refine hb.mono ?_
    rintro e w' ⟨rfl, n, hw⟩
    subst hw
    have hq : wdiv (0 * WB + nth Cx ox) y < WB := Nat.lt_of_le_of_lt (Nat.div_le_self _ _) (by rw [Nat.zero_mul, Nat.zero_add]; exact hwl)
    have hqe : wdiv (0 * WB + nth Cx ox) y = nth Cx ox / y := by unfold wdiv; rw [Nat.zero_mul, Nat.zero_add]
    have hre : wmod (0 * WB + nth Cx ox) y = nth Cx ox % y := by unfold wmod; rw [Nat.zero_mul, Nat.zero_add]
    generalize wdiv (0 * WB + nth Cx ox) y = q at *
    generalize wmod (0 * WB + nth Cx ox) y = r at *
    replace hqe := Lib.hid hqe
    replace hre := Lib.hid hre
    go_wp2
    go_ret
    have hS := ((Sub.refl hz).drewN n)
    have hS1 := hS
    rw [← spl_nil Cz oz] at hS1
    have hS2 := hS1.next (k := 0) rfl (by omega) q hq
    exact ⟨[q], ret_i (by rw [hX1.out, hre.out]), hS2, rfl, by rw [hX1.out, ← hqe.out]; simp [val]⟩
  · have e1 : ((m : Int) + 1 == 1) = false := by simp; omega
    have hrec := reciprocalWord_c y hy hy0 w
    go_enter Tryz.func184, Tryz.ntmps184
    go_wp2_with fail
    refine hrec.mono ?_
    rintro e w' ⟨rfl, n, hw⟩
    subst hw
    go_wp2_with fail
    go_loopw [8, 12] (fun r i wr => ∃ k rr : Nat, k ≤ m + 1 ∧ i = .int .i64 ((k : Int) - 1) ∧ r = .int .u64 rr ∧ rr < y ∧ ∃ R : List Nat, R.length + k = m + 1 ∧ val R = val (((Cx.drop ox).take (m + 1)).drop k) / y ∧ rr = val (((Cx.drop ox).take (m + 1)).drop k) % y ∧ Sub w wr bz (spl Cz (oz + k) R)) (fun _ i _ => (intOf i + 1).toNat)
    case atStart =>
      refine ⟨m + 1, 0, Nat.le_refl _, by simp, rfl, hy0, [], by simp, ?_, ?_, by rw [spl_nil]; exact (Sub.refl hz).drewN n⟩
      · rw [List.drop_eq_nil_of_le (by rw [hX.out]; omega)]; simp
      · rw [List.drop_eq_nil_of_le (by rw [hX.out]; omega)]; simp
    case round =>
      obtain ⟨k, rr, hk, rfl, rfl, hrr, R, hR1, hR2, hR3, hS⟩ := hrel
      by_cases hk0 : k = 0
      · subst hk0
        go_wp2
        go_ret
        refine ⟨R, ret_i (by rw [hR3, List.drop_zero]), hS, by omega, by rw [hR2, List.drop_zero]⟩
      · obtain ⟨j, rfl⟩ : ∃ j, k = j + 1 := ⟨k - 1, by omega⟩
        have hj : ((j + 1 : Nat) : Int) - 1 = (j : Int) := by omega
        rw [hj]
        have hxj := hS.read (p := ox + j) hz hx (by omega) (by omega) (by omega)
        have hwj := hx.wd.nth (ox + j)
        have hz1 := hS.arr.cellN (i := oz + j) (by rw [spl_length (by omega)]; omega)
        have hz2 := hS.arr.frozen (oz + j)
        have hst := divrow_step (x := nth Cx (ox + j)) hy0 hR2 hR3
        have hql : wdiv (rr * WB + nth Cx (ox + j)) y < WB := by
          unfold wdiv
          rw [Nat.div_lt_iff_lt_mul hy0]
          have : (rr + 1) * WB ≤ y * WB := Nat.mul_le_mul_right WB hrr
          rw [Nat.add_mul, Nat.one_mul] at this
          rw [Nat.mul_comm WB y]; omega
        replace hR1 := Lib.hid hR1
        replace hR2 := Lib.hid hR2
        replace hR3 := Lib.hid hR3
        replace hst := Lib.hid hst
        clear hj
        go_wp2_with fail
        refine (divWW_c rr (nth Cx (ox + j)) y hy hy0 hrr hwj _).mono ?_
        rintro e w' ⟨rfl, hw⟩
        obtain rfl := hw
        go_wp2
        go_roundw
        case rel =>
          have hd0 := drop_nth (l := (Cx.drop ox).take (m + 1)) (i := j) (by rw [hX.out]; omega)
          rw [nth_dt _ _ _ _ (by omega)] at hd0
          refine ⟨j, wmod (rr * WB + nth Cx (ox + j)) y, by omega, rfl, rfl, Nat.mod_lt _ hy0, wdiv (rr * WB + nth Cx (ox + j)) y :: R, by simp; have := hR1.out; omega, ?_, ?_, ?_⟩
          · rw [hd0, val_cons, val_cons]; exact hst.out.1
          · rw [hd0, val_cons]; exact hst.out.2
          · have := hR1.out
            exact Sub.prev (o := oz + j) hS (by omega) _ hql
        case measure => simp [intOf]
end Go.Proofs.YtonepclpllelfaaGreatDoor

namespace Go.Proofs.YtonepclpllelfaaGreatDoor
open Go Go.RowKit

/-- From w to w' only blocks of S have turned, and new ones have come. -/
structure Chg (w w' : World) (S : Nat → Prop) : Prop where
  os : w'.os = w.os
  tape : w'.tape = w.tape
  output : w'.output = w.output
  size : w.heap.size ≤ w'.heap.size
  block : ∀ k, k < w.heap.size → ¬ S k → w'.heap[k]? = w.heap[k]?

theorem Chg.refl (w : World) (S : Nat → Prop) : Chg w w S := ⟨rfl, rfl, rfl, Nat.le_refl _, fun _ _ _ => rfl⟩
theorem Chg.drewN {w w' : World} {S : Nat → Prop} (h : Chg w w' S) (n : Nat) : Chg w (w'.drewN n) S := ⟨h.os, h.tape, h.output, h.size, h.block⟩
theorem Chg.drew {w w' : World} {S : Nat → Prop} (h : Chg w w' S) : Chg w w'.drew S := ⟨h.os, h.tape, h.output, h.size, h.block⟩
theorem Chg.mono {w w' : World} {S T : Nat → Prop} (h : Chg w w' S) (hT : ∀ k, k < w.heap.size → S k → T k) : Chg w w' T :=
  ⟨h.os, h.tape, h.output, h.size, fun k hk hn => h.block k hk (fun hs => hn (hT k hk hs))⟩
theorem Chg.trans {a b c : World} {S : Nat → Prop} (h : Chg a b S) (h' : Chg b c (fun k => S k ∨ a.heap.size ≤ k)) : Chg a c S :=
  ⟨h'.os.trans h.os, h'.tape.trans h.tape, h'.output.trans h.output, Nat.le_trans h.size h'.size,
    fun k hk hn => (h'.block k (Nat.lt_of_lt_of_le hk h.size) (fun hs => hs.elim hn (fun h2 => absurd hk (Nat.not_lt.2 h2)))).trans (h.block k hk hn)⟩
theorem Chg.alloc {w w' : World} {S : Nat → Prop} (h : Chg w w' S) (o : Obj) : Chg w (w'.alloc o) S :=
  ⟨h.os, h.tape, h.output, by rw [World.size_alloc]; have := h.size; omega, fun k hk hn => by rw [Below.heap_alloc _ _ _ (Nat.lt_of_lt_of_le hk h.size)]; exact h.block k hk hn⟩
theorem Sub.chg {w w' : World} {b : Nat} {C : List Nat} (h : Sub w w' b C) : Chg w w' (· = b) := ⟨h.os, h.tape, h.output, by rw [h.size]; exact Nat.le_refl _, fun k _ hn => h.block k hn⟩
theorem Chg.arr {w w' : World} {S : Nat → Prop} {b : Nat} {C : List Nat} (h : Chg w w' S) (ha : Arr w b C) (hn : ¬ S b) : Arr w' b C := ⟨by rw [h.block b ha.lt hn]; exact ha.heap, ha.wd⟩

/-- As large as a block may be here. -/
def CAP : Nat := 1000000

/-- A place for a number: nothing, or a slice at the head of a block of words (o: the block). -/
def Stor (w : World) (v : Value) (o : Option Nat) : Prop :=
  (v = .slice none 0 0 ∧ o = none) ∨ ∃ b l cap C, o = some b ∧ v = .slice (some ⟨b, 0, none⟩) l cap ∧ l ≤ cap ∧ Arr w b C ∧ C.length = cap ∧ (0 < cap ∧ cap ≤ 1000000)

/-- The number N as a slice (o: its block). -/
def IsNat (w : World) (v : Value) (N : Nat) (o : Option Nat) : Prop :=
  (v = .slice none 0 0 ∧ N = 0 ∧ o = none) ∨
    ∃ b cap C, o = some b ∧ v = .slice (some ⟨b, 0, none⟩) (digs N).length cap ∧ Arr w b C ∧ C.length = cap ∧ (0 < cap ∧ cap ≤ 1000000) ∧ C.take (digs N).length = digs N

theorem take_len_le {C L : List Nat} (h : C.take L.length = L) : L.length ≤ C.length := by
  have := congrArg List.length h
  rw [List.length_take] at this; omega
theorem IsNat.stor {w : World} {v : Value} {N : Nat} {o : Option Nat} (h : IsNat w v N o) : Stor w v o := by
  rcases h with ⟨rfl, _, rfl⟩ | ⟨b, cap, C, rfl, rfl, ha, hc, hcap, ht⟩
  · exact .inl ⟨rfl, rfl⟩
  · exact .inr ⟨b, _, cap, C, rfl, rfl, by rw [← hc]; exact take_len_le ht, ha, hc, hcap⟩
theorem IsNat.zero (w : World) : IsNat w (.slice none 0 0) 0 none := .inl ⟨rfl, rfl, rfl⟩
theorem IsNat.chg {w w' : World} {v : Value} {N : Nat} {o : Option Nat} {S : Nat → Prop} (h : IsNat w v N o) (hc : Chg w w' S) (hn : ∀ b, o = some b → ¬ S b) : IsNat w' v N o := by
  rcases h with h | ⟨b, cap, C, rfl, rfl, ha, hc1, hcap, ht⟩
  · exact .inl h
  · exact .inr ⟨b, cap, C, rfl, rfl, hc.arr ha (hn b rfl), hc1, hcap, ht⟩
theorem Stor.chg {w w' : World} {v : Value} {o : Option Nat} {S : Nat → Prop} (h : Stor w v o) (hc : Chg w w' S) (hn : ∀ b, o = some b → ¬ S b) : Stor w' v o := by
  rcases h with h | ⟨b, l, cap, C, rfl, rfl, hl, ha, hc1, hcap⟩
  · exact .inl h
  · exact .inr ⟨b, l, cap, C, rfl, rfl, hl, hc.arr ha (hn b rfl), hc1, hcap⟩
theorem IsNat.lt {w : World} {v : Value} {N : Nat} {b : Nat} (h : IsNat w v N (some b)) : b < w.heap.size := by
  rcases h with ⟨_, _, h⟩ | ⟨b', cap, C, h, _, ha, _⟩
  · cases h
  · cases h; exact ha.lt
theorem Stor.lt {w : World} {v : Value} {b : Nat} (h : Stor w v (some b)) : b < w.heap.size := by
  rcases h with ⟨_, h⟩ | ⟨b', l, cap, C, h, _, _, ha, _⟩
  · cases h
  · cases h; exact ha.lt
/-- The parts of a number's slice: its pointer, its capacity. -/
theorem IsNat.shape {w : World} {v : Value} {N : Nat} {o : Option Nat} (h : IsNat w v N o) : ∃ p cap, v = .slice p (digs N).length cap ∧ (digs N).length ≤ cap ∧ cap ≤ 1000000 := by
  rcases h with ⟨rfl, rfl, _⟩ | ⟨b, cap, C, rfl, rfl, ha, hc1, hcap, ht⟩
  · exact ⟨none, 0, by simp [digs_zero], by simp [digs_zero], by omega⟩
  · exact ⟨_, cap, rfl, by rw [← hc1]; exact take_len_le ht, hcap.2⟩
/-- A number that is not 0. -/
theorem IsNat.pos {w : World} {v : Value} {N : Nat} {o : Option Nat} (h : IsNat w v N o) (h0 : N ≠ 0) :
    ∃ b cap C, o = some b ∧ v = .slice (some ⟨b, 0, none⟩) (digs N).length cap ∧ Arr w b C ∧ C.length = cap ∧ (0 < cap ∧ cap ≤ 1000000) ∧ C.take (digs N).length = digs N ∧ (digs N).length ≤ C.length ∧ 0 < (digs N).length := by
  rcases h with ⟨_, h, _⟩ | ⟨b, cap, C, rfl, rfl, ha, hc1, hcap, ht⟩
  · exact absurd h h0
  · exact ⟨b, cap, C, rfl, rfl, ha, hc1, hcap, ht, take_len_le ht, Nat.pos_of_ne_zero (fun e => h0 (digs_len_eq_zero.1 e))⟩

/-- What a function on numbers hands back that may use the place o: the number N. -/
def NatRes (w w' : World) (o : Option Nat) (r : Value) (N : Nat) : Prop :=
  ∃ o', IsNat w' r N o' ∧ (o' = o ∨ o' = none ∨ ∃ b, o' = some b ∧ w.heap.size ≤ b) ∧ Chg w w' (fun k => some k = o)

/-- Out of words that are known. -/
theorem isNat_of {w : World} {b l cap : Nat} {C : List Nat} (ha : Arr w b C) (hc : C.length = cap) (hcap : 0 < cap ∧ cap ≤ 1000000) (hl : l ≤ cap) :
    IsNat w (.slice (some ⟨b, 0, none⟩) (digs (val (C.take l))).length cap) (val (C.take l)) (some b) := by
  refine .inr ⟨b, cap, C, rfl, rfl, ha, hc, hcap, ?_⟩
  -- the words of a value stand at its head
  have key : ∀ L : List Nat, Wd L → L.take (digs (val L)).length = digs (val L) := by
    intro L hL
    have h1 := val_digs (val L)
    have h2 : (digs (val L)).length ≤ L.length := digs_len_le.2 (val_lt hL)
    have e : L = digs (val L) ++ List.replicate (L.length - (digs (val L)).length) 0 := by
      refine val_inj hL ((Wd_digs _).append (Wd.zeros _)) (by simp; omega) ?_
      rw [val_append_zeros, h1]
    conv => lhs; rw [e]
    rw [List.take_append_of_le_length (by
      conv => lhs; rw [← e]
      exact Nat.le_refl _)]
    conv => lhs; rw [← e]
    rw [List.take_length]
  have h3 := key (C.take l) (ha.wd.take l)
  rw [List.take_take] at h3
  have h4 : (digs (val (C.take l))).length ≤ l := by
    have := digs_len_le.2 (val_lt (ha.wd.take l))
    rw [List.length_take] at this; omega
  rw [Nat.min_eq_left h4] at h3
  exact h3

end Go.Proofs.YtonepclpllelfaaGreatDoor

namespace Go.Proofs.YtonepclpllelfaaGreatDoor
open Go Go.RowKit

/-- Noughts at the end are left out. -/
theorem digs_val_cut {L : List Nat} (hL : Wd L) {k : Nat} (hk : k ≤ L.length) (hz : ∀ j, k ≤ j → j < L.length → nth L j = 0) (hl : k = 0 ∨ nth L (k - 1) ≠ 0) : (digs (val L)).length = k := by
  have := digs_take hL hk (fun j h1 h2 => by rw [get_nth h2, hz j h1 h2]) (by
    rcases hl with h | h
    · exact .inl h
    · rcases Nat.eq_zero_or_pos k with h0 | h0
      · exact .inl h0
      · exact .inr ⟨_, get_nth (by omega), h⟩)
  rw [this, List.length_take]; omega

set_option maxHeartbeats 400000 in
theorem norm_c (w : World) (b l cap : Nat) (C : List Nat) (hb : Arr w b C) (hl : l ≤ C.length) (hlc : l ≤ cap) (hn : l ≤ 1000000) :
    Calls Tryz.prog 94 #[.slice (some ⟨b, 0, none⟩) l cap] w fun e w' => e = .returned (.slice (some ⟨b, 0, none⟩) (digs (val (C.take l))).length cap) ∧ w = w' := by
  have hL : (C.take l).length = l := by rw [List.length_take]; omega
  replace hL := Lib.hid hL
  go_enter Tryz.func94, Tryz.ntmps94
  go_wp2
  go_loop [3] (fun i => ∃ k : Nat, k ≤ l ∧ i = .int .i64 k ∧ ∀ j, k ≤ j → j < l → nth (C.take l) j = 0) (fun i => (intOf i).toNat)
  case atStart => exact ⟨l, Nat.le_refl _, rfl, fun j h1 h2 => by omega⟩
  case round =>
    obtain ⟨k, hk, rfl, hz⟩ := hrel
    replace hz := Lib.hid hz
    by_cases hk0 : k = 0
    · subst hk0
      go_wp2
      go_ret
      have := digs_val_cut (hb.wd.take l) (k := 0) (Nat.zero_le _) (fun j h1 h2 => hz.out j h1 (by rw [hL.out] at h2; exact h2)) (.inl rfl)
      exact ⟨by rw [this]; rfl, rfl⟩
    · obtain ⟨j, rfl⟩ : ∃ j, k = j + 1 := ⟨k - 1, by omega⟩
      have hcell := hb.cellN (i := j) (by omega)
      have hnt : nth (C.take l) j = nth C j := nth_take (by omega)
      by_cases h0 : nth C j = 0
      · rw [h0] at hcell
        replace h0 := Lib.hid h0
        replace hnt := Lib.hid hnt
        go_wp2
        go_round
        case rel =>
          refine ⟨j, by omega, rfl, fun i h1 h2 => ?_⟩
          by_cases e : i = j
          · subst e; rw [hnt.out, h0.out]
          · exact hz.out i (by omega) h2
        case measure => simp [intOf]
      · have e0 : ((nth C j : Int) == 0) = false := by simp; omega
        replace h0 := Lib.hid h0
        replace hnt := Lib.hid hnt
        go_wp2
        go_ret
        have := digs_val_cut (hb.wd.take l) (k := j + 1) (by rw [hL.out]; omega) (fun i h1 h2 => hz.out i h1 (by rw [hL.out] at h2; exact h2)) (.inr (by rw [Nat.add_sub_cancel, hnt.out]; exact h0.out))
        exact ⟨by rw [this]; rfl, rfl⟩

theorem makeZ : (Tryz.prog.info? 112).map (fun i => (i.zero, i.size, i.bytes)) = some (some (.int .u64 0), 1, 8) := by kernel_rfl

/-- A new block of noughts. -/
def zeroObj (c : Nat) : Obj := .cells ((List.replicate c 0).map uw).toArray 112 (0, 0)
theorem arr_zero (w : World) (c : Nat) : Arr (w.alloc (zeroObj c)) w.heap.size (List.replicate c 0) := by
  refine ⟨?_, Wd.zeros c⟩
  show (w.heap.push _)[w.heap.size]? = _
  rw [Array.getElem?_push, if_pos rfl]; rfl
theorem run_makeW (w : World) {l c : Int} {l' c' : Nat} (hl : l = l') (hc : c = c') (hlc : l' ≤ c') (hcap : c' ≤ 1000000) (T : TypeId) (hT : Tryz.prog.underlying T = some (.slice 112)) :
    (Instr.makeSlice T (.int .i64 l) (.int .i64 c)).run Tryz.prog w = .ok (.slice (some ⟨w.heap.size, 0, none⟩) l' c') (w.alloc (zeroObj c')) := by
  have h := makeZ
  cases hi : Tryz.prog.info? 112 with
  | none => rw [hi] at h; cases h
  | some i =>
    rw [hi] at h
    simp only [Option.map_some, Option.some.injEq, Prod.mk.injEq] at h
    obtain ⟨h1, h2, h3⟩ := h
    subst hl hc
    rw [run_make (P := Tryz.prog) w T 112 i (.int .u64 0) hT hi h1 .i64 .i64 l' c' (by omega) (by omega) (by rw [h3]; omega) (by omega)]
    simp only [Int.toNat_natCast]
    have e : madeCells (Value.int .u64 0).cells (c' * i.size) = ((List.replicate c' 0).map uw).toArray := by
      rw [h2, Nat.mul_one]
      unfold madeCells
      apply Array.ext
      · simp
      · intro j h1 h2
        simp [Value.cells, uw]
        have : j % 1 = 0 := Nat.mod_one j
        simp [Nat.mod_one]
    unfold zeroObj
    rw [e]

/-- A place of n words: in the old block, or in a new one. -/
def MakeRes (w w' : World) (o : Option Nat) (r : Value) (n : Nat) : Prop :=
  ∃ b cap C, r = .slice (some ⟨b, 0, none⟩) n cap ∧ Arr w' b C ∧ C.length = cap ∧ n ≤ cap ∧ (0 < cap ∧ cap ≤ 1000000) ∧ ((o = some b ∧ w' = w) ∨ w.heap.size = b) ∧ Chg w w' (fun _ => False)

set_option maxHeartbeats 400000 in
theorem make_c (w : World) (z : Value) (o : Option Nat) (hz : Stor w z o) (n : Nat) (hn0 : 0 < n) (hn : n ≤ 1000) :
    Calls Tryz.prog 127 #[z, .int .i64 n] w fun e w' => ∃ r, e = .returned r ∧ MakeRes w w' o r n := by
  have hz' : ∃ p l c, z = .slice p l c ∧ l ≤ c ∧ c ≤ 1000000 ∧ (n ≤ c → ∃ b C, p = some ⟨b, 0, none⟩ ∧ o = some b ∧ Arr w b C ∧ C.length = c) := by
    rcases hz with ⟨rfl, rfl⟩ | ⟨b, l, cap, C, rfl, rfl, hl, ha, hc, hcap⟩
    · exact ⟨none, 0, 0, rfl, Nat.le_refl _, by omega, fun h => by omega⟩
    · exact ⟨_, l, cap, rfl, hl, hcap.2, fun _ => ⟨b, C, rfl, rfl, ha, hc⟩⟩
  obtain ⟨p, l, c, rfl, hl, hc, hp⟩ := hz'
  by_cases h : n ≤ c
  · obtain ⟨b, C, rfl, rfl, ha, hC⟩ := hp h
    clear hz hp
    go_enter Tryz.func127, Tryz.ntmps127
    go_wp2
    go_ret
    exact ⟨_, rfl, b, c, C, rfl, ha, hC, h, ⟨by omega, hc⟩, .inl ⟨rfl, rfl⟩, Chg.refl _ _⟩
  · clear hz hp
    by_cases h1 : n = 1
    · subst h1
      have hmk := fun w => run_makeW w (l := 1) (c := 1) (l' := 1) (c' := 1) rfl rfl (Nat.le_refl _) (by omega) 49 Tryz.underlying49
      go_enter Tryz.func127, Tryz.ntmps127
      go_wp2
      go_ret
      exact ⟨_, rfl, w.heap.size, 1, _, rfl, arr_zero w 1, by simp, by omega, ⟨by omega, by omega⟩, .inr rfl, (Chg.refl _ _).alloc _⟩
    · have e1 : ((n : Int) == 1) = false := by simp; omega
      have hmk := fun w => run_makeW w (l := (n : Int)) (c := (n : Int) + 4) (l' := n) (c' := n + 4) rfl (by omega) (by omega) (by omega) 49 Tryz.underlying49
      go_enter Tryz.func127, Tryz.ntmps127
      go_wp2
      go_ret
      exact ⟨_, rfl, w.heap.size, n + 4, _, rfl, arr_zero w (n + 4), by simp, by omega, ⟨by omega, by omega⟩, .inr rfl, (Chg.refl _ _).alloc _⟩
end Go.Proofs.YtonepclpllelfaaGreatDoor
