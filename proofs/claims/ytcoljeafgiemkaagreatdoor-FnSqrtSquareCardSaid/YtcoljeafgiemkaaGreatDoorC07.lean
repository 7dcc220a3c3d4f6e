/- Division of two words by one: the walk. Digits of a number in any base: plain facts, no program. Sums, differences, products and quotients of rows of digits: plain facts, no program. Powers by squaring: plain facts. -/
import Derived.Test.YtcoljeafgiemkaaGreatDoorC01
import Derived.Test.YtcoljeafgiemkaaGreatDoorC03
namespace Go.Proofs.YtcoljeafgiemkaaGreatDoor
open Go Go.RowKit
set_option maxRecDepth 100000 in
set_option maxHeartbeats 800000 in
theorem div64_zero (lo y : Nat) (hl : lo < WB) (_hy : y < WB) (hy0 : 0 < y) (w : World) :
    Calls Tryz.prog 289 #[.int .u64 0, .int .u64 lo, .int .u64 y] w fun e w' => e = .returned (.tuple #[.int .u64 ((lo / y : Nat) : Int), .int .u64 ((lo % y : Nat) : Int)]) ∧ w' = w.drew := by
  have e0 : ((y : Int) == 0) = false := by simp; omega
  have e1 : ¬ (y : Int) ≤ 0 := by omega
  go_enter Tryz.func289, Tryz.ntmps289
  go_wp2
  go_region
  go_wp2
  go_ret2
  exact ⟨ret2_i rfl (by simp), rfl⟩

set_option maxRecDepth 100000 in
set_option maxHeartbeats 800000 in
theorem div64_full (hi lo y : Nat) (hl : lo < WB) (hy : y < WB) (hh : hi < y) (hh0 : 0 < hi) (hy0 : WB ≤ 2 * y) (w : World)
  (lz : ∀ w, Calls Tryz.prog 303 #[.int .u64 y] w fun e w' => e = .returned (.int .i64 0) ∧ w = w') :
    Calls Tryz.prog 289 #[.int .u64 hi, .int .u64 lo, .int .u64 y] w fun e w' => e = .returned (.tuple #[.int .u64 (((hi * WB + lo) / y : Nat) : Int), .int .u64 (((hi * WB + lo) % y : Nat) : Int)]) ∧ w = w' := by
  have e0 : ((y : Int) == 0) = false := by simp; omega
  have e1 : ¬ (y : Int) ≤ hi := by omega
  have e2 : ((hi : Int) == 0) = false := by simp; omega
  have hlh := Nat.lt_trans hh hy
  have hm := shrw_lt 32 hy
  have hm0 : ¬ shrw y 32 = 0 := by have := shrw32_geH hy0; have := HB_pos; omega
  replace lz := Lib.hid lz
  have hyy := low_highH y
  have hll := low_highH lo
  have hy0l := low32_ltH y
  have hl0l := low32_ltH lo
  have hl1l := shrw32_ltH hl
  have hy1 := shrw32_geH hy0
  have hy1l := shrw32_ltH hy
  have hu1 : hi < shrw y 32 * HB + low32 y := by omega
  have hg := Guess.start (H := HB) (a := shrw y 32) (b := low32 y) (u := hi) (v := shrw lo 32) (by omega) hy1 hy0l hl1l hu1
  have ha0 : 0 < shrw y 32 := by omega
  go_enter Tryz.func289, Tryz.ntmps289
  go_upto_block 0 with ((go_at_call 303; refine (lz.out _).mono ?_; rintro e w' ⟨rfl, rfl⟩))
  generalize shrw y 32 = a at *
  generalize low32 y = b at *
  generalize shrw lo 32 = v1 at *
  generalize low32 lo = v0 at *
  replace hyy := Lib.hid hyy
  replace hll := Lib.hid hll
  go_cut [15] (fun q wr => q = .int .u64 (wdiv (hi * HB + v1) (a * HB + b) : Int) ∧ w = wr)
  case first =>
    go_wp2_with fail
    go_loopw [15, 16] (fun q r wr => ∃ q' r' : Nat, q = .int .u64 q' ∧ r = .int .u64 r' ∧ r' < HB ∧ Guess HB a b hi v1 q' r' ∧ w = wr) (fun q _ _ => (intOf q).toNat)
    case atStart =>
      refine ⟨hi / a, hi % a, rfl, ?_, by have := Nat.mod_lt hi ha0; omega, hg, rfl⟩
      have h1 : wmul (wdiv hi a) a = hi / a * a := wmul_of (Nat.lt_of_le_of_lt (Nat.div_mul_le_self hi a) hlh)
      rw [h1, wsub_of (Nat.div_mul_le_self hi a) hlh]
      have := Nat.div_add_mod' hi a
      rw [show hi - hi / a * a = hi % a by omega]
    case round =>
      obtain ⟨q, r, rfl, rfl, hr, hG, rfl⟩ := hrel
      have hql := hG.le
      have hwa : wadd r a = r + a := wadd_of (by have := HB_two_le; omega)
      replace hwa := Lib.hid hwa
      by_cases hq : HB ≤ q
      · have hn := hG.next hl1l hu1 (.inl hq)
        have hq' : (4294967296 : Int) ≤ (q : Int) := by rw [← HB_int]; omega
        have hws : wsub q 1 = q - 1 := wsub_of (by omega) (by have := HB_two_le; omega)
        replace hG := Lib.hid hG
        replace hn := Lib.hid hn
        replace hws := Lib.hid hws
        by_cases hr2 : HB ≤ r + a
        · have hr' : (4294967296 : Int) ≤ (wadd r a : Int) := by rw [← HB_int, hwa.out]; omega
          go_wp2
          go_meet
          refine ⟨?_, rfl⟩
          rw [hws.out, hn.out.2.full hy0l hr2 (by omega) (by omega)]; rfl
        · have hr' : ¬ (4294967296 : Int) ≤ (wadd r a : Int) := by rw [← HB_int, hwa.out]; omega
          go_wp2
          go_roundw
          case rel => exact ⟨q - 1, r + a, by rw [hws.out], by rw [hwa.out], by omega, hn.out.2, by trivial⟩
          case measure =>
            simp only [intOf]
            rw [hws.out]; omega
      · have hq' : ¬ (4294967296 : Int) ≤ (q : Int) := by rw [← HB_int]; omega
        have hws : wsub q 1 = q - 1 ∨ q = 0 := by
          by_cases h0 : q = 0
          · exact .inr h0
          · exact .inl (wsub_of (by omega) (by have := HB_two_le; omega))
        have hm1 : wmul q b = q * b := wmul_of (by rw [WB_half]; exact Nat.mul_lt_mul'' (by omega) hy0l)
        have hm2 : wmul HB r = HB * r := wmul_of (by rw [WB_half]; exact Nat.mul_lt_mul_of_pos_left hr HB_pos)
        have hm3 : wadd (wmul HB r) v1 = HB * r + v1 := by
          rw [hm2]
          refine wadd_of ?_
          rw [WB_half]
          have : HB * (r + 1) ≤ HB * HB := Nat.mul_le_mul_left HB hr
          rw [Nat.mul_add] at this; omega
        by_cases hc : HB * r + v1 < q * b
        · have hn := hG.next hl1l hu1 (.inr hc)
          have hct : wadd (wmul HB r) v1 < wmul q b := by rw [hm1, hm3]; exact hc
          replace hG := Lib.hid hG
          replace hws := Lib.hid (hws.resolve_right (by have := hn.1; omega))
          replace hn := Lib.hid hn
          clear hm1 hm2 hm3 hc
          by_cases hr2 : HB ≤ r + a
          · have hr' : (4294967296 : Int) ≤ (wadd r a : Int) := by rw [← HB_int, hwa.out]; omega
            go_wp2
            go_meet
            refine ⟨?_, rfl⟩
            rw [hws.out, hn.out.2.full hy0l hr2 (by omega) (by omega)]; rfl
          · have hr' : ¬ (4294967296 : Int) ≤ (wadd r a : Int) := by rw [← HB_int, hwa.out]; omega
            go_wp2
            go_roundw
            case rel => exact ⟨q - 1, r + a, by rw [hws.out], by rw [hwa.out], by omega, hn.out.2, by trivial⟩
            case measure =>
              have := hn.out.1
              simp only [intOf]
              rw [hws.out]; omega
        · have hd := hG.done (by omega) (by omega)
          have hct : ¬ wadd (wmul HB r) v1 < wmul q b := by rw [hm1, hm3]; exact hc
          replace hG := Lib.hid hG
          replace hd := Lib.hid hd
          clear hm1 hm2 hm3 hc hws
          go_wp2
          go_meet
          exact ⟨by rw [hd.out]; rfl, rfl⟩
  case rest =>
    obtain ⟨rfl, rfl⟩ := hcut
    have hq1e : wdiv (hi * HB + v1) (a * HB + b) = (hi * HB + v1) / y := by unfold wdiv; rw [hyy.out]
    have hq1d := Nat.div_add_mod (hi * HB + v1) y
    have hq1m := Nat.mod_lt (hi * HB + v1) (show 0 < y by omega)
    have hq1l : wdiv (hi * HB + v1) (a * HB + b) < HB := by
      rw [hq1e, Nat.div_lt_iff_lt_mul (by omega)]
      have : (hi + 1) * HB ≤ y * HB := Nat.mul_le_mul_right HB hh
      rw [Nat.add_mul, Nat.one_mul] at this
      rw [Nat.mul_comm HB y]; omega
    rw [← hq1e] at hq1d
    generalize wdiv (hi * HB + v1) (a * HB + b) = q1 at *
    have hud : wsub (wadd (wmul hi HB) v1) (wmul q1 y) = (hi * HB + v1) % y := wsub_chain (by rw [Nat.mul_comm q1 y]; omega) (by omega)
    have hul : wsub (wadd (wmul hi HB) v1) (wmul q1 y) < WB := wsub_lt _ _
    replace hq1d := Lib.hid hq1d
    replace hq1e := Lib.hid hq1e
    replace hq1m := Lib.hid hq1m
    replace hud := Lib.hid hud
    go_upto_block 2 with (fail)
    generalize wsub (wadd (wmul hi HB) v1) (wmul q1 y) = u at *
    have hu2 : u < a * HB + b := by rw [hyy.out, hud.out]; exact hq1m.out
    have hg2 := Guess.start (H := HB) (a := a) (b := b) (u := u) (v := v0) ha0 hy1 hy0l hl0l hu2
    go_cut [18] (fun q wr => q = .int .u64 (wdiv (u * HB + v0) (a * HB + b) : Int) ∧ w = wr)
    case first =>
      go_wp2_with fail
      go_loopw [18, 16] (fun q r wr => ∃ q' r' : Nat, q = .int .u64 q' ∧ r = .int .u64 r' ∧ r' < HB ∧ Guess HB a b u v0 q' r' ∧ w = wr) (fun q _ _ => (intOf q).toNat)
      case atStart =>
        refine ⟨u / a, u % a, rfl, ?_, by have := Nat.mod_lt u ha0; omega, hg2, rfl⟩
        have h1 : wmul (wdiv u a) a = u / a * a := wmul_of (Nat.lt_of_le_of_lt (Nat.div_mul_le_self u a) hul)
        rw [h1, wsub_of (Nat.div_mul_le_self u a) hul]
        have := Nat.div_add_mod' u a
        rw [show u - u / a * a = u % a by omega]
      case round =>
        obtain ⟨q, r, rfl, rfl, hr, hG, rfl⟩ := hrel
        have hql := hG.le
        have hwa : wadd r a = r + a := wadd_of (by have := HB_two_le; omega)
        replace hwa := Lib.hid hwa
        by_cases hq : HB ≤ q
        · have hn := hG.next hl0l hu2 (.inl hq)
          have hq' : (4294967296 : Int) ≤ (q : Int) := by rw [← HB_int]; omega
          have hws : wsub q 1 = q - 1 := wsub_of (by omega) (by have := HB_two_le; omega)
          replace hG := Lib.hid hG
          replace hn := Lib.hid hn
          replace hws := Lib.hid hws
          by_cases hr2 : HB ≤ r + a
          · have hr' : (4294967296 : Int) ≤ (wadd r a : Int) := by rw [← HB_int, hwa.out]; omega
            go_wp2
            go_meet
            refine ⟨?_, rfl⟩
            rw [hws.out, hn.out.2.full hy0l hr2 (by omega) (by omega)]; rfl
          · have hr' : ¬ (4294967296 : Int) ≤ (wadd r a : Int) := by rw [← HB_int, hwa.out]; omega
            go_wp2
            go_roundw
            case rel => exact ⟨q - 1, r + a, by rw [hws.out], by rw [hwa.out], by omega, hn.out.2, by trivial⟩
            case measure =>
              simp only [intOf]
              rw [hws.out]; omega
        · have hq' : ¬ (4294967296 : Int) ≤ (q : Int) := by rw [← HB_int]; omega
          have hws : wsub q 1 = q - 1 ∨ q = 0 := by
            by_cases h0 : q = 0
            · exact .inr h0
            · exact .inl (wsub_of (by omega) (by have := HB_two_le; omega))
          have hm1 : wmul q b = q * b := wmul_of (by rw [WB_half]; exact Nat.mul_lt_mul'' (by omega) hy0l)
          have hm2 : wmul HB r = HB * r := wmul_of (by rw [WB_half]; exact Nat.mul_lt_mul_of_pos_left hr HB_pos)
          have hm3 : wadd (wmul HB r) v0 = HB * r + v0 := by
            rw [hm2]
            refine wadd_of ?_
            rw [WB_half]
            have : HB * (r + 1) ≤ HB * HB := Nat.mul_le_mul_left HB hr
            rw [Nat.mul_add] at this; omega
          by_cases hc : HB * r + v0 < q * b
          · have hn := hG.next hl0l hu2 (.inr hc)
            have hct : wadd (wmul HB r) v0 < wmul q b := by rw [hm1, hm3]; exact hc
            replace hG := Lib.hid hG
            replace hws := Lib.hid (hws.resolve_right (by have := hn.1; omega))
            replace hn := Lib.hid hn
            clear hm1 hm2 hm3 hc
            by_cases hr2 : HB ≤ r + a
            · have hr' : (4294967296 : Int) ≤ (wadd r a : Int) := by rw [← HB_int, hwa.out]; omega
              go_wp2
              go_meet
              refine ⟨?_, rfl⟩
              rw [hws.out, hn.out.2.full hy0l hr2 (by omega) (by omega)]; rfl
            · have hr' : ¬ (4294967296 : Int) ≤ (wadd r a : Int) := by rw [← HB_int, hwa.out]; omega
              go_wp2
              go_roundw
              case rel => exact ⟨q - 1, r + a, by rw [hws.out], by rw [hwa.out], by omega, hn.out.2, by trivial⟩
              case measure =>
                have := hn.out.1
                simp only [intOf]
                rw [hws.out]; omega
          · have hd := hG.done (by omega) (by omega)
            have hct : ¬ wadd (wmul HB r) v0 < wmul q b := by rw [hm1, hm3]; exact hc
            replace hG := Lib.hid hG
            replace hd := Lib.hid hd
            clear hm1 hm2 hm3 hc hws
            go_wp2
            go_meet
            exact ⟨by rw [hd.out]; rfl, rfl⟩

    case rest =>
      obtain ⟨rfl, rfl⟩ := hcut
      have hq2e : wdiv (u * HB + v0) (a * HB + b) = (u * HB + v0) / y := by unfold wdiv; rw [hyy.out]
      have hq2d := Nat.div_add_mod (u * HB + v0) y
      have hq2m := Nat.mod_lt (u * HB + v0) (show 0 < y by omega)
      have hq2l : wdiv (u * HB + v0) (a * HB + b) < HB := by
        rw [hq2e, Nat.div_lt_iff_lt_mul (by omega)]
        have : (u + 1) * HB ≤ y * HB := Nat.mul_le_mul_right HB (by rw [hud.out]; exact hq1m.out)
        rw [Nat.add_mul, Nat.one_mul] at this
        rw [Nat.mul_comm HB y]; omega
      rw [← hq2e] at hq2d
      generalize wdiv (u * HB + v0) (a * HB + b) = q2 at *
      have hud2 : wsub (wadd (wmul u HB) v0) (wmul q2 y) = (u * HB + v0) % y := wsub_chain (by rw [Nat.mul_comm q2 y]; omega) (by omega)
      replace hq2d := Lib.hid hq2d
      replace hq2e := Lib.hid hq2e
      replace hq2m := Lib.hid hq2m
      replace hud2 := Lib.hid hud2
      go_wp2
      go_ret2
      have hqq : wadd (wmul q1 HB) q2 = q1 * HB + q2 := by
        have h1 : (q1 + 1) * HB ≤ HB * HB := Nat.mul_le_mul_right HB hq1l
        rw [Nat.add_mul, Nat.one_mul, ← WB_half] at h1
        rw [wmul_of (by omega)]
        exact wadd_of (by omega)
      have huu : hi * HB + v1 = y * q1 + u := by rw [hud.out]; exact hq1d.out.symm
      have htot : hi * WB + lo = y * (q1 * HB + q2) + (u * HB + v0) % y := by
        rw [← hll.out, WB_half, ← Nat.mul_assoc]
        have e1 : hi * HB * HB + (v1 * HB + v0) = (hi * HB + v1) * HB + v0 := by rw [Nat.add_mul]; omega
        rw [e1, huu, Nat.add_mul, Nat.mul_add, Nat.mul_assoc]
        have := hq2d.out
        omega
      refine ⟨ret2_i ?_ ?_, rfl⟩
      · rw [hqq, htot, Nat.mul_add_div (by omega), Nat.div_eq_of_lt (hq2m.out), Nat.add_zero]
      · rw [htot, Nat.mul_add_mod, Nat.mod_mod]
        rw [hud2.out]

/-- Division of two words by a word whose top bit is set, or of one word by any: quotient and rest. -/
theorem bitsDiv64_c (hi lo y : Nat) (hl : lo < WB) (hy : y < WB) (hh : hi < y) (hy0 : hi = 0 ∨ WB ≤ 2 * y) (w : World)
    (lz : hi ≠ 0 → ∀ w, Calls Tryz.prog 303 #[.int .u64 y] w fun e w' => e = .returned (.int .i64 0) ∧ w = w') :
    Calls Tryz.prog 289 #[.int .u64 hi, .int .u64 lo, .int .u64 y] w fun e w' => e = .returned (.tuple #[.int .u64 (wdiv (hi * WB + lo) y : Int), .int .u64 (wmod (hi * WB + lo) y : Int)]) ∧ ∃ n, w' = w.drewN n := by
  by_cases h0 : hi = 0
  · subst h0
    refine (div64_zero lo y hl hy (by omega) w).mono ?_
    rintro e w' ⟨rfl, rfl⟩
    refine ⟨ret2_i ?_ ?_, 1, rfl⟩ <;> simp [wdiv, wmod]
  · refine (div64_full hi lo y hl hy hh (by omega) (by omega) w (lz h0)).mono ?_
    rintro e w' ⟨rfl, rfl⟩
    exact ⟨rfl, 0, rfl⟩

end Go.Proofs.YtcoljeafgiemkaaGreatDoor

namespace Go.Proofs.YtcoljeafgiemkaaGreatDoor

/-- The number of a list of digits, the lowest first. -/
def vB (B : Nat) : List Nat → Nat
  | [] => 0
  | x :: xs => x + B * vB B xs
/-- Every digit is below the base. -/
def DgB (B : Nat) (l : List Nat) : Prop := ∀ x, x ∈ l → x < B
theorem DgB.nil {B : Nat} : DgB B [] := fun _ h => by cases h
theorem DgB.cons {B x : Nat} {l : List Nat} (hx : x < B) (h : DgB B l) : DgB B (x :: l) := fun y hy => by
  cases hy with
  | head => exact hx
  | tail _ h' => exact h y h'
theorem DgB.head {B x : Nat} {l : List Nat} (h : DgB B (x :: l)) : x < B := h x (List.mem_cons_self ..)
theorem DgB.tail {B x : Nat} {l : List Nat} (h : DgB B (x :: l)) : DgB B l := fun y hy => h y (List.mem_cons_of_mem _ hy)
theorem DgB.append {B : Nat} {a b : List Nat} (ha : DgB B a) (hb : DgB B b) : DgB B (a ++ b) := fun y hy => by
  rcases List.mem_append.1 hy with h | h
  · exact ha y h
  · exact hb y h
theorem DgB.take {B : Nat} {l : List Nat} (h : DgB B l) (n : Nat) : DgB B (l.take n) := fun y hy => h y (List.mem_of_mem_take hy)
theorem DgB.nth {B : Nat} (hB : 0 < B) {l : List Nat} (h : DgB B l) (i : Nat) : nth l i < B := by
  unfold Go.Proofs.YtcoljeafgiemkaaGreatDoor.nth
  cases hx : l[i]? with
  | none => exact hB
  | some x => exact h x (List.mem_of_getElem? hx)
@[simp] theorem vB_nil (B : Nat) : vB B [] = 0 := rfl
theorem vB_append (B : Nat) (a b : List Nat) : vB B (a ++ b) = vB B a + B ^ a.length * vB B b := by
  induction a with
  | nil => simp [vB]
  | cons x a ih =>
    simp only [List.cons_append, vB, ih, List.length_cons, Nat.pow_succ, Nat.mul_add]
    rw [Nat.add_assoc, Nat.mul_comm (B ^ a.length) B, Nat.mul_assoc]
theorem vB_snoc (B : Nat) (a : List Nat) (x : Nat) : vB B (a ++ [x]) = vB B a + B ^ a.length * x := by
  rw [vB_append]; simp [vB]
theorem vB_take_succ {B : Nat} {l : List Nat} {k : Nat} (h : k < l.length) : vB B (l.take (k + 1)) = vB B (l.take k) + B ^ k * nth l k := by
  rw [take_nth h, vB_snoc, List.length_take, Nat.min_eq_left (by omega)]
theorem vB_zeros (B n : Nat) : vB B (List.replicate n 0) = 0 := by
  induction n with
  | zero => rfl
  | succ n ih => rw [List.replicate_succ, vB, ih, Nat.mul_zero]
theorem vB_lt {B : Nat} {l : List Nat} (h : DgB B l) : vB B l < B ^ l.length := by
  induction l with
  | nil => simp [vB]
  | cons x l ih =>
    have hx := h.head
    have hi := ih h.tail
    simp only [vB, List.length_cons, Nat.pow_succ]
    have : B * vB B l + B ≤ B * B ^ l.length := by
      have := Nat.mul_le_mul_left B (Nat.succ_le_of_lt hi)
      rw [Nat.mul_succ] at this; exact this
    rw [Nat.mul_comm (B ^ l.length)]; omega

/-- The digits of a number, the last one not 0. -/
def dB (B : Nat) (hB : 2 ≤ B) (n : Nat) : List Nat := if _h : n = 0 then [] else n % B :: dB B hB (n / B)
termination_by n
decreasing_by exact Nat.div_lt_self (Nat.pos_of_ne_zero _h) hB
theorem dB_zero {B : Nat} (hB : 2 ≤ B) : dB B hB 0 = [] := by rw [dB]; simp
theorem dB_pos {B : Nat} (hB : 2 ≤ B) {n : Nat} (h : n ≠ 0) : dB B hB n = n % B :: dB B hB (n / B) := by rw [dB]; simp [h]
theorem vB_dB {B : Nat} (hB : 2 ≤ B) (n : Nat) : vB B (dB B hB n) = n := by
  induction n using Nat.strongRecOn with
  | _ n ih =>
    by_cases h : n = 0
    · subst h; rw [dB_zero]; rfl
    · rw [dB_pos hB h, vB, ih _ (Nat.div_lt_self (Nat.pos_of_ne_zero h) hB)]
      exact Nat.mod_add_div n B
theorem DgB_dB {B : Nat} (hB : 2 ≤ B) (n : Nat) : DgB B (dB B hB n) := by
  induction n using Nat.strongRecOn with
  | _ n ih =>
    by_cases h : n = 0
    · subst h; rw [dB_zero]; exact DgB.nil
    · rw [dB_pos hB h]
      exact DgB.cons (Nat.mod_lt _ (by omega)) (ih _ (Nat.div_lt_self (Nat.pos_of_ne_zero h) hB))
theorem dB_eq_nil {B : Nat} (hB : 2 ≤ B) {n : Nat} : dB B hB n = [] ↔ n = 0 := by
  constructor
  · intro h; have := vB_dB hB n; rw [h] at this; exact this.symm
  · rintro rfl; exact dB_zero hB
theorem vB_inj {B : Nat} {a b : List Nat} (ha : DgB B a) (hb : DgB B b) (hl : a.length = b.length) (h : vB B a = vB B b) : a = b := by
  induction a generalizing b with
  | nil => cases b with
    | nil => rfl
    | cons => simp at hl
  | cons x a ih => cases b with
    | nil => simp at hl
    | cons y b =>
      have hx := ha.head
      have hy := hb.head
      simp only [vB] at h
      have e1 : x = y := by
        have h1 := congrArg (· % B) h
        simp only [Nat.add_mul_mod_self_left, Nat.mod_eq_of_lt hx, Nat.mod_eq_of_lt hy] at h1
        exact h1
      subst e1
      have e2 : vB B a = vB B b := Nat.eq_of_mul_eq_mul_left (by omega) (Nat.add_left_cancel h)
      rw [ih ha.tail hb.tail (by simpa using hl) e2]
theorem dB_len_le {B : Nat} (hB : 2 ≤ B) {n k : Nat} : (dB B hB n).length ≤ k ↔ n < B ^ k := by
  constructor
  · intro h
    have := vB_lt (DgB_dB hB n)
    rw [vB_dB] at this
    exact Nat.lt_of_lt_of_le this (Nat.pow_le_pow_right (by omega) h)
  · intro h
    induction k generalizing n with
    | zero => have : n = 0 := by simpa using h
              subst this; simp [dB_zero]
    | succ k ih =>
      by_cases hn : n = 0
      · subst hn; simp [dB_zero]
      · rw [dB_pos hB hn, List.length_cons]
        have : n / B < B ^ k := by
          rw [Nat.div_lt_iff_lt_mul (by omega), ← Nat.pow_succ]; exact h
        have := ih this
        omega
/-- Digits without noughts at the end are those of their number. -/
theorem dB_of {B : Nat} (hB : 2 ≤ B) {L : List Nat} (h : DgB B L) (hl : L = [] ∨ nth L (L.length - 1) ≠ 0) : dB B hB (vB B L) = L := by
  have h1 : (dB B hB (vB B L)).length ≤ L.length := (dB_len_le hB).2 (vB_lt h)
  have h2 : L.length ≤ (dB B hB (vB B L)).length := by
    rcases hl with h0 | h0
    · subst h0; simp
    · rcases Nat.lt_or_ge (dB B hB (vB B L)).length L.length with hlt | hge
      · exfalso
        have h3 := (dB_len_le hB (n := vB B L) (k := L.length - 1)).1 (by omega)
        have h4 := vB_take_succ (B := B) (l := L) (k := L.length - 1) (by omega)
        rw [show L.length - 1 + 1 = L.length by omega, List.take_length] at h4
        have h5 : B ^ (L.length - 1) * 1 ≤ B ^ (L.length - 1) * nth L (L.length - 1) := Nat.mul_le_mul_left _ (by omega)
        omega
      · exact hge
  exact vB_inj (DgB_dB hB _) h (by omega) (vB_dB hB _)
/-- Noughts at the end are left out. -/
theorem dB_cut {B : Nat} (hB : 2 ≤ B) {L : List Nat} (h : DgB B L) {k : Nat} (hk : k ≤ L.length) (hz : ∀ j, k ≤ j → j < L.length → nth L j = 0) (hl : k = 0 ∨ nth L (k - 1) ≠ 0) : dB B hB (vB B L) = L.take k := by
  have e : L = L.take k ++ List.replicate (L.length - k) 0 := by
    apply List.ext_getElem?
    intro j
    by_cases hj : j < k
    · rw [List.getElem?_append_left (by simp; omega), List.getElem?_take_of_lt hj]
    · rw [List.getElem?_append_right (by simp; omega)]
      by_cases hj2 : j < L.length
      · rw [get_nth hj2, hz j (by omega) hj2, List.getElem?_replicate]
        simp; omega
      · rw [List.getElem?_eq_none (by omega), List.getElem?_replicate]
        simp; omega
  have ev : vB B L = vB B (L.take k) := by
    have := vB_append B (L.take k) (List.replicate (L.length - k) 0)
    rw [← e, vB_zeros, Nat.mul_zero, Nat.add_zero] at this; exact this
  rw [ev]
  apply dB_of hB (h.take k)
  rcases hl with h0 | h0
  · subst h0; exact .inl (by simp)
  · rcases Nat.eq_zero_or_pos k with h1 | h1
    · subst h1; exact .inl (by simp)
    · refine .inr ?_
      rw [List.length_take, Nat.min_eq_left hk, nth_take (by omega)]; exact h0

/-! ### Words of 64 bits and digits of 16 bits -/
theorem two16 : 2 ≤ 65536 := by decide
/-- The digits of a natural number of the reference. -/
abbrev d16 (n : Nat) : List Nat := dB 65536 two16 n
theorem WB_16 : WB = 65536 ^ 4 := by rw [WB_eq]
/-- The four digits of a word. -/
def w4 (x : Nat) : List Nat := [x % 65536, x / 65536 % 65536, x / 4294967296 % 65536, x / 281474976710656]
theorem w4_val (x : Nat) : vB 65536 (w4 x) = x := by simp only [w4, vB]; omega
theorem w4_lt {x : Nat} (h : x < WB) : DgB 65536 (w4 x) := by
  rw [WB_eq] at h
  intro y hy
  simp only [w4, List.mem_cons, List.not_mem_nil, or_false] at hy
  rcases hy with rfl | rfl | rfl | rfl <;> omega
/-- The digits of a list of words. -/
def ws4 : List Nat → List Nat
  | [] => []
  | x :: l => w4 x ++ ws4 l
theorem ws4_len (l : List Nat) : (ws4 l).length = 4 * l.length := by
  induction l with
  | nil => rfl
  | cons x l ih => simp only [ws4, List.length_append, ih, List.length_cons]; simp [w4]; omega
theorem ws4_val (l : List Nat) : vB 65536 (ws4 l) = val l := by
  induction l with
  | nil => rfl
  | cons x l ih =>
    simp only [ws4]
    rw [vB_append, w4_val, ih, val_cons, WB_16]; rfl
theorem ws4_dg {l : List Nat} (h : Wd l) : DgB 65536 (ws4 l) := by
  induction l with
  | nil => exact DgB.nil
  | cons x l ih => exact (w4_lt h.head).append (ih h.tail)
theorem ws4_snoc (l : List Nat) (x : Nat) : ws4 (l ++ [x]) = ws4 l ++ w4 x := by
  induction l with
  | nil => simp [ws4]
  | cons y l ih => simp only [List.cons_append, ws4, ih, List.append_assoc]
/-- Words that are grouped out of the digits of a number are those of the number. -/
theorem digs_of_groups {N : Nat} {W : List Nat} (hW : Wd W) (hv : val W = N) (hl : W.length = ((d16 N).length + 3) / 4) : W = digs N := by
  refine val_inj hW (Wd_digs N) ?_ (by rw [val_digs]; exact hv)
  have h1 : (digs N).length ≤ W.length := digs_len_le.2 (by have := val_lt hW; rwa [hv] at this)
  have h2 : (d16 N).length ≤ 4 * (digs N).length := by
    rw [dB_len_le two16, Nat.pow_mul, ← WB_16]
    exact lt_digs_len N
  omega
end Go.Proofs.YtcoljeafgiemkaaGreatDoor

namespace Go.Proofs.YtcoljeafgiemkaaGreatDoor

theorem DgB.set {B : Nat} {l : List Nat} (h : DgB B l) (n : Nat) {x : Nat} (hx : x < B) : DgB B (l.set n x) := fun y hy => by
  rcases List.mem_or_eq_of_mem_set hy with h1 | h1
  · exact h y h1
  · rw [h1]; exact hx
theorem DgB.zeros {B : Nat} (hB : 0 < B) (n : Nat) : DgB B (List.replicate n 0) := fun y hy => by
  rw [List.eq_of_mem_replicate hy]; exact hB
end Go.Proofs.YtcoljeafgiemkaaGreatDoor

namespace Go.Proofs.YtcoljeafgiemkaaGreatDoor

theorem top_bit {Y k : Nat} (hk : k ≤ 63) : Y * 2 ^ (63 - k) % 18446744073709551616 / 9223372036854775808 = Y / 2 ^ k % 2 := by
  have e1 : (18446744073709551616 : Nat) = 2 ^ k * 2 * 2 ^ (63 - k) := by
    rw [Nat.mul_assoc, Nat.mul_comm 2, ← Nat.mul_assoc, ← Nat.pow_add, show k + (63 - k) = 63 by omega]
  have e2 : (9223372036854775808 : Nat) = 2 ^ k * 2 ^ (63 - k) := by
    rw [← Nat.pow_add, show k + (63 - k) = 63 by omega]
  rw [e1, e2, Nat.mul_mod_mul_right, Nat.mul_div_mul_right _ _ (Nat.pow_pos (by omega)), Nat.mod_mul_right_div_self]
theorem next_word {Y a : Nat} : Y * 2 ^ a % 18446744073709551616 * 2 % 18446744073709551616 = Y * 2 ^ (a + 1) % 18446744073709551616 := by
  rw [Nat.pow_succ, ← Nat.mul_assoc]
  omega
theorem half_step (Y k : Nat) : Y / 2 ^ k = 2 * (Y / 2 ^ (k + 1)) + Y / 2 ^ k % 2 := by
  rw [Nat.pow_succ, ← Nat.div_div_eq_div_mul]; omega
theorem pow_step (X Y k : Nat) : X ^ (Y / 2 ^ k) = X ^ (Y / 2 ^ (k + 1)) * X ^ (Y / 2 ^ (k + 1)) * X ^ (Y / 2 ^ k % 2) := by
  conv => lhs; rw [half_step]
  rw [Nat.pow_add, Nat.two_mul, Nat.pow_add]
theorem pow_mono {X a b : Nat} (hX : 0 < X) (h : a ≤ b) : X ^ a ≤ X ^ b := Nat.pow_le_pow_right hX h
theorem sq_lt {a B : Nat} {k : Nat} (h : a * a < B ^ (2 * k)) : a < B ^ k := by
  rcases Nat.lt_or_ge a (B ^ k) with h1 | h1
  · exact h1
  · have := Nat.mul_le_mul h1 h1
    rw [← Nat.pow_add, ← Nat.two_mul] at this
    omega
/-- Squares on the way are small. -/
theorem way_lt {X Y k c : Nat} (hX : 0 < X) (h : X ^ Y < WB ^ (2 * c)) : X ^ (Y / 2 ^ (k + 1)) < WB ^ c := by
  refine sq_lt (Nat.lt_of_le_of_lt ?_ h)
  rw [← Nat.pow_add]
  refine pow_mono hX ?_
  have h1 : Y / 2 ^ (k + 1) = Y / 2 ^ k / 2 := by rw [Nat.pow_succ, Nat.div_div_eq_div_mul]
  have h2 : Y / 2 ^ k ≤ Y := Nat.div_le_self _ _
  omega
end Go.Proofs.YtcoljeafgiemkaaGreatDoor
