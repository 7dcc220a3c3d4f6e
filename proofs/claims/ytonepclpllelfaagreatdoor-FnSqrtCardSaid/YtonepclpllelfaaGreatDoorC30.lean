/- The number of a number's digits. The number of a long number's digits; of a decimal's. Bit 0; whether a magnitude is made one greater. Mode 05up; all modes. -/
import Derived.Deep.RegionHeld3
import Derived.Test.YtonepclpllelfaaGreatDoorC09
import Derived.Test.YtonepclpllelfaaGreatDoorC11
import Derived.Test.YtonepclpllelfaaGreatDoorC29
namespace Go.Proofs.YtonepclpllelfaaGreatDoor
open Go Go.RowKit

set_option exponentiation.threshold 2000 in
theorem bits_words {N : Nat} (h : nbits N < 1200) : (digs N).length ≤ 1000 := by
  refine Nat.le_trans (digs_len_le (k := 20).2 ?_) (by omega)
  rw [WB_bits, ← Nat.pow_mul]
  exact nbits_le_iff.1 (Nat.le_trans (Nat.le_of_lt h) (by omega))

set_option maxRecDepth 20000 in
theorem numDigits_z {w0 w : World} {σ : Sg} (h : Hold w0 w σ) {bx ox : Nat} (hx : BNum σ bx ox false 0) :
    Calls Tryz.prog 56 #[.pointer (some ⟨bx, ox, none⟩)] w fun e w' => e = .returned (.int .i64 1) ∧ Hold w0 w' σ := by
  have k := bigBits_c h hx (Nat.le_trans (bits_words (by rw [nbits_zero]; omega)) (by omega))
  rw [nbits_zero] at k
  replace k := Lib.hid k
  replace h := Lib.hid h
  clear hx
  go_enter Tryz.func56, Tryz.ntmps56
  go_wp2_with fail
  with_reducible refine k.out.mono ?_
  rintro e w' ⟨rfl, hw⟩
  obtain rfl := hw
  go_wp2
  go_ret
  exact ⟨rfl, h.out⟩

theorem Two2 {w0 w w2 : World} {σ σ1 : Sg} {t t2 bx ox N : Nat} {it it2 : It} (h1 : Hold w0 w σ1) (ht : σ1 t = some it) (hx : BNum σ1 bx ox false N) (hle : Le σ σ1) (ht2 : w2.heap.size ≤ t2) (hc : Chg w w2 (fun _ => False)) : upd σ1 t2 it2 t2 = some it2 ∧ upd σ1 t2 it2 t = some it ∧ BNum (upd σ1 t2 it2) bx ox false N ∧ Le σ (upd σ1 t2 it2) := by
  have hf := h1.fresh (k := t2) (Nat.le_trans hc.size ht2)
  have hf2 : σ t2 = none := by
    cases h : σ t2 with
    | none => rfl
    | some jt => exact absurd (hle _ _ h) (by rw [hf]; exact fun h => by cases h)
  refine ⟨upd_eq _ _ _, ?_, hx.upd hf, Le.skip hf2 hle⟩
  rw [upd_ne _ _ (by rintro rfl; rw [hf] at ht; cases ht)]
  exact ht
set_option maxRecDepth 20000 in
set_option maxHeartbeats 16000000 in
theorem numDigits_s {w0 w : World} {σ : Sg} (h : Hold w0 w σ) {bx ox : Nat} {N : Nat} (hx : BNum σ bx ox false N) (h0 : N ≠ 0) (hb : nbits N ≤ 128) :
    Calls Tryz.prog 56 #[.pointer (some ⟨bx, ox, none⟩)] w fun e w' => e = .returned (.int .i64 (figs N : Int)) ∧ Hold w0 w' σ := by
  have k := bigBits_c h hx (Nat.le_trans (bits_words (by omega)) (by omega))
  have hbp := nbits_pos h0
  have hlo := nbits_ge h0
  have hhi := nbits_lt N
  obtain ⟨b, hbe⟩ : ∃ b, nbits N = b := ⟨_, rfl⟩
  rw [hbe] at k hbp hlo hhi hb
  have kd := digitsRow_c h b hbp hb
  have f1 := figs_mono hlo
  have f2 := figs_lt (2 ^ (b - 1))
  have f3 := figs_mono (Nat.le_of_lt hhi)
  have f4 : 2 ^ b = 2 * 2 ^ (b - 1) := by
    obtain ⟨c, rfl⟩ : ∃ c, b = c + 1 := ⟨b - 1, by omega⟩
    rw [Nat.add_sub_cancel, Nat.pow_succ, Nat.mul_comm]
  have fp := figs_pos (2 ^ (b - 1))
  have hd40 := figs_two (b - 1) (by omega)
  have kd2 : ∀ w1 σ1, b < 128 → Hold w0 w1 σ1 → Calls Tryz.prog 73 #[.int .i64 ((b : Int) + 1)] w1 fun e w' => ∃ t, e = .returned (.pointer (some ⟨t, 0, none⟩)) ∧ w1.heap.size ≤ t ∧ Hold w0 w' (upd σ1 t (tv (figs (2 ^ b) : Int) false (10 ^ figs (2 ^ b)) true (10 ^ figs (2 ^ b)))) := fun w1 σ1 hlt h1 => digitsRow_c h1 (b + 1) (by omega) (by omega)
  have e0 : ((b : Int) == 0) = false := int_eq0 (by omega)
  have e1 : decide ((b : Int) ≤ 128) = true := by simp; omega
  have e1' : (b : Int) ≤ 128 := by omega
  obtain ⟨d, hd⟩ : ∃ d, figs (2 ^ (b - 1)) = d := ⟨_, rfl⟩
  obtain ⟨d2, hd2⟩ : ∃ d2, figs (2 ^ b) = d2 := ⟨_, rfl⟩
  rw [hd] at kd f1 f2 fp hd40
  rw [hd2] at f3
  rw [hd2] at kd2
  have hdN : N < 10 ^ d → figs N = d := fun hl => Nat.le_antisymm ((figs_le_iff fp).2 hl) f1
  have hdM : ¬ N < 10 ^ d → figs N = d + 1 := fun hl => Nat.le_antisymm ((figs_le_iff (by omega)).2 (by rw [ten_succ]; omega)) (by
    have h3 := mt (figs_le_iff fp).1 hl
    omega)
  have hsg : sgN false N = 1 := by unfold sgN; rw [if_neg h0]; rfl
  obtain ⟨it, hbx, hin⟩ := id hx
  have hfr : ∀ k, w.heap.size ≤ k → σ k = none := fun k hk => h.fresh hk
  replace k := Lib.hid k
  replace kd := Lib.hid kd
  replace kd2 := Lib.hid kd2
  replace hd2 := Lib.hid hd2
  replace hd := Lib.hid hd
  replace hbe := Lib.hid hbe
  replace hdN := Lib.hid hdN
  replace hdM := Lib.hid hdM
  replace hsg := Lib.hid hsg
  replace hfr := Lib.hid hfr
  replace hbx := Lib.hid hbx
  replace h0 := Lib.hid h0
  replace hlo := Lib.hid hlo
  replace hhi := Lib.hid hhi
  replace hx := Lib.hid hx
  replace f1 := Lib.hid f1
  replace f2 := Lib.hid f2
  replace f3 := Lib.hid f3
  replace f4 := Lib.hid f4
  replace hd40 := Lib.hid hd40
  clear hin
  go_enter Tryz.func56, Tryz.ntmps56
  go_wp2_with fail
  with_reducible refine k.out.mono ?_
  rintro e w' ⟨rfl, hw⟩
  obtain rfl := hw
  go_wp2_with fail
  with_reducible refine kd.out.mono ?_
  rintro e w1 ⟨t, rfl, ht, h1⟩
  have hft := hfr.out t ht
  have hxt : bx ≠ t := by rintro rfl; rw [hbx.out] at hft; cases hft
  have h1t := upd_eq σ t (tv (d : Int) false (10 ^ d) true (10 ^ d))
  obtain ⟨c0, f0, _⟩ := h1.tvAt h1t
  have hx1 := hx.out.upd (it := tv (d : Int) false (10 ^ d) true (10 ^ d)) hft
  have hle : Le σ (upd σ t (tv (d : Int) false (10 ^ d) true (10 ^ d))) := Le.skip hft (Le.refl _)
  have hd40 := hd40.out
  have ew : IntKind.i64.wrap ((d : Int) + 1) = (d : Int) + 1 := IntWalk.i64_in _ (by omega)
  have ewb : IntKind.i64.wrap ((b : Int) + 1) = (b : Int) + 1 := IntWalk.i64_in _ (by omega)
  generalize upd σ t (tv (d : Int) false (10 ^ d) true (10 ^ d)) = σ1 at h1 h1t hx1 hle
  have hm := fun (hlt : b < 128) w2 (hc : Chg w1 w2 (fun _ => False)) => kd2.out w2 _ hlt (h1.keep hc)
  replace hm := Lib.hid hm
  replace h1 := Lib.hid h1
  replace h1t := Lib.hid h1t
  replace hx1 := Lib.hid hx1
  replace hle := Lib.hid hle
  clear kd2 k kd hfr hbx h f0
  go_upto_region 6 with (fail)
  go_cut [32] (fun c wx => ∃ bo σ2, c = .bool bo ∧ (bo = true → d2 = d) ∧ Hold w0 wx σ2 ∧ σ2 t = some (tv (d : Int) false (10 ^ d) true (10 ^ d)) ∧ BNum σ2 bx ox false N ∧ Le σ σ2)
  case first =>
    by_cases hlt : b < 128
    · have hl1 : decide ((b : Int) < 128) = true := by simp; omega
      go_region_with ((go_at_call 73; refine (hm.out hlt _ (by exact ⟨rfl, rfl, rfl, Nat.le_refl _, fun _ _ _ => rfl⟩)).mono ?_; rintro e w2 ⟨t2, rfl, ht2, h2⟩; obtain ⟨h2t, h2tt, h2x, h2le⟩ := Two2 (it2 := tv (d2 : Int) false (10 ^ d2) true (10 ^ d2)) h1.out h1t.out hx1.out hle.out ht2 (by exact ⟨rfl, rfl, rfl, Nat.le_refl _, fun _ _ _ => rfl⟩); obtain ⟨c1, _, _⟩ := h2.tvAt h2t; obtain ⟨c2, _, _⟩ := h2.tvAt h2tt; replace h2 := Lib.hid h2; replace h2t := Lib.hid h2t; replace h2tt := Lib.hid h2tt; replace h2x := Lib.hid h2x; replace h2le := Lib.hid h2le))
      all_goals
        go_wp2_with fail
        go_meet
        exact ⟨_, _, rfl, fun h => by simp at h; omega, h2.out, h2tt.out, h2x.out, h2le.out⟩
    · have hl1 : decide ((b : Int) < 128) = false := by simp; omega
      go_quiet (fail)
      go_wp2_with fail
      go_meet
      exact ⟨false, _, rfl, fun h => (by cases h), h1.out.drewN _, h1t.out, hx1.out, hle.out⟩
  case rest =>
    clear h1 h1t hx1 hle hm c0
    obtain ⟨bo, σ2, rfl, hbo, h2, h2t, hx2, hle2⟩ := hcut
    obtain ⟨c0, _, _⟩ := h2.tvAt h2t
    cases bo with
    | true =>
      have hfin : figs N = d := by have := hbo rfl; have h1 := f1.out; have h3 := f3.out; omega
      have hend := h2.le hle2
      replace hfin := Lib.hid hfin
      replace hend := Lib.hid hend
      replace hbo := Lib.hid hbo
      clear h2 h2t hx2 hle2 hx
      go_wp2
      go_ret
      exact ⟨by rw [hfin.out]; rfl, hend.out⟩
    | false =>
      have ks := bigSignH_c h2 hx2
      rw [hsg.out] at ks
      have hne : (⟨bx, ox, none⟩ : Addr) ≠ ⟨t, 1, none⟩ := by intro e; injection e with e; exact hxt e
      have kc := bigCmpH_c h2 hx2 (bnum_tv1 h2t) hne
      have hend := fun n => (h2.drewN n).le hle2
      have hfinN : figs N = if ordN N (10 ^ d) < 0 then d else d + 1 := by
        by_cases hl : N < 10 ^ d
        · rw [ordN_lt hl, if_pos (by omega)]; exact hdN.out hl
        · rw [if_neg]
          · exact hdM.out hl
          · unfold ordN; rw [if_neg hl]; split <;> omega
      have ko : ∀ n, (wc.drewN n).cell? ⟨t, 0, none⟩ = some (.int .i64 (d : Int)) := fun n => by rw [World.cell?_drewN]; exact c0
      obtain ⟨o, ho⟩ : ∃ o, ordN N (10 ^ d) = o := ⟨_, rfl⟩
      rw [ho] at kc hfinN
      replace hfinN := Lib.hid hfinN
      replace ho := Lib.hid ho
      replace hend := Lib.hid hend
      replace ks := Lib.hid ks
      replace kc := Lib.hid kc
      replace ko := Lib.hid ko
      replace hbo := Lib.hid hbo
      clear h2 h2t hx2 hle2 hx hne
      go_wp2_with fail
      with_reducible refine ks.out.mono ?_
      rintro e w' ⟨rfl, hw⟩
      obtain rfl := hw
      go_wp2_with fail
      with_reducible refine kc.out.mono ?_
      rintro e w' ⟨rfl, n, rfl⟩
      have c1 := ko.out n
      by_cases hl : o < 0
      · have hl' : decide (o < 0) = true := by simp; omega
        go_wp2
        go_ret
        exact ⟨by rw [hfinN.out, if_pos hl]; rfl, hend.out _⟩
      · have hl' : decide (o < 0) = false := by simp; omega
        go_wp2
        go_ret
        refine ⟨?_, hend.out _⟩
        rw [hfinN.out, if_neg (by omega)]
        rfl
end Go.Proofs.YtonepclpllelfaaGreatDoor

namespace Go.Proofs.YtonepclpllelfaaGreatDoor
open Go Go.RowKit

theorem figs_bits {N b f : Nat} (hbe : nbits N = b) (hb : 128 < b) (h1 : 2 ^ b ≤ 10 ^ (f + 1)) (h2 : b = 0 ∨ 10 ^ (f - 1) ≤ 2 ^ (b - 1)) : figs N = if 10 ^ f ≤ N then f + 1 else f := by
  have h0 : N ≠ 0 := by rintro rfl; rw [nbits_zero] at hbe; omega
  have hlo := nbits_ge h0
  have hhi := nbits_lt N
  rw [hbe] at hlo hhi
  have hf : f ≠ 0 := by
    rintro rfl
    have : 2 ^ 4 ≤ 2 ^ b := Nat.pow_le_pow_right (by omega) (by omega)
    simp at h1
    omega
  by_cases hl : 10 ^ f ≤ N
  · rw [if_pos hl]
    exact figs_eq (by omega) (by simpa using hl) (by omega)
  · rw [if_neg hl]
    exact figs_eq (by omega) (by omega) (by omega)
set_option maxRecDepth 20000 in
set_option maxHeartbeats 2000000 in
theorem numDigits_l {w0 w : World} {σ : Sg} (h : Hold w0 w σ) {bx ox : Nat} {N : Nat} (hx : BNum σ bx ox false N) (hb0 : 128 < nbits N) (hb : nbits N < 1200) :
    Calls Tryz.prog 56 #[.pointer (some ⟨bx, ox, none⟩)] w fun e w' => e = .returned (.int .i64 (figs N : Int)) ∧ Hold w0 w' σ := by
  have k := bigBits_c h hx (Nat.le_trans (bits_words (by omega)) (by omega))
  obtain ⟨b, hbe⟩ : ∃ b, nbits N = b := ⟨_, rfl⟩
  rw [hbe] at k hb hb0
  obtain ⟨q, q1, q2, q3, q4, q5⟩ := fguess_spec hb
  have hfin := figs_bits hbe hb0 q4 q5
  have h0 : N ≠ 0 := by rintro rfl; rw [nbits_zero] at hbe; omega
  have hsg : sgN false N = 1 := by unfold sgN; rw [if_neg h0]; rfl
  clear q4 q5
  have hop : ∀ t w, (binOp .quo t (.float .f64 (floatOfInt .f64 (b : Int))) (.float .f64 4614662735865160561)).run Tryz.prog w = .ok (.float .f64 q) w := fun t w => run_float_arith w .quo t .f64 _ _ q q1
  clear q1
  obtain ⟨f, hf⟩ : ∃ f, fguess b = f := ⟨_, rfl⟩
  rw [hf] at q2 q3 hfin
  clear hf
  have hcv : ∀ w, (convert 123 2 (.float .f64 q)).run Tryz.prog w = .ok (.int .i64 (f : Int)) w := fun w => run_convert_float_int w _ _ .f64 .i64 q f (by rw [Tryz.underlying123]; rfl) Tryz.underlying2 q2
  clear q2
  have hft := h.fresh (k := w.heap.size) (Nat.le_refl _)
  have h1 := h.newBig
  have hx1 := hx.upd (it := big false 0) hft
  have h1t := upd_eq σ w.heap.size (big false 0)
  have kt := tableExp_c h1 (bnum_big h1t) f q3
  rw [put_big h1t, upd_upd] at kt
  obtain ⟨it, hbx, hin⟩ := id hx
  have hxt : bx ≠ w.heap.size := by intro e; rw [e, hft] at hbx; cases hbx
  have hle : Le σ (upd σ w.heap.size (big false (10 ^ f))) := Le.skip hft (Le.refl _)
  have hx2 := hx.upd (it := big false (10 ^ f)) hft
  have e0 : ((b : Int) == 0) = false := int_eq0 (by omega)
  have e1 : decide ((b : Int) ≤ 128) = false := by simp; omega
  have ew : IntKind.i64.wrap ((f : Int) + 1) = (f : Int) + 1 := IntWalk.i64_in _ (by omega)
  obtain ⟨t, ht⟩ : ∃ t, w.heap.size = t := ⟨_, rfl⟩
  rw [ht] at hx2 hle hxt kt
  replace ht := Lib.hid ht
  replace hx2 := Lib.hid hx2
  replace hle := Lib.hid hle
  replace kt := Lib.hid kt
  replace k := Lib.hid k
  replace hfin := Lib.hid hfin
  replace hsg := Lib.hid hsg
  clear hbe h0 h1 hx1 h1t hbx hin hft h hx
  go_enter Tryz.func56, Tryz.ntmps56
  go_wp2_with fail
  with_reducible refine k.out.mono ?_
  rintro e w' ⟨rfl, hw⟩
  obtain rfl := hw
  go_wp2_with (first | simp only | simp only [hcv])
  clear hop hcv
  rw [ht.out]
  with_reducible refine kt.out.mono ?_
  rintro e w1 ⟨rfl, h2⟩
  have h1t := upd_eq σ t (big false (10 ^ f))
  have ks := bigSignH_c h2 hx2.out
  rw [hsg.out] at ks
  have hne : (⟨bx, ox, none⟩ : Addr) ≠ ⟨t, 0, none⟩ := by intro e; injection e with e; exact hxt e
  have kc := bigCmpH_c h2 hx2.out (bnum_big h1t) hne
  have hend := fun n => (h2.drewN n).le hle.out
  have hfinN : figs N = if 0 ≤ ordN N (10 ^ f) then f + 1 else f := by
    rw [hfin.out]
    by_cases hl : 10 ^ f ≤ N
    · rw [if_pos hl, if_pos]
      unfold ordN; rw [if_neg (by omega)]; split <;> omega
    · rw [if_neg hl, if_neg]
      unfold ordN; rw [if_pos (by omega)]; omega
  obtain ⟨o, ho⟩ : ∃ o, ordN N (10 ^ f) = o := ⟨_, rfl⟩
  rw [ho] at kc hfinN
  replace hfinN := Lib.hid hfinN
  replace ho := Lib.hid ho
  replace hend := Lib.hid hend
  replace ks := Lib.hid ks
  replace kc := Lib.hid kc
  clear h2 h1t hle hx2 hne
  go_wp2_with fail
  with_reducible refine ks.out.mono ?_
  rintro e w' ⟨rfl, hw⟩
  obtain rfl := hw
  go_wp2_with fail
  with_reducible refine kc.out.mono ?_
  rintro e w' ⟨rfl, n, rfl⟩
  by_cases hl : 0 ≤ o
  · have hl' : decide (0 ≤ o) = true := by simp; omega
    go_wp2
    go_ret
    refine ⟨?_, hend.out _⟩
    rw [hfinN.out, if_pos (by omega)]
    rfl
  · have hl' : decide (0 ≤ o) = false := by simp; omega
    go_wp2
    go_ret
    refine ⟨?_, hend.out _⟩
    rw [hfinN.out, if_neg (by omega)]
    rfl
/-- The number of digits. -/
theorem NumDigits_c {w0 w : World} {σ : Sg} (h : Hold w0 w σ) {bx ox : Nat} {N : Nat} (hx : BNum σ bx ox false N) (hb : nbits N < 1200) :
    Calls Tryz.prog 56 #[.pointer (some ⟨bx, ox, none⟩)] w fun e w' => e = .returned (.int .i64 (figs N : Int)) ∧ Hold w0 w' σ := by
  by_cases h0 : N = 0
  · subst h0; exact numDigits_z h hx
  by_cases h1 : nbits N ≤ 128
  · exact numDigits_s h hx h0 h1
  · exact numDigits_l h hx (by omega) hb
theorem decDigits_c {w0 w : World} {σ : Sg} (h : Hold w0 w σ) {b : Nat} {f e : Int} {n : Bool} {N : Nat} (hx : σ b = some (dec f n e false N)) (hb : nbits N < 1200) :
    Calls Tryz.prog 31 #[.pointer (some ⟨b, 0, none⟩)] w fun e w' => e = .returned (.int .i64 (figs N : Int)) ∧ Hold w0 w' σ := by
  have k := NumDigits_c h (bnum_dec hx) hb
  replace k := Lib.hid k
  clear h hx hb
  go_enter Tryz.func31, Tryz.ntmps31
  go_wp2_with fail
  with_reducible refine k.out.mono ?_
  rintro e w1 ⟨rfl, h1⟩
  replace h1 := Lib.hid h1
  go_wp2
  go_ret
  exact ⟨rfl, h1.out⟩
end Go.Proofs.YtonepclpllelfaaGreatDoor

namespace Go.Proofs.YtonepclpllelfaaGreatDoor
open Go Go.RowKit

theorem bits_odd (x : Nat) (hx : x < WB) : bits .and .u64 (x : Int) 1 = ((x % 2 : Nat) : Int) := by
  rw [WB_eq] at hx
  have h1 := bits_and_u64_nat x 1 (by omega) (by omega)
  rw [show (1 : Int) = ((1 : Nat) : Int) from rfl, h1, Nat.and_one_is_mod]

set_option maxRecDepth 20000 in
theorem intBit0_c {w0 w : World} {σ : Sg} (h : Hold w0 w σ) {bx ox : Nat} {gx : Bool} {X : Nat} (hx : Num σ bx ox gx X) :
    Calls Tryz.prog 158 #[.pointer (some ⟨bx, ox, none⟩), .int .i64 0] w fun e w' => e = .returned (.int .u64 ((X % 2 : Nat) : Int)) ∧ w = w' := by
  obtain ⟨v, s, p⟩ := h.op hx
  have x1 := p.c1
  by_cases h0 : X = 0
  · subst h0
    obtain ⟨pv, pc, rfl, _, _⟩ := p.nat.shape
    rw [digs_zero] at x1
    clear h p hx
    go_enter Tryz.func158, Tryz.ntmps158
    go_wp2
    go_ret
    exact ⟨rfl, rfl⟩
  · obtain ⟨b, cap, C, rfl, rfl, ha, hc, hcap, ht, hl, hp⟩ := p.nat.pos h0
    have hcell := ha.cellN (i := 0) (by omega)
    have hnt : nth C 0 = nth (digs X) 0 := by
      have h1 := nth_take (l := C) (i := 0) (k := (digs X).length) (by omega)
      rw [ht] at h1
      exact h1.symm
    have h1 : nth C 0 = X % WB := by rw [hnt, digs_pos h0]; rfl
    have h2 : X % 2 = nth C 0 % 2 := by rw [h1, WB_eq]; omega
    have hw : nth C 0 < WB := ha.wd.nth _
    have hb := bits_odd _ hw
    rw [h2]
    generalize nth C 0 = t at *
    have hlp : 0 < ((digs X).length : Int) := by omega
    have hlp' : decide (0 < ((digs X).length : Int)) = true := by simp; omega
    have hw2 : t % 2 < 2 := Nat.mod_lt _ (by omega)
    clear h p hx ht hnt h1 h2 ha hw
    go_enter Tryz.func158, Tryz.ntmps158
    go_wp2
    go_ret
    exact ⟨by first | rfl | (rw [hb]; rfl) | (rw [IntWalk.u64_in _ (by omega), hb]), rfl⟩
theorem bigBit0_c {w0 w : World} {σ : Sg} (h : Hold w0 w σ) {bx ox : Nat} {gx : Bool} {X : Nat} (hx : BNum σ bx ox gx X) :
    Calls Tryz.prog 138 #[.pointer (some ⟨bx, ox, none⟩), .int .i64 0] w fun e w' => e = .returned (.int .u64 ((X % 2 : Nat) : Int)) ∧ w = w' := by
  have k := intBit0_c h hx.num
  replace k := Lib.hid k
  clear h hx
  go_enter Tryz.func138, Tryz.ntmps138
  go_wp2_with fail
  with_reducible refine k.out.mono ?_
  rintro e w' ⟨rfl, hw⟩
  obtain rfl := hw
  go_wp2
  go_ret
  exact ⟨rfl, rfl⟩

theorem rDown_c (w : World) (x : Value) (neg : Bool) (half : Int) : Calls Tryz.prog 116 #[x, .bool neg, .int .i64 half] w fun e w' => e = .returned (.bool false) ∧ w = w' := by
  go_enter Tryz.func116, Tryz.ntmps116
  go_wp2
  go_ret
  exact ⟨rfl, rfl⟩
theorem rUp_c (w : World) (x : Value) (neg : Bool) (half : Int) : Calls Tryz.prog 122 #[x, .bool neg, .int .i64 half] w fun e w' => e = .returned (.bool true) ∧ w = w' := by
  go_enter Tryz.func122, Tryz.ntmps122
  go_wp2
  go_ret
  exact ⟨rfl, rfl⟩
theorem rHalfUp_c (w : World) (x : Value) (neg : Bool) (half : Int) : Calls Tryz.prog 117 #[x, .bool neg, .int .i64 half] w fun e w' => e = .returned (.bool (decide (half ≥ 0))) ∧ w = w' := by
  go_enter Tryz.func117, Tryz.ntmps117
  go_wp2
  go_ret
  exact ⟨rfl, rfl⟩
theorem rHalfDown_c (w : World) (x : Value) (neg : Bool) (half : Int) : Calls Tryz.prog 121 #[x, .bool neg, .int .i64 half] w fun e w' => e = .returned (.bool (decide (half > 0))) ∧ w = w' := by
  go_enter Tryz.func121, Tryz.ntmps121
  go_wp2
  go_ret
  exact ⟨rfl, rfl⟩
theorem rCeil_c (w : World) (x : Value) (neg : Bool) (half : Int) : Calls Tryz.prog 119 #[x, .bool neg, .int .i64 half] w fun e w' => e = .returned (.bool (!neg)) ∧ w = w' := by
  go_enter Tryz.func119, Tryz.ntmps119
  go_wp2
  go_ret
  exact ⟨rfl, rfl⟩
theorem rFloor_c (w : World) (x : Value) (neg : Bool) (half : Int) : Calls Tryz.prog 120 #[x, .bool neg, .int .i64 half] w fun e w' => e = .returned (.bool neg) ∧ w = w' := by
  go_enter Tryz.func120, Tryz.ntmps120
  go_wp2
  go_ret
  exact ⟨rfl, rfl⟩
theorem rHalfEven_c {w0 w : World} {σ : Sg} (h : Hold w0 w σ) {bx ox : Nat} {X : Nat} (hx : BNum σ bx ox false X) (neg : Bool) (half : Int) :
    Calls Tryz.prog 118 #[.pointer (some ⟨bx, ox, none⟩), .bool neg, .int .i64 half] w fun e w' => e = .returned (.bool (decide (half > 0) || (half == 0 && X % 10 % 2 == 1))) ∧ w = w' := by
  have k := bigBit0_c h hx
  have hr : X % 2 < 2 := Nat.mod_lt _ (by omega)
  have h2 : X % 10 % 2 = X % 2 := by omega
  rw [h2]
  generalize X % 2 = r at *
  replace k := Lib.hid k
  clear h hx h2
  by_cases h1 : half > 0
  · have e1 : decide (half > 0) = true := by simp; omega
    rw [e1]
    clear hr
    go_enter Tryz.func118, Tryz.ntmps118
    go_wp2
    go_ret
    exact ⟨rfl, rfl⟩
  · have e1 : decide (half > 0) = false := by simp; omega
    rw [e1]
    by_cases h3 : half < 0
    · have e2 : (half == 0) = false := by simp; omega
      have e3 : decide (half < 0) = true := by simp; omega
      rw [e2]
      clear hr
      go_enter Tryz.func118, Tryz.ntmps118
      go_wp2
      go_ret
      exact ⟨rfl, rfl⟩
    · obtain rfl : half = 0 := by omega
      clear h1 h3 e1
      go_enter Tryz.func118, Tryz.ntmps118
      go_wp2_with fail
      with_reducible refine k.out.mono ?_
      rintro e w' ⟨rfl, hw⟩
      obtain rfl := hw
      go_wp2
      go_ret
      have hr2 : r = 0 ∨ r = 1 := by omega
      rcases hr2 with rfl | rfl <;> exact ⟨rfl, rfl⟩
end Go.Proofs.YtonepclpllelfaaGreatDoor

namespace Go.Proofs.YtonepclpllelfaaGreatDoor
open Go Go.RowKit

theorem five_len {n : Nat} (h : n ≤ 10) (h0 : 0 < n) : (digs n).length < 40 := by rw [digs_word (n_WB (by omega)) h0]; simp
theorem sgN_zero {n : Nat} : ((sgN false n) == 0) = (n == 0) := by
  unfold sgN
  by_cases h : n = 0
  · subst h; rfl
  · rw [if_neg h]; simp [h]
set_option maxRecDepth 20000 in
theorem r05_c {w0 w : World} {σ : Sg} (h : Hold w0 w σ) {bx ox : Nat} {X : Nat} (hx : BNum σ bx ox false X) (hX : (digs X).length ≤ 250) (neg : Bool) (half : Int) :
    Calls Tryz.prog 123 #[.pointer (some ⟨bx, ox, none⟩), .bool neg, .int .i64 half] w fun e w' => e = .returned (.bool (X % 10 % 5 == 0)) ∧ Hold w0 w' σ := by
  have h1 := h.newBig
  have hft := h.fresh (k := w.heap.size) (Nat.le_refl _)
  have hx1 := hx.upd (it := big false 0) hft
  have k5 := bigFive_c h1
  have hfr : ∀ k, w.heap.size ≤ k → σ k = none := fun k hk => h.fresh hk
  have hsz : w.heap.size < (w.alloc (.cells #[.bool false, .slice none 0 0, .bool false] 53 (0, 0))).heap.size := (h1.lt (upd_eq _ _ _)).2
  have h5 : X % 10 % 5 = X % 5 := by omega
  rw [h5]
  obtain ⟨r, hr⟩ : ∃ r, (X % 5 == 0) = r := ⟨_, rfl⟩
  rw [hr]
  replace hr := Lib.hid hr
  have h10 : X % 5 ≠ 0 → X % 10 ≠ 0 := by omega
  obtain ⟨t, ht⟩ : ∃ t, w.heap.size = t := ⟨_, rfl⟩
  rw [ht] at hft hx1 k5 hfr hsz
  replace ht := Lib.hid ht
  replace hx := Lib.hid hx
  replace hx1 := Lib.hid hx1
  replace k5 := Lib.hid k5
  replace hft := Lib.hid hft
  replace hfr := Lib.hid hfr
  replace h10 := Lib.hid h10
  clear h h1 h5
  go_enter Tryz.func123, Tryz.ntmps123
  go_wp2_with fail
  rw [ht.out]
  with_reducible refine k5.out.mono ?_
  rintro e w1 ⟨k, rfl, hk, h1⟩
  have hkt : k ≠ t := by omega
  have hfk : σ k = none := hfr.out k (by omega)
  have hfk1 : upd σ t (big false 0) k = none := by rw [upd_ne _ _ hkt]; exact hfk
  have h1t : upd (upd σ t (big false 0)) k (big false 5) t = some (big false 0) := by rw [upd_ne _ _ (Ne.symm hkt), upd_eq]
  have kr := bigRem_c h1 (bnum_big h1t) (hx1.out.upd hfk1).num (num_big (upd_eq _ _ _)) (by omega) hX (five_len (by omega) (by omega))
  rw [put_big h1t] at kr
  clear h1 hx1 h1t
  replace kr := Lib.hid kr
  go_wp2_with fail
  with_reducible refine kr.out.mono ?_
  rintro e w2 ⟨rfl, h2⟩
  have h2t := upd_eq (upd (upd σ t (big false 0)) k (big false 5)) t (big false (X % 5))
  have ks := bigSignH_c h2 (bnum_big h2t)
  have hz := sgN_zero (n := X % 5)
  have hle : Le σ (upd (upd (upd σ t (big false 0)) k (big false 5)) t (big false (X % 5))) := Le.skip hft.out (Le.skip hfk (Le.skip hft.out (Le.refl _)))
  have hx2 : BNum (upd (upd (upd σ t (big false 0)) k (big false 5)) t (big false (X % 5))) bx ox false X := by
    obtain ⟨it, a, b⟩ := hx.out
    exact ⟨it, hle _ _ a, b⟩
  obtain ⟨sg, hsg⟩ : ∃ sg, sgN false (X % 5) = sg := ⟨_, rfl⟩
  rw [hsg] at ks hz
  by_cases h0 : X % 5 = 0
  · have hend := h2.le hle
    have e0 : (X % 5 == 0) = true := by simp [h0]
    rw [e0] at hz
    have hrv : r = true := by rw [← hr.out, e0]
    subst hrv
    replace ks := Lib.hid ks
    replace hend := Lib.hid hend
    replace h0 := Lib.hid h0
    replace hsg := Lib.hid hsg
    clear h2 h2t hle hx2 e0
    go_wp2_with fail
    with_reducible refine ks.out.mono ?_
    rintro e w' ⟨rfl, hw⟩
    obtain rfl := hw
    go_wp2
    go_ret
    exact ⟨rfl, hend.out⟩
  · have e0 : (X % 5 == 0) = false := by simp [h0]
    rw [e0] at hz
    have hrv : r = false := by rw [← hr.out, e0]
    subst hrv
    have kt := bigTen_c h2
    have hnz : X % 10 ≠ 0 := h10.out h0
    have hfr2 := fun k hk => h2.fresh (k := k) hk
    generalize upd (upd (upd σ t (big false 0)) k (big false 5)) t (big false (X % 5)) = σ3 at *
    replace ks := Lib.hid ks
    replace kt := Lib.hid kt
    replace h0 := Lib.hid h0
    replace hsg := Lib.hid hsg
    replace hle := Lib.hid hle
    replace hx2 := Lib.hid hx2
    replace h2t := Lib.hid h2t
    replace hfr2 := Lib.hid hfr2
    replace hnz := Lib.hid hnz
    clear h2 e0
    go_wp2_with fail
    with_reducible refine ks.out.mono ?_
    rintro e w' ⟨rfl, hw⟩
    obtain rfl := hw
    go_wp2_with fail
    with_reducible refine kt.out.mono ?_
    rintro e w3 ⟨m, rfl, hm, h3⟩
    have hfm := hfr2.out m hm
    have h3t : upd σ3 m (big false 10) t = some (big false (X % 5)) := by rw [upd_ne _ _ (by rintro rfl; rw [hfm] at h2t; cases h2t.out)]; exact h2t.out
    have kr2 := bigRem_c h3 (bnum_big h3t) (hx2.out.upd hfm).num (num_big (upd_eq _ _ _)) (by omega) hX (five_len (by omega) (by omega))
    rw [put_big h3t] at kr2
    have hle3 : Le σ (upd (upd σ3 m (big false 10)) t (big false (X % 10))) := Le.skip hft.out (Le.skip (by
      cases hc : σ m with
      | none => rfl
      | some jt => have := hle.out _ _ hc; rw [hfm] at this; cases this) hle.out)
    clear h3 h3t
    replace kr2 := Lib.hid kr2
    replace hle3 := Lib.hid hle3
    replace hfm := Lib.hid hfm
    go_wp2_with fail
    with_reducible refine kr2.out.mono ?_
    rintro e w4 ⟨rfl, h4⟩
    have ks2 := bigSignH_c h4 (bnum_big (upd_eq _ _ _))
    have hz2 := sgN_zero (n := X % 10)
    have e1 : (X % 10 == 0) = false := by simp [hnz.out]
    rw [e1] at hz2
    have hend := h4.le hle3.out
    obtain ⟨sg2, hsg2⟩ : ∃ sg, sgN false (X % 10) = sg := ⟨_, rfl⟩
    rw [hsg2] at ks2 hz2
    clear h4 e1
    replace ks2 := Lib.hid ks2
    replace hsg2 := Lib.hid hsg2
    replace hend := Lib.hid hend
    go_wp2_with fail
    with_reducible refine ks2.out.mono ?_
    rintro e w' ⟨rfl, hw⟩
    obtain rfl := hw
    go_wp2
    go_ret
    exact ⟨rfl, hend.out⟩

/-- All modes. -/
theorem shouldAdd_c {w0 w : World} {σ : Sg} (h : Hold w0 w σ) {bx ox : Nat} {X : Nat} (hx : BNum σ bx ox false X) (hX : (digs X).length ≤ 250) (neg : Bool) (half : Int) (m : Nat) (hm : m < 8) :
    Calls Tryz.prog 87 #[.string (modeS m), .pointer (some ⟨bx, ox, none⟩), .bool neg, .int .i64 half] w fun e w' => e = .returned (.bool (awayN neg (X % 10) half m)) ∧ Hold w0 w' σ := by
  have h8 : m = 0 ∨ m = 1 ∨ m = 2 ∨ m = 3 ∨ m = 4 ∨ m = 5 ∨ m = 6 ∨ m = 7 := by omega
  have k0 := rDown_c w (.pointer (some ⟨bx, ox, none⟩)) neg half
  have k1 := rHalfUp_c w (.pointer (some ⟨bx, ox, none⟩)) neg half
  have k2 := rHalfEven_c h hx neg half
  have k3 := rCeil_c w (.pointer (some ⟨bx, ox, none⟩)) neg half
  have k4 := rFloor_c w (.pointer (some ⟨bx, ox, none⟩)) neg half
  have k5 := rHalfDown_c w (.pointer (some ⟨bx, ox, none⟩)) neg half
  have k6 := rUp_c w (.pointer (some ⟨bx, ox, none⟩)) neg half
  have k7 := r05_c h hx hX neg half
  obtain ⟨r2, hr2⟩ : ∃ r, awayN neg (X % 10) half 2 = r := ⟨_, rfl⟩
  obtain ⟨r7, hr7⟩ : ∃ r, awayN neg (X % 10) half 7 = r := ⟨_, rfl⟩
  rw [show (decide (half > 0) || (half == 0 && X % 10 % 2 == 1)) = r2 from hr2] at k2
  rw [show (X % 10 % 5 == 0) = r7 from hr7] at k7
  replace hr2 := Lib.hid hr2
  replace hr7 := Lib.hid hr7
  replace h := Lib.hid h
  replace k0 := Lib.hid k0
  replace k1 := Lib.hid k1
  replace k2 := Lib.hid k2
  replace k3 := Lib.hid k3
  replace k4 := Lib.hid k4
  replace k5 := Lib.hid k5
  replace k6 := Lib.hid k6
  replace k7 := Lib.hid k7
  clear hx hX hm
  rcases h8 with rfl | rfl | rfl | rfl | rfl | rfl | rfl | rfl
  · have f0 : ((modeS 0).toList == [100, 111, 119, 110]) = true := by decide +kernel
    have f1 : ((modeS 0).toList == [104, 97, 108, 102, 95, 117, 112]) = false := by decide +kernel
    have f2 : ((modeS 0).toList == [104, 97, 108, 102, 95, 101, 118, 101, 110]) = false := by decide +kernel
    have f3 : ((modeS 0).toList == [99, 101, 105, 108, 105, 110, 103]) = false := by decide +kernel
    have f4 : ((modeS 0).toList == [102, 108, 111, 111, 114]) = false := by decide +kernel
    have f5 : ((modeS 0).toList == [104, 97, 108, 102, 95, 100, 111, 119, 110]) = false := by decide +kernel
    have f6 : ((modeS 0).toList == [117, 112]) = false := by decide +kernel
    have f7 : ((modeS 0).toList == [48, 53, 117, 112]) = false := by decide +kernel
    generalize modeS 0 = s at f0 f1 f2 f3 f4 f5 f6 f7 ⊢
    go_enter Tryz.func87, Tryz.ntmps87
    go_wp2_with fail
    with_reducible refine k0.out.mono ?_
    rintro e w' ⟨rfl, hw⟩
    obtain rfl := hw
    go_wp2
    go_ret
    exact ⟨rfl, h.out⟩
  · have f0 : ((modeS 1).toList == [100, 111, 119, 110]) = false := by decide +kernel
    have f1 : ((modeS 1).toList == [104, 97, 108, 102, 95, 117, 112]) = true := by decide +kernel
    have f2 : ((modeS 1).toList == [104, 97, 108, 102, 95, 101, 118, 101, 110]) = false := by decide +kernel
    have f3 : ((modeS 1).toList == [99, 101, 105, 108, 105, 110, 103]) = false := by decide +kernel
    have f4 : ((modeS 1).toList == [102, 108, 111, 111, 114]) = false := by decide +kernel
    have f5 : ((modeS 1).toList == [104, 97, 108, 102, 95, 100, 111, 119, 110]) = false := by decide +kernel
    have f6 : ((modeS 1).toList == [117, 112]) = false := by decide +kernel
    have f7 : ((modeS 1).toList == [48, 53, 117, 112]) = false := by decide +kernel
    generalize modeS 1 = s at f0 f1 f2 f3 f4 f5 f6 f7 ⊢
    go_enter Tryz.func87, Tryz.ntmps87
    go_wp2_with fail
    with_reducible refine k1.out.mono ?_
    rintro e w' ⟨rfl, hw⟩
    obtain rfl := hw
    go_wp2
    go_ret
    exact ⟨rfl, h.out⟩
  · have f0 : ((modeS 2).toList == [100, 111, 119, 110]) = false := by decide +kernel
    have f1 : ((modeS 2).toList == [104, 97, 108, 102, 95, 117, 112]) = false := by decide +kernel
    have f2 : ((modeS 2).toList == [104, 97, 108, 102, 95, 101, 118, 101, 110]) = true := by decide +kernel
    have f3 : ((modeS 2).toList == [99, 101, 105, 108, 105, 110, 103]) = false := by decide +kernel
    have f4 : ((modeS 2).toList == [102, 108, 111, 111, 114]) = false := by decide +kernel
    have f5 : ((modeS 2).toList == [104, 97, 108, 102, 95, 100, 111, 119, 110]) = false := by decide +kernel
    have f6 : ((modeS 2).toList == [117, 112]) = false := by decide +kernel
    have f7 : ((modeS 2).toList == [48, 53, 117, 112]) = false := by decide +kernel
    generalize modeS 2 = s at f0 f1 f2 f3 f4 f5 f6 f7 ⊢
    go_enter Tryz.func87, Tryz.ntmps87
    go_wp2_with fail
    with_reducible refine k2.out.mono ?_
    rintro e w' ⟨rfl, hw⟩
    obtain rfl := hw
    go_wp2
    go_ret
    exact ⟨by rw [hr2.out]; rfl, h.out⟩
  · have f0 : ((modeS 3).toList == [100, 111, 119, 110]) = false := by decide +kernel
    have f1 : ((modeS 3).toList == [104, 97, 108, 102, 95, 117, 112]) = false := by decide +kernel
    have f2 : ((modeS 3).toList == [104, 97, 108, 102, 95, 101, 118, 101, 110]) = false := by decide +kernel
    have f3 : ((modeS 3).toList == [99, 101, 105, 108, 105, 110, 103]) = true := by decide +kernel
    have f4 : ((modeS 3).toList == [102, 108, 111, 111, 114]) = false := by decide +kernel
    have f5 : ((modeS 3).toList == [104, 97, 108, 102, 95, 100, 111, 119, 110]) = false := by decide +kernel
    have f6 : ((modeS 3).toList == [117, 112]) = false := by decide +kernel
    have f7 : ((modeS 3).toList == [48, 53, 117, 112]) = false := by decide +kernel
    generalize modeS 3 = s at f0 f1 f2 f3 f4 f5 f6 f7 ⊢
    go_enter Tryz.func87, Tryz.ntmps87
    go_wp2_with fail
    with_reducible refine k3.out.mono ?_
    rintro e w' ⟨rfl, hw⟩
    obtain rfl := hw
    go_wp2
    go_ret
    exact ⟨rfl, h.out⟩
  · have f0 : ((modeS 4).toList == [100, 111, 119, 110]) = false := by decide +kernel
    have f1 : ((modeS 4).toList == [104, 97, 108, 102, 95, 117, 112]) = false := by decide +kernel
    have f2 : ((modeS 4).toList == [104, 97, 108, 102, 95, 101, 118, 101, 110]) = false := by decide +kernel
    have f3 : ((modeS 4).toList == [99, 101, 105, 108, 105, 110, 103]) = false := by decide +kernel
    have f4 : ((modeS 4).toList == [102, 108, 111, 111, 114]) = true := by decide +kernel
    have f5 : ((modeS 4).toList == [104, 97, 108, 102, 95, 100, 111, 119, 110]) = false := by decide +kernel
    have f6 : ((modeS 4).toList == [117, 112]) = false := by decide +kernel
    have f7 : ((modeS 4).toList == [48, 53, 117, 112]) = false := by decide +kernel
    generalize modeS 4 = s at f0 f1 f2 f3 f4 f5 f6 f7 ⊢
    go_enter Tryz.func87, Tryz.ntmps87
    go_wp2_with fail
    with_reducible refine k4.out.mono ?_
    rintro e w' ⟨rfl, hw⟩
    obtain rfl := hw
    go_wp2
    go_ret
    exact ⟨rfl, h.out⟩
  · have f0 : ((modeS 5).toList == [100, 111, 119, 110]) = false := by decide +kernel
    have f1 : ((modeS 5).toList == [104, 97, 108, 102, 95, 117, 112]) = false := by decide +kernel
    have f2 : ((modeS 5).toList == [104, 97, 108, 102, 95, 101, 118, 101, 110]) = false := by decide +kernel
    have f3 : ((modeS 5).toList == [99, 101, 105, 108, 105, 110, 103]) = false := by decide +kernel
    have f4 : ((modeS 5).toList == [102, 108, 111, 111, 114]) = false := by decide +kernel
    have f5 : ((modeS 5).toList == [104, 97, 108, 102, 95, 100, 111, 119, 110]) = true := by decide +kernel
    have f6 : ((modeS 5).toList == [117, 112]) = false := by decide +kernel
    have f7 : ((modeS 5).toList == [48, 53, 117, 112]) = false := by decide +kernel
    generalize modeS 5 = s at f0 f1 f2 f3 f4 f5 f6 f7 ⊢
    go_enter Tryz.func87, Tryz.ntmps87
    go_wp2_with fail
    with_reducible refine k5.out.mono ?_
    rintro e w' ⟨rfl, hw⟩
    obtain rfl := hw
    go_wp2
    go_ret
    exact ⟨rfl, h.out⟩
  · have f0 : ((modeS 6).toList == [100, 111, 119, 110]) = false := by decide +kernel
    have f1 : ((modeS 6).toList == [104, 97, 108, 102, 95, 117, 112]) = false := by decide +kernel
    have f2 : ((modeS 6).toList == [104, 97, 108, 102, 95, 101, 118, 101, 110]) = false := by decide +kernel
    have f3 : ((modeS 6).toList == [99, 101, 105, 108, 105, 110, 103]) = false := by decide +kernel
    have f4 : ((modeS 6).toList == [102, 108, 111, 111, 114]) = false := by decide +kernel
    have f5 : ((modeS 6).toList == [104, 97, 108, 102, 95, 100, 111, 119, 110]) = false := by decide +kernel
    have f6 : ((modeS 6).toList == [117, 112]) = true := by decide +kernel
    have f7 : ((modeS 6).toList == [48, 53, 117, 112]) = false := by decide +kernel
    generalize modeS 6 = s at f0 f1 f2 f3 f4 f5 f6 f7 ⊢
    go_enter Tryz.func87, Tryz.ntmps87
    go_wp2_with fail
    with_reducible refine k6.out.mono ?_
    rintro e w' ⟨rfl, hw⟩
    obtain rfl := hw
    go_wp2
    go_ret
    exact ⟨rfl, h.out⟩
  · have f0 : ((modeS 7).toList == [100, 111, 119, 110]) = false := by decide +kernel
    have f1 : ((modeS 7).toList == [104, 97, 108, 102, 95, 117, 112]) = false := by decide +kernel
    have f2 : ((modeS 7).toList == [104, 97, 108, 102, 95, 101, 118, 101, 110]) = false := by decide +kernel
    have f3 : ((modeS 7).toList == [99, 101, 105, 108, 105, 110, 103]) = false := by decide +kernel
    have f4 : ((modeS 7).toList == [102, 108, 111, 111, 114]) = false := by decide +kernel
    have f5 : ((modeS 7).toList == [104, 97, 108, 102, 95, 100, 111, 119, 110]) = false := by decide +kernel
    have f6 : ((modeS 7).toList == [117, 112]) = false := by decide +kernel
    have f7 : ((modeS 7).toList == [48, 53, 117, 112]) = true := by decide +kernel
    generalize modeS 7 = s at f0 f1 f2 f3 f4 f5 f6 f7 ⊢
    go_enter Tryz.func87, Tryz.ntmps87
    go_wp2_with fail
    with_reducible refine k7.out.mono ?_
    rintro e w' ⟨rfl, hw⟩
    replace hw := Lib.hid hw
    go_wp2
    go_ret
    exact ⟨by rw [hr7.out]; rfl, hw.out⟩
end Go.Proofs.YtonepclpllelfaaGreatDoor
