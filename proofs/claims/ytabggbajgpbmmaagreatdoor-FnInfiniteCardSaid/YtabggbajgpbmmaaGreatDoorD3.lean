/- Division by a word through its reciprocal: the walks. -/
import Derived.Test.YtabggbajgpbmmaaGreatDoorD2
namespace Go.Proofs.YtabggbajgpbmmaaGreatDoor
open Go Go.RowKit

theorem shlw_nlz {y : Nat} (h : y < WB) (h0 : 0 < y) : shlw y (nlzN y) = y * 2 ^ nlzN y := Nat.mod_eq_of_lt (nlz_shift h h0).1
theorem xor_all (x n : Nat) (h : x < 2 ^ n) : (2 ^ n - 1) ^^^ x = 2 ^ n - 1 - x := by
  apply Nat.eq_of_testBit_eq
  intro i
  rw [Nat.testBit_xor, Nat.testBit_two_pow_sub_one, Nat.sub_sub, Nat.add_comm 1 x, Nat.testBit_two_pow_sub_succ h]
  by_cases hi : i < n
  · simp [hi]
  · simp [hi]
    exact Nat.testBit_lt_two_pow (Nat.lt_of_lt_of_le h (Nat.pow_le_pow_right (by decide) (by omega)))
/-- All bits of a word turned. -/
noncomputable def wnot (x : Nat) : Nat := WB - 1 - x
@[go_sem] theorem bits_not (x : Nat) (h : x < WB) : bits .xor .u64 IntKind.u64.max (x : Int) = (wnot x : Int) := by
  have e : IntKind.u64.max = ((2 ^ 64 - 1 : Nat) : Int) := by unfold IntKind.max; simp [IntKind.signed, IntKind.bits]
  rw [e, bits_xor_u64_nat _ _ (by decide) (by rw [WB_eq] at h; exact h), xor_all x 64 (by rw [← WB_two_pow]; exact h), ← WB_two_pow]
  rfl

theorem bitsDiv_max (hi y : Nat) (hy : y < WB) (hh : hi < y) (hy0 : hi = 0 ∨ WB ≤ 2 * y) (w : World) :
    Calls Tryz.prog 205 #[.int .u64 hi, .int .u64 18446744073709551615, .int .u64 y] w fun e w' => e = .returned (.tuple #[.int .u64 (wdiv (hi * WB + (WB - 1)) y : Int), .int .u64 (wmod (hi * WB + (WB - 1)) y : Int)]) ∧ ∃ n, w' = w.drewN n := by
  have := bitsDiv_c hi (WB - 1) y (by have := WB_pos; omega) hy hh hy0 w
  rwa [castmax] at this

set_option maxRecDepth 100000 in
set_option maxHeartbeats 400000 in
theorem reciprocalWord_c (y : Nat) (h : y < WB) (h0 : 0 < y) (w : World) :
    Calls Tryz.prog 206 #[.int .u64 y] w fun e w' => e = .returned (.int .u64 (rcp (y * 2 ^ nlzN y) : Int)) ∧ ∃ n, w' = w.drewN n := by
  have hn := nlzN_lt h h0
  have hu := nlz_shift h h0
  rw [← shlw_nlz h h0] at hu ⊢
  have hul := hu.1
  have hu2 := hu.2
  have hnu : wnot (shlw y (nlzN y)) < shlw y (nlzN y) := by unfold wnot; omega
  have hr : wdiv (wnot (shlw y (nlzN y)) * WB + (WB - 1)) (shlw y (nlzN y)) = rcp (shlw y (nlzN y)) := by
    generalize shlw y (nlzN y) = u at *
    have h1 : wnot u * WB + (WB - 1) = WB * WB - 1 - u * WB := by
      unfold wnot
      rw [Nat.sub_mul, Nat.sub_mul, Nat.one_mul]
      have : (u + 1) * WB ≤ WB * WB := Nat.mul_le_mul_right WB hul
      rw [Nat.add_mul, Nat.one_mul] at this
      have := WB_pos
      omega
    unfold wdiv rcp
    rw [h1, Nat.sub_mul_div]
  replace hu2 := Lib.hid hu2
  replace hr := Lib.hid hr
  clear hu
  go_enter Tryz.func206, Tryz.ntmps206
  go_wp2_with (first
    | (go_at_call 179; refine (nlz_c y h _).mono ?_; rintro e w' ⟨rfl, hw⟩; obtain rfl := hw)
    | fail)
  have hb := bitsDiv_max _ _ hul hnu (.inr hu2.out) w
  refine hb.mono ?_
  rintro e w' ⟨rfl, n, hw⟩
  subst hw
  go_wp2
  go_ret
  exact ⟨ret_i (by rw [hr.out]), _, rfl⟩

theorem divWW_back {s X y : Nat} (_h0 : 0 < y) : X * 2 ^ s / (y * 2 ^ s) = X / y ∧ shrw (X * 2 ^ s % (y * 2 ^ s)) s = X % y := by
  have hp := Nat.two_pow_pos s
  refine ⟨Nat.mul_div_mul_right _ _ hp, ?_⟩
  unfold shrw
  rw [Nat.mul_mod_mul_right, Nat.mul_div_cancel _ hp]


theorem orw_nlz {x1 x0 y : Nat} (h : y < WB) (h0 : 0 < y) (h1 : x1 < y) (hx0 : x0 < WB) {s t : Nat} (hs : s = nlzN y) (hst : s + t = 64) :
    orw (shlw x1 s) (shrw x0 t) * WB + shlw x0 s = (x1 * WB + x0) * 2 ^ s ∧ orw (shlw x1 s) (shrw x0 t) < y * 2 ^ s := by
  have hu := nlz_shift h h0
  have hp := Nat.two_pow_pos s
  rw [← hs] at hu
  have e1 : shlw x1 s = x1 * 2 ^ s := by
    refine Nat.mod_eq_of_lt ?_
    have := Nat.mul_lt_mul_of_pos_right h1 hp
    omega
  have e2 := shl_shr (x := x0) hst
  have hb : shrw x0 t < 2 ^ s := by
    unfold shrw; rw [Nat.div_lt_iff_lt_mul (Nat.two_pow_pos t), ← Nat.pow_add, hst, ← WB_two_pow]; exact hx0
  rw [orw_add hst hx0, e1]
  constructor
  · rw [Nat.add_mul, Nat.add_mul, ← e2, Nat.mul_comm (shrw x0 t) WB, Nat.mul_right_comm]; omega
  · have : (x1 + 1) * 2 ^ s ≤ y * 2 ^ s := Nat.mul_le_mul_right _ h1
    rw [Nat.add_mul, Nat.one_mul] at this
    omega

set_option maxRecDepth 100000 in
set_option maxHeartbeats 800000 in
theorem divWW_c (x1 x0 y : Nat) (h : y < WB) (h0 : 0 < y) (h1 : x1 < y) (hx0 : x0 < WB) (w : World) :
    Calls Tryz.prog 207 #[.int .u64 x1, .int .u64 x0, .int .u64 y, .int .u64 (rcp (y * 2 ^ nlzN y) : Int)] w fun e w' =>
      e = .returned (.tuple #[.int .u64 (wdiv (x1 * WB + x0) y : Int), .int .u64 (wmod (x1 * WB + x0) y : Int)]) ∧ w = w' := by
  have hn := nlzN_lt h h0
  have hu := nlz_shift h h0
  have hx1 : x1 < WB := by omega
  have ho := fun (t : Nat) (hst : nlzN y + t = 64) => orw_nlz h h0 h1 hx0 rfl hst
  have hsy := shlw_nlz h h0
  have hback := divWW_back (s := nlzN y) (X := x1 * WB + x0) h0
  replace hback := Lib.hid hback
  replace ho := Lib.hid ho
  replace hsy := Lib.hid hsy
  have hnl := nlz_c y h
  replace hnl := Lib.hid hnl
  generalize hs : nlzN y = s at *
  replace hs := Lib.hid hs
  obtain ⟨t, hst⟩ : ∃ t, s + t = 64 := ⟨64 - s, by omega⟩
  have htl : s = 0 ∨ t < 64 := by omega
  have hw : IntKind.u64.wrap (64 - (s : Int)) = (t : Int) := by rw [IntKind.wrap_u64]; omega
  replace hst := Lib.hid hst
  generalize hd : y * 2 ^ s = d at *
  replace hd := Lib.hid hd
  go_enter Tryz.func207, Tryz.ntmps207
  go_upto_if 26 with ((go_at_call 179; refine (hnl.out _).mono ?_; rintro e w' ⟨rfl, hw⟩; obtain rfl := hw))
  go_cut [0, 1, 2] (fun v1 v0 vy wr => w = wr ∧ vy = .int .u64 d ∧ ∃ X1 X0 : Nat, v1 = .int .u64 X1 ∧ v0 = .int .u64 X0 ∧ X1 < d ∧ X0 < WB ∧ X1 * WB + X0 = (x1 * WB + x0) * 2 ^ s)
  case first =>
    by_cases hs0 : s = 0
    · subst hs0
      have hdy : y = d := by have := hd.out; simpa using this
      go_wp2
      go_meet
      exact ⟨rfl, by first | rfl | rw [hdy], x1, x0, rfl, rfl, by omega, hx0, by simp⟩
    · have e0 : ((s : Int) == 0) = false := by simp; omega
      have htl := htl.resolve_left hs0
      go_wp2
      go_meet
      have := ho.out t hst.out
      exact ⟨rfl, by rw [hsy.out], _, _, rfl, rfl, this.2, shlw_lt _ _, this.1⟩
  case rest =>
    obtain ⟨rfl, rfl, X1, X0, rfl, rfl, hX1, hX0, hXX⟩ := hcut
    replace hXX := Lib.hid hXX
    clear ho hsy hnl hw htl
    obtain ⟨hm, hm1, hm2⟩ := rcp_spec hu.1 hu.2
    have hd2 := hu.1
    have hX1w : X1 < WB := by omega
    have hmath := fun q r0 r1 => @divWW_math d (rcp d) X1 X0 hu.1 hu.2 hm hm1 hm2 hX1 hX0 q r0 r1
    replace hmath := Lib.hid hmath
    clear hm1 hm2
    replace hu := Lib.hid hu
    have hqw := adds_lt (mulhi (rcp d) X1) X1 (addc (mullo (rcp d) X1) X0 0)
    have hc1 := addc_le (mullo_lt (rcp d) X1) hX0 (Nat.zero_le 1)
    go_wp2_with fail
    refine (bits_Mul (rcp d) X1 hm hX1w _).mono ?_
    rintro e w' ⟨rfl, hw⟩
    obtain rfl := hw.symm
    go_wp2_with fail
    refine (bits_Add (mullo (rcp d) X1) X0 0 (mullo_lt _ _) hX0 (by omega) _).mono ?_
    rintro e w' ⟨rfl, hw⟩
    obtain rfl := hw.symm
    go_wp2_with fail
    refine (bits_Add (mulhi (rcp d) X1) X1 (addc (mullo (rcp d) X1) X0 0) (mulhi_lt hm hX1w) hX1w hc1 _).mono ?_
    rintro e w' ⟨rfl, hw⟩
    obtain rfl := hw.symm
    go_wp2_with fail
    generalize hq : adds (mulhi (rcp d) X1) X1 (addc (mullo (rcp d) X1) X0 0) = q at *
    replace hq := Lib.hid hq
    refine (bits_Mul d q hd2 hqw _).mono ?_
    rintro e w' ⟨rfl, hw⟩
    obtain rfl := hw.symm
    go_wp2_with fail
    refine (bits_Sub X0 (mullo d q) 0 (by omega) _).mono ?_
    rintro e w' ⟨rfl, hw⟩
    obtain rfl := hw.symm
    go_wp2_with fail
    have hc2 := subc_le X0 (mullo d q) 0
    refine (bits_Sub X1 (mulhi d q) (subc X0 (mullo d q) 0) hc2 _).mono ?_
    rintro e w' ⟨rfl, hw⟩
    obtain rfl := hw.symm
    generalize hr1 : subs X1 (mulhi d q) (subc X0 (mullo d q) 0) = r1 at *
    generalize hr0 : subs X0 (mullo d q) 0 = r0 at *
    have hmm := hmath.out q r0 r1 rfl hr0.symm hr1.symm
    replace hmm := Lib.hid hmm
    have hr0l : r0 < WB := by rw [← hr0]; exact subs_lt _ _ _
    clear hr0 hr1 hmath hc1 hc2
    have fin : ∀ Q R, Q = (X1 * WB + X0) / d ∧ R = (X1 * WB + X0) % d → (Q : Int) = (wdiv (x1 * WB + x0) y : Int) ∧ (shrw R s : Int) = (wmod (x1 * WB + x0) y : Int) := by
      intro Q R ⟨e1, e2⟩
      rw [e1, e2, hXX.out, hback.out.1, hback.out.2]
      exact ⟨rfl, rfl⟩
    replace fin := Lib.hid fin
    go_wp2
    · have h3 := ‹((r1 : Int) != 0) = true›
      have f := fin.out _ _ (hmm.out.2.2.2 (by simpa using h3) ‹_›)
      go_ret2
      exact ⟨ret2_i f.1 f.2, rfl⟩
    · have h3 := ‹((r1 : Int) != 0) = true›
      have f := fin.out _ _ (hmm.out.2.2.1 (by simpa using h3) (Nat.lt_of_not_le ‹_›))
      go_ret2
      exact ⟨ret2_i f.1 f.2, rfl⟩
    · have h3 := ‹((r1 : Int) != 0) = false›
      have f := fin.out _ _ (hmm.out.2.1 (by simpa using h3) ‹_›)
      go_ret2
      exact ⟨ret2_i f.1 f.2, rfl⟩
    · have h3 := ‹((r1 : Int) != 0) = false›
      have f := fin.out _ _ (hmm.out.1 (by simpa using h3) (Nat.lt_of_not_le ‹_›))
      go_ret2
      exact ⟨ret2_i f.1 f.2, rfl⟩
end Go.Proofs.YtabggbajgpbmmaaGreatDoor
