/- Division by a word through its reciprocal. Division by a word through its reciprocal: the walks. A row of words divided by a word. Natural numbers in memory: a slice of words, the last one not 0, at the head of a block of its own. -/
import Derived.Test.YtlnillnngckegaaGreatDoorM06
namespace Go.Proofs.YtlnillnngckegaaGreatDoor
open Go Go.RowKit

/-- The reciprocal of a word whose top bit is set. -/
noncomputable def rcp (u : Nat) : Nat := (WB * WB - 1) / u - WB
theorem rcp_spec {u : Nat} (hu : u < WB) (h2 : WB ≤ 2 * u) : rcp u < WB ∧ u * (rcp u + WB) + 1 ≤ WB * WB ∧ WB * WB ≤ u * (rcp u + WB) + u := by
  have h0 : 0 < u := by have := WB_pos; omega
  have hle : WB ≤ (WB * WB - 1) / u := by
    rw [Nat.le_div_iff_mul_le h0]
    have : WB * (u + 1) ≤ WB * WB := Nat.mul_le_mul_left WB hu
    rw [Nat.mul_add] at this; have := WB_pos; omega
  have e : rcp u + WB = (WB * WB - 1) / u := by unfold rcp; omega
  have hd := Nat.div_add_mod (WB * WB - 1) u
  have hm := Nat.mod_lt (WB * WB - 1) h0
  have hp : 0 < WB * WB := Nat.mul_pos WB_pos WB_pos
  refine ⟨?_, by rw [e]; omega, by rw [e]; omega⟩
  have : (WB * WB - 1) / u < 2 * WB := by
    rw [Nat.div_lt_iff_lt_mul h0]
    have : WB * WB ≤ WB * (2 * u) := Nat.mul_le_mul_left WB h2
    rw [Nat.mul_assoc, Nat.mul_left_comm]
    omega
  omega

theorem divWW_math {d m x1 x0 : Nat} (hd : d < WB) (h2 : WB ≤ 2 * d) (_hm : m < WB) (hm1 : d * (m + WB) + 1 ≤ WB * WB) (hm2 : WB * WB ≤ d * (m + WB) + d) (hx1 : x1 < d) (hx0 : x0 < WB)
    {q r0 r1 : Nat} (hq : q = adds (mulhi m x1) x1 (addc (mullo m x1) x0 0)) (hr0 : r0 = subs x0 (mullo d q) 0) (hr1 : r1 = subs x1 (mulhi d q) (subc x0 (mullo d q) 0)) :
    (r1 = 0 → r0 < d → q = (x1 * WB + x0) / d ∧ r0 = (x1 * WB + x0) % d) ∧
    (r1 = 0 → d ≤ r0 → wadd q 1 = (x1 * WB + x0) / d ∧ wsub r0 d = (x1 * WB + x0) % d) ∧
    (r1 ≠ 0 → wsub r0 d < d → wadd q 1 = (x1 * WB + x0) / d ∧ wsub r0 d = (x1 * WB + x0) % d) ∧
    (r1 ≠ 0 → d ≤ wsub r0 d → wadd (wadd q 1) 1 = (x1 * WB + x0) / d ∧ wsub (wsub r0 d) d = (x1 * WB + x0) % d) := by
  have hp := WB_pos
  have hg := recip_guess hd hm1 hm2 hx1 hx0
  have hx1w : x1 < WB := by omega
  -- the guess
  have hqe : q = (x1 * m + x1 * WB + x0) / WB := by
    have e1 := mullo_mulhi m x1
    have e2 := adds_addc (mullo m x1) x0 0
    have l2 := adds_lt (mullo m x1) x0 0
    have c2 := addc_le (mullo_lt m x1) hx0 (Nat.zero_le 1)
    have e3 := adds_addc (mulhi m x1) x1 (addc (mullo m x1) x0 0)
    have hsum : x1 * m + x1 * WB + x0 = WB * (mulhi m x1 + x1 + addc (mullo m x1) x0 0) + adds (mullo m x1) x0 0 := by
      rw [Nat.mul_add, Nat.mul_add, Nat.mul_comm x1 m, Nat.mul_comm x1 WB]; omega
    have hdiv : (x1 * m + x1 * WB + x0) / WB = mulhi m x1 + x1 + addc (mullo m x1) x0 0 := by
      rw [hsum, Nat.mul_add_div hp, Nat.div_eq_of_lt l2, Nat.add_zero]
    have hlt : (x1 * m + x1 * WB + x0) / WB < WB := by
      have h3 : (x1 * m + x1 * WB + x0) / WB * d < WB * d := by
        have : (x1 + 1) * WB ≤ d * WB := Nat.mul_le_mul_right WB hx1
        rw [Nat.add_mul, Nat.one_mul] at this
        rw [Nat.mul_comm WB d]; omega
      exact Nat.lt_of_mul_lt_mul_right h3
    rw [hq, hdiv]
    unfold adds
    rw [Nat.mod_eq_of_lt (by omega)]
  rw [← hqe] at hg
  have hqw : q < WB := by
    have h3 : q * d < WB * d := by
      have : (x1 + 1) * WB ≤ d * WB := Nat.mul_le_mul_right WB hx1
      rw [Nat.add_mul, Nat.one_mul] at this
      rw [Nat.mul_comm WB d]; omega
    exact Nat.lt_of_mul_lt_mul_right h3
  -- the rest in two words
  have hr0l : r0 < WB := by rw [hr0]; exact subs_lt _ _ _
  have hR : x1 * WB + x0 = q * d + (r1 * WB + r0) := by
    have f1 := subs_subc hx0 (mullo_lt d q) (Nat.zero_le 1)
    have f2 := subs_subc hx1w (mulhi_lt hd hqw) (subc_le x0 (mullo d q) 0)
    have f3 := mullo_mulhi d q
    have f4 := subc_le x1 (mulhi d q) (subc x0 (mullo d q) 0)
    have f5 := subs_lt x1 (mulhi d q) (subc x0 (mullo d q) 0)
    rw [← hr0] at f1
    rw [← hr1] at f2 f5
    generalize subc x0 (mullo d q) 0 = b at *
    generalize subc x1 (mulhi d q) b = b2 at *
    rw [Nat.mul_comm d q] at f3
    have f6 : WB * x1 + WB * (WB * b2) = WB * r1 + WB * mulhi d q + WB * b := by rw [← Nat.mul_add, f2, Nat.mul_add, Nat.mul_add]
    rw [Nat.mul_comm x1 WB, Nat.mul_comm r1 WB] at *
    have hb : b2 = 0 := by
      rcases Nat.eq_zero_or_pos b2 with h | h
      · exact h
      · have hb1 : b2 = 1 := by omega
        rw [hb1, Nat.mul_one] at f6
        have : WB * (r1 + 1) ≤ WB * WB := Nat.mul_le_mul_left WB f5
        rw [Nat.mul_add] at this
        omega
    rw [hb, Nat.mul_zero, Nat.mul_zero] at f6
    omega
  have hr1l : r1 = 0 ∨ r1 = 1 := by
    rcases Nat.lt_or_ge r1 2 with h | h
    · omega
    · have : 2 * WB ≤ r1 * WB := Nat.mul_le_mul_right WB h
      omega
  have hdiv : ∀ k r, x1 * WB + x0 = (q + k) * d + r → r < d → q + k = (x1 * WB + x0) / d ∧ r = (x1 * WB + x0) % d := by
    intro k r e hr
    rw [e, Nat.mul_comm (q + k) d]
    refine ⟨?_, ?_⟩
    · rw [Nat.mul_add_div (by omega), Nat.div_eq_of_lt hr, Nat.add_zero]
    · rw [Nat.mul_add_mod, Nat.mod_eq_of_lt hr]
  have hqk : ∀ k r, x1 * WB + x0 = (q + k) * d + r → q + k < WB := by
    intro k r e
    have h3 : (q + k) * d < WB * d := by
      have : (x1 + 1) * WB ≤ d * WB := Nat.mul_le_mul_right WB hx1
      rw [Nat.add_mul, Nat.one_mul] at this
      rw [Nat.mul_comm WB d]; omega
    exact Nat.lt_of_mul_lt_mul_right h3
  refine ⟨?_, ?_, ?_, ?_⟩
  · intro h hl
    rw [h, Nat.zero_mul, Nat.zero_add] at hR
    exact hdiv 0 r0 hR hl
  · intro h hl
    rw [h, Nat.zero_mul, Nat.zero_add] at hR
    have e : x1 * WB + x0 = (q + 1) * d + (r0 - d) := by rw [Nat.add_mul]; omega
    rw [wsub_of hl hr0l, wadd_of (hqk 1 _ e)]
    exact hdiv 1 _ e (by omega)
  · intro h hl
    have h1 : r1 = 1 := by omega
    rw [h1, Nat.one_mul] at hR
    have hlt : r0 < d := by omega
    rw [wsub_borrow hlt hd] at *
    have e : x1 * WB + x0 = (q + 1) * d + (r0 + WB - d) := by rw [Nat.add_mul]; omega
    rw [wadd_of (hqk 1 _ e)]
    exact hdiv 1 _ e hl
  · intro h hl
    have h1 : r1 = 1 := by omega
    rw [h1, Nat.one_mul] at hR
    have hlt : r0 < d := by omega
    rw [wsub_borrow hlt hd] at *
    have e : x1 * WB + x0 = (q + 2) * d + (r0 + WB - d - d) := by rw [Nat.add_mul]; omega
    have h3 := hqk 2 _ e
    rw [wsub_of hl (by omega), wadd_of (show q + 1 < WB by omega), wadd_of (by omega)]
    exact hdiv 2 _ e (by omega)

end Go.Proofs.YtlnillnngckegaaGreatDoor

namespace Go.Proofs.YtlnillnngckegaaGreatDoor
open Go Go.RowKit

theorem shlw_nlz {y : Nat} (h : y < WB) (h0 : 0 < y) : shlw y (nlzN y) = y * 2 ^ nlzN y := Nat.mod_eq_of_lt (nlz_shift h h0).1
theorem xor_all (x n : Nat) (h : x < 2 ^ n) : (2 ^ n - 1) ^^^ x = 2 ^ n - 1 - x := by
  apply Nat.eq_of_testBit_eq
  intro i
  rw [Nat.testBit_xor, Nat.testBit_two_pow_sub_one, Nat.sub_sub, Nat.add_comm 1 x, Nat.testBit_two_pow_sub_succ h]
  by_cases hi : i < n
  · simp [hi]
  · simp [hi]
    exact Nat.testBit_lt_two_pow (Nat.lt_of_lt_of_le h (Nat.pow_le_pow_right (by decide) (by omega)))
/-- All bits of a word turned. -/
noncomputable def wnot (x : Nat) : Nat := WB - 1 - x
@[go_sem] theorem bits_not (x : Nat) (h : x < WB) : bits .xor .u64 IntKind.u64.max (x : Int) = (wnot x : Int) := by
  have e : IntKind.u64.max = ((2 ^ 64 - 1 : Nat) : Int) := by unfold IntKind.max; simp [IntKind.signed, IntKind.bits]
  rw [e, bits_xor_u64_nat _ _ (by decide) (by rw [WB_eq] at h; exact h), xor_all x 64 (by rw [← WB_two_pow]; exact h), ← WB_two_pow]
  rfl

theorem bitsDiv_max (hi y : Nat) (hy : y < WB) (hh : hi < y) (hy0 : hi = 0 ∨ WB ≤ 2 * y) (w : World) :
    Calls Tryz.prog 220 #[.int .u64 hi, .int .u64 18446744073709551615, .int .u64 y] w fun e w' => e = .returned (.tuple #[.int .u64 (wdiv (hi * WB + (WB - 1)) y : Int), .int .u64 (wmod (hi * WB + (WB - 1)) y : Int)]) ∧ ∃ n, w' = w.drewN n := by
  have := bitsDiv_c hi (WB - 1) y (by have := WB_pos; omega) hy hh hy0 w
  rwa [castmax] at this

set_option maxRecDepth 100000 in
set_option maxHeartbeats 400000 in
theorem reciprocalWord_c (y : Nat) (h : y < WB) (h0 : 0 < y) (w : World) :
    Calls Tryz.prog 221 #[.int .u64 y] w fun e w' => e = .returned (.int .u64 (rcp (y * 2 ^ nlzN y) : Int)) ∧ ∃ n, w' = w.drewN n := by
  have hn := nlzN_lt h h0
  have hu := nlz_shift h h0
  rw [← shlw_nlz h h0] at hu ⊢
  have hul := hu.1
  have hu2 := hu.2
  have hnu : wnot (shlw y (nlzN y)) < shlw y (nlzN y) := by unfold wnot; omega
  have hr : wdiv (wnot (shlw y (nlzN y)) * WB + (WB - 1)) (shlw y (nlzN y)) = rcp (shlw y (nlzN y)) := by
    generalize shlw y (nlzN y) = u at *
    have h1 : wnot u * WB + (WB - 1) = WB * WB - 1 - u * WB := by
      unfold wnot
      rw [Nat.sub_mul, Nat.sub_mul, Nat.one_mul]
      have : (u + 1) * WB ≤ WB * WB := Nat.mul_le_mul_right WB hul
      rw [Nat.add_mul, Nat.one_mul] at this
      have := WB_pos
      omega
    unfold wdiv rcp
    rw [h1, Nat.sub_mul_div]
  replace hu2 := Lib.hid hu2
  replace hr := Lib.hid hr
  clear hu
  go_enter Tryz.func221, Tryz.ntmps221
  go_wp2_with (first
    | (go_at_call 201; refine (nlz_c y h _).mono ?_; rintro e w' ⟨rfl, hw⟩; obtain rfl := hw)
    | fail)
  have hb := bitsDiv_max _ _ hul hnu (.inr hu2.out) w
  refine hb.mono ?_
  rintro e w' ⟨rfl, n, hw⟩
  subst hw
  go_wp2
  go_ret
  exact ⟨ret_i (by rw [hr.out]), _, rfl⟩

theorem divWW_back {s X y : Nat} (_h0 : 0 < y) : X * 2 ^ s / (y * 2 ^ s) = X / y ∧ shrw (X * 2 ^ s % (y * 2 ^ s)) s = X % y := by
  have hp := Nat.two_pow_pos s
  refine ⟨Nat.mul_div_mul_right _ _ hp, ?_⟩
  unfold shrw
  rw [Nat.mul_mod_mul_right, Nat.mul_div_cancel _ hp]


theorem orw_nlz {x1 x0 y : Nat} (h : y < WB) (h0 : 0 < y) (h1 : x1 < y) (hx0 : x0 < WB) {s t : Nat} (hs : s = nlzN y) (hst : s + t = 64) :
    orw (shlw x1 s) (shrw x0 t) * WB + shlw x0 s = (x1 * WB + x0) * 2 ^ s ∧ orw (shlw x1 s) (shrw x0 t) < y * 2 ^ s := by
  have hu := nlz_shift h h0
  have hp := Nat.two_pow_pos s
  rw [← hs] at hu
  have e1 : shlw x1 s = x1 * 2 ^ s := by
    refine Nat.mod_eq_of_lt ?_
    have := Nat.mul_lt_mul_of_pos_right h1 hp
    omega
  have e2 := shl_shr (x := x0) hst
  have hb : shrw x0 t < 2 ^ s := by
    unfold shrw; rw [Nat.div_lt_iff_lt_mul (Nat.two_pow_pos t), ← Nat.pow_add, hst, ← WB_two_pow]; exact hx0
  rw [orw_add hst hx0, e1]
  constructor
  · rw [Nat.add_mul, Nat.add_mul, ← e2, Nat.mul_comm (shrw x0 t) WB, Nat.mul_right_comm]; omega
  · have : (x1 + 1) * 2 ^ s ≤ y * 2 ^ s := Nat.mul_le_mul_right _ h1
    rw [Nat.add_mul, Nat.one_mul] at this
    omega

set_option maxRecDepth 100000 in
set_option maxHeartbeats 800000 in
theorem divWW_c (x1 x0 y : Nat) (h : y < WB) (h0 : 0 < y) (h1 : x1 < y) (hx0 : x0 < WB) (w : World) :
    Calls Tryz.prog 222 #[.int .u64 x1, .int .u64 x0, .int .u64 y, .int .u64 (rcp (y * 2 ^ nlzN y) : Int)] w fun e w' =>
      e = .returned (.tuple #[.int .u64 (wdiv (x1 * WB + x0) y : Int), .int .u64 (wmod (x1 * WB + x0) y : Int)]) ∧ w = w' := by
  have hn := nlzN_lt h h0
  have hu := nlz_shift h h0
  have hx1 : x1 < WB := by omega
  have ho := fun (t : Nat) (hst : nlzN y + t = 64) => orw_nlz h h0 h1 hx0 rfl hst
  have hsy := shlw_nlz h h0
  have hback := divWW_back (s := nlzN y) (X := x1 * WB + x0) h0
  replace hback := Lib.hid hback
  replace ho := Lib.hid ho
  replace hsy := Lib.hid hsy
  have hnl := nlz_c y h
  replace hnl := Lib.hid hnl
  generalize hs : nlzN y = s at *
  replace hs := Lib.hid hs
  obtain ⟨t, hst⟩ : ∃ t, s + t = 64 := ⟨64 - s, by omega⟩
  have htl : s = 0 ∨ t < 64 := by omega
  have hw : IntKind.u64.wrap (64 - (s : Int)) = (t : Int) := by rw [IntKind.wrap_u64]; omega
  replace hst := Lib.hid hst
  generalize hd : y * 2 ^ s = d at *
  replace hd := Lib.hid hd
  go_enter Tryz.func222, Tryz.ntmps222
  go_upto_if 26 with ((go_at_call 201; refine (hnl.out _).mono ?_; rintro e w' ⟨rfl, hw⟩; obtain rfl := hw))
  go_cut [0, 1, 2] (fun v1 v0 vy wr => w = wr ∧ vy = .int .u64 d ∧ ∃ X1 X0 : Nat, v1 = .int .u64 X1 ∧ v0 = .int .u64 X0 ∧ X1 < d ∧ X0 < WB ∧ X1 * WB + X0 = (x1 * WB + x0) * 2 ^ s)
  case first =>
    by_cases hs0 : s = 0
    · subst hs0
      have hdy : y = d := by have := hd.out; simpa using this
      go_wp2
      go_meet
      exact ⟨rfl, by first | rfl | rw [hdy], x1, x0, rfl, rfl, by omega, hx0, by simp⟩
    · have e0 : ((s : Int) == 0) = false := by simp; omega
      have htl := htl.resolve_left hs0
      go_wp2
      go_meet
      have := ho.out t hst.out
      exact ⟨rfl, by rw [hsy.out], _, _, rfl, rfl, this.2, shlw_lt _ _, this.1⟩
  case rest =>
    obtain ⟨rfl, rfl, X1, X0, rfl, rfl, hX1, hX0, hXX⟩ := hcut
    replace hXX := Lib.hid hXX
    clear ho hsy hnl hw htl
    obtain ⟨hm, hm1, hm2⟩ := rcp_spec hu.1 hu.2
    have hd2 := hu.1
    have hX1w : X1 < WB := by omega
    have hmath := fun q r0 r1 => @divWW_math d (rcp d) X1 X0 hu.1 hu.2 hm hm1 hm2 hX1 hX0 q r0 r1
    replace hmath := Lib.hid hmath
    clear hm1 hm2
    replace hu := Lib.hid hu
    have hqw := adds_lt (mulhi (rcp d) X1) X1 (addc (mullo (rcp d) X1) X0 0)
    have hc1 := addc_le (mullo_lt (rcp d) X1) hX0 (Nat.zero_le 1)
    go_wp2_with fail
    refine (bits_Mul (rcp d) X1 hm hX1w _).mono ?_
    rintro e w' ⟨rfl, hw⟩
    obtain rfl := hw.symm
    go_wp2_with fail
    refine (bits_Add (mullo (rcp d) X1) X0 0 (mullo_lt _ _) hX0 (by omega) _).mono ?_
    rintro e w' ⟨rfl, hw⟩
    obtain rfl := hw.symm
    go_wp2_with fail
    refine (bits_Add (mulhi (rcp d) X1) X1 (addc (mullo (rcp d) X1) X0 0) (mulhi_lt hm hX1w) hX1w hc1 _).mono ?_
    rintro e w' ⟨rfl, hw⟩
    obtain rfl := hw.symm
    go_wp2_with fail
    generalize hq : adds (mulhi (rcp d) X1) X1 (addc (mullo (rcp d) X1) X0 0) = q at *
    replace hq := Lib.hid hq
    refine (bits_Mul d q hd2 hqw _).mono ?_
    rintro e w' ⟨rfl, hw⟩
    obtain rfl := hw.symm
    go_wp2_with fail
    refine (bits_Sub X0 (mullo d q) 0 (by omega) _).mono ?_
    rintro e w' ⟨rfl, hw⟩
    obtain rfl := hw.symm
    go_wp2_with fail
    have hc2 := subc_le X0 (mullo d q) 0
    refine (bits_Sub X1 (mulhi d q) (subc X0 (mullo d q) 0) hc2 _).mono ?_
    rintro e w' ⟨rfl, hw⟩
    obtain rfl := hw.symm
    generalize hr1 : subs X1 (mulhi d q) (subc X0 (mullo d q) 0) = r1 at *
    generalize hr0 : subs X0 (mullo d q) 0 = r0 at *
    have hmm := hmath.out q r0 r1 rfl hr0.symm hr1.symm
    replace hmm := Lib.hid hmm
    have hr0l : r0 < WB := by rw [← hr0]; exact subs_lt _ _ _
    clear hr0 hr1 hmath hc1 hc2
    have fin : ∀ Q R, Q = (X1 * WB + X0) / d ∧ R = (X1 * WB + X0) % d → (Q : Int) = (wdiv (x1 * WB + x0) y : Int) ∧ (shrw R s : Int) = (wmod (x1 * WB + x0) y : Int) := by
      intro Q R ⟨e1, e2⟩
      rw [e1, e2, hXX.out, hback.out.1, hback.out.2]
      exact ⟨rfl, rfl⟩
    replace fin := Lib.hid fin
    go_wp2
    · have h3 := ‹((r1 : Int) != 0) = true›
      have f := fin.out _ _ (hmm.out.2.2.2 (by simpa using h3) ‹_›)
      go_ret2
      exact ⟨ret2_i f.1 f.2, rfl⟩
    · have h3 := ‹((r1 : Int) != 0) = true›
      have f := fin.out _ _ (hmm.out.2.2.1 (by simpa using h3) (Nat.lt_of_not_le ‹_›))
      go_ret2
      exact ⟨ret2_i f.1 f.2, rfl⟩
    · have h3 := ‹((r1 : Int) != 0) = false›
      have f := fin.out _ _ (hmm.out.2.1 (by simpa using h3) ‹_›)
      go_ret2
      exact ⟨ret2_i f.1 f.2, rfl⟩
    · have h3 := ‹((r1 : Int) != 0) = false›
      have f := fin.out _ _ (hmm.out.1 (by simpa using h3) (Nat.lt_of_not_le ‹_›))
      go_ret2
      exact ⟨ret2_i f.1 f.2, rfl⟩
end Go.Proofs.YtlnillnngckegaaGreatDoor

namespace Go.Proofs.YtlnillnngckegaaGreatDoor
open Go Go.RowKit

theorem divrow_step {y Q r x : Nat} (h0 : 0 < y) {V : Nat} (hQ : Q = V / y) (hr : r = V % y) :
    (r * WB + x) / y + WB * Q = (x + WB * V) / y ∧ (r * WB + x) % y = (x + WB * V) % y := by
  have e : x + WB * V = y * (WB * Q) + (r * WB + x) := by
    have := Nat.div_add_mod V y
    rw [← hQ, ← hr] at this
    rw [← this, Nat.mul_add, Nat.mul_left_comm, Nat.mul_comm r WB]; omega
  rw [e, Nat.mul_add_div h0, Nat.mul_add_mod]
  exact ⟨Nat.add_comm _ _, rfl⟩

set_option maxRecDepth 100000 in
set_option maxHeartbeats 800000 in
theorem divWVW_c (w : World) (bz oz m cz bx ox cx y : Nat) (Cz Cx : List Nat) (hn : m < 1000000) (hy : y < WB) (hy0 : 0 < y)
    (hz : Arr w bz Cz) (hzl : oz + (m + 1) ≤ Cz.length) (hx : Arr w bx Cx) (hxl : ox + (m + 1) ≤ Cx.length) (hsep : bx ≠ bz ∨ ox ≤ oz) :
    Calls Tryz.prog 200 #[.slice (some ⟨bz, oz, none⟩) (m + 1) cz, .int .u64 0, .slice (some ⟨bx, ox, none⟩) (m + 1) cx, .int .u64 y] w fun e w' =>
      ∃ R, e = .returned (.int .u64 (val ((Cx.drop ox).take (m + 1)) % y : Nat)) ∧ Sub w w' bz (spl Cz oz R) ∧ R.length = m + 1 ∧ val R = val ((Cx.drop ox).take (m + 1)) / y := by
  have hX : ((Cx.drop ox).take (m + 1)).length = m + 1 := by simp; omega
  replace hX := Lib.hid hX
  by_cases hm : m = 0
  · subst hm
    have e1 : (((0 : Nat) : Int) + 1 == 1) = true := by simp
    have hl := hx.cellN (i := ox) (by omega)
    have hwl := hx.wd.nth ox
    have hz1 := hz.cellN (i := oz) (by omega)
    have hz2 := hz.frozen oz
    have hX1 : val ((Cx.drop ox).take (0 + 1)) = nth Cx ox := by
      rw [val_take_succ (by simp; omega), nth_drop]; simp
    replace hX1 := Lib.hid hX1
    go_enter Tryz.func200, Tryz.ntmps200
    go_wp2_with fail
    have hb := bitsDiv_c 0 (nth Cx ox) y hwl hy hy0 (.inl rfl) w
    refine hb.mono ?_
    rintro e w' ⟨rfl, n, hw⟩
    subst hw
    have hq : wdiv (0 * WB + nth Cx ox) y < WB := Nat.lt_of_le_of_lt (Nat.div_le_self _ _) (by rw [Nat.zero_mul, Nat.zero_add]; exact hwl)
    have hqe : wdiv (0 * WB + nth Cx ox) y = nth Cx ox / y := by unfold wdiv; rw [Nat.zero_mul, Nat.zero_add]
    have hre : wmod (0 * WB + nth Cx ox) y = nth Cx ox % y := by unfold wmod; rw [Nat.zero_mul, Nat.zero_add]
    generalize wdiv (0 * WB + nth Cx ox) y = q at *
    generalize wmod (0 * WB + nth Cx ox) y = r at *
    replace hqe := Lib.hid hqe
    replace hre := Lib.hid hre
    go_wp2
    go_ret
    have hS := ((Sub.refl hz).drewN n)
    have hS1 := hS
    rw [← spl_nil Cz oz] at hS1
    have hS2 := hS1.next (k := 0) rfl (by omega) q hq
    exact ⟨[q], ret_i (by rw [hX1.out, hre.out]), hS2, rfl, by rw [hX1.out, ← hqe.out]; simp [val]⟩
  · have e1 : ((m : Int) + 1 == 1) = false := by simp; omega
    have hrec := reciprocalWord_c y hy hy0 w
    go_enter Tryz.func200, Tryz.ntmps200
    go_wp2_with fail
    refine hrec.mono ?_
    rintro e w' ⟨rfl, n, hw⟩
    subst hw
    go_wp2_with fail
    go_loopw [8, 12] (fun r i wr => ∃ k rr : Nat, k ≤ m + 1 ∧ i = .int .i64 ((k : Int) - 1) ∧ r = .int .u64 rr ∧ rr < y ∧ ∃ R : List Nat, R.length + k = m + 1 ∧ val R = val (((Cx.drop ox).take (m + 1)).drop k) / y ∧ rr = val (((Cx.drop ox).take (m + 1)).drop k) % y ∧ Sub w wr bz (spl Cz (oz + k) R)) (fun _ i _ => (intOf i + 1).toNat)
    case atStart =>
      refine ⟨m + 1, 0, Nat.le_refl _, by simp, rfl, hy0, [], by simp, ?_, ?_, by rw [spl_nil]; exact (Sub.refl hz).drewN n⟩
      · rw [List.drop_eq_nil_of_le (by rw [hX.out]; omega)]; simp
      · rw [List.drop_eq_nil_of_le (by rw [hX.out]; omega)]; simp
    case round =>
      obtain ⟨k, rr, hk, rfl, rfl, hrr, R, hR1, hR2, hR3, hS⟩ := hrel
      by_cases hk0 : k = 0
      · subst hk0
        go_wp2
        go_ret
        refine ⟨R, ret_i (by rw [hR3, List.drop_zero]), hS, by omega, by rw [hR2, List.drop_zero]⟩
      · obtain ⟨j, rfl⟩ : ∃ j, k = j + 1 := ⟨k - 1, by omega⟩
        have hj : ((j + 1 : Nat) : Int) - 1 = (j : Int) := by omega
        rw [hj]
        have hxj := hS.read (p := ox + j) hz hx (by omega) (by omega) (by omega)
        have hwj := hx.wd.nth (ox + j)
        have hz1 := hS.arr.cellN (i := oz + j) (by rw [spl_length (by omega)]; omega)
        have hz2 := hS.arr.frozen (oz + j)
        have hst := divrow_step (x := nth Cx (ox + j)) hy0 hR2 hR3
        have hql : wdiv (rr * WB + nth Cx (ox + j)) y < WB := by
          unfold wdiv
          rw [Nat.div_lt_iff_lt_mul hy0]
          have : (rr + 1) * WB ≤ y * WB := Nat.mul_le_mul_right WB hrr
          rw [Nat.add_mul, Nat.one_mul] at this
          rw [Nat.mul_comm WB y]; omega
        replace hR1 := Lib.hid hR1
        replace hR2 := Lib.hid hR2
        replace hR3 := Lib.hid hR3
        replace hst := Lib.hid hst
        clear hj
        go_wp2_with fail
        refine (divWW_c rr (nth Cx (ox + j)) y hy hy0 hrr hwj _).mono ?_
        rintro e w' ⟨rfl, hw⟩
        obtain rfl := hw
        go_wp2
        go_roundw
        case rel =>
          have hd0 := drop_nth (l := (Cx.drop ox).take (m + 1)) (i := j) (by rw [hX.out]; omega)
          rw [nth_dt _ _ _ _ (by omega)] at hd0
          refine ⟨j, wmod (rr * WB + nth Cx (ox + j)) y, by omega, rfl, rfl, Nat.mod_lt _ hy0, wdiv (rr * WB + nth Cx (ox + j)) y :: R, by simp; have := hR1.out; omega, ?_, ?_, ?_⟩
          · rw [hd0, val_cons, val_cons]; exact hst.out.1
          · rw [hd0, val_cons]; exact hst.out.2
          · have := hR1.out
            exact Sub.prev (o := oz + j) hS (by omega) _ hql
        case measure => simp [intOf]
end Go.Proofs.YtlnillnngckegaaGreatDoor

namespace Go.Proofs.YtlnillnngckegaaGreatDoor
open Go Go.RowKit

/-- From w to w' only blocks of S have turned, and new ones have come. -/
structure Chg (w w' : World) (S : Nat → Prop) : Prop where
  os : w'.os = w.os
  tape : w'.tape = w.tape
  output : w'.output = w.output
  size : w.heap.size ≤ w'.heap.size
  block : ∀ k, k < w.heap.size → ¬ S k → w'.heap[k]? = w.heap[k]?

theorem Chg.refl (w : World) (S : Nat → Prop) : Chg w w S := ⟨rfl, rfl, rfl, Nat.le_refl _, fun _ _ _ => rfl⟩
theorem Chg.drewN {w w' : World} {S : Nat → Prop} (h : Chg w w' S) (n : Nat) : Chg w (w'.drewN n) S := ⟨h.os, h.tape, h.output, h.size, h.block⟩
theorem Chg.drew {w w' : World} {S : Nat → Prop} (h : Chg w w' S) : Chg w w'.drew S := ⟨h.os, h.tape, h.output, h.size, h.block⟩
theorem Chg.mono {w w' : World} {S T : Nat → Prop} (h : Chg w w' S) (hT : ∀ k, k < w.heap.size → S k → T k) : Chg w w' T :=
  ⟨h.os, h.tape, h.output, h.size, fun k hk hn => h.block k hk (fun hs => hn (hT k hk hs))⟩
theorem Chg.trans {a b c : World} {S : Nat → Prop} (h : Chg a b S) (h' : Chg b c (fun k => S k ∨ a.heap.size ≤ k)) : Chg a c S :=
  ⟨h'.os.trans h.os, h'.tape.trans h.tape, h'.output.trans h.output, Nat.le_trans h.size h'.size,
    fun k hk hn => (h'.block k (Nat.lt_of_lt_of_le hk h.size) (fun hs => hs.elim hn (fun h2 => absurd hk (Nat.not_lt.2 h2)))).trans (h.block k hk hn)⟩
theorem Chg.alloc {w w' : World} {S : Nat → Prop} (h : Chg w w' S) (o : Obj) : Chg w (w'.alloc o) S :=
  ⟨h.os, h.tape, h.output, by rw [World.size_alloc]; have := h.size; omega, fun k hk hn => by rw [Below.heap_alloc _ _ _ (Nat.lt_of_lt_of_le hk h.size)]; exact h.block k hk hn⟩
theorem Sub.chg {w w' : World} {b : Nat} {C : List Nat} (h : Sub w w' b C) : Chg w w' (· = b) := ⟨h.os, h.tape, h.output, by rw [h.size]; exact Nat.le_refl _, fun k _ hn => h.block k hn⟩
theorem Chg.arr {w w' : World} {S : Nat → Prop} {b : Nat} {C : List Nat} (h : Chg w w' S) (ha : Arr w b C) (hn : ¬ S b) : Arr w' b C := ⟨by rw [h.block b ha.lt hn]; exact ha.heap, ha.wd⟩

/-- As large as a block may be here. -/
def CAP : Nat := 1000000

/-- A place for a number: nothing, or a slice at the head of a block of words (o: the block). -/
def Stor (w : World) (v : Value) (o : Option Nat) : Prop :=
  (v = .slice none 0 0 ∧ o = none) ∨ ∃ b l cap C, o = some b ∧ v = .slice (some ⟨b, 0, none⟩) l cap ∧ l ≤ cap ∧ Arr w b C ∧ C.length = cap ∧ (0 < cap ∧ cap ≤ 1000000)

/-- The number N as a slice (o: its block). -/
def IsNat (w : World) (v : Value) (N : Nat) (o : Option Nat) : Prop :=
  (v = .slice none 0 0 ∧ N = 0 ∧ o = none) ∨
    ∃ b cap C, o = some b ∧ v = .slice (some ⟨b, 0, none⟩) (digs N).length cap ∧ Arr w b C ∧ C.length = cap ∧ (0 < cap ∧ cap ≤ 1000000) ∧ C.take (digs N).length = digs N

theorem take_len_le {C L : List Nat} (h : C.take L.length = L) : L.length ≤ C.length := by
  have := congrArg List.length h
  rw [List.length_take] at this; omega
theorem IsNat.stor {w : World} {v : Value} {N : Nat} {o : Option Nat} (h : IsNat w v N o) : Stor w v o := by
  rcases h with ⟨rfl, _, rfl⟩ | ⟨b, cap, C, rfl, rfl, ha, hc, hcap, ht⟩
  · exact .inl ⟨rfl, rfl⟩
  · exact .inr ⟨b, _, cap, C, rfl, rfl, by rw [← hc]; exact take_len_le ht, ha, hc, hcap⟩
theorem IsNat.zero (w : World) : IsNat w (.slice none 0 0) 0 none := .inl ⟨rfl, rfl, rfl⟩
theorem IsNat.chg {w w' : World} {v : Value} {N : Nat} {o : Option Nat} {S : Nat → Prop} (h : IsNat w v N o) (hc : Chg w w' S) (hn : ∀ b, o = some b → ¬ S b) : IsNat w' v N o := by
  rcases h with h | ⟨b, cap, C, rfl, rfl, ha, hc1, hcap, ht⟩
  · exact .inl h
  · exact .inr ⟨b, cap, C, rfl, rfl, hc.arr ha (hn b rfl), hc1, hcap, ht⟩
theorem Stor.chg {w w' : World} {v : Value} {o : Option Nat} {S : Nat → Prop} (h : Stor w v o) (hc : Chg w w' S) (hn : ∀ b, o = some b → ¬ S b) : Stor w' v o := by
  rcases h with h | ⟨b, l, cap, C, rfl, rfl, hl, ha, hc1, hcap⟩
  · exact .inl h
  · exact .inr ⟨b, l, cap, C, rfl, rfl, hl, hc.arr ha (hn b rfl), hc1, hcap⟩
theorem IsNat.lt {w : World} {v : Value} {N : Nat} {b : Nat} (h : IsNat w v N (some b)) : b < w.heap.size := by
  rcases h with ⟨_, _, h⟩ | ⟨b', cap, C, h, _, ha, _⟩
  · cases h
  · cases h; exact ha.lt
theorem Stor.lt {w : World} {v : Value} {b : Nat} (h : Stor w v (some b)) : b < w.heap.size := by
  rcases h with ⟨_, h⟩ | ⟨b', l, cap, C, h, _, _, ha, _⟩
  · cases h
  · cases h; exact ha.lt
/-- The parts of a number's slice: its pointer, its capacity. -/
theorem IsNat.shape {w : World} {v : Value} {N : Nat} {o : Option Nat} (h : IsNat w v N o) : ∃ p cap, v = .slice p (digs N).length cap ∧ (digs N).length ≤ cap ∧ cap ≤ 1000000 := by
  rcases h with ⟨rfl, rfl, _⟩ | ⟨b, cap, C, rfl, rfl, ha, hc1, hcap, ht⟩
  · exact ⟨none, 0, by simp [digs_zero], by simp [digs_zero], by omega⟩
  · exact ⟨_, cap, rfl, by rw [← hc1]; exact take_len_le ht, hcap.2⟩
/-- A number that is not 0. -/
theorem IsNat.pos {w : World} {v : Value} {N : Nat} {o : Option Nat} (h : IsNat w v N o) (h0 : N ≠ 0) :
    ∃ b cap C, o = some b ∧ v = .slice (some ⟨b, 0, none⟩) (digs N).length cap ∧ Arr w b C ∧ C.length = cap ∧ (0 < cap ∧ cap ≤ 1000000) ∧ C.take (digs N).length = digs N ∧ (digs N).length ≤ C.length ∧ 0 < (digs N).length := by
  rcases h with ⟨_, h, _⟩ | ⟨b, cap, C, rfl, rfl, ha, hc1, hcap, ht⟩
  · exact absurd h h0
  · exact ⟨b, cap, C, rfl, rfl, ha, hc1, hcap, ht, take_len_le ht, Nat.pos_of_ne_zero (fun e => h0 (digs_len_eq_zero.1 e))⟩

/-- What a function on numbers hands back that may use the place o: the number N. -/
def NatRes (w w' : World) (o : Option Nat) (r : Value) (N : Nat) : Prop :=
  ∃ o', IsNat w' r N o' ∧ (o' = o ∨ o' = none ∨ ∃ b, o' = some b ∧ w.heap.size ≤ b) ∧ Chg w w' (fun k => some k = o)

/-- Out of words that are known. -/
theorem isNat_of {w : World} {b l cap : Nat} {C : List Nat} (ha : Arr w b C) (hc : C.length = cap) (hcap : 0 < cap ∧ cap ≤ 1000000) (hl : l ≤ cap) :
    IsNat w (.slice (some ⟨b, 0, none⟩) (digs (val (C.take l))).length cap) (val (C.take l)) (some b) := by
  refine .inr ⟨b, cap, C, rfl, rfl, ha, hc, hcap, ?_⟩
  -- the words of a value stand at its head
  have key : ∀ L : List Nat, Wd L → L.take (digs (val L)).length = digs (val L) := by
    intro L hL
    have h1 := val_digs (val L)
    have h2 : (digs (val L)).length ≤ L.length := digs_len_le.2 (val_lt hL)
    have e : L = digs (val L) ++ List.replicate (L.length - (digs (val L)).length) 0 := by
      refine val_inj hL ((Wd_digs _).append (Wd.zeros _)) (by simp; omega) ?_
      rw [val_append_zeros, h1]
    conv => lhs; rw [e]
    rw [List.take_append_of_le_length (by
      conv => lhs; rw [← e]
      exact Nat.le_refl _)]
    conv => lhs; rw [← e]
    rw [List.take_length]
  have h3 := key (C.take l) (ha.wd.take l)
  rw [List.take_take] at h3
  have h4 : (digs (val (C.take l))).length ≤ l := by
    have := digs_len_le.2 (val_lt (ha.wd.take l))
    rw [List.length_take] at this; omega
  rw [Nat.min_eq_left h4] at h3
  exact h3

end Go.Proofs.YtlnillnngckegaaGreatDoor
