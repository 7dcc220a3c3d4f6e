/- The reference: has a root only noughts or only nines behind a place. -/
import Derived.Test.YtcoljeafgiemkaaGreatDoorSH
import Derived.Test.YtcoljeafgiemkaaGreatDoorC21
import Derived.Test.YtcoljeafgiemkaaGreatDoorSB
import Derived.Test.YtcoljeafgiemkaaGreatDoorC40
import Derived.Test.YtcoljeafgiemkaaGreatDoorSF
namespace Go.Proofs.YtcoljeafgiemkaaGreatDoor
open Go Go.RowKit

/-- Are t figures from the place p on all c. -/
def allF (F r p c : Nat) : Nat → Bool
  | 0 => true
  | t + 1 => allF F r p c t && (r / 10 ^ (F - 1 - (p + t)) % 10 == c)
theorem allF_all {F r p c : Nat} : ∀ {t : Nat}, allF F r p c t = true → ∀ j, j < t → r / 10 ^ (F - 1 - (p + j)) % 10 = c := by
  intro t
  induction t with
  | zero => intro _ j hj; omega
  | succ t ih =>
    intro h j hj
    rw [allF, Bool.and_eq_true, beq_iff_eq] at h
    rcases Nat.lt_or_ge j t with h1 | h1
    · exact ih h.1 j h1
    · obtain rfl : j = t := by omega
      exact h.2
theorem three_fig {F r p : Nat} (h : p + 3 ≤ F) : r / 10 ^ (F - 1 - (p + 0)) % 10 = r / 10 ^ (F - p - 3) / 100 % 10 ∧ r / 10 ^ (F - 1 - (p + 1)) % 10 = r / 10 ^ (F - p - 3) / 10 % 10 ∧ r / 10 ^ (F - 1 - (p + 2)) % 10 = r / 10 ^ (F - p - 3) % 10 := by
  refine ⟨?_, ?_, ?_⟩
  · rw [show F - 1 - (p + 0) = F - p - 3 + 2 by omega, Nat.pow_add, ← Nat.div_div_eq_div_mul]
  · rw [show F - 1 - (p + 1) = F - p - 3 + 1 by omega, Nat.pow_add, ← Nat.div_div_eq_div_mul]
  · rw [show F - 1 - (p + 2) = F - p - 3 by omega]
theorem allF_three {F r p c : Nat} (h : p + 3 ≤ F) (hc : c = 0 ∨ c = 9) : allF F r p c 3 = decide (r / 10 ^ (F - p - 3) % 1000 = 111 * c) := by
  obtain ⟨e1, e2, e3⟩ := three_fig (r := r) h
  show (((true && (r / 10 ^ (F - 1 - (p + 0)) % 10 == c)) && (r / 10 ^ (F - 1 - (p + 1)) % 10 == c)) && (r / 10 ^ (F - 1 - (p + 2)) % 10 == c)) = _
  rw [e1, e2, e3, Bool.true_and, Bool.eq_iff_iff, Bool.and_eq_true, Bool.and_eq_true, beq_iff_eq, beq_iff_eq, beq_iff_eq, decide_eq_true_eq]
  generalize r / 10 ^ (F - p - 3) = q
  rcases hc with rfl | rfl <;> omega
theorem low_zero {r : Nat} : ∀ t, (∀ i, i < t → r / 10 ^ i % 10 = 0) → r % 10 ^ t = 0 := by
  intro t
  induction t with
  | zero => intro _; rw [Nat.pow_zero, Nat.mod_one]
  | succ t ih =>
    intro h
    have h1 := ih (fun i hi => h i (by omega))
    have h2 := h t (by omega)
    obtain ⟨q, hq⟩ := Nat.dvd_of_mod_eq_zero h1
    rw [hq, Nat.mul_div_cancel_left _ (Nat.pow_pos (by omega))] at h2
    obtain ⟨q2, hq2⟩ := Nat.dvd_of_mod_eq_zero h2
    rw [hq, hq2, ← Nat.mul_assoc, ← Nat.pow_succ]
    exact Nat.mul_mod_right _ _
theorem root_uniq {r s N : Nat} (h1 : r * r ≤ N) (h2 : N < (r + 1) * (r + 1)) (h3 : s * s ≤ N) (h4 : N < (s + 1) * (s + 1)) : r = s := by
  rcases Nat.lt_trichotomy r s with h | h | h
  · have := Nat.mul_le_mul (show r + 1 ≤ s by omega) (show r + 1 ≤ s by omega); omega
  · exact h
  · have := Nat.mul_le_mul (show s + 1 ≤ r by omega) (show s + 1 ≤ r by omega); omega
theorem byte_at {s : ByteArray} {k N : Nat} (h : s.data.toList = dgT k N) (i : Nat) (hi : i < s.size) : ((s[i]'hi).toNat : Int) = 48 + ((N / 10 ^ (k - 1 - i) % 10 : Nat) : Int) := by
  have h1 : i < (dgT k N).length := by rw [← h, Array.length_toList]; exact hi
  have h2 := dgT_get N k i h1
  have h3 : (s[i]'hi) = (dgT k N)[i]'h1 := by
    have h4 : s.data.toList[i]'(by rw [Array.length_toList]; exact hi) = (dgT k N)[i]'h1 := by simp only [h]
    rw [← h4, Array.getElem_toList]; rfl
  rw [h3, h2]
  omega
/-- What Plain hands back, if that is false. -/
def PlainNo (N : Nat) (e : Int) (p : Nat) : Prop := ∃ r, r * r ≤ plN N e p ∧ plN N e p < (r + 1) * (r + 1) ∧ r / 10 ^ (figs r - p - 3) % 1000 ≠ 999 ∧ (r / 10 ^ (figs r - p - 3) % 1000 = 0 → r % 10 ^ (figs r - p) = 0 ∧ r * r = plN N e p)
def PlainB (w w' : World) (E : Ending) (N : Nat) (e : Int) (p : Nat) : Prop := ∃ b, E = .returned (.bool b) ∧ Below w.heap.size w w' ∧ (b = false → PlainNo N e p)
set_option maxRecDepth 20000 in
set_option maxHeartbeats 8000000 in
theorem plain_c (w : World) (n : Bool) (a : Option Addr) (l c : Nat) (e : Int) (N p : Nat) (hX : RdD w a l c (d16 N)) (hl : l ≤ 60) (hN0 : N ≠ 0) (hp : 1 ≤ p ∧ p ≤ 60) (_he : -200 ≤ e ∧ e ≤ 200) :
    Calls Tryz.prog 38 #[.agg #[.bool n, .slice a l c, .int .i64 e], .int .i64 (p : Int), .int .i64 3] w fun E w' => PlainB w w' E N e p := by
  obtain ⟨N1, hN1⟩ : ∃ N1, (if e % 2 = 0 then N else N * 10) = N1 := ⟨_, rfl⟩
  have hplN : plN N e p = N1 * 10 ^ (2 * (p + 5)) := by unfold plN; rw [hN1]
  obtain ⟨B, hB⟩ : ∃ B, plN N e p = B := ⟨_, rfl⟩
  have hN1b : N1 ≤ N * 10 := by rw [← hN1]; split <;> omega
  have hl1 : (d16 N1).length ≤ 64 := Nat.le_trans (d16_len_mono hN1b) (by
    have := d16_len_wide (i := 1) hX.len
    rw [Nat.pow_one] at this
    omega)
  have hl2 : (d16 B).length ≤ 64 + 2 * (p + 5) := by
    rw [← hB, hplN]
    have := d16_len_wide (N := N1) (i := 2 * (p + 5)) rfl
    omega
  have ekp : ((2 * (p + 5) : Nat) : Int) = 2 * ((p : Int) + 5) := by omega
  have kpw := fun W => pow10_c W (2 * (p + 5)) (by omega)
  simp only [ekp] at kpw
  have ek1 : IntKind.i64.wrap ((p : Int) + 3) = (p : Int) + 3 := IntWalk.i64_in _ (by omega)
  have ek2 : IntKind.i64.wrap ((p : Int) + 3 + 2) = (p : Int) + 5 := by rw [show (p : Int) + 3 + 2 = (p : Int) + 5 by omega]; exact IntWalk.i64_in _ (by omega)
  have ek3 : IntKind.i64.wrap (2 * ((p : Int) + 5)) = 2 * ((p : Int) + 5) := IntWalk.i64_in _ (by omega)
  replace ekp := Lib.hid ekp
  replace hX := Lib.hid hX
  replace kpw := Lib.hid kpw
  replace hplN := Lib.hid hplN
  go_enter Tryz.func38, Tryz.ntmps38
  go_upto_region 1 with (fail)
  generalize hW : w.alloc (.cells #[.bool n, .slice a l c, .int .i64 e] 30 (0, 0)) = W
  have hB0 : Below w.heap.size w W := by rw [← hW]; exact (Below.refl _ _).alloc (Nat.le_refl _) _
  have hX0 : Bxs [(w.heap.size, #[.bool n, .slice a l c, .int .i64 e], 30)] W := by rw [← hW]; exact ⟨allocB _ _, trivial⟩
  clear hW
  have hrW := hX.out.below hB0
  have v1 := cellB hX0.1 (i := 1) rfl
  have v2 := cellB hX0.1 (i := 2) rfl
  obtain ⟨htb1, htb2, htb3⟩ := tmod2 e
  obtain ⟨tm, htm⟩ : ∃ tm, e.tmod 2 = tm := ⟨_, rfl⟩
  rw [htm] at htb1 htb2 htb3
  have htw : IntKind.i64.wrap tm = tm := IntWalk.i64_in _ (by omega)
  replace hB0 := Lib.hid hB0
  replace hrW := Lib.hid hrW
  clear hX0
  go_upto_if 21 with (fail)
  go_cut [7] (fun v wx => ∃ q x y, v = .slice q x y ∧ RdD wx q x y (d16 N1) ∧ Below w.heap.size w wx)
  case first =>
    by_cases hev : e % 2 = 0
    · have h0 : tm = 0 := htb3.2 hev
      subst h0
      rw [if_pos hev] at hN1
      subst hN1
      go_wp2_with fail
      go_meet
      exact ⟨_, _, _, rfl, hrW.out, hB0.out⟩
    · have h0 : tm ≠ 0 := fun h => hev (htb3.1 h)
      have hz1 : (tm == 0) = false := beq_eq_false_iff_ne.2 h0
      have hz2 : (tm != 0) = true := by simp [bne, hz1]
      rw [if_neg hev] at hN1
      have ks := (show Calls Tryz.prog 33 #[.int .i64 10] W _ from smallD_c W 10 (by decide))
      replace ks := Lib.hid ks
      replace hN1 := Lib.hid hN1
      go_wp2_with fail
      with_reducible refine ks.out.mono ?_
      rintro E w1 ⟨p1, l1, c1, rfl, h1⟩
      have km := mulD_c w1 a p1 l c l1 c1 N 10 (hrW.out.below h1.bel) h1.rd (by omega) (by have := d16_len_ten (show 10 < 10 ^ 2 by decide); rw [h1.rd.len] at this; omega)
      rw [hN1.out] at km
      have hb1 := brise hB0.out h1.bel
      replace km := Lib.hid km
      replace hb1 := Lib.hid hb1
      clear h1 ks
      go_wp2_with fail
      with_reducible refine km.out.mono ?_
      rintro E w2 ⟨p2, l2, c2, rfl, h2⟩
      have hb2 := brise hb1.out h2.bel
      have hr2 := h2.rd
      replace hb2 := Lib.hid hb2
      replace hr2 := Lib.hid hr2
      clear h2 km hb1
      go_wp2_with fail
      go_meet
      exact ⟨_, _, _, rfl, hr2.out, hb2.out⟩
  case rest =>
  obtain ⟨q, x, y, rfl, hr, hb⟩ := hcut
  have hx1 : x ≤ 64 := by rw [← hr.len]; exact hl1
  replace hr := Lib.hid hr
  replace hb := Lib.hid hb
  clear v1 v2 htm htw hB0 hrW htb1 htb2 htb3
  go_wp2_with fail
  with_reducible refine (kpw.out _).mono ?_
  rintro E w3 ⟨p3, l3, c3, rfl, h3⟩
  have hl3 : l3 ≤ 200 := by
    have h4 := d16_len_ten (j := 2 * (p + 5) + 1) (Nat.pow_lt_pow_right (show 1 < 10 by decide) (Nat.lt_succ_self (2 * (p + 5))))
    rw [h3.rd.len] at h4
    omega
  have hr3 := hr.out.below h3.bel
  have km := mulD_c w3 q p3 x y l3 c3 N1 (10 ^ (2 * (p + 5))) hr3 h3.rd (by omega) (by omega)
  rw [← hplN.out, hB] at km
  have hb3 := brise hb.out h3.bel
  replace km := Lib.hid km
  replace hr3 := Lib.hid hr3
  replace hb3 := Lib.hid hb3
  clear h3
  go_wp2_with fail
  with_reducible refine km.out.mono ?_
  rintro E w4 ⟨p4, l4, c4, rfl, h4⟩
  have hl4 : l4 ≤ 200 := by have := h4.rd.len; omega
  have kr := rootD_c w4 p4 l4 c4 B h4.rd (by omega)
  have hr4 := hr3.out.below h4.bel
  have hb4 := brise hb3.out h4.bel
  replace kr := Lib.hid kr
  replace hr4 := Lib.hid hr4
  replace hb4 := Lib.hid hb4
  clear h4 km hr3 hb3
  go_wp2_with fail
  with_reducible refine kr.out.mono ?_
  rintro E w5 ⟨p5, l5, c5, r, rfl, h5, hr1, hr2⟩
  have hfr : p + 6 ≤ figs r := plN_root (p := p) (e := e) hN0 (by rw [hB]; exact hr2)
  have hr0 : r ≠ 0 := by rintro rfl; rw [figs_zero] at hfr; omega
  have hrB : r ≤ B := Nat.le_trans (Nat.le_mul_of_pos_right r (by omega)) hr1
  have hl5 : l5 ≤ 200 := by have h6 := d16_len_mono hrB; rw [h5.rd.len] at h6; omega
  have kd := digitsT_c w5 p5 l5 c5 r h5.rd (by omega) hr0
  have hr5 := hr4.out.below h5.bel
  have hb5 := brise hb4.out h5.bel
  replace kd := Lib.hid kd
  replace hr5 := Lib.hid hr5
  replace hb5 := Lib.hid hb5
  clear h5 kr hr4 hb4
  go_wp2_with fail
  with_reducible refine kd.out.mono ?_
  rintro E w6 ⟨s, rfl, hs1, hs2, hbd⟩
  have hr6 := hr5.out.below hbd
  have hb6 := brise hb5.out hbd
  have hF : figs r ≤ 1000 := by
    refine (figs_le_iff (by omega)).2 ?_
    obtain ⟨J, hJ⟩ : ∃ J, J = 200 := ⟨_, rfl⟩
    have h7 : r < 65536 ^ J := Nat.lt_of_le_of_lt hrB ((dB_len_le two16).1 (show (d16 B).length ≤ J by omega))
    refine Nat.lt_of_lt_of_le h7 ?_
    rw [show (1000 : Nat) = 5 * J by omega, Nat.pow_mul]
    exact Nat.pow_le_pow_left (by decide) J
  obtain ⟨F, hFe⟩ : ∃ F, figs r = F := ⟨_, rfl⟩
  rw [hFe] at hs1 hs2 hF hfr
  have hbyte := fun i (hi : i < s.size) => byte_at hs2 i hi
  replace hr6 := Lib.hid hr6
  replace hb6 := Lib.hid hb6
  replace hbyte := Lib.hid hbyte
  replace hr1 := Lib.hid hr1
  replace hr2 := Lib.hid hr2
  replace hs2 := Lib.hid hs2
  clear kd hr5 hb5 hbd
  have hix : ∀ (i : Nat) (W : World), i < F → (Instr.index 9 (.string s) (.int .i64 (i : Int))).run Tryz.prog W = .ok (.int .u8 (48 + ((r / 10 ^ (F - 1 - i) % 10 : Nat) : Int))) W := by
    intro i W hi
    have h8 := hbyte.out i (by omega)
    rw [run_index_string (h := Tryz.underlying9), dif_pos ⟨by omega, by omega⟩, ← h8]
    rfl
  have hcmp : ∀ (d c : Nat), ((48 + (d : Int)) == 48 + (c : Int)) = (d == c) := by
    intro d c
    by_cases h : d = c
    · subst h; simp
    · rw [beq_eq_false_iff_ne.2 h, beq_eq_false_iff_ne.2 (show (48 + (d : Int)) ≠ 48 + (c : Int) by omega)]
  have hc0 : ∀ d : Nat, ((48 + (d : Int)) == 48) = (d == 0) := fun d => hcmp d 0
  have hc9 : ∀ d : Nat, ((48 + (d : Int)) == 57) = (d == 9) := fun d => hcmp d 9
  replace hix := Lib.hid hix
  replace hc0 := Lib.hid hc0
  replace hc9 := Lib.hid hc9
  clear hcmp
  go_wp2_with fail
  go_loop [10, 11, 12] (fun nb ni i => ∃ t : Nat, t ≤ 3 ∧ i = .int .i64 ((p + t : Nat) : Int) ∧ nb = .bool (allF F r p 0 t) ∧ ni = .bool (allF F r p 9 t)) (fun _ _ i => 1000 - (intOf i).toNat)
  case atStart => exact ⟨0, by omega, by rfl, rfl, rfl⟩
  case round =>
    obtain ⟨t, ht, rfl, rfl, rfl⟩ := hrel
    by_cases ht3 : t = 3
    · subst ht3
      have hg1 : ¬ ((p + 3 : Nat) : Int) < (p : Int) + 3 := by omega
      have e9 : allF F r p 9 3 = decide (r / 10 ^ (F - p - 3) % 1000 = 999) := allF_three (by omega) (.inr rfl)
      have e0 : allF F r p 0 3 = decide (r / 10 ^ (F - p - 3) % 1000 = 0) := allF_three (by omega) (.inl rfl)
      by_cases h9 : r / 10 ^ (F - p - 3) % 1000 = 999
      · rw [decide_eq_true h9] at e9
        rw [e9]
        clear e9 e0
        go_wp2
        go_ret
        exact ⟨true, rfl, hb6.out, fun h => by cases h⟩
      · rw [decide_eq_false h9] at e9
        rw [e9]
        obtain ⟨b0, hb0⟩ : ∃ b0, allF F r p 0 3 = b0 := ⟨_, rfl⟩
        rw [hb0] at e0
        rw [hb0]
        replace e0 := Lib.hid e0
        replace hb0 := Lib.hid hb0
        replace h9 := Lib.hid h9
        clear e9 hc9 hg1
        have hsz : (s.size : Int) = (F : Int) := by omega
        go_wp2_with fail
        go_loop [13, 14] (fun ex i => ∃ t : Nat, p + t ≤ F ∧ i = .int .i64 ((p + t : Nat) : Int) ∧ ex = .bool (allF F r p 0 t)) (fun _ i => 2000 - (intOf i).toNat)
        case atStart => exact ⟨0, by omega, by rfl, rfl⟩
        case round =>
          obtain ⟨t, ht, rfl, rfl⟩ := hrel
          by_cases htF : p + t = F
          · have hg1 : ¬ ((p + t : Nat) : Int) < (F : Int) := by omega
            obtain ⟨bx, hbx⟩ : ∃ bx, allF F r p 0 t = bx := ⟨_, rfl⟩
            rw [hbx]
            replace hbx := Lib.hid hbx
            go_wp2_with fail
            with_reducible refine (kpw.out _).mono ?_
            rintro E w7 ⟨p7, l7, c7, rfl, h7⟩
            have hl7 : l7 ≤ 200 := by
              have h4 := d16_len_ten (j := 2 * (p + 5) + 1) (Nat.pow_lt_pow_right (show 1 < 10 by decide) (Nat.lt_succ_self (2 * (p + 5))))
              rw [h7.rd.len] at h4
              omega
            have hr7 := hr6.out.below h7.bel
            have km := mulD_c w7 q p7 x y l7 c7 N1 (10 ^ (2 * (p + 5))) hr7 h7.rd (by omega) (by omega)
            rw [← hplN.out, hB] at km
            have hb7 := brise hb6.out h7.bel
            replace km := Lib.hid km
            replace hr7 := Lib.hid hr7
            replace hb7 := Lib.hid hb7
            clear h7
            go_wp2_with fail
            with_reducible refine km.out.mono ?_
            rintro E w8 ⟨p8, l8, c8, rfl, h8⟩
            have hl8 : l8 ≤ 200 := by have := h8.rd.len; omega
            have kr := rootD_c w8 p8 l8 c8 B h8.rd (by omega)
            have hr8 := hr7.out.below h8.bel
            have hb8 := brise hb7.out h8.bel
            replace kr := Lib.hid kr
            replace hr8 := Lib.hid hr8
            replace hb8 := Lib.hid hb8
            clear h8 km hr7 hb7
            go_wp2_with fail
            with_reducible refine kr.out.mono ?_
            rintro E w9 ⟨p9, l9, c9, r9, rfl, h9', hq1, hq2⟩
            obtain rfl := root_uniq hr1.out hr2.out hq1 hq2
            have hb9 := brise hb8.out h9'.bel
            have hr9 := hr8.out.below h9'.bel
            have hl9 : l9 ≤ 200 := by
              have h6 := d16_len_mono (show r ≤ B from hrB)
              rw [h9'.rd.len] at h6
              omega
            have hrow := h9'.rd
            replace hb9 := Lib.hid hb9
            replace hr9 := Lib.hid hr9
            clear h9' kr hr8 hb8
            cases b0 with
            | false =>
              replace hrow := Lib.hid hrow
              go_wp2
              go_ret
              exact ⟨false, rfl, hb9.out, fun _ => ⟨r, by rw [hB]; exact hr1.out, by rw [hB]; exact hr2.out, by rw [hFe]; exact h9.out, fun h => by rw [hFe] at h; have := e0.out; rw [decide_eq_true h] at this; cases this⟩⟩
            | true =>
              cases bx with
              | false =>
                replace hrow := Lib.hid hrow
                go_wp2
                go_ret
                exact ⟨true, rfl, hb9.out, fun h => by cases h⟩
              | true =>
                have kmr := mulD_c w9 p9 p9 l9 c9 l9 c9 r r hrow hrow (by omega) (by omega)
                replace kmr := Lib.hid kmr
                clear hrow
                go_wp2_with fail
                with_reducible refine kmr.out.mono ?_
                rintro E w10 ⟨p10, l10, c10, rfl, h10⟩
                have hb10 := brise hb9.out h10.bel
                have hr10 := hr9.out.below h10.bel
                replace h10 := Lib.hid h10
                replace hb10 := Lib.hid hb10
                replace hr10 := Lib.hid hr10
                clear kmr hb9 hr9
                go_wp2_with fail
                with_reducible refine (kpw.out _).mono ?_
                rintro E w11 ⟨p11, l11, c11, rfl, h11⟩
                have hl11 : l11 ≤ 200 := by
                  have h4 := d16_len_ten (j := 2 * (p + 5) + 1) (Nat.pow_lt_pow_right (show 1 < 10 by decide) (Nat.lt_succ_self (2 * (p + 5))))
                  rw [h11.rd.len] at h4
                  omega
                have hr11 := hr10.out.below h11.bel
                have km := mulD_c w11 q p11 x y l11 c11 N1 (10 ^ (2 * (p + 5))) hr11 h11.rd (by omega) (by omega)
                rw [← hplN.out, hB] at km
                have hb11 := brise hb10.out h11.bel
                have hrr := h10.out.rd.below h11.bel
                replace km := Lib.hid km
                replace hb11 := Lib.hid hb11
                replace hrr := Lib.hid hrr
                clear h11 h10 hb10 hr10 hr11
                go_wp2_with fail
                with_reducible refine km.out.mono ?_
                rintro E w12 ⟨p12, l12, c12, rfl, h12⟩
                have kc := cmpD_c w12 p10 p12 l10 c10 l12 c12 (r * r) B (hrr.out.below h12.bel) h12.rd
                have hb12 := brise hb11.out h12.bel
                obtain ⟨rv, hrv⟩ : ∃ rv, ord3 (r * r) B = rv := ⟨_, rfl⟩
                have hz : (rv == 0) = decide (r * r = B) := by
                  rw [← hrv]
                  by_cases h : r * r = B
                  · rw [decide_eq_true h, ord3_zero.2 h]; rfl
                  · rw [decide_eq_false h]; exact beq_eq_false_iff_ne.2 (fun h2 => h (ord3_zero.1 h2))
                rw [hrv] at kc
                replace kc := Lib.hid kc
                replace hb12 := Lib.hid hb12
                replace hrv := Lib.hid hrv
                clear h12 km hb11 hrr
                go_wp2_with fail
                with_reducible refine kc.out.mono ?_
                rintro E w13 ⟨rfl, nn, hw⟩
                have hb13 : Below w.heap.size w w13 := by rw [hw]; exact Below.drwN hb12.out nn
                replace hb13 := Lib.hid hb13
                clear hw kc
                by_cases heq : r * r = B
                · rw [decide_eq_true heq] at hz
                  replace heq := Lib.hid heq
                  go_wp2
                  go_ret
                  refine ⟨false, rfl, hb13.out, fun _ => ⟨r, by rw [hB]; exact hr1.out, by rw [hB]; exact hr2.out, by rw [hFe]; exact h9.out, fun _ => ⟨?_, by rw [hB]; exact heq.out⟩⟩⟩
                  rw [hFe]
                  refine low_zero _ (fun i hi => ?_)
                  have h14 := allF_all hbx.out (F - 1 - i - p) (by omega)
                  rw [show F - 1 - (p + (F - 1 - i - p)) = i by omega] at h14
                  exact h14
                · rw [decide_eq_false heq] at hz
                  replace heq := Lib.hid heq
                  go_wp2
                  go_ret
                  exact ⟨true, rfl, hb13.out, fun h => by cases h⟩
          · have hg1 : ((p + t : Nat) : Int) < (F : Int) := by omega
            have hop := fun W => hix.out (p + t) W (by omega)
            have hcz := hc0.out (r / 10 ^ (F - 1 - (p + t)) % 10)
            have hbt := hbyte.out (p + t) (by omega)
            have ea : allF F r p 0 (t + 1) = (allF F r p 0 t && (r / 10 ^ (F - 1 - (p + t)) % 10 == 0)) := rfl
            generalize r / 10 ^ (F - 1 - (p + t)) % 10 = dd at hop hcz ea hbt
            obtain ⟨ba, hba⟩ : ∃ ba, allF F r p 0 t = ba := ⟨_, rfl⟩
            rw [hba] at ea
            rw [hba]
            replace hba := Lib.hid hba
            replace ea := Lib.hid ea
            have ei : IntKind.i64.wrap (((p + t : Nat) : Int) + 1) = ((p + (t + 1) : Nat) : Int) := by rw [show ((p + t : Nat) : Int) + 1 = ((p + (t + 1) : Nat) : Int) by omega]; exact IntWalk.i64_in _ (by omega)
            cases ba with
            | false =>
              clear hop hcz hbt
              go_wp2
              go_round
              case rel => exact ⟨t + 1, by omega, rfl, by rw [ea.out]; rfl⟩
              case measure => simp [intOf]; omega
            | true =>
              go_wp2_with (first | simp only [hop])
              go_round
              case rel => exact ⟨t + 1, by omega, rfl, by rw [ea.out]; first | rfl | (rw [hcz]; rfl) | (rw [hbt, hcz]; rfl)⟩
              case measure => simp [intOf]; omega
    · have hg1 : ((p + t : Nat) : Int) < (p : Int) + 3 := by omega
      have hop := fun W => hix.out (p + t) W (by omega)
      have hcz := hc0.out (r / 10 ^ (F - 1 - (p + t)) % 10)
      have hbt := hbyte.out (p + t) (by omega)
      have hcn := hc9.out (r / 10 ^ (F - 1 - (p + t)) % 10)
      have ea : allF F r p 0 (t + 1) = (allF F r p 0 t && (r / 10 ^ (F - 1 - (p + t)) % 10 == 0)) := rfl
      have eb : allF F r p 9 (t + 1) = (allF F r p 9 t && (r / 10 ^ (F - 1 - (p + t)) % 10 == 9)) := rfl
      generalize r / 10 ^ (F - 1 - (p + t)) % 10 = dd at hop hcz hcn ea eb hbt
      obtain ⟨ba, hba⟩ : ∃ ba, allF F r p 0 t = ba := ⟨_, rfl⟩
      obtain ⟨bn, hbn⟩ : ∃ bn, allF F r p 9 t = bn := ⟨_, rfl⟩
      rw [hba] at ea
      rw [hbn] at eb
      rw [hba, hbn]
      replace hba := Lib.hid hba
      replace hbn := Lib.hid hbn
      replace ea := Lib.hid ea
      replace eb := Lib.hid eb
      have ei : IntKind.i64.wrap (((p + t : Nat) : Int) + 1) = ((p + (t + 1) : Nat) : Int) := by rw [show ((p + t : Nat) : Int) + 1 = ((p + (t + 1) : Nat) : Int) by omega]; exact IntWalk.i64_in _ (by omega)
      cases ba <;> cases bn
      all_goals
        go_wp2_with (first | simp only [hop])
        go_round
        case rel => exact ⟨t + 1, by omega, rfl, by rw [ea.out]; first | rfl | (rw [hcz]; rfl) | (rw [hbt, hcz]; rfl), by rw [eb.out]; first | rfl | (rw [hcn]; rfl) | (rw [hbt, hcn]; rfl)⟩
        case measure => simp [intOf]; omega
end Go.Proofs.YtcoljeafgiemkaaGreatDoor
