/- What impl.RoundToIntegralExact, RoundToIntegralValue, Quantize tell, and the reference. -/
import Derived.Test.YtcoljeafgiemkaaGreatDoorY47
import Derived.Test.YtcoljeafgiemkaaGreatDoorC45
import Derived.Test.YtcoljeafgiemkaaGreatDoorY14RoundToIntegralExact
import Derived.Test.YtcoljeafgiemkaaGreatDoorY14RoundToIntegralValue
import Derived.Test.YtcoljeafgiemkaaGreatDoorY14Quantize
import Derived.Test.YtcoljeafgiemkaaGreatDoorC40
import Derived.Test.YtcoljeafgiemkaaGreatDoorC27
import Derived.Test.YtcoljeafgiemkaaGreatDoorO22
namespace Go.Proofs.YtcoljeafgiemkaaGreatDoor
open Go Go.RowKit

/-- No more figures are cut off than there are, or the mode is to the nearest, or down. -/
def Near5 (N : Nat) (e q : Int) (m : Nat) : Prop := (q - e).toNat ≤ figs N ∨ N = 0 ∨ m = 0 ∨ m = 1 ∨ m = 2 ∨ m = 5
/-- Is the quantized number another one? -/
def qIx (N : Nat) (e q : Int) : Bool := if q ≤ e then false else inexN N (q - e).toNat
theorem cutN_zero (n : Bool) (k m : Nat) : cutN n 0 k m = 0 := by unfold cutN; rw [if_pos (Nat.zero_mod _), Nat.zero_div]
theorem inexN_zero (k : Nat) : inexN 0 k = false := by unfold inexN; simp
theorem qcase_near {n : Bool} {N : Nat} {e q : Int} {m R r : Nat} (h : QCase n N e q m R r) (hn : Near5 N e q m) : (q ≤ e → R = N * 10 ^ (e - q).toNat) ∧ (e < q → R = cutN n N (q - e).toNat m) ∧ (bits .and .i64 (condN r : Int) 4 != 0) = qIx N e q ∧ (bits .and .i64 (condN r : Int) 256 == 0) = true := by
  have b0 : (bits .and .i64 (condN 0 : Int) 4 != 0) = false ∧ (bits .and .i64 (condN 0 : Int) 256 == 0) = true := ⟨by kernel_rfl, by kernel_rfl⟩
  have b64 : (bits .and .i64 (condN 64 : Int) 4 != 0) = false ∧ (bits .and .i64 (condN 64 : Int) 256 == 0) = true := ⟨by kernel_rfl, by kernel_rfl⟩
  have b80 : (bits .and .i64 (condN 80 : Int) 4 != 0) = true ∧ (bits .and .i64 (condN 80 : Int) 256 == 0) = true := ⟨by kernel_rfl, by kernel_rfl⟩
  unfold qIx
  rcases h with ⟨h1, h2, rfl⟩ | ⟨h1, h2, h3, h4⟩ | ⟨h1, h2, h3, h4⟩
  · rw [if_pos h1]
    exact ⟨fun _ => h2, fun h => by omega, b0.1, b0.2⟩
  · rw [if_neg (by omega)]
    by_cases h0 : N = 0
    · rw [if_pos h0] at h4
      subst h4
      refine ⟨fun h => by omega, fun _ => by rw [h3, h0, cutN_zero], by rw [h0, inexN_zero]; exact b0.1, b0.2⟩
    · rw [if_neg h0] at h4
      subst h4
      have hm : m = 0 ∨ m = 1 ∨ m = 2 ∨ m = 5 := by
        rcases hn with h | h | h
        · omega
        · exact absurd h h0
        · exact h
      exact ⟨fun h => by omega, fun _ => by rw [h3, cutN_far n h2 hm], by rw [inexN_far h2, decide_eq_false h0]; exact b80.1, b80.2⟩
  · rw [if_neg (by omega)]
    refine ⟨fun h => by omega, fun _ => h3, ?_, ?_⟩
    · rw [h4]
      cases inexN N (q - e).toNat with
      | true => exact b80.1
      | false => exact b64.1
    · rw [h4]
      cases inexN N (q - e).toNat with
      | true => exact b80.2
      | false => exact b64.2
theorem integralFacts (w : World) (hG : Glob w) (p m : Nat) (hm : m < 8) (hp : 1 ≤ p ∧ p ≤ 60) (e : Int) (n : Bool) (A : Option Addr) (l c : Nat) (X : List Nat) (hX : RdW w A l c X) (hl : l ≤ 3) (he1 : -100 ≤ e) (he2 : e ≤ 100) (hn : Near5 (val X) e 0 m) :
    ∃ (E1 : Int) (R RW : Nat) (cn : Int) (ix : Bool),
      (∀ W, Below w.heap.size w W → Calls Tryz.prog 21 #[.agg #[.int .u64 (p : Int), .int .i64 100000, .int .i64 (-100000), .int .i64 (m : Int)], .agg #[.int .i64 0, .bool n, .slice A l c, .int .i64 e]] W fun E w' => TellN W w' E n 0 R cn) ∧
      (∀ W, Below w.heap.size w W → Calls Tryz.prog 22 #[.agg #[.int .u64 (p : Int), .int .i64 100000, .int .i64 (-100000), .int .i64 (m : Int)], .agg #[.int .i64 0, .bool n, .slice A l c, .int .i64 e]] W fun E w' => TellN W w' E n 0 R (condN 0 : Int)) ∧
      (∀ W p0 m0 k0, RdD W p0 m0 k0 (d16 (val X)) → Calls Tryz.prog 20 #[.agg #[.bool n, .slice p0 m0 k0, .int .i64 e], .int .i64 (m : Int)] W fun E w' => WholeB W w' E n E1 RW ix) ∧
      (∀ W g lg cg v lv cv, RdD W g lg cg (d16 R) → RdD W v lv cv (d16 RW) → Calls Tryz.prog 24 #[.agg #[.bool n, .slice g lg cg, .int .i64 0], .agg #[.bool n, .slice v lv cv, .int .i64 E1]] W fun E w' => E = .returned (.bool true) ∧ Below W.heap.size W w') ∧
      (bits .and .i64 cn 4 != 0) = ix ∧ (digs R).length ≤ 900 := by
  obtain ⟨x1, x2⟩ := val3 hX.wd hX.len hl
  obtain ⟨N, hN⟩ : ∃ N, val X = N := ⟨_, rfl⟩
  rw [hN] at x1 x2 hn
  obtain ⟨R, r, hqc⟩ := qcase_ex n N e 0 m
  obtain ⟨q1, q2, q3, -⟩ := qcase_near hqc hn
  have hcm := qcase_calm hqc
  have hr4 : r < 4096 := (calm_4096 hcm).1
  have hRb := qcase_bits hqc (by omega) (by omega) (by omega)
  have hRw : (digs R).length ≤ 900 := Nat.le_trans (bits_w (k := 18) (by omega)) (by omega)
  obtain ⟨E1, RW, hwh, hsc, hE1⟩ : ∃ (E1 : Int) (RW : Nat), ((0 ≤ e ∧ E1 = e ∧ RW = N ∧ qIx N e 0 = false) ∨ ∃ k : Nat, -e = (k : Int) ∧ 1 ≤ k ∧ k ≤ 900 ∧ E1 = 0 ∧ RW = cutN n N k m ∧ qIx N e 0 = inexN N k) ∧ R * 10 ^ 0 = RW * 10 ^ E1.toNat ∧ (0 ≤ E1 ∧ E1 ≤ 100) := by
    by_cases h : 0 ≤ e
    · refine ⟨e, N, .inl ⟨h, rfl, rfl, by unfold qIx; rw [if_pos h]⟩, ?_, by omega⟩
      rw [q1 h, Nat.pow_zero, Nat.mul_one, Int.sub_zero]
    · refine ⟨0, cutN n N (-e).toNat m, .inr ⟨(-e).toNat, by omega, by omega, by omega, rfl, rfl, by unfold qIx; rw [if_neg h, Int.zero_sub]⟩, ?_, by omega⟩
      rw [q2 (by omega), Int.zero_sub]; rfl
  have hRWb : RW ≤ N + 1 := by
    rcases hwh with ⟨_, _, h, _⟩ | ⟨k, _, _, _, _, h, _⟩
    · omega
    · rw [h]; have := cutN_lt n N k m; omega
  have h59 : N + 1 < 10 ^ 59 := by have := ten_succ 58; omega
  have hRWd := d16_len_ten (show RW < 10 ^ 59 by omega)
  have hRd : (d16 R).length ≤ 260 := by
    have h1 : R < 10 ^ 260 := by
      obtain ⟨J, hJ⟩ : ∃ J, J = 260 := ⟨_, rfl⟩
      rw [← hJ]
      have h2 : RW * 10 ^ E1.toNat < 10 ^ (59 + E1.toNat) := by rw [Nat.pow_add]; exact Nat.mul_lt_mul_of_pos_right (by omega) (ten_pos _)
      have h3 := ten_le (show 59 + E1.toNat ≤ J by omega)
      rw [Nat.pow_zero, Nat.mul_one] at hsc
      omega
    exact d16_len_ten h1
  refine ⟨E1, R, RW, (condN r : Int), qIx N e 0, fun W hb => ?_, fun W hb => ?_, fun W p0 m0 k0 h1 => ?_, fun W g lg cg v lv cv h1 h2 => ?_, q3, hRw⟩
  · refine (implRoundToIntegralExactG_c W (hG.bel hb) p m r 100000 (-100000) e n A l c X (dec 0 n 0 false R) (QFin n 0 R) hm (by omega) (by omega) (by omega) hr4 (QFin.st _ _ _)
      (fun w4 τ d h4 hd => QFin.told h4 hd hRw (by omega)) (hX.below hb) (by omega) (by omega) (fun w1 σ c1 d1 x hh hc hd hx hdx => ?_)).mono (fun E w' h => tellN h)
    rw [hN] at hx
    exact cExact_c hh hd hx hc (by omega) (by omega) hm (by omega) (by omega) hqc
  · refine (implRoundToIntegralValueG_c W (hG.bel hb) p m 0 100000 (-100000) e n A l c X (dec 0 n 0 false R) (QFin n 0 R) hm (by omega) (by omega) (by omega) (by omega) (QFin.st _ _ _)
      (fun w4 τ d h4 hd => QFin.told h4 hd hRw (by omega)) (hX.below hb) (by omega) (by omega) (fun w1 σ c1 d1 x hh hc hd hx hdx => ?_)).mono (fun E w' h => tellN h)
    rw [hN] at hx
    exact cValue_c hh hd hx hc (by omega) (by omega) hm (by omega) (by omega) hqc
  · rw [hN] at h1
    exact wholeB_c W n p0 m0 k0 e N m h1 (by have h3 := d16_len_ten x1; rw [h1.len] at h3; omega) hm hwh
  · exact same_c W n n g v lg cg lv cv 0 E1 R RW 0 0 E1.toNat h1 h2 (by rw [← h1.len]; omega) (by rw [← h2.len]; omega) (by omega) (by omega) (by omega) (by omega) (by omega) ⟨.inl rfl, hsc⟩
end Go.Proofs.YtcoljeafgiemkaaGreatDoor
