/- What impl.Quantize tells, and the reference. -/
import Derived.Test.YtcoljeafgiemkaaGreatDoorY48
namespace Go.Proofs.YtcoljeafgiemkaaGreatDoor
open Go Go.RowKit

theorem bits1024 : (bits .and .i64 (condN 1024 : Int) 256 != 0) = true := by kernel_rfl
/-- Quantized, or no valid operation. -/
theorem quantFacts (w : World) (hG : Glob w) (p m : Nat) (hm : m < 8) (hp : 1 ≤ p ∧ p ≤ 60) (e q : Int) (n : Bool) (A : Option Addr) (l c : Nat) (X : List Nat) (hX : RdW w A l c X) (hl : l ≤ 3) (he1 : -100 ≤ e) (he2 : e ≤ 100) (hq : -100 ≤ q ∧ q ≤ 100) (hn : Near5 (val X) e q m) :
    ∃ (RW : Nat) (cn : Int) (ix : Bool),
      (figs RW ≤ p → ∀ W, Below w.heap.size w W → Calls Tryz.prog 14 #[.agg #[.int .u64 (p : Int), .int .i64 100000, .int .i64 (-100000), .int .i64 (m : Int)], .agg #[.int .i64 0, .bool n, .slice A l c, .int .i64 e], .int .i64 q] W fun E w' => TellN W w' E n q RW cn) ∧
      (p < figs RW → ∀ W, Below w.heap.size w W → Calls Tryz.prog 14 #[.agg #[.int .u64 (p : Int), .int .i64 100000, .int .i64 (-100000), .int .i64 (m : Int)], .agg #[.int .i64 0, .bool n, .slice A l c, .int .i64 e], .int .i64 q] W fun E w' => TellC W w' E (condN 1024 : Int)) ∧
      (q ≤ e → RW = val X * 10 ^ (e - q).toNat ∧ ix = false) ∧ (e < q → RW = cutN n (val X) (q - e).toNat m ∧ ix = inexN (val X) (q - e).toNat) ∧
      (bits .and .i64 cn 4 != 0) = ix ∧ (bits .and .i64 cn 256 == 0) = true ∧ (digs RW).length ≤ 900 ∧ (d16 RW).length ≤ 260 := by
  obtain ⟨x1, x2⟩ := val3 hX.wd hX.len hl
  obtain ⟨N, hN⟩ : ∃ N, val X = N := ⟨_, rfl⟩
  rw [hN] at x1 x2 hn ⊢
  obtain ⟨R, r, hqc⟩ := qcase_ex n N e q m
  obtain ⟨q1, q2, q3, q4⟩ := qcase_near hqc hn
  have hcm := qcase_calm hqc
  have hr4 : r < 4096 := (calm_4096 hcm).1
  have hRb := qcase_bits hqc (by omega) (by omega) (by omega)
  have hRw : (digs R).length ≤ 900 := Nat.le_trans (bits_w (k := 18) (by omega)) (by omega)
  have h59 : N + 1 < 10 ^ 59 := by have := ten_succ 58; omega
  have hRd : (d16 R).length ≤ 260 := by
    have h1 : R < 10 ^ 260 := by
      obtain ⟨J, hJ⟩ : ∃ J, J = 260 := ⟨_, rfl⟩
      rw [← hJ]
      by_cases h : q ≤ e
      · rw [q1 h]
        have h2 : N * 10 ^ (e - q).toNat < 10 ^ (59 + (e - q).toNat) := by rw [Nat.pow_add]; exact Nat.mul_lt_mul_of_pos_right (by omega) (ten_pos _)
        have h3 := ten_le (show 59 + (e - q).toNat ≤ J by omega)
        omega
      · have h2 : R ≤ N + 1 := by rw [q2 (by omega)]; have := cutN_lt n N (q - e).toNat m; omega
        have h3 := ten_le (show 59 ≤ J by omega)
        omega
    exact d16_len_ten h1
  refine ⟨R, (condN r : Int), qIx N e q, fun hf W hb => ?_, fun hf W hb => ?_, fun h => ⟨q1 h, by unfold qIx; rw [if_pos h]⟩, fun h => ⟨q2 h, by unfold qIx; rw [if_neg (by omega)]⟩, q3, q4, hRw, hRd⟩
  · refine (implQuantizeG_c W (hG.bel hb) p m r 100000 (-100000) e q n A l c X (dec 0 n q false R) (QFin n q R) hm (by omega) (by omega) (by omega) hr4 (by omega) (QFin.st _ _ _)
      (fun w4 τ d h4 hd => QFin.told h4 hd hRw (by omega)) (hX.below hb) (by omega) (by omega) (fun w1 σ c1 d1 x hh hc hd hx hdx => ?_)).mono (fun E w' h => tellN h)
    rw [hN] at hx
    refine (cQuantize_c hh hd hx hc (by omega) (by omega) (by omega) hm (by omega) (by omega) hq hqc).mono (fun E w' h => ?_)
    rcases h with ⟨_, hE, h⟩ | ⟨h1, _, _⟩
    · exact ⟨hE, h⟩
    · omega
  · refine (implQuantizeG_c W (hG.bel hb) p m 1024 100000 (-100000) e q n A l c X (dec 3 false 0 false 0) (QForm 3 false) hm (by omega) (by omega) (by omega) (by omega) (by omega) (QForm.st _ _)
      (fun w4 τ d h4 hd => QForm.told h4 hd (.inr (.inr rfl))) (hX.below hb) (by omega) (by omega) (fun w1 σ c1 d1 x hh hc hd hx hdx => ?_)).mono (fun E w' h => tellC h)
    rw [hN] at hx
    refine (cQuantize_c hh hd hx hc (by omega) (by omega) (by omega) hm (by omega) (by omega) hq hqc).mono (fun E w' h => ?_)
    rcases h with ⟨h1, _, _⟩ | ⟨_, hE, h⟩
    · omega
    · exact ⟨hE, h⟩
end Go.Proofs.YtcoljeafgiemkaaGreatDoor
