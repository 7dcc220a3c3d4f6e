/- When the square root is told as exact: what impl.Sqrt tells, and the reference. -/
import Derived.Test.YtcoljeafgiemkaaGreatDoorSI
import Derived.Test.YtcoljeafgiemkaaGreatDoorSF
import Derived.Test.YtcoljeafgiemkaaGreatDoorSH
import Derived.Test.YtcoljeafgiemkaaGreatDoorSK
import Derived.Test.YtcoljeafgiemkaaGreatDoorSC
namespace Go.Proofs.YtcoljeafgiemkaaGreatDoor
open Go Go.RowKit

theorem cond4 (C p : Nat) : (bits .and .i64 (condN (rndC C p) : Int) 4 == 0) = decide (figs C ≤ p ∨ C % 10 ^ (figs C - p) = 0) := by
  unfold rndC
  by_cases h : figs C ≤ p
  · rw [if_pos h, decide_eq_true (.inl h)]; kernel_rfl
  · rw [if_neg h]
    by_cases h2 : C % 10 ^ (figs C - p) = 0
    · rw [show inexN C (figs C - p) = false by unfold inexN; rw [decide_eq_true h2]; rfl, decide_eq_true (.inr h2)]; kernel_rfl
    · rw [show inexN C (figs C - p) = true by unfold inexN; rw [decide_eq_false h2]; rfl, decide_eq_false (fun h3 => h3.elim h h2)]; kernel_rfl
theorem exactFacts (w : World) (hG : Glob w) (p m : Nat) (hm : m < 8) (hp : 1 ≤ p ∧ p ≤ 60) (e : Int) (A : Option Addr) (l c : Nat) (X : List Nat) (hX : RdW w A l c X) (hl : l ≤ 3) (he1 : -100 ≤ e) (he2 : e ≤ 100) (hX0 : val X ≠ 0) :
    ∃ (E1 : Int) (R : Nat) (cn : Int) (bz : Bool),
      (∀ W, Below w.heap.size w W → Calls Tryz.prog 32 #[.agg #[.int .u64 (p : Int), .int .i64 100000, .int .i64 (-100000), .int .i64 (m : Int)], .agg #[.int .i64 0, .bool false, .slice A l c, .int .i64 e]] W fun E w' => TellN W w' E false E1 R cn) ∧
      (digs R).length ≤ 900 ∧ (d16 R).length ≤ 60 ∧ (bits .and .i64 cn 4 == 0) = bz ∧
      (∀ W g lg cg, RdD W g lg cg (d16 R) → Calls Tryz.prog 37 #[.agg #[.bool false, .slice g lg cg, .int .i64 E1], .agg #[.bool false, .slice g lg cg, .int .i64 E1]] W fun E w' => ValN W w' E false (E1 + E1) (R * R)) ∧
      (PlainNo (val X) e p → ∀ W g lg cg v lv cv, RdD W g lg cg (d16 (R * R)) → RdD W v lv cv (d16 (val X)) → lv ≤ 60 → Calls Tryz.prog 24 #[.agg #[.bool false, .slice g lg cg, .int .i64 (E1 + E1)], .agg #[.bool false, .slice v lv cv, .int .i64 e]] W fun E w' => E = .returned (.bool bz) ∧ Below W.heap.size W w') := by
  obtain ⟨x1, x2⟩ := val3 hX.wd hX.len hl
  obtain ⟨⟨CL, eL⟩, hR⟩ : ∃ q, sqR (val X) e p = q := ⟨_, rfl⟩
  obtain ⟨k1, k2, k3, k4, k5, k6, k7⟩ := sqrtTold w hG p m hm hp e A l c X hX (by omega) (by omega) (by omega) (by omega) hX0 hR
  have hf := figs_200 (show nbits (val X) ≤ 200 by omega)
  have hRs := rndN_small false (N := CL) (m := 2) hp.1
  have hpl := fun {r i j : Nat} {g : Int} a b c d hg hi hj => sqrt_plain (r := r) (i := i) (j := j) (g := g) (E1 := eL + sqE2 (val X) e / 2 + (rndK false CL p 2 : Int)) hX0 hf hp (by omega) hR a b c d rfl rfl rfl hg hi hj
  generalize rndN false CL p 2 = R at *
  obtain ⟨E1, hE1⟩ : ∃ E1, eL + sqE2 (val X) e / 2 + (rndK false CL p 2 : Int) = E1 := ⟨_, rfl⟩
  simp only [hE1] at k1 hpl k4
  have h60 : R < 10 ^ 60 := Nat.lt_of_lt_of_le hRs (ten_le hp.2)
  have hRR : (d16 (R * R)).length ≤ 120 := d16_len_ten (by
    rw [show (120 : Nat) = 60 + 60 from rfl, Nat.pow_add]
    exact Nat.mul_lt_mul'' h60 h60)
  refine ⟨E1, R, _, _, k1, k6, k7, cond4 CL p, fun W g lg cg h => ?_, fun hno W g lg cg v lv cv h1 h2 h3 => ?_⟩
  · exact prodV_c W false false g g lg cg lg cg E1 E1 _ _ h h (by rw [← h.len]; omega) (by rw [← h.len]; omega) (by omega) (by omega)
  · obtain ⟨r, q1, q2, q3, q4⟩ := hno
    obtain ⟨g0, hg0⟩ : ∃ g0 : Int, g0 = min (E1 + E1) e := ⟨_, rfl⟩
    obtain ⟨i, hi⟩ : ∃ i : Nat, (i : Int) = E1 + E1 - g0 := ⟨(E1 + E1 - g0).toNat, by omega⟩
    obtain ⟨j, hj⟩ : ∃ j : Nat, (j : Int) = e - g0 := ⟨(e - g0).toNat, by omega⟩
    have h4 := hpl q1 q2 q3 q4 hg0 hi hj
    have k := sameP_c W g v lg cg lv cv (E1 + E1) e (R * R) (val X) g0 i j h1 h2 (by rw [← h1.len]; omega) (by omega) (by omega) (by omega) hg0.symm hi.symm hj.symm
    rw [show decide (R * R * 10 ^ i = val X * 10 ^ j) = decide (figs CL ≤ p ∨ CL % 10 ^ (figs CL - p) = 0) from decide_eq_decide.2 h4.symm] at k
    exact k
end Go.Proofs.YtcoljeafgiemkaaGreatDoor
