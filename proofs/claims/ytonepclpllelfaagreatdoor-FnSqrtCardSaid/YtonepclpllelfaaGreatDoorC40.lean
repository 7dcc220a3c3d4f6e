/- What impl.Sqrt tells of a decimal above 0, and the reference. The square root's law in the reference: the root less and more a unit, their squares, the order. -/
import Derived.Test.YtonepclpllelfaaGreatDoorC09
import Derived.Test.YtonepclpllelfaaGreatDoorC19
import Derived.Test.YtonepclpllelfaaGreatDoorC36
import Derived.Test.YtonepclpllelfaaGreatDoorC38
import Derived.Test.YtonepclpllelfaaGreatDoorC39
namespace Go.Proofs.YtonepclpllelfaaGreatDoor
open Go Go.RowKit

theorem bitsQ {r : Nat} (h : calm r) : bits .andNot .i64 (condN r : Int) 20 = 0 := by rcases h with rfl | rfl | rfl | rfl <;> kernel_rfl
theorem sqrtTold (w : World) (hG : Glob w) (p m : Nat) (hm : m < 8) (hp : 1 ≤ p ∧ p ≤ 60) (e : Int) (A : Option Addr) (l c : Nat) (X : List Nat) (hX : RdW w A l c X) (hl : l ≤ 900) (hXb : nbits (val X) ≤ 200) (he1 : -300 ≤ e) (he2 : e ≤ 300) (hX0 : val X ≠ 0) {CL : Nat} {eL : Int} (hR : sqR (val X) e p = (CL, eL)) :
    (∀ W, Below w.heap.size w W → Calls Tryz.prog 8 #[.agg #[.int .u64 (p : Int), .int .i64 100000, .int .i64 (-100000), .int .i64 (m : Int)], .agg #[.int .i64 0, .bool false, .slice A l c, .int .i64 e]] W fun E w' => TellN W w' E false (eL + sqE2 (val X) e / 2 + (rndK false CL p 2 : Int)) (rndN false CL p 2) (condN (rndC CL p) : Int)) ∧
      rndN false CL p 2 ≠ 0 ∧ figs (rndN false CL p 2) ≤ p ∧ (-250 ≤ eL + sqE2 (val X) e / 2 + (rndK false CL p 2 : Int) ∧ eL + sqE2 (val X) e / 2 + (rndK false CL p 2 : Int) ≤ 300) ∧ bits .andNot .i64 (condN (rndC CL p) : Int) 20 = 0 ∧ (digs (rndN false CL p 2)).length ≤ 900 ∧ (d16 (rndN false CL p 2)).length ≤ 60 := by
  have hf := figs_200 hXb
  obtain ⟨-, h1, h2, h3, h4⟩ := sq_end hX0 hf hp hR
  have hK := rndK_le false CL p 2
  have hx := sqE2_ex (val X) e
  have hef : -62 ≤ sqEF (val X) e ∧ sqEF (val X) e ≤ 0 := by
    have := figs_pos (val X)
    unfold sqEF; split <;> omega
  have hR1 := rndN_small false (N := CL) (m := 2) hp.1
  have hR2 := nb_ten hR1
  have hRl : (digs (rndN false CL p 2)).length ≤ 900 := Nat.le_trans (bits_w (k := 18) (by omega)) (by omega)
  refine ⟨fun W hb => ?_, rnd_ne hp.1 h2, rndN_figs hp.1, by omega, bitsQ (rndC_calm CL p), hRl, Nat.le_trans (d16_len_ten hR1) hp.2⟩
  refine (implSqrtG_c W (hG.bel hb) p m (rndC CL p) 100000 (-100000) e false A l c X (dec 0 false (eL + sqE2 (val X) e / 2 + (rndK false CL p 2 : Int)) false (rndN false CL p 2)) (QFin false (eL + sqE2 (val X) e / 2 + (rndK false CL p 2 : Int)) (rndN false CL p 2)) hm (by omega) (by omega) (by omega) (rndC_4096 CL p) (QFin.st _ _ _)
    (fun w4 τ d h4 hd => QFin.told h4 hd hRl (by omega)) (hX.below hb) (by omega) (by omega) (fun w1 σ c1 d1 x hh hc hd hx hdx => ?_)).mono (fun E w' h => tellN h)
  exact cSqrt_c hh hd hx hc hp hX0 hXb (by omega) hR
theorem sqrtFacts (w : World) (hG : Glob w) (p m : Nat) (hm : m < 8) (hp : 1 ≤ p ∧ p ≤ 60) (e : Int) (A : Option Addr) (l c : Nat) (X : List Nat) (hX : RdW w A l c X) (hl : l ≤ 3) (he1 : -100 ≤ e) (he2 : e ≤ 100) (hX0 : val X ≠ 0) :
    ∃ (E1 : Int) (R : Nat) (cn : Int) (D i j : Nat) (Eu g : Int),
      (∀ W, Below w.heap.size w W → Calls Tryz.prog 8 #[.agg #[.int .u64 (p : Int), .int .i64 100000, .int .i64 (-100000), .int .i64 (m : Int)], .agg #[.int .i64 0, .bool false, .slice A l c, .int .i64 e]] W fun E w' => TellN W w' E false E1 R cn) ∧
      R ≠ 0 ∧ figs R ≤ p ∧ (-250 ≤ E1 ∧ E1 ≤ 300) ∧ bits .andNot .i64 cn 20 = 0 ∧ (digs R).length ≤ 900 ∧ (d16 R).length ≤ 60 ∧
      D ≤ 60 ∧ Eu = E1 + (figs R : Int) - (p : Int) ∧ Eu = E1 - (D : Int) ∧ min (Eu + Eu) e = g ∧ Eu + Eu - g = (i : Int) ∧ e - g = (j : Int) ∧
      (R * 10 ^ D - 1) * (R * 10 ^ D - 1) * 10 ^ i < val X * 10 ^ j ∧ val X * 10 ^ j < (R * 10 ^ D + 1) * (R * 10 ^ D + 1) * 10 ^ i := by
  obtain ⟨x1, x2⟩ := val3 hX.wd hX.len hl
  obtain ⟨⟨CL, eL⟩, hR⟩ : ∃ q, sqR (val X) e p = q := ⟨_, rfl⟩
  obtain ⟨k1, k2, k3, k4, k5, k6, k7⟩ := sqrtTold w hG p m hm hp e A l c X hX (by omega) (by omega) (by omega) (by omega) hX0 hR
  have hf := figs_200 (show nbits (val X) ≤ 200 by omega)
  have hb := fun {D i j : Nat} {Eu g : Int} => sqrt_between (D := D) (i := i) (j := j) (Eu := Eu) (g := g) hX0 hf hp hR rfl rfl
  have hfp := figs_pos (rndN false CL p 2)
  generalize rndN false CL p 2 = R at *
  generalize rndK false CL p 2 = K at *
  obtain ⟨E1, hE1⟩ : ∃ E1, eL + sqE2 (val X) e / 2 + (K : Int) = E1 := ⟨_, rfl⟩
  rw [hE1] at hb k4
  simp only [hE1] at k1
  obtain ⟨D, hD⟩ : ∃ D, D = p - figs R := ⟨_, rfl⟩
  obtain ⟨Eu, hEu⟩ : ∃ Eu : Int, Eu = E1 - (D : Int) := ⟨_, rfl⟩
  obtain ⟨g, hg⟩ : ∃ g : Int, g = min (Eu + Eu) e := ⟨_, rfl⟩
  obtain ⟨i, hi⟩ : ∃ i : Nat, (i : Int) = Eu + Eu - g := ⟨(Eu + Eu - g).toNat, by omega⟩
  obtain ⟨j, hj⟩ : ∃ j : Nat, (j : Int) = e - g := ⟨(e - g).toNat, by omega⟩
  obtain ⟨b1, b2⟩ := hb hD hEu hg hi hj
  exact ⟨E1, R, _, D, i, j, Eu, g, k1, k2, k3, k4, k5, k6, k7, by omega, by omega, hEu, hg.symm, hi.symm, hj.symm, b1, b2⟩
end Go.Proofs.YtonepclpllelfaaGreatDoor

namespace Go.Proofs.YtonepclpllelfaaGreatDoor
open Go Go.RowKit

theorem sqrtRef {R D p N i j : Nat} {E1 Eu g e : Int} (hp : p ≤ 60) (hR0 : R ≠ 0) (hRp : figs R ≤ p) (hE : -250 ≤ E1 ∧ E1 ≤ 300) (_hD : D ≤ 60) (hEu1 : Eu = E1 + (figs R : Int) - (p : Int)) (hEu : Eu = E1 - (D : Int)) (hg : min (Eu + Eu) e = g) (hi : Eu + Eu - g = (i : Int)) (hj : e - g = (j : Int)) (he : -100 ≤ e ∧ e ≤ 100)
    (hlo : (R * 10 ^ D - 1) * (R * 10 ^ D - 1) * 10 ^ i < N * 10 ^ j) (hhi : N * 10 ^ j < (R * 10 ^ D + 1) * (R * 10 ^ D + 1) * 10 ^ i) :
    (∀ W a la ca u lu cu, RdD W a la ca (d16 R) → RdD W u lu cu (d16 1) → la ≤ 60 → Calls Tryz.prog 12 #[.agg #[.bool false, .slice a la ca, .int .i64 E1], .agg #[.bool true, .slice u lu cu, .int .i64 Eu]] W fun E w' => ValN W w' E false Eu (R * 10 ^ D - 1)) ∧
    (∀ W a la ca u lu cu, RdD W a la ca (d16 R) → RdD W u lu cu (d16 1) → la ≤ 60 → Calls Tryz.prog 12 #[.agg #[.bool false, .slice a la ca, .int .i64 E1], .agg #[.bool false, .slice u lu cu, .int .i64 Eu]] W fun E w' => ValN W w' E false Eu (R * 10 ^ D + 1)) ∧
    (∀ W a la ca, RdD W a la ca (d16 (R * 10 ^ D - 1)) → Calls Tryz.prog 15 #[.agg #[.bool false, .slice a la ca, .int .i64 Eu], .agg #[.bool false, .slice a la ca, .int .i64 Eu]] W fun E w' => ValN W w' E false (Eu + Eu) ((R * 10 ^ D - 1) * (R * 10 ^ D - 1))) ∧
    (∀ W a la ca, RdD W a la ca (d16 (R * 10 ^ D + 1)) → Calls Tryz.prog 15 #[.agg #[.bool false, .slice a la ca, .int .i64 Eu], .agg #[.bool false, .slice a la ca, .int .i64 Eu]] W fun E w' => ValN W w' E false (Eu + Eu) ((R * 10 ^ D + 1) * (R * 10 ^ D + 1))) ∧
    (∀ W a la ca u lu cu, RdD W a la ca (d16 ((R * 10 ^ D - 1) * (R * 10 ^ D - 1))) → RdD W u lu cu (d16 N) → lu ≤ 60 → Calls Tryz.prog 14 #[.agg #[.bool false, .slice a la ca, .int .i64 (Eu + Eu)], .agg #[.bool false, .slice u lu cu, .int .i64 e]] W fun E w' => E = .returned (.int .i64 (-1)) ∧ Below W.heap.size W w') ∧
    (∀ W a la ca u lu cu, RdD W a la ca (d16 ((R * 10 ^ D + 1) * (R * 10 ^ D + 1))) → RdD W u lu cu (d16 N) → lu ≤ 60 → Calls Tryz.prog 14 #[.agg #[.bool false, .slice a la ca, .int .i64 (Eu + Eu)], .agg #[.bool false, .slice u lu cu, .int .i64 e]] W fun E w' => E = .returned (.int .i64 1) ∧ Below W.heap.size W w') := by
  have hGp : R * 10 ^ D < 10 ^ 60 := by
    have h1 := Nat.mul_lt_mul_of_pos_right (figs_lt R) (ten_pos D)
    rw [← Nat.pow_add] at h1
    exact Nat.lt_of_lt_of_le h1 (ten_le (by omega))
  have hG1 : 1 ≤ R * 10 ^ D := Nat.mul_pos (by omega) (ten_pos D)
  obtain ⟨G, hGe⟩ : ∃ G, R * 10 ^ D = G := ⟨_, rfl⟩
  rw [hGe] at hGp hG1 hlo hhi ⊢
  have h61 := ten_succ 60
  have l1 := d16_len_ten (show G - 1 < 10 ^ 61 by omega)
  have l2 := d16_len_ten (show G + 1 < 10 ^ 61 by omega)
  have l3 : ∀ H, H < 10 ^ 61 → (d16 (H * H)).length ≤ 122 := fun H hH => d16_len_ten (by
    rw [show (122 : Nat) = 61 + 61 from rfl, Nat.pow_add]
    exact Nat.mul_lt_mul'' hH hH)
  have l4 := l3 (G - 1) (by omega)
  have l5 := l3 (G + 1) (by omega)
  have l6 := d16_len_ten (show 1 < 10 ^ 1 by decide)
  have hmin : min E1 Eu = Eu := by omega
  have s1 := fun W a la ca u lu cu (h1 : RdD W a la ca (d16 R)) (h2 : RdD W u lu cu (d16 1)) (h3 : la ≤ 60) => sumV_c W false true a u la ca lu cu E1 Eu R 1 Eu D 0 G 1 h1 h2 (by omega) (by rw [← h2.len]; omega) (by omega) (by omega) hmin (by omega) (by omega) hGe.symm rfl
  have s2 := fun W a la ca u lu cu (h1 : RdD W a la ca (d16 R)) (h2 : RdD W u lu cu (d16 1)) (h3 : la ≤ 60) => sumV_c W false false a u la ca lu cu E1 Eu R 1 Eu D 0 G 1 h1 h2 (by omega) (by rw [← h2.len]; omega) (by omega) (by omega) hmin (by omega) (by omega) hGe.symm rfl
  have e1 : sumS false true G 1 = false := by unfold sumS; rw [if_neg (by decide), if_pos hG1]
  have e2 : sumS false false G 1 = false := by unfold sumS; rw [if_pos rfl]
  rw [e1, if_neg (show ¬ false = true by decide), if_pos hG1] at s1
  rw [e2, if_pos rfl] at s2
  have o1 : ord3 ((G - 1) * (G - 1) * 10 ^ i) (N * 10 ^ j) = -1 := by unfold ord3; rw [if_pos hlo]
  have o2 : ord3 ((G + 1) * (G + 1) * 10 ^ i) (N * 10 ^ j) = 1 := by unfold ord3; rw [if_neg (by omega), if_pos hhi]
  refine ⟨s1, s2, fun W a la ca h => ?_, fun W a la ca h => ?_, fun W a la ca u lu cu h1 h2 h3 => ?_, fun W a la ca u lu cu h1 h2 h3 => ?_⟩
  · exact prodV_c W false false a a la ca la ca Eu Eu _ _ h h (by rw [← h.len]; omega) (by rw [← h.len]; omega) (by omega) (by omega)
  · exact prodV_c W false false a a la ca la ca Eu Eu _ _ h h (by rw [← h.len]; omega) (by rw [← h.len]; omega) (by omega) (by omega)
  · have k := orderP_c W a u la ca lu cu (Eu + Eu) e _ N g i j _ _ h1 h2 (by rw [← h1.len]; omega) (by omega) (by omega) (by omega) hg hi hj rfl rfl
    rw [o1] at k
    exact k
  · have k := orderP_c W a u la ca lu cu (Eu + Eu) e _ N g i j _ _ h1 h2 (by rw [← h1.len]; omega) (by omega) (by omega) (by omega) hg hi hj rfl rfl
    rw [o2] at k
    exact k
end Go.Proofs.YtonepclpllelfaaGreatDoor
