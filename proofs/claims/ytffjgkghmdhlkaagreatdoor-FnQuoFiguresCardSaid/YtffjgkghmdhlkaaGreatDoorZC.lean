/- What the thin package tells: a number, or any answer. What impl.Rem tells, and what the reference says of it. What impl.Quo tells, and what the reference says of it. -/
import Derived.Test.YtffjgkghmdhlkaaGreatDoorC32
import Derived.Test.YtffjgkghmdhlkaaGreatDoorZB
import Derived.Test.YtffjgkghmdhlkaaGreatDoorY14Rem
import Derived.Test.YtffjgkghmdhlkaaGreatDoorZA
import Derived.Test.YtffjgkghmdhlkaaGreatDoorY14Quo
namespace Go.Proofs.YtffjgkghmdhlkaaGreatDoor
open Go Go.RowKit

/-- What is told, but for the answer. -/
def TellC (w w' : World) (E : Ending) (cn : Int) : Prop := ∃ F s q l cc e1, E = .returned (.tuple #[.agg #[.int .i64 F, .bool s, .slice q l cc, .int .i64 e1], .int .i64 cn, .bool true]) ∧ Chg w w' (fun _ => False)
/-- A number is told. -/
def TellN (w w' : World) (E : Ending) (n : Bool) (e : Int) (N : Nat) (cn : Int) : Prop := ∃ q cc, E = .returned (.tuple #[.agg #[.int .i64 0, .bool n, .slice q (digs N).length cc, .int .i64 e], .int .i64 cn, .bool true]) ∧ RdW w' q (digs N).length cc (digs N) ∧ Chg w w' (fun _ => False)
theorem tellN {w w' : World} {E : Ending} {n : Bool} {e : Int} {N cn : Nat} (h : ImplQ (QFin n e N) w w' E cn) : TellN w w' E n e N (cn : Int) := by
  obtain ⟨F, s, q, l, cc, e1, hE, ⟨rfl, rfl, rfl, rfl, hr⟩, hc⟩ := h
  exact ⟨q, cc, hE, hr, hc⟩
theorem TellN.c {w w' : World} {E : Ending} {n : Bool} {e : Int} {N : Nat} {cn : Int} (h : TellN w w' E n e N cn) : TellC w w' E cn := by
  obtain ⟨q, cc, hE, _, hc⟩ := h
  exact ⟨_, _, _, _, _, _, hE, hc⟩
theorem tellC {w w' : World} {E : Ending} {f : Int} {n : Bool} {cn : Nat} (h : ImplQ (QForm f n) w w' E cn) : TellC w w' E (cn : Int) := by
  obtain ⟨F, s, q, l, cc, e1, hE, _, hc⟩ := h
  exact ⟨_, _, _, _, _, _, hE, hc⟩
end Go.Proofs.YtffjgkghmdhlkaaGreatDoor
namespace Go.Proofs.YtffjgkghmdhlkaaGreatDoor
open Go Go.RowKit

theorem bits512 : (bits .and .i64 (condN 512 : Int) 128 != 0) = true := by kernel_rfl
theorem bitsZ : (bits .and .i64 (condN 0 : Int) 128 == 0) = true := by kernel_rfl
/-- What is left of finite decimals, the divisor not 0: what is told, and the reference. -/
theorem remFacts (w : World) (hG : Glob w) (p m : Nat) (hm : m < 8) (hp : 1 ≤ p ∧ p ≤ 60) (e d : Int) (n o : Bool) (A B : Option Addr) (l c r s : Nat) (X Y : List Nat) (hX : RdW w A l c X) (hY : RdW w B r s Y)
    (hl : l ≤ 3) (hr : r ≤ 3) (he1 : -100 ≤ e) (he2 : e ≤ 100) (hd1 : -100 ≤ d) (hd2 : d ≤ 100) (hY0 : val Y ≠ 0) :
    ∃ (G : Int) (Q R : Nat),
      (∀ W p0 m0 k0 q0 n0 j0, RdD W p0 m0 k0 (d16 (val X)) → RdD W q0 n0 j0 (d16 (val Y)) → Calls Tryz.prog 20 #[.agg #[.bool n, .slice p0 m0 k0, .int .i64 e], .agg #[.bool o, .slice q0 n0 j0, .int .i64 d]] W fun E w' => DivV W w' E n o G Q R) ∧
      (figs R ≤ p → figs Q ≤ p → ∀ W, Below w.heap.size w W → Calls Tryz.prog 21 #[.agg #[.int .u64 (p : Int), .int .i64 100000, .int .i64 (-100000), .int .i64 (m : Int)], .agg #[.int .i64 0, .bool n, .slice A l c, .int .i64 e], .agg #[.int .i64 0, .bool o, .slice B r s, .int .i64 d]] W fun E w' => TellN W w' E n G R (condN 0 : Int)) ∧
      (p < figs Q → ∀ W, Below w.heap.size w W → Calls Tryz.prog 21 #[.agg #[.int .u64 (p : Int), .int .i64 100000, .int .i64 (-100000), .int .i64 (m : Int)], .agg #[.int .i64 0, .bool n, .slice A l c, .int .i64 e], .agg #[.int .i64 0, .bool o, .slice B r s, .int .i64 d]] W fun E w' => TellC W w' E (condN 512 : Int)) ∧
      (∀ W g lg cg v lv cv, RdD W g lg cg (d16 R) → RdD W v lv cv (d16 R) → Calls Tryz.prog 18 #[.agg #[.bool n, .slice g lg cg, .int .i64 G], .agg #[.bool n, .slice v lv cv, .int .i64 G]] W fun E w' => E = .returned (.bool true) ∧ Below W.heap.size W w') ∧
      (digs R).length ≤ 900 ∧ (d16 R).length ≤ 900 ∧ (d16 Q).length ≤ 900 := by
  obtain ⟨x1, x2⟩ := val3 hX.wd hX.len hl
  obtain ⟨y1, y2⟩ := val3 hY.wd hY.len hr
  obtain ⟨N, hN⟩ : ∃ N, val X = N := ⟨_, rfl⟩
  obtain ⟨M, hM⟩ : ∃ M, val Y = M := ⟨_, rfl⟩
  rw [hN] at x1 x2
  rw [hM] at y1 y2 hY0
  obtain ⟨i, hi⟩ : ∃ i, (e - d).toNat = i := ⟨_, rfl⟩
  obtain ⟨j, hj⟩ : ∃ j, (d - e).toNat = j := ⟨_, rfl⟩
  obtain ⟨G, hGe⟩ : ∃ G : Int, G = if e ≤ d then e else d := ⟨_, rfl⟩
  have hG2 : min e d = G := by omega
  obtain ⟨Aa, hA⟩ : ∃ Aa, Aa = N * 10 ^ i := ⟨_, rfl⟩
  obtain ⟨Bb, hB⟩ : ∃ Bb, Bb = M * 10 ^ j := ⟨_, rfl⟩
  obtain ⟨J, hJ⟩ : ∃ J, J = 258 := ⟨_, rfl⟩
  have a1 : Aa < 10 ^ J := by rw [hA]; exact ten_weak (wide_ten x1) (by omega)
  have b1 : Bb < 10 ^ J := by rw [hB]; exact ten_weak (wide_ten y1) (by omega)
  have a2 : nbits Aa ≤ 1090 := by rw [hA]; exact Nat.le_trans (nbits_wide x2) (by omega)
  have b2 : nbits Bb ≤ 1090 := by rw [hB]; exact Nat.le_trans (nbits_wide y2) (by omega)
  have hB0 : Bb ≠ 0 := by rw [hB]; have := Nat.mul_pos (show 0 < M by omega) (ten_pos j); omega
  have q1 : Aa / Bb < 10 ^ J := Nat.lt_of_le_of_lt (Nat.div_le_self _ _) a1
  have r1 : Aa % Bb < 10 ^ J := Nat.lt_of_le_of_lt (Nat.mod_le _ _) a1
  have r2 : nbits (Aa % Bb) ≤ 1090 := Nat.le_trans (nbits_mono (Nat.mod_le _ _)) a2
  have hdl := d16_len_ten q1
  have hrl := d16_len_ten r1
  have hrw : (digs (Aa % Bb)).length ≤ 900 := Nat.le_trans (bits_w (k := 18) (by omega)) (by omega)
  have hop : ∀ w0 w1 (σ : Sg) c d1 x y, Hold w0 w1 σ → σ c = some (ctxO p 100000 (-100000) (modeS m)) → σ d1 = some (dec 0 false 0 false 0) → σ x = some (dec 0 n e false N) → σ y = some (dec 0 o d false M) → Calls Tryz.prog 44 #[.pointer (some ⟨c, 0, none⟩), .pointer (some ⟨d1, 0, none⟩), .pointer (some ⟨x, 0, none⟩), .pointer (some ⟨y, 0, none⟩)] w1 (RemRes w0 σ d1 n G p m (Aa / Bb) (Aa % Bb)) := fun w0 w1 σ c d1 x y hh hc hd hx hy =>
    cRem_c hh hd hx hy hc ⟨hp.1, by omega⟩ (by omega) (by omega) (by omega) (by omega) hm (by omega) (by omega) (by omega) hGe (by rw [hi]; exact hA) (by rw [hj]; exact hB) a2 b2 hY0
  refine ⟨G, Aa / Bb, Aa % Bb, fun W p0 m0 k0 q0 n0 j0 h1 h2 => ?_, fun hf1 hf2 W hb => ?_, fun hf W hb => ?_, fun W g lg cg v lv cv h1 h2 => ?_, hrw, by omega, by omega⟩
  · rw [hN] at h1
    rw [hM] at h2
    exact divV_c W n o p0 q0 m0 k0 n0 j0 e d N M G i j Aa Bb h1 h2 (by have h3 := d16_len_ten x1; rw [h1.len] at h3; omega) (by have h3 := d16_len_ten y1; rw [h2.len] at h3; omega) (by omega) (by omega) hG2 (by omega) (by omega) hA hB hB0
  · refine (implRemG_c W (hG.bel hb) p m 0 100000 (-100000) e d n o A B l c r s X Y (dec 0 n G false (Aa % Bb)) (QFin n G (Aa % Bb)) hm (by omega) (by omega) (by omega) (by omega) (QFin.st _ _ _)
      (fun w4 τ d h4 hd => QFin.told h4 hd hrw (by omega)) (hX.below hb) (by omega) (by omega) (hY.below hb) (by omega) (by omega) (fun w1 σ c1 d1 x y hh hc hd hx hdx hy hxy hdy => ?_)).mono (fun E w' h => tellN h)
    rw [hN] at hx
    rw [hM] at hy
    refine (hop W w1 σ c1 d1 x y hh hc hd hx hy).mono (fun E w' h => ?_)
    rcases h with ⟨_, h⟩ | ⟨h, _⟩
    · unfold CRes at h
      obtain ⟨g1, g2, g3⟩ := rnd_few (n := n) (m := m) hf1
      rw [g1, g2, g3, show G + ((0 : Nat) : Int) = G by omega] at h
      exact h
    · omega
  · refine (implRemG_c W (hG.bel hb) p m 512 100000 (-100000) e d n o A B l c r s X Y (dec 3 false 0 false 0) (QForm 3 false) hm (by omega) (by omega) (by omega) (by omega) (QForm.st _ _)
      (fun w4 τ d h4 hd => QForm.told h4 hd (.inr (.inr rfl))) (hX.below hb) (by omega) (by omega) (hY.below hb) (by omega) (by omega) (fun w1 σ c1 d1 x y hh hc hd hx hdx hy hxy hdy => ?_)).mono (fun E w' h => tellC h)
    rw [hN] at hx
    rw [hM] at hy
    refine (hop W w1 σ c1 d1 x y hh hc hd hx hy).mono (fun E w' h => ?_)
    rcases h with ⟨h, _⟩ | ⟨_, h⟩
    · omega
    · exact h
  · exact same_c W n n g v lg cg lv cv _ _ _ _ G 0 0 h1 h2 (by rw [← h1.len]; omega) (by rw [← h2.len]; omega) (by omega) (by omega) (by omega) (by omega) (by omega) ⟨.inl rfl, rfl⟩
end Go.Proofs.YtffjgkghmdhlkaaGreatDoor
namespace Go.Proofs.YtffjgkghmdhlkaaGreatDoor
open Go Go.RowKit

theorem bits80 : (bits .and .i64 (condN 80 : Int) 4 != 0) = true ∧ (bits .andNot .i64 (condN 80 : Int) 20 == 0) = true := ⟨by kernel_rfl, by kernel_rfl⟩
theorem bits0 : (bits .and .i64 (condN 0 : Int) 4 != 0) = false ∧ (bits .andNot .i64 (condN 0 : Int) 20 == 0) = true := ⟨by kernel_rfl, by kernel_rfl⟩
/-- The quotient of finite decimals, the divisor not 0: what is told, and the reference. -/
theorem quoFacts (w : World) (hG : Glob w) (p m : Nat) (hm : m < 8) (hp : 1 ≤ p ∧ p ≤ 60) (e d : Int) (n o : Bool) (A B : Option Addr) (l c r s : Nat) (X Y : List Nat) (hX : RdW w A l c X) (hY : RdW w B r s Y)
    (hl : l ≤ 3) (hr : r ≤ 3) (he1 : -100 ≤ e) (he2 : e ≤ 100) (hd1 : -100 ≤ d) (hd2 : d ≤ 100) (hY0 : val Y ≠ 0) :
    ∃ (nz : Bool) (R q : Nat) (E0 EA : Int) (cn : Int),
      (∀ W, Below w.heap.size w W → Calls Tryz.prog 22 #[.agg #[.int .u64 (p : Int), .int .i64 100000, .int .i64 (-100000), .int .i64 (m : Int)], .agg #[.int .i64 0, .bool n, .slice A l c, .int .i64 e], .agg #[.int .i64 0, .bool o, .slice B r s, .int .i64 d]] W fun E w' => TellN W w' E nz E0 R cn) ∧
      (∀ W p0 m0 k0 q0 n0 j0, RdD W p0 m0 k0 (d16 (val X)) → RdD W q0 n0 j0 (d16 (val Y)) → Calls Tryz.prog 23 #[.agg #[.bool n, .slice p0 m0 k0, .int .i64 e], .agg #[.bool o, .slice q0 n0 j0, .int .i64 d], .int .i64 (p : Int)] W fun E w' => ValN W w' E nz EA q) ∧
      (∀ W a1 l1 c1, RdD W a1 l1 c1 (d16 q) → Calls Tryz.prog 13 #[.agg #[.bool nz, .slice a1 l1 c1, .int .i64 EA], .int .i64 (p : Int), .int .i64 (m : Int)] W fun E w' => RndV W w' E nz a1 l1 c1 EA q p m) ∧
      (∀ W g lg cg v lv cv, RdD W g lg cg (d16 R) → RdD W v lv cv (d16 (rndN nz q p m)) → Calls Tryz.prog 18 #[.agg #[.bool nz, .slice g lg cg, .int .i64 E0], .agg #[.bool nz, .slice v lv cv, .int .i64 (EA + (rndK nz q p m : Int))]] W fun E w' => E = .returned (.bool true) ∧ Below W.heap.size W w') ∧
      (bits .and .i64 cn 4 != 0) = rndX q p ∧ (bits .andNot .i64 cn 20 == 0) = true ∧ (digs R).length ≤ 900 ∧ (d16 R).length ≤ 900 ∧ (figs R ≤ p ∨ (rndX q p = true ∧ ∃ j, rndN nz q p m = 10 ^ j)) ∧ (-1000 ≤ EA + (rndK nz q p m : Int) ∧ EA + (rndK nz q p m : Int) ≤ 1000) := by
  obtain ⟨x1, x2⟩ := val3 hX.wd hX.len hl
  obtain ⟨y1, y2⟩ := val3 hY.wd hY.len hr
  obtain ⟨N, hN⟩ : ∃ N, val X = N := ⟨_, rfl⟩
  obtain ⟨Q, hQ⟩ : ∃ Q, val Y = Q := ⟨_, rfl⟩
  rw [hN] at x1 x2
  rw [hQ] at y1 y2 hY0
  obtain ⟨nz, hnz⟩ : ∃ nz, (n != o) = nz := ⟨_, rfl⟩
  obtain ⟨k, hk⟩ : ∃ k, p + 2 + figs Q - figs N = k := ⟨_, rfl⟩
  obtain ⟨q, hq⟩ : ∃ q, sticky (N * 10 ^ k) Q = q := ⟨_, rfl⟩
  have fN := figs_ten x1
  have fQ := figs_ten y1
  have pN := figs_pos N
  have pQ := figs_pos Q
  have hk2 : k ≤ 130 := by omega
  have hq1 : q < 10 ^ (58 + k + 1) := by rw [← hq]; exact sticky_ten hY0 x1
  have hq2 := figs_ten hq1
  have hrk := rndK_le nz q p m
  -- the reference's part
  have hah : ∀ W p0 m0 k0 q0 n0 j0, RdD W p0 m0 k0 (d16 N) → RdD W q0 n0 j0 (d16 Q) → Calls Tryz.prog 23 #[.agg #[.bool n, .slice p0 m0 k0, .int .i64 e], .agg #[.bool o, .slice q0 n0 j0, .int .i64 d], .int .i64 (p : Int)] W fun E w' => ValN W w' E nz (e - d - (k : Int) - 1) q := fun W p0 m0 k0 q0 n0 j0 h1 h2 => by
    have h := aheadV_c W n o p0 q0 m0 k0 n0 j0 e d N Q p k h1 h2 (by have h3 := d16_len_ten x1; rw [h1.len] at h3; omega) (by have h3 := d16_len_ten y1; rw [h2.len] at h3; omega) (by omega) (by omega) hY0 (by omega) (by omega) (by omega) hk
    rw [hnz, hq] at h
    exact h
  have hrd : ∀ W a1 l1 c1, RdD W a1 l1 c1 (d16 q) → Calls Tryz.prog 13 #[.agg #[.bool nz, .slice a1 l1 c1, .int .i64 (e - d - (k : Int) - 1)], .int .i64 (p : Int), .int .i64 (m : Int)] W fun E w' => RndV W w' E nz a1 l1 c1 (e - d - (k : Int) - 1) q p m := fun W a1 l1 c1 h1 =>
    rndV_c W nz a1 l1 c1 _ q p m h1 (by have h3 := d16_len_ten hq1; rw [h1.len] at h3; omega) (by omega) (by omega) hm (by omega)
  have hwl : (d16 (rndN nz q p m)).length ≤ 100 := by
    have h1 := figs_lt (rndN nz q p m)
    have h2 := rndN_figs (neg := nz) (C := q) (p := p) (mode := m) hp.1
    exact Nat.le_trans (d16_len_ten (j := 60) (Nat.lt_of_lt_of_le h1 (ten_le (by omega)))) (by omega)
  have z0 : (d16 0).length = 0 := by rw [show d16 0 = [] from dB_zero two16]; rfl
  by_cases hN0 : N = 0
  · subst hN0
    have hq0 : q = 0 := by rw [← hq, Nat.zero_mul]; unfold sticky; simp
    refine ⟨nz, 0, q, e - d, e - d - (k : Int) - 1, (condN 0 : Int), fun W hb => ?_, by rw [hN, hQ]; exact hah, hrd, fun W g lg cg v lv cv h1 h2 => ?_, ?_, bits0.2, by rw [digs_zero]; simp, ?_, .inl (by rw [figs_zero]; exact hp.1), by omega⟩
    · refine (implQuoG_c W (hG.bel hb) p m 0 100000 (-100000) e d n o A B l c r s X Y (dec 0 nz (e - d) false 0) (QFin nz (e - d) 0) hm (by omega) (by omega) (by omega) (by omega) (QFin.st _ _ _)
        (fun w4 τ d h4 hd => QFin.told h4 hd (by rw [digs_zero]; simp) (by omega)) (hX.below hb) (by omega) (by omega) (hY.below hb) (by omega) (by omega) (fun w1 σ c1 d1 x y hh hc hd hx hdx hy hxy hdy => ?_)).mono (fun E w' h => tellN h)
      rw [hN] at hx
      rw [hQ] at hy
      exact cQuo0_c hh hd hx hy hc hp.1 (by omega) (by omega) hY0 (by omega) (by omega) hnz
    · have hr0 : rndN nz q p m = 0 := rndN_zero hp.1 hq0
      rw [hr0] at h2
      obtain ⟨g0, hg0⟩ : ∃ g0 : Int, min (e - d) (e - d - (k : Int) - 1 + (rndK nz q p m : Int)) = g0 := ⟨_, rfl⟩
      exact same_c W nz nz g v lg cg lv cv _ _ 0 0 g0 (e - d - g0).toNat (e - d - (k : Int) - 1 + (rndK nz q p m : Int) - g0).toNat h1 h2 (by rw [← h1.len, z0]; omega) (by rw [← h2.len, z0]; omega) (by omega) (by omega) hg0 (by omega) (by omega) ⟨.inr rfl, by rw [Nat.zero_mul, Nat.zero_mul]⟩
    · rw [bits0.1]
      unfold rndX
      rw [hq0, figs_zero, if_pos hp.1]
    · rw [z0]; omega
  · obtain ⟨D, hD⟩ : ∃ D, N * 10 ^ (quoU N Q + (p - 1)) = D := ⟨_, rfl⟩
    obtain ⟨E, hE⟩ : ∃ E, Q * 10 ^ (figs N - figs Q) = E := ⟨_, rfl⟩
    obtain ⟨l1, l2, l3, l4⟩ := quo_law nz m hN0 hY0 hp.1 (k := k) (by omega) hq hD hE
    have l5 := quo_figs nz m hN0 hY0 hp.1 hD hE
    have l6 := fun h => quo_ten nz m hN0 hY0 hp.1 (k := k) (by omega) hq hD hE h
    have hqe : qE N Q p = ((figs q - p : Nat) : Int) - k - 1 := l4.symm
    obtain ⟨R, hR⟩ : ∃ R, rndF nz D E m = R := ⟨_, rfl⟩
    rw [hR] at l2 l5 l6
    have hRt : R < 10 ^ 61 := by
      rcases l5 with h | ⟨h, _⟩
      · exact Nat.lt_of_lt_of_le (figs_lt R) (ten_le (by omega))
      · rw [h]; exact ten_lt (by omega)
    have hR4 : (digs R).length ≤ 4 := by
      refine digs_len_le.2 (Nat.lt_of_lt_of_le hRt ?_)
      rw [WB_bits]; decide
    have hRd := d16_len_ten hRt
    obtain ⟨rq, hrq⟩ : ∃ rq : Nat, (D % E = 0 ∧ rq = 0) ∨ (D % E ≠ 0 ∧ rq = 80) := by
      by_cases h : D % E = 0
      · exact ⟨0, .inl ⟨h, rfl⟩⟩
      · exact ⟨80, .inr ⟨h, rfl⟩⟩
    have hrx : rndX q p = !decide (D % E = 0) := by rw [rndX_iff l1]; exact l3
    have hr4 : rq < 4096 := by rcases hrq with ⟨_, h⟩ | ⟨_, h⟩ <;> omega
    refine ⟨nz, R, q, e - d + qE N Q p, e - d - (k : Int) - 1, (condN rq : Int), fun W hb => ?_, by rw [hN, hQ]; exact hah, hrd, fun W g lg cg v lv cv h1 h2 => ?_, ?_, ?_, by omega, by omega, ?_, by omega⟩
    · refine (implQuoG_c W (hG.bel hb) p m rq 100000 (-100000) e d n o A B l c r s X Y (dec 0 nz (e - d + qE N Q p) false R) (QFin nz (e - d + qE N Q p) R) hm (by omega) (by omega) (by omega) hr4 (QFin.st _ _ _)
        (fun w4 τ d h4 hd => QFin.told h4 hd (by omega) (by omega)) (hX.below hb) (by omega) (by omega) (hY.below hb) (by omega) (by omega) (fun w1 σ c1 d1 x y hh hc hd hx hdx hy hxy hdy => ?_)).mono (fun E w' h => tellN h)
      rw [hN] at hx
      rw [hQ] at hy
      have h := cQuo_c hh hd hx hy hc (p := p) (m := m) ⟨hp.1, by omega⟩ (by omega) (by omega) (by omega) (by omega) hN0 hY0 hm (by omega) (by omega) hD hE hnz rfl hrq
      rw [hR] at h
      exact h
    · obtain ⟨g0, hg0⟩ : ∃ g0 : Int, min (e - d + qE N Q p) (e - d - (k : Int) - 1 + (rndK nz q p m : Int)) = g0 := ⟨_, rfl⟩
      obtain ⟨i, hi⟩ : ∃ i : Nat, e - d + qE N Q p - g0 = (i : Int) := ⟨(e - d + qE N Q p - g0).toNat, by omega⟩
      obtain ⟨j, hj⟩ : ∃ j : Nat, e - d - (k : Int) - 1 + (rndK nz q p m : Int) - g0 = (j : Int) := ⟨(e - d - (k : Int) - 1 + (rndK nz q p m : Int) - g0).toNat, by omega⟩
      exact same_c W nz nz g v lg cg lv cv _ _ R (rndN nz q p m) g0 i j h1 h2 (by rw [← h1.len]; omega) (by rw [← h2.len]; omega) (by omega) (by omega) hg0 hi hj ⟨.inl rfl, scale_eq l2.symm (by omega)⟩
    · rw [hrx]
      rcases hrq with ⟨h, rfl⟩ | ⟨h, rfl⟩
      · rw [bits0.1]; simp [h]
      · rw [bits80.1]; simp [h]
    · rcases hrq with ⟨h, rfl⟩ | ⟨h, rfl⟩
      · exact bits0.2
      · exact bits80.2
    · rcases l5 with h | ⟨h, _⟩
      · exact .inl h
      · exact .inr ⟨(l6 h).2, p - 1, (l6 h).1⟩
end Go.Proofs.YtffjgkghmdhlkaaGreatDoor
