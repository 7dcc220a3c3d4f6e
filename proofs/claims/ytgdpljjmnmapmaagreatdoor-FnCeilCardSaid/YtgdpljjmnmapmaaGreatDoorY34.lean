/- What impl.Ceil, impl.Floor tell, and the reference. -/
import Derived.Test.YtgdpljjmnmapmaaGreatDoorY33
import Derived.Test.YtgdpljjmnmapmaaGreatDoorC36
import Derived.Test.YtgdpljjmnmapmaaGreatDoorY14Ceil
import Derived.Test.YtgdpljjmnmapmaaGreatDoorY14Floor
import Derived.Test.YtgdpljjmnmapmaaGreatDoorC25
import Derived.Test.YtgdpljjmnmapmaaGreatDoorO22
namespace Go.Proofs.YtgdpljjmnmapmaaGreatDoor
open Go Go.RowKit

theorem ceilFacts (w : World) (hG : Glob w) (p m : Nat) (hm : m < 8) (hp : 1 ≤ p ∧ p ≤ 60) (e : Int) (n : Bool) (A : Option Addr) (l c : Nat) (X : List Nat) (hX : RdW w A l c X) (hl : l ≤ 3) (he1 : -100 ≤ e) (he2 : e ≤ 100) (hf : figs (val X) ≤ p) :
    ∃ (E1 : Int) (R : Nat),
      (∀ W, Below w.heap.size w W → Calls Tryz.prog 12 #[.agg #[.int .u64 (p : Int), .int .i64 100000, .int .i64 (-100000), .int .i64 (m : Int)], .agg #[.int .i64 0, .bool n, .slice A l c, .int .i64 e]] W fun E w' => TellN W w' E n E1 R (condN 0 : Int)) ∧
      (∀ W p0 m0 k0, RdD W p0 m0 k0 (d16 (val X)) → Calls Tryz.prog 11 #[.agg #[.bool n, .slice p0 m0 k0, .int .i64 e], .int .i64 3] W fun E w' => WholeV W w' E n E1 R) ∧
      (∀ W g lg cg v lv cv, RdD W g lg cg (d16 R) → RdD W v lv cv (d16 R) → Calls Tryz.prog 14 #[.agg #[.bool n, .slice g lg cg, .int .i64 E1], .agg #[.bool n, .slice v lv cv, .int .i64 E1]] W fun E w' => E = .returned (.bool true) ∧ Below W.heap.size W w') ∧
      (digs R).length ≤ 900 := by
  obtain ⟨x1, x2⟩ := val3 hX.wd hX.len hl
  obtain ⟨N, hN⟩ : ∃ N, val X = N := ⟨_, rfl⟩
  rw [hN] at x1 x2 hf
  obtain ⟨E1, R, hres, hwh, hRN, hE⟩ : ∃ (E1 : Int) (R : Nat), ((0 < e ∧ E1 = e ∧ R = N) ∨ ∃ k : Nat, -e = (k : Int) ∧ E1 = 0 ∧ R = cutN n N k 3) ∧ ((0 ≤ e ∧ E1 = e ∧ R = N) ∨ ∃ k : Nat, -e = (k : Int) ∧ 1 ≤ k ∧ k ≤ 900 ∧ E1 = 0 ∧ R = cutN n N k 3) ∧ R ≤ N + 1 ∧ (-100 ≤ E1 ∧ E1 ≤ 100) := by
    by_cases h : 0 < e
    · exact ⟨e, N, .inl ⟨h, rfl, rfl⟩, .inl ⟨by omega, rfl, rfl⟩, by omega, by omega⟩
    · by_cases h0 : e = 0
      · have hc0 : cutN n N 0 3 = N := by unfold cutN; rw [Nat.pow_zero, if_pos (Nat.mod_one N), Nat.div_one]
        exact ⟨0, N, .inr ⟨0, by omega, rfl, hc0.symm⟩, .inl ⟨by omega, by omega, rfl⟩, by omega, by omega⟩
      · have := cutN_lt n N (-e).toNat 3
        exact ⟨0, cutN n N (-e).toNat 3, .inr ⟨(-e).toNat, by omega, rfl, rfl⟩, .inr ⟨(-e).toNat, by omega, by omega, by omega, rfl, rfl⟩, this, by omega⟩
  have h59 : N + 1 < 10 ^ 59 := by have := ten_succ 58; omega
  have hR1 : R < 10 ^ 59 := by omega
  have hRd := d16_len_ten hR1
  have hRw : (digs R).length ≤ 900 := Nat.le_trans (digs_len_le.2 (show R < WB ^ 4 from Nat.lt_of_lt_of_le hR1 (by rw [WB_bits]; decide))) (by omega)
  refine ⟨E1, R, fun W hb => ?_, fun W p0 m0 k0 h1 => ?_, fun W g lg cg v lv cv h1 h2 => ?_, hRw⟩
  · refine (implCeilG_c W (hG.bel hb) p m 0 100000 (-100000) e n A l c X (dec 0 n E1 false R) (QFin n E1 R) hm (by omega) (by omega) (by omega) (by omega) (QFin.st _ _ _)
      (fun w4 τ d h4 hd => QFin.told h4 hd hRw (by omega)) (hX.below hb) (by omega) (by omega) (fun w1 σ c1 d1 x hh hc hd hx hdx => ?_)).mono (fun E w' h => tellN h)
    rw [hN] at hx
    exact cCeil_c hh hd hx (Ne.symm hdx) hc ⟨hp.1, by omega⟩ (by omega) (by omega) hm (by omega) (by omega) hf hres
  · rw [hN] at h1
    exact wholeV_c W n p0 m0 k0 e N 3 h1 (by have h3 := d16_len_ten x1; rw [h1.len] at h3; omega) (by omega) hwh
  · exact same_c W n n g v lg cg lv cv E1 E1 R R E1 0 0 h1 h2 (by rw [← h1.len]; omega) (by rw [← h2.len]; omega) (by omega) (by omega) (by omega) (by omega) (by omega) ⟨.inl rfl, rfl⟩
theorem floorFacts (w : World) (hG : Glob w) (p m : Nat) (hm : m < 8) (hp : 1 ≤ p ∧ p ≤ 60) (e : Int) (n : Bool) (A : Option Addr) (l c : Nat) (X : List Nat) (hX : RdW w A l c X) (hl : l ≤ 3) (he1 : -100 ≤ e) (he2 : e ≤ 100) (hf : figs (val X) ≤ p) :
    ∃ (E1 : Int) (R : Nat),
      (∀ W, Below w.heap.size w W → Calls Tryz.prog 15 #[.agg #[.int .u64 (p : Int), .int .i64 100000, .int .i64 (-100000), .int .i64 (m : Int)], .agg #[.int .i64 0, .bool n, .slice A l c, .int .i64 e]] W fun E w' => TellN W w' E n E1 R (condN 0 : Int)) ∧
      (∀ W p0 m0 k0, RdD W p0 m0 k0 (d16 (val X)) → Calls Tryz.prog 11 #[.agg #[.bool n, .slice p0 m0 k0, .int .i64 e], .int .i64 4] W fun E w' => WholeV W w' E n E1 R) ∧
      (∀ W g lg cg v lv cv, RdD W g lg cg (d16 R) → RdD W v lv cv (d16 R) → Calls Tryz.prog 14 #[.agg #[.bool n, .slice g lg cg, .int .i64 E1], .agg #[.bool n, .slice v lv cv, .int .i64 E1]] W fun E w' => E = .returned (.bool true) ∧ Below W.heap.size W w') ∧
      (digs R).length ≤ 900 := by
  obtain ⟨x1, x2⟩ := val3 hX.wd hX.len hl
  obtain ⟨N, hN⟩ : ∃ N, val X = N := ⟨_, rfl⟩
  rw [hN] at x1 x2 hf
  obtain ⟨E1, R, hres, hwh, hRN, hE⟩ : ∃ (E1 : Int) (R : Nat), ((0 < e ∧ E1 = e ∧ R = N) ∨ ∃ k : Nat, -e = (k : Int) ∧ E1 = 0 ∧ R = cutN n N k 4) ∧ ((0 ≤ e ∧ E1 = e ∧ R = N) ∨ ∃ k : Nat, -e = (k : Int) ∧ 1 ≤ k ∧ k ≤ 900 ∧ E1 = 0 ∧ R = cutN n N k 4) ∧ R ≤ N + 1 ∧ (-100 ≤ E1 ∧ E1 ≤ 100) := by
    by_cases h : 0 < e
    · exact ⟨e, N, .inl ⟨h, rfl, rfl⟩, .inl ⟨by omega, rfl, rfl⟩, by omega, by omega⟩
    · by_cases h0 : e = 0
      · have hc0 : cutN n N 0 4 = N := by unfold cutN; rw [Nat.pow_zero, if_pos (Nat.mod_one N), Nat.div_one]
        exact ⟨0, N, .inr ⟨0, by omega, rfl, hc0.symm⟩, .inl ⟨by omega, by omega, rfl⟩, by omega, by omega⟩
      · have := cutN_lt n N (-e).toNat 4
        exact ⟨0, cutN n N (-e).toNat 4, .inr ⟨(-e).toNat, by omega, rfl, rfl⟩, .inr ⟨(-e).toNat, by omega, by omega, by omega, rfl, rfl⟩, this, by omega⟩
  have h59 : N + 1 < 10 ^ 59 := by have := ten_succ 58; omega
  have hR1 : R < 10 ^ 59 := by omega
  have hRd := d16_len_ten hR1
  have hRw : (digs R).length ≤ 900 := Nat.le_trans (digs_len_le.2 (show R < WB ^ 4 from Nat.lt_of_lt_of_le hR1 (by rw [WB_bits]; decide))) (by omega)
  refine ⟨E1, R, fun W hb => ?_, fun W p0 m0 k0 h1 => ?_, fun W g lg cg v lv cv h1 h2 => ?_, hRw⟩
  · refine (implFloorG_c W (hG.bel hb) p m 0 100000 (-100000) e n A l c X (dec 0 n E1 false R) (QFin n E1 R) hm (by omega) (by omega) (by omega) (by omega) (QFin.st _ _ _)
      (fun w4 τ d h4 hd => QFin.told h4 hd hRw (by omega)) (hX.below hb) (by omega) (by omega) (fun w1 σ c1 d1 x hh hc hd hx hdx => ?_)).mono (fun E w' h => tellN h)
    rw [hN] at hx
    exact cFloor_c hh hd hx (Ne.symm hdx) hc ⟨hp.1, by omega⟩ (by omega) (by omega) hm (by omega) (by omega) hf hres
  · rw [hN] at h1
    exact wholeV_c W n p0 m0 k0 e N 4 h1 (by have h3 := d16_len_ten x1; rw [h1.len] at h3; omega) (by omega) hwh
  · exact same_c W n n g v lg cg lv cv E1 E1 R R E1 0 0 h1 h2 (by rw [← h1.len]; omega) (by rw [← h2.len]; omega) (by omega) (by omega) (by omega) (by omega) (by omega) ⟨.inl rfl, rfl⟩
end Go.Proofs.YtgdpljjmnmapmaaGreatDoor
