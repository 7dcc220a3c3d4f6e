/- Integer part and rest of a quotient of small decimals, and what they give together. -/
import Derived.Test.YtgdpljjmnmapmaaGreatDoorC25
import Derived.Test.YtgdpljjmnmapmaaGreatDoorC35
import Derived.Test.YtgdpljjmnmapmaaGreatDoorC36
import Derived.Test.YtgdpljjmnmapmaaGreatDoorC37
import Derived.Test.YtgdpljjmnmapmaaGreatDoorC38
import Derived.Test.YtgdpljjmnmapmaaGreatDoorC39
import Derived.Test.YtgdpljjmnmapmaaGreatDoorC40
namespace Go.Proofs.YtgdpljjmnmapmaaGreatDoor
open Go Go.RowKit

theorem val1 {X : List Nat} (hw : Wd X) {l : Nat} (hX : X.length = l) (hl : l ≤ 1) : val X < 10 ^ 20 ∧ nbits (val X) ≤ 64 := by
  have h1 := val_lt hw
  have h2 : WB ^ X.length ≤ WB ^ 1 := Nat.pow_le_pow_right WB_pos (by omega)
  have h3 : WB ^ 1 = 2 ^ 64 := by rw [WB_bits]
  have h4 : 2 ^ 64 < 10 ^ 20 := by decide
  exact ⟨by omega, nbits_le_iff.2 (by omega)⟩
theorem bitsN4 : (bits .and .i64 (condN 0 : Int) 4 == 0) = true := by kernel_rfl
theorem tellR {w w' : World} {E : Ending} {n : Bool} {e : Int} {N cn : Nat} (h : ImplR w w' E n e N cn) : TellN w w' E n e N (cn : Int) := by
  obtain ⟨q, cc, hE, hr, _, hc⟩ := h
  exact ⟨q, cc, hE, hr, hc⟩
set_option maxHeartbeats 2000000 in
theorem divRemFacts (w : World) (hG : Glob w) (m : Nat) (hm : m < 8) (e d : Int) (n o : Bool) (A B : Option Addr) (l c r s : Nat) (X Y : List Nat) (hX : RdW w A l c X) (hY : RdW w B r s Y)
    (hl : l ≤ 1) (hr : r ≤ 1) (he1 : -15 ≤ e) (he2 : e ≤ 15) (hd1 : -15 ≤ d) (hd2 : d ≤ 15) (hY0 : val Y ≠ 0) :
    ∃ (nq np : Bool) (Q R P S : Nat) (G : Int),
      (∀ W, Below w.heap.size w W → Calls Tryz.prog 21 #[.agg #[.int .u64 130, .int .i64 100000, .int .i64 (-100000), .int .i64 (m : Int)], .agg #[.int .i64 0, .bool n, .slice A l c, .int .i64 e], .agg #[.int .i64 0, .bool o, .slice B r s, .int .i64 d]] W fun E w' => TellN W w' E nq 0 Q (condN 0 : Int)) ∧
      (∀ W, Below w.heap.size w W → Calls Tryz.prog 22 #[.agg #[.int .u64 130, .int .i64 100000, .int .i64 (-100000), .int .i64 (m : Int)], .agg #[.int .i64 0, .bool n, .slice A l c, .int .i64 e], .agg #[.int .i64 0, .bool o, .slice B r s, .int .i64 d]] W fun E w' => TellN W w' E n G R (condN 0 : Int)) ∧
      (∀ W A1 c1, Below w.heap.size w W → RdW W A1 (digs Q).length c1 (digs Q) → Calls Tryz.prog 23 #[.agg #[.int .u64 130, .int .i64 100000, .int .i64 (-100000), .int .i64 (m : Int)], .agg #[.int .i64 0, .bool nq, .slice A1 (digs Q).length c1, .int .i64 0], .agg #[.int .i64 0, .bool o, .slice B r s, .int .i64 d]] W fun E w' => TellN W w' E np d P (condN 0 : Int)) ∧
      (∀ W A1 c1 A2 c2, Below w.heap.size w W → RdW W A1 (digs P).length c1 (digs P) → RdW W A2 (digs R).length c2 (digs R) → Calls Tryz.prog 24 #[.agg #[.int .u64 130, .int .i64 100000, .int .i64 (-100000), .int .i64 (m : Int)], .agg #[.int .i64 0, .bool np, .slice A1 (digs P).length c1, .int .i64 d], .agg #[.int .i64 0, .bool n, .slice A2 (digs R).length c2, .int .i64 G]] W fun E w' => TellN W w' E n G S (condN 0 : Int)) ∧
      (∀ W g lg cg v lv cv, RdD W g lg cg (d16 S) → RdD W v lv cv (d16 (val X)) → Calls Tryz.prog 14 #[.agg #[.bool n, .slice g lg cg, .int .i64 G], .agg #[.bool n, .slice v lv cv, .int .i64 e]] W fun E w' => E = .returned (.bool true) ∧ Below W.heap.size W w') ∧
      (digs S).length ≤ 900 := by
  obtain ⟨x1, x2⟩ := val1 hX.wd hX.len hl
  obtain ⟨y1, y2⟩ := val1 hY.wd hY.len hr
  obtain ⟨N, hN⟩ : ∃ N, val X = N := ⟨_, rfl⟩
  obtain ⟨M, hM⟩ : ∃ M, val Y = M := ⟨_, rfl⟩
  rw [hN] at x1 x2
  rw [hM] at y1 y2 hY0
  obtain ⟨i, hi⟩ : ∃ i, (e - d).toNat = i := ⟨_, rfl⟩
  obtain ⟨j, hj⟩ : ∃ j, (d - e).toNat = j := ⟨_, rfl⟩
  obtain ⟨G, hGe⟩ : ∃ G : Int, G = if e ≤ d then e else d := ⟨_, rfl⟩
  have hG2 : min e d = G := by omega
  obtain ⟨Aa, hA⟩ : ∃ Aa, Aa = N * 10 ^ i := ⟨_, rfl⟩
  obtain ⟨Bb, hB⟩ : ∃ Bb, Bb = M * 10 ^ j := ⟨_, rfl⟩
  have a1 : Aa < 10 ^ 50 := by rw [hA]; exact ten_weak (wide_ten x1) (by omega)
  have b1 : Bb < 10 ^ 50 := by rw [hB]; exact ten_weak (wide_ten y1) (by omega)
  have a2 : nbits Aa ≤ 184 := by rw [hA]; exact Nat.le_trans (nbits_wide x2) (by omega)
  have b2 : nbits Bb ≤ 184 := by rw [hB]; exact Nat.le_trans (nbits_wide y2) (by omega)
  have hB0 : Bb ≠ 0 := by rw [hB]; have := Nat.mul_pos (show 0 < M by omega) (ten_pos j); omega
  obtain ⟨Q, hQ⟩ : ∃ Q, Aa / Bb = Q := ⟨_, rfl⟩
  obtain ⟨R, hR⟩ : ∃ R, Aa % Bb = R := ⟨_, rfl⟩
  have hsum : Q * Bb + R = Aa := by rw [← hQ, ← hR, Nat.mul_comm]; exact Nat.div_add_mod Aa Bb
  have q1 : Q ≤ Aa := by rw [← hQ]; exact Nat.div_le_self _ _
  have r1 : R ≤ Aa := by rw [← hR]; exact Nat.mod_le _ _
  have hQM : Q * M ≤ Aa := by
    have h1 : Q * M * 1 ≤ Q * M * 10 ^ j := Nat.mul_le_mul_left _ (ten_pos j)
    have h2 : Q * M * 10 ^ j = Q * Bb := by rw [hB, Nat.mul_assoc]
    omega
  have fig : ∀ V, V ≤ Aa → figs V ≤ 130 := fun V hV => Nat.le_trans (figs_ten (Nat.lt_of_le_of_lt hV a1)) (by omega)
  have wid : ∀ V, V ≤ Aa → (digs V).length ≤ 3 := fun V hV => bits_w (Nat.le_trans (nbits_mono hV) (by omega))
  have nbt : ∀ V, V ≤ Aa → nbits V ≤ 184 := fun V hV => Nat.le_trans (nbits_mono hV) a2
  obtain ⟨nq, hnq⟩ : ∃ nq, (n != o) = nq := ⟨_, rfl⟩
  have hnp : (nq != o) = n := by rw [← hnq]; cases n <;> cases o <;> rfl
  have few : ∀ (s : Bool) V, V ≤ Aa → rndN s V 130 m = V ∧ rndK s V 130 m = 0 ∧ rndC V 130 = 0 := fun s V hV => rnd_few (fig V hV)
  have cn0 : condN (rndC (Q * M) 130) = condN 0 := by rw [(few n _ hQM).2.2]
  have vd : ∀ V, val (digs V) = V := val_digs
  refine ⟨nq, n, Q, R, Q * M, Aa, G, fun W hb => ?_, fun W hb => ?_, fun W A1 c1 hb h1 => ?_, fun W A1 c1 A2 c2 hb h1 h2 => ?_, fun W g lg cg v lv cv h1 h2 => ?_, by have := wid Aa (Nat.le_refl _); omega⟩
  · refine (implQuoIntegerG_c W (hG.bel hb) 130 m 0 100000 (-100000) e d n o A B l c r s X Y (dec 0 nq 0 false Q) (QFin nq 0 Q) hm (by omega) (by omega) (by omega) (by omega) (QFin.st _ _ _)
      (fun w4 τ d h4 hd => QFin.told h4 hd (by have := wid Q q1; omega) (by omega)) (hX.below hb) (by omega) (by omega) (hY.below hb) (by omega) (by omega) (fun w1 σ c1 d1 x y hh hc hd hx hdx hy hxy hdy => ?_)).mono (fun E w' h => tellN h)
    rw [hN] at hx
    rw [hM] at hy
    refine (cQuoInt_c (A := Aa) (B := Bb) hh hd hx hy hc ⟨by omega, by omega⟩ (by omega) (by omega) (by omega) (by omega) (by omega) (by rw [hi]; exact hA) (by rw [hj]; exact hB) (by omega) (by omega) hY0 hQ hnq).mono (fun E w' h => ?_)
    rcases h with ⟨_, h⟩ | ⟨h, _⟩
    · exact h
    · have := fig Q q1; omega
  · refine (implRemG_c W (hG.bel hb) 130 m 0 100000 (-100000) e d n o A B l c r s X Y (dec 0 n G false R) (QFin n G R) hm (by omega) (by omega) (by omega) (by omega) (QFin.st _ _ _)
      (fun w4 τ d h4 hd => QFin.told h4 hd (by have := wid R r1; omega) (by omega)) (hX.below hb) (by omega) (by omega) (hY.below hb) (by omega) (by omega) (fun w1 σ c1 d1 x y hh hc hd hx hdx hy hxy hdy => ?_)).mono (fun E w' h => tellN h)
    rw [hN] at hx
    rw [hM] at hy
    refine (cRem_c (A := Aa) (B := Bb) hh hd hx hy hc ⟨by omega, by omega⟩ (by omega) (by omega) (by omega) (by omega) hm (by omega) (by omega) (by omega) hGe (by rw [hi]; exact hA) (by rw [hj]; exact hB) (by omega) (by omega) hY0).mono (fun E w' h => ?_)
    rw [hQ, hR] at h
    rcases h with ⟨_, h⟩ | ⟨h, _⟩
    · unfold CRes at h
      obtain ⟨g1, g2, g3⟩ := few n R r1
      rw [g1, g2, g3, show G + ((0 : Nat) : Int) = G by omega] at h
      exact h
    · have := fig Q q1; omega
  · have h := implMulF_c W (hG.bel hb) 130 m 100000 (-100000) 0 d d nq o n A1 B (digs Q).length c1 r s (digs Q) Y (Q * M) hm (by omega) (by omega) (by omega) (by rw [(few n _ hQM).1]; have := wid _ hQM; omega) (by rw [(few n _ hQM).2.1]; omega) h1 (by have := wid Q q1; omega) (by omega) (hY.below hb) (by omega) (by omega)
      (fun w1 σ c1 d1 x y hh hc hd hx hdx hy hxy hdy => by
        rw [vd] at hx
        rw [hM] at hy
        have h := cMul_c hh hd hx hy hxy hdx hdy hc (p := 130) (m := m) ⟨by omega, by omega⟩ (by omega) (by omega) (by have := nbt Q q1; omega) (by omega) hm (by omega) (by omega)
        rw [hnp, Int.zero_add] at h
        exact h)
    rw [(few n _ hQM).1, (few n _ hQM).2.1, (few n _ hQM).2.2, show d + ((0 : Nat) : Int) = d by omega] at h
    exact h.mono (fun E w' h => tellR h)
  · have hj2 : Q * M * 10 ^ j = Q * Bb := by rw [hB, Nat.mul_assoc]
    have h := implAddF_c W (hG.bel hb) 130 m 100000 (-100000) d G G n n n A1 A2 (digs (Q * M)).length c1 (digs R).length c2 (digs (Q * M)) (digs R) Aa hm (by omega) (by omega) (by omega) (by rw [(few n Aa (Nat.le_refl _)).1]; have := wid Aa (Nat.le_refl _); omega) (by rw [(few n Aa (Nat.le_refl _)).2.1]; omega) h1 (by have := wid _ hQM; omega) (by omega) h2 (by have := wid R r1; omega) (by omega)
      (fun w1 σ c1 d1 x y hh hc hd hx hdx hy hxy hdy => by
        rw [vd] at hx hy
        have h := cAdd_c hh hd hx hy hc (p := 130) (m := m) (e := G) (A := Q * Bb) (B := R) ⟨by omega, by omega⟩ (by omega) (by omega) (by have := nbt _ hQM; omega) (by have := nbt R r1; omega) hm (by omega) (by omega) (by omega) (by split <;> omega) (by rw [show (d - G).toNat = j by omega, hj2]) (by rw [show (G - d).toNat = 0 by omega, Nat.pow_zero, Nat.mul_one]) (by have := nbt (Q * Bb) (by omega); omega) (by have := nbt R r1; omega)
        rw [show (n != false) = n by cases n <;> rfl, show addS n n (Q * Bb) R (decide (m = 4)) = n by unfold addS; rw [if_pos rfl], show addN n n (Q * Bb) R = Aa by unfold addN; rw [if_pos rfl]; exact hsum] at h
        exact h)
    rw [(few n Aa (Nat.le_refl _)).1, (few n Aa (Nat.le_refl _)).2.1, (few n Aa (Nat.le_refl _)).2.2, show G + ((0 : Nat) : Int) = G by omega] at h
    exact h.mono (fun E w' h => tellR h)
  · rw [hN] at h2
    exact same_c W n n g v lg cg lv cv G e Aa N G 0 i h1 h2 (by have h3 := d16_len_ten a1; rw [h1.len] at h3; omega) (by have h3 := d16_len_ten x1; rw [h2.len] at h3; omega) (by omega) (by omega) (by omega) (by omega) (by omega) ⟨.inl rfl, by rw [Nat.pow_zero, Nat.mul_one]; exact hA⟩
end Go.Proofs.YtgdpljjmnmapmaaGreatDoor
