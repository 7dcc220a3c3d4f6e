/- The square root: the first guess and the iteration keep what is near the root: plain facts, no program. The square root: the rounded root is within one unit of the last place: plain facts, no program. The square root: where the computed root has the figures asked for and is not exact, the true one has noughts or nines there: plain facts, no program. The square root: rounding on a grid, the last quotient: plain facts, no program. The square root: where it has few figures the computed one is exact: plain facts, no program. -/
import Derived.Test.YtcoljeafgiemkaaGreatDoorC04
import Derived.Test.YtcoljeafgiemkaaGreatDoorC05
namespace Go.Proofs.YtcoljeafgiemkaaGreatDoor
theorem guess_e {U B : Int} (hB : 0 < B) (h1 : B ≤ 10 * U) (h2 : U ≤ B) : (819 * U + 259 * B) ^ 2 ≤ 1162200 * (U * B) ∧ 848000 * (U * B) ≤ (819 * U + 259 * B) ^ 2 := by
  have q1 := Int.mul_nonneg (show 0 ≤ B - U by omega) (show 0 ≤ 10 * U - B by omega)
  have q2 := sq_nn (819 * U - 259 * B)
  have q3 := Int.mul_nonneg (show 0 ≤ B by omega) (show 0 ≤ 10 * U - B by omega)
  have q4 := Int.mul_nonneg (show 0 ≤ B by omega) (show 0 ≤ U by omega)
  constructor <;> grind
theorem guess_o {U B : Int} (hB : 0 < B) (h1 : B ≤ 10 * U) (h2 : U ≤ B) : (2590 * U + 819 * B) ^ 2 ≤ 11622000 * (U * B) ∧ 8480000 * (U * B) ≤ (2590 * U + 819 * B) ^ 2 := by
  have q1 := Int.mul_nonneg (show 0 ≤ B - U by omega) (show 0 ≤ 10 * U - B by omega)
  have q2 := sq_nn (2590 * U - 819 * B)
  have q3 := Int.mul_nonneg (show 0 ≤ B by omega) (show 0 ≤ 10 * U - B by omega)
  have q4 := Int.mul_nonneg (show 0 ≤ B by omega) (show 0 ≤ U by omega)
  have q5 := sq_nn B
  have e1 : (2590 * U + 819 * B) ^ 2 = 6708100 * U ^ 2 + 4242420 * (U * B) + 670761 * B ^ 2 := by grind
  have e2 : (2590 * U - 819 * B) ^ 2 = 6708100 * U ^ 2 - 4242420 * (U * B) + 670761 * B ^ 2 := by grind
  have e3 : (B - U) * (10 * U - B) = 11 * (U * B) - 10 * U ^ 2 - B ^ 2 := by grind
  have e4 : B * (10 * U - B) = 10 * (U * B) - B ^ 2 := by grind
  rw [e1]
  rw [e2] at q2
  rw [e3] at q1
  rw [e4] at q3
  rw [Int.mul_comm B U] at q4
  generalize U ^ 2 = a at *
  generalize U * B = b at *
  generalize B ^ 2 = c at *
  omega
/-- Rounded twice. -/
theorem guess_up {P A X W0 Z : Int} (hP : 2000000 ≤ P) (hZ : 0 ≤ Z) (hX : 0 ≤ X) (h1 : P * A ≤ (P + 1) * W0) (h2 : P * X ≤ (P + 1) * (A + Z)) : P ^ 4 * X ^ 2 ≤ (P + 1) ^ 4 * (W0 + Z) ^ 2 := by
  have k1 := mulL h2 (c := P) (by omega)
  have k2 := mulL h1 (c := P + 1) (by omega)
  have k3 := Int.mul_nonneg (show 0 ≤ P + 1 by omega) hZ
  have k4 : P ^ 2 * X ≤ (P + 1) ^ 2 * (W0 + Z) := by grind
  have k5 := sq_le (Int.mul_nonneg (Int.pow_nonneg (by omega)) hX) k4
  grind
theorem guess_lo {P A X W0 Z : Int} (hP : 2000000 ≤ P) (hZ : 0 ≤ Z) (hW : 0 ≤ W0) (h1 : (P - 1) * W0 ≤ P * A) (h2 : (P - 1) * (A + Z) ≤ P * X) : (P - 1) ^ 4 * (W0 + Z) ^ 2 ≤ P ^ 4 * X ^ 2 := by
  have k1 := mulL h2 (c := P) (by omega)
  have k2 := mulL h1 (c := P - 1) (by omega)
  have k3 := Int.mul_nonneg (show 0 ≤ P - 1 by omega) hZ
  have k4 : (P - 1) ^ 2 * (W0 + Z) ≤ P ^ 2 * X := by grind
  have k5 := sq_le (Int.mul_nonneg (Int.pow_nonneg (by omega)) (show 0 ≤ W0 + Z by omega)) k4
  grind
theorem P_up {P : Int} (hP : 2000000 ≤ P) : 1000000 * (P + 1) ^ 4 ≤ 1000100 * P ^ 4 := by
  have p1 := mulL hP (c := P) (by omega)
  have p2 := mulL hP (c := P ^ 2) (sq_nn _)
  have p3 := mulL hP (c := P ^ 3) (Int.pow_nonneg (by omega))
  grind
theorem P_lo {P : Int} (hP : 2000000 ≤ P) : 999900 * P ^ 4 ≤ 1000000 * (P - 1) ^ 4 := by
  have p1 := mulL hP (c := P) (by omega)
  have p2 := mulL hP (c := P ^ 2) (sq_nn _)
  have p3 := mulL hP (c := P ^ 3) (Int.pow_nonneg (by omega))
  grind
theorem guess_near {P A X W0 Z V n : Int} (hP : 2000000 ≤ P) (hZ : 0 ≤ Z) (hW : 0 ≤ W0) (hX : 0 ≤ X) (hV : 0 ≤ V) (a1 : P * A ≤ (P + 1) * W0) (a2 : P * X ≤ (P + 1) * (A + Z)) (b1 : (P - 1) * W0 ≤ P * A) (b2 : (P - 1) * (A + Z) ≤ P * X)
    (hn : 0 < n) (g1 : 1000000 * (W0 + Z) ^ 2 ≤ 1162200 * (n * V)) (g2 : 848000 * (n * V) ≤ 1000000 * (W0 + Z) ^ 2) : 1000 * (X ^ 2 - n * V) ≤ 163 * (n * V) ∧ 1000 * (n * V - X ^ 2) ≤ 163 * (n * V) := by
  have k1 := guess_up hP hZ hX a1 a2
  have k2 := guess_lo hP hZ hW b1 b2
  have hP4 : 0 < P ^ 4 := Int.pow_pos (by omega)
  have hnV := Int.mul_nonneg (show 0 ≤ n by omega) hV
  generalize n * V = N at *
  generalize W0 + Z = W at *
  have l1 := Int.mul_le_mul_of_nonneg_right (P_up hP) (sq_nn W)
  have l2 := Int.mul_le_mul_of_nonneg_right (P_lo hP) (sq_nn W)
  have m1 := mulL g1 (c := P ^ 4) (by omega)
  have m2 := mulL g2 (c := P ^ 4) (by omega)
  have hN4 := Int.mul_nonneg (show 0 ≤ P ^ 4 by omega) hnV
  generalize P ^ 4 = Q at *
  generalize (P + 1) ^ 4 = Qu at *
  generalize (P - 1) ^ 4 = Ql at *
  constructor
  · have : Q * (1000 * (X ^ 2 - N)) ≤ Q * (163 * N) := by grind
    exact Int.le_of_mul_le_mul_left this hP4
  · have : Q * (1000 * (N - X ^ 2)) ≤ Q * (163 * N) := by grind
    exact Int.le_of_mul_le_mul_left this hP4

theorem near_mono {a k k' V X : Int} (h : Near a k V X) (hk : k ≤ k') (hV : 0 ≤ V) : Near a k' V X := by
  have := Int.mul_le_mul_of_nonneg_right hk hV
  exact ⟨Int.le_trans h.1 this, Int.le_trans h.2 this⟩
/-- What is near a root has an exponent that its figures bound. -/
theorem near_exp {S C n : Nat} {e : Int} {a k : Int} {V : Nat} (ha : 0 < a) (hk : 4 * k ≤ 3 * a) (h : Near a k (V : Int) (dval S C e : Nat)) (hV1 : 10 ^ (2 * S - 2) ≤ V) (hV2 : V ≤ 10 ^ (2 * S)) (hn : figs C ≤ n) (hS : n + 3 ≤ S) : C ≠ 0 ∧ e ≤ 0 ∧ -(n : Int) - 1 ≤ e := by
  have hV0 : 0 < V := Nat.lt_of_lt_of_le (ten_pos _) hV1
  have h1 : dval S C e ^ 2 ≤ 2 * V := by
    have h2 := h.1
    have h3 := Int.mul_le_mul_of_nonneg_right hk (show (0 : Int) ≤ V by omega)
    have h5 := Int.mul_nonneg (show 0 ≤ a by omega) (show (0 : Int) ≤ V by omega)
    have h4 : a * (((dval S C e : Nat) : Int) ^ 2) ≤ a * (2 * V) := by grind
    exact_mod_cast Int.le_of_mul_le_mul_left h4 ha
  have h2 : V ≤ 4 * dval S C e ^ 2 := by
    have h2 := h.2
    have h3 := Int.mul_le_mul_of_nonneg_right hk (show (0 : Int) ≤ V by omega)
    have h4 : a * (V : Int) ≤ a * (4 * ((dval S C e : Nat) : Int) ^ 2) := by grind
    exact_mod_cast Int.le_of_mul_le_mul_left h4 ha
  have hC : C ≠ 0 := by
    rintro rfl
    unfold dval at h2
    rw [Nat.zero_mul] at h2
    omega
  have e2 : 10 ^ (2 * S) = 10 ^ S * 10 ^ S := by rw [← Nat.pow_add]; congr 1; omega
  refine ⟨hC, ?_, ?_⟩
  · apply Decidable.byContradiction
    intro he
    have g1 : 10 * 10 ^ S ≤ dval S C e := by
      unfold dval
      have : 10 ^ (S + 1) ≤ 10 ^ (e + S).toNat := ten_le (by omega)
      rw [ten_succ] at this
      exact Nat.le_trans this (Nat.le_mul_of_pos_left _ (by omega))
    have g2 := Nat.mul_le_mul g1 g1
    have g3 := ten_pos S
    rw [Nat.pow_two] at h1
    rw [e2] at hV2
    generalize 10 ^ S = t at *
    have g4 := Nat.mul_pos g3 g3
    grind
  · apply Decidable.byContradiction
    intro he
    have g1 : dval S C e < 10 ^ (S - 2) := by
      unfold dval
      have q1 := figs_lt C
      have q2 : 10 ^ figs C ≤ 10 ^ n := ten_le hn
      have q3 : (e + (S : Int)).toNat ≤ S - 2 - n := by omega
      have q4 := ten_le q3
      calc C * 10 ^ (e + (S : Int)).toNat ≤ C * 10 ^ (S - 2 - n) := Nat.mul_le_mul_left _ q4
        _ < 10 ^ n * 10 ^ (S - 2 - n) := Nat.mul_lt_mul_of_pos_right (by omega) (ten_pos _)
        _ = 10 ^ (S - 2) := by rw [← Nat.pow_add]; congr 1; omega
    have g2 : dval S C e * dval S C e ≤ 10 ^ (S - 2) * 10 ^ (S - 2) := Nat.mul_le_mul (Nat.le_of_lt g1) (Nat.le_of_lt g1)
    rw [← Nat.pow_add] at g2
    have g3 : 10 ^ (2 * S - 2) = 100 * 10 ^ (S - 2 + (S - 2)) := by
      rw [show 2 * S - 2 = (S - 2 + (S - 2)) + 1 + 1 by omega, ten_succ, ten_succ]; omega
    have g4 := ten_pos (S - 2 + (S - 2))
    rw [Nat.pow_two] at h2
    omega
def kOf (p : Nat) : Int := if p ≤ 3 then 163 else if p ≤ 4 then 106 else if p ≤ 6 then 55 else 34
/-- What the iteration holds: p figures are right, or nearly; n figures at most. -/
structure SqInv (S V : Nat) (p : Nat) (C : Nat) (e : Int) (n : Nat) : Prop where
  figs : figs C ≤ n
  near : Near (10 ^ p) (kOf p) (V : Int) (dval S C e : Nat)
  ne : C ≠ 0
  hi : e ≤ 0
  lo : -(n : Int) - 1 ≤ e
theorem kOf_le {p : Nat} (hp : 3 ≤ p) : 4 * kOf p ≤ 3 * (10 : Int) ^ p ∧ 0 ≤ kOf p ∧ kOf p < 10 ^ p := by
  have h : (10 : Int) ^ 3 ≤ 10 ^ p := by exact_mod_cast ten_le hp
  have h0 : (10 : Int) ^ 3 = 1000 := by rfl
  rw [h0] at h
  unfold kOf
  split <;> (try split) <;> (try split) <;> omega
theorem sqInv_mk {S V p C n : Nat} {e : Int} (hp : 3 ≤ p) (hV1 : 10 ^ (2 * S - 2) ≤ V) (hV2 : V ≤ 10 ^ (2 * S)) (hn : figs C ≤ n) (hS : n + 3 ≤ S) (h : Near (10 ^ p) (kOf p) (V : Int) (dval S C e : Nat)) : SqInv S V p C e n := by
  obtain ⟨h1, h2, h3⟩ := near_exp (Int.pow_pos (by omega)) (kOf_le hp).1 h hV1 hV2 hn hS
  exact ⟨hn, h, h1, h2, h3⟩
theorem quoU_bound (A B : Nat) : quoU A B ≤ figs B + 1 := by
  have := figs_pos A
  unfold quoU; split <;> omega
theorem sq_step {S F p q C n : Nat} {eF e : Int} (hS : 1000 ≤ S) (hF : F ≠ 0) (heF : -200 ≤ eF ∧ eF ≤ 0) (hV1 : 10 ^ (2 * S - 2) ≤ dval (2 * S) F eF) (hV2 : dval (2 * S) F eF ≤ 10 ^ (2 * S)) (hn : n ≤ 100) (hq : q ≤ 100)
    (h : SqInv S (dval (2 * S) F eF) p C e n) (hpq : (p = 3 ∧ q = 4) ∨ (p = 4 ∧ q = 6) ∨ (p = 6 ∧ q = 10) ∨ (10 ≤ p ∧ p < q ∧ q ≤ 2 * p - 2)) :
    SqInv S (dval (2 * S) F eF) q (stY F eF C e q) (stYe F eF C e q) q := by
  have hp3 : 3 ≤ p := by omega
  have hq4 : 4 ≤ q := by omega
  have hu := quoU_bound F C
  have hfC := h.figs
  have hlo := h.lo
  have hhi := h.hi
  have hk := kOf_le hp3
  have hg : ∃ g : Int, (0 ≤ g ∧ g ≤ 83) ∧ 26 + g ≤ kOf q ∧ (2 * kOf p + 1) ^ 2 * 10 ^ p ≤ 1600 * g * (10 ^ p - kOf p) := by
    rcases hpq with ⟨rfl, rfl⟩ | ⟨rfl, rfl⟩ | ⟨rfl, rfl⟩ | ⟨h1, h2, h3⟩
    · exact ⟨80, by omega, by decide, by decide⟩
    · exact ⟨29, by omega, by decide, by decide⟩
    · exact ⟨8, by omega, by decide, by decide⟩
    · refine ⟨8, by omega, ?_, ?_⟩
      · unfold kOf; rw [if_neg (by omega), if_neg (by omega), if_neg (by omega)]; omega
      · have h4 : (10 : Int) ^ 10 ≤ 10 ^ p := by exact_mod_cast ten_le h1
        have h5 : (10 : Int) ^ 10 = 10000000000 := by rfl
        rw [h5] at h4
        unfold kOf; rw [if_neg (by omega), if_neg (by omega), if_neg (by omega)]; omega
  obtain ⟨g, hg0, hg1, hg2⟩ := hg
  have hnear := st_near (S := S) (F := F) (C := C) (p := q) (eF := eF) (e := e) (a := 10 ^ p) (k := kOf p) (g := g) hq4 hF h.ne (by unfold stQ qE; omega) (by omega) (by omega) hk.2.1 hk.2.2 h.near (by
    have h1 : 10 ^ (q + 2) ≤ 10 ^ (2 * p) := ten_le (by omega)
    have h2 : 500 * (2 * 10 ^ (q - 1)) = 10 ^ (q + 2) := by
      rw [show q + 2 = (q - 1) + 1 + 1 + 1 by omega, ten_succ, ten_succ, ten_succ]; omega
    rw [← h2, Nat.mul_comm 2 p, Nat.pow_mul] at h1
    generalize 2 * 10 ^ (q - 1) = P at *
    have h3 : (((10 : Nat) ^ p : Nat) : Int) = 10 ^ p := by push_cast; rfl
    rw [← h3]
    generalize 10 ^ p = t at *
    have h4 : ((500 * P : Nat) : Int) ≤ ((t ^ 2 : Nat) : Int) := Int.ofNat_le.2 h1
    rw [Int.natCast_mul, Int.natCast_pow] at h4
    exact h4) (by
    have h1 : 10 ^ p ≤ 10 ^ (q - 1) := ten_le (by omega)
    have h3 : (((10 : Nat) ^ p : Nat) : Int) = 10 ^ p := by push_cast; rfl
    rw [← h3]
    generalize 10 ^ p = t at *
    generalize 10 ^ (q - 1) = P at *
    omega) hg0 hg2
  exact sqInv_mk (by omega) hV1 hV2 (rndN_figs (by omega)) (by omega) (near_mono hnear hg1 (by omega))

/-- The first guess: al times F, rounded, and be, rounded. -/
def gA (F al w : Nat) : Nat := rndN false (al * F) w 2
def gAe (F al w : Nat) (eF ea : Int) : Int := ea + eF + rndK false (al * F) w 2
def gSum (F al be w : Nat) (eF ea eb : Int) : Nat := gA F al w * 10 ^ (gAe F al w eF ea - min (gAe F al w eF ea) eb).toNat + be * 10 ^ (eb - min (gAe F al w eF ea) eb).toNat
def gC (F al be w : Nat) (eF ea eb : Int) : Nat := rndN false (gSum F al be w eF ea eb) w 2
def gE (F al be w : Nat) (eF ea eb : Int) : Int := min (gAe F al w eF ea) eb + rndK false (gSum F al be w eF ea eb) w 2
theorem dval_ten {S C k : Nat} {e : Int} (h : 0 ≤ e - k + S) : 10 ^ k * dval S C (e - k) = dval S C e := by
  rw [Nat.mul_comm, show dval S C (e - k) * 10 ^ k = dval S (C * 10 ^ k) (e - k) by unfold dval; ac_rfl, val_pow _ _ _ _ h]
  congr 1; omega
theorem dval_mulL (S a C : Nat) (e : Int) : dval S (a * C) e = a * dval S C e := Nat.mul_assoc ..
theorem dval_zero (S C : Nat) : dval S C 0 = C * 10 ^ S := by unfold dval; rw [Int.zero_add, Int.toNat_natCast]
theorem guess_r {S F al be w : Nat} {eF ea eb : Int} (hw : 7 ≤ w) (h1 : 0 ≤ ea + eF + S) (h2 : 0 ≤ eb + S) :
    ∃ A : Nat, 2 * 10 ^ (w - 1) * A ≤ (2 * 10 ^ (w - 1) + 1) * dval S (al * F) (ea + eF) ∧ 2 * 10 ^ (w - 1) * dval S (al * F) (ea + eF) ≤ 2 * 10 ^ (w - 1) * A + dval S (al * F) (ea + eF) ∧
      2 * 10 ^ (w - 1) * dval S (gC F al be w eF ea eb) (gE F al be w eF ea eb) ≤ (2 * 10 ^ (w - 1) + 1) * (A + dval S be eb) ∧ 2 * 10 ^ (w - 1) * (A + dval S be eb) ≤ 2 * 10 ^ (w - 1) * dval S (gC F al be w eF ea eb) (gE F al be w eF ea eb) + (A + dval S be eb) := by
  have a := r_val (S := S) (C := al * F) (p := w) (e := ea + eF) (by omega) (by omega)
  have hg : 0 ≤ gAe F al w eF ea + S := by unfold gAe; omega
  have s := r_val (S := S) (C := gSum F al be w eF ea eb) (p := w) (e := min (gAe F al w eF ea) eb) (by omega) (by omega)
  have e1 : dval S (gSum F al be w eF ea eb) (min (gAe F al w eF ea) eb) = dval S (gA F al w) (gAe F al w eF ea) + dval S be eb := by
    unfold gSum
    rw [val_add, val_pow _ _ _ _ (by omega), val_pow _ _ _ _ (by omega)]
    rw [show min (gAe F al w eF ea) eb + ((gAe F al w eF ea - min (gAe F al w eF ea) eb).toNat : Int) = gAe F al w eF ea by omega, show min (gAe F al w eF ea) eb + ((eb - min (gAe F al w eF ea) eb).toNat : Int) = eb by omega]
  rw [e1] at s
  exact ⟨dval S (gA F al w) (gAe F al w eF ea), a.1, a.2, s.1, s.2⟩
theorem guess_fin {V w : Nat} {t W0 Z X A : Nat} {a0 z0 : Nat} (hw : 7 ≤ w) (ht : 0 < t) (h1 : 2 * 10 ^ (w - 1) * A ≤ (2 * 10 ^ (w - 1) + 1) * a0) (h2 : 2 * 10 ^ (w - 1) * a0 ≤ 2 * 10 ^ (w - 1) * A + a0)
    (h3 : 2 * 10 ^ (w - 1) * X ≤ (2 * 10 ^ (w - 1) + 1) * (A + z0)) (h4 : 2 * 10 ^ (w - 1) * (A + z0) ≤ 2 * 10 ^ (w - 1) * X + (A + z0)) (ha : t * a0 = W0) (hz : t * z0 = Z)
    (g1 : 1000000 * ((W0 : Int) + Z) ^ 2 ≤ 1162200 * ((t : Int) ^ 2 * V)) (g2 : 848000 * ((t : Int) ^ 2 * V) ≤ 1000000 * ((W0 : Int) + Z) ^ 2) : Near (10 ^ 3) (kOf 3) (V : Int) (X : Int) := by
  have hP : 2000000 ≤ 2 * 10 ^ (w - 1) := by have := ten_le (show 6 ≤ w - 1 by omega); omega
  generalize 2 * 10 ^ (w - 1) = P at *
  have b1 := Nat.mul_le_mul_left t h1
  have b2 := Nat.mul_le_mul_left t h2
  have b3 := Nat.mul_le_mul_left t h3
  have b4 := Nat.mul_le_mul_left t h4
  subst ha hz
  have hn : (0 : Int) < (t : Int) ^ 2 := Int.pow_pos (by omega)
  obtain ⟨u1, u2⟩ := guess_near (P := (P : Int)) (A := ((t * A : Nat) : Int)) (X := ((t * X : Nat) : Int)) (W0 := ((t * a0 : Nat) : Int)) (Z := ((t * z0 : Nat) : Int)) (V := (V : Int)) (n := (t : Int) ^ 2) (by omega) (by omega) (by omega) (by omega) (by omega) (by
      have : P * (t * A) ≤ (P + 1) * (t * a0) := by grind
      exact_mod_cast this) (by
      have : P * (t * X) ≤ (P + 1) * (t * A + t * z0) := by grind
      exact_mod_cast this) (by
      have : P * (t * a0) ≤ P * (t * A) + t * a0 := by grind
      have : (P : Int) * ((t * a0 : Nat) : Int) ≤ P * ((t * A : Nat) : Int) + ((t * a0 : Nat) : Int) := by exact_mod_cast this
      rw [Int.sub_mul]; omega) (by
      have : P * (t * A + t * z0) ≤ P * (t * X) + (t * A + t * z0) := by grind
      have : (P : Int) * (((t * A : Nat) : Int) + ((t * z0 : Nat) : Int)) ≤ P * ((t * X : Nat) : Int) + (((t * A : Nat) : Int) + ((t * z0 : Nat) : Int)) := by exact_mod_cast this
      rw [Int.sub_mul]; omega) hn g1 g2
  rw [Int.natCast_mul t X] at u1 u2
  have v1 : (t : Int) ^ 2 * (1000 * ((X : Int) ^ 2 - V)) ≤ (t : Int) ^ 2 * (163 * V) := by grind
  have v2 : (t : Int) ^ 2 * (1000 * ((V : Int) - X ^ 2)) ≤ (t : Int) ^ 2 * (163 * V) := by grind
  exact ⟨Int.le_of_mul_le_mul_left v1 hn, Int.le_of_mul_le_mul_left v2 hn⟩
theorem guess_even {S F w : Nat} {eF : Int} (hS : 300 ≤ S) (hw : 7 ≤ w) (hw2 : w ≤ 100) (heF : -200 ≤ eF ∧ eF ≤ 0) (h1 : 10 ^ (2 * S - 1) ≤ dval (2 * S) F eF) (h2 : dval (2 * S) F eF ≤ 10 ^ (2 * S)) :
    SqInv S (dval (2 * S) F eF) 3 (gC F 819 259 w eF (-3) (-3)) (gE F 819 259 w eF (-3) (-3)) w := by
  obtain ⟨A, a1, a2, a3, a4⟩ := guess_r (S := S) (F := F) (al := 819) (be := 259) (w := w) (eF := eF) (ea := -3) (eb := -3) hw (by omega) (by omega)
  have hV : dval (2 * S) F eF = dval S F eF * 10 ^ S := by
    unfold dval
    rw [show (eF + ((2 * S : Nat) : Int)).toNat = (eF + S).toNat + S by omega, Nat.pow_add, Nat.mul_assoc]
  refine sqInv_mk (by omega) (Nat.le_trans (ten_le (by omega)) h1) h2 (rndN_figs (by omega)) (by omega) ?_
  have k1 : 10 ^ 3 * dval S (819 * F) (-3 + eF) = 819 * dval S F eF := by
    have := dval_ten (S := S) (C := 819 * F) (k := 3) (e := eF) (by omega)
    rw [show (-3 : Int) + eF = eF - (3 : Nat) by omega, this, dval_mulL]
  have k2 : 10 ^ 3 * dval S 259 (-3) = 259 * 10 ^ S := by
    have := dval_ten (S := S) (C := 259) (k := 3) (e := 0) (by omega)
    rw [show (-3 : Int) = 0 - (3 : Nat) by omega, this, dval_zero]
  have hB := ten_pos S
  have i1 : 10 ^ S ≤ 10 * dval S F eF := by
    rw [hV, show 2 * S - 1 = (S - 1) + S by omega, Nat.pow_add] at h1
    have := Nat.le_of_mul_le_mul_right h1 hB
    have e : 10 ^ S = 10 * 10 ^ (S - 1) := by rw [← ten_succ]; congr 1; omega
    omega
  have i2 : dval S F eF ≤ 10 ^ S := by
    rw [hV, show 2 * S = S + S by omega, Nat.pow_add] at h2
    exact Nat.le_of_mul_le_mul_right h2 hB
  have hg := guess_e (U := (dval S F eF : Nat)) (B := ((10 ^ S : Nat) : Int)) (by omega) (by omega) (by omega)
  rw [show (10 : Nat) ^ 3 = 1000 by decide] at k1 k2
  refine guess_fin (t := 1000) hw (by omega) a1 a2 a3 a4 k1 k2 ?_ ?_
  all_goals
    rw [hV]
    generalize dval S F eF = U at *
    generalize 10 ^ S = B at *
    obtain ⟨g1, g2⟩ := hg
    rw [show ((819 * U : Nat) : Int) = 819 * (U : Int) by omega, show ((259 * B : Nat) : Int) = 259 * (B : Int) by omega, Int.natCast_mul U B, show (((1000 : Nat) : Int)) ^ 2 = 1000000 by decide]
    generalize (819 * (U : Int) + 259 * (B : Int)) ^ 2 = v at *
    generalize (U : Int) * (B : Int) = u at *
    omega
theorem guess_odd {S F w : Nat} {eF : Int} (hS : 300 ≤ S) (hw : 7 ≤ w) (hw2 : w ≤ 100) (heF : -200 ≤ eF ∧ eF ≤ 0) (h1 : 10 ^ (2 * S - 2) ≤ dval (2 * S) F eF) (h2 : dval (2 * S) F eF ≤ 10 ^ (2 * S - 1)) :
    SqInv S (dval (2 * S) F eF) 3 (gC F 259 819 w eF (-2) (-4)) (gE F 259 819 w eF (-2) (-4)) w := by
  obtain ⟨A, a1, a2, a3, a4⟩ := guess_r (S := S) (F := F) (al := 259) (be := 819) (w := w) (eF := eF) (ea := -2) (eb := -4) hw (by omega) (by omega)
  have hV : dval (2 * S) F eF = dval S F eF * 10 ^ S := by
    unfold dval
    rw [show (eF + ((2 * S : Nat) : Int)).toNat = (eF + S).toNat + S by omega, Nat.pow_add, Nat.mul_assoc]
  refine sqInv_mk (by omega) (Nat.le_trans (ten_le (by omega)) h1) (Nat.le_trans h2 (ten_le (by omega))) (rndN_figs (by omega)) (by omega) ?_
  have k1 : 10 ^ 4 * dval S (259 * F) (-2 + eF) = 25900 * dval S F eF := by
    have := dval_ten (S := S) (C := 259 * F) (k := 2) (e := eF) (by omega)
    rw [show (-2 : Int) + eF = eF - (2 : Nat) by omega, show (10 : Nat) ^ 4 = 100 * 10 ^ 2 by decide, Nat.mul_assoc, this, dval_mulL]
    omega
  have k2 : 10 ^ 4 * dval S 819 (-4) = 819 * 10 ^ S := by
    have := dval_ten (S := S) (C := 819) (k := 4) (e := 0) (by omega)
    rw [show (-4 : Int) = 0 - (4 : Nat) by omega, this, dval_zero]
  have hB := ten_pos S
  have e0 : 10 ^ S = 10 * 10 ^ (S - 1) := by rw [← ten_succ]; congr 1; omega
  have i1 : 10 ^ S ≤ 10 * (10 * dval S F eF) := by
    rw [hV, show 2 * S - 2 = (S - 2) + S by omega, Nat.pow_add] at h1
    have := Nat.le_of_mul_le_mul_right h1 hB
    have e : 10 ^ (S - 1) = 10 * 10 ^ (S - 2) := by rw [← ten_succ]; congr 1; omega
    omega
  have i2 : 10 * dval S F eF ≤ 10 ^ S := by
    rw [hV, show 2 * S - 1 = (S - 1) + S by omega, Nat.pow_add] at h2
    have := Nat.le_of_mul_le_mul_right h2 hB
    omega
  have hg := guess_o (U := ((10 * dval S F eF : Nat) : Int)) (B := ((10 ^ S : Nat) : Int)) (by omega) (by omega) (by omega)
  rw [show (10 : Nat) ^ 4 = 10000 by decide] at k1 k2
  refine guess_fin (t := 10000) hw (by omega) a1 a2 a3 a4 k1 k2 ?_ ?_
  all_goals
    rw [hV]
    generalize dval S F eF = U at *
    generalize 10 ^ S = B at *
    obtain ⟨g1, g2⟩ := hg
    have e1 : 2590 * ((10 * U : Nat) : Int) + 819 * (B : Int) = 25900 * (U : Int) + 819 * (B : Int) := by omega
    have e2 : ((10 * U : Nat) : Int) * (B : Int) = 10 * ((U : Int) * B) := by rw [show ((10 * U : Nat) : Int) = 10 * (U : Int) by omega, Int.mul_assoc]
    rw [e1, e2] at g1 g2
    rw [show ((25900 * U : Nat) : Int) = 25900 * (U : Int) by omega, show ((819 * B : Nat) : Int) = 819 * (B : Int) by omega, Int.natCast_mul U B, show (((10000 : Nat) : Int)) ^ 2 = 100000000 by decide]
    generalize (25900 * (U : Int) + 819 * (B : Int)) ^ 2 = v at *
    generalize (U : Int) * (B : Int) = u at *
    omega
end Go.Proofs.YtcoljeafgiemkaaGreatDoor

namespace Go.Proofs.YtcoljeafgiemkaaGreatDoor
theorem root_near {Q T X V U : Int} (hT : 1 ≤ T) (hQ : 1000000 * T ≤ Q) (hX : 0 < X) (hV : 0 < V) (hU : 0 < U) (h1 : Q * (X ^ 2 - V) ≤ 34 * V) (h2 : Q * (V - X ^ 2) ≤ 34 * V) (h3 : X ≤ (T + 1) * U) : 2 * (V - X ^ 2) < X * U ∧ 2 * (X ^ 2 - V) < X * U := by
  have hv : V ≤ 2 * X ^ 2 := by
    have a1 := Int.mul_le_mul_of_nonneg_right (show (1000000 : Int) ≤ Q by omega) (sq_nn X)
    have a2 := Int.mul_le_mul_of_nonneg_right (show (1000000 : Int) ≤ Q by omega) (show 0 ≤ V by omega)
    have a3 : (Q - 34) * V ≤ (Q - 34) * (2 * X ^ 2) := by grind
    exact Int.le_of_mul_le_mul_left a3 (by omega)
  have b1 := mulL h3 (c := X) (by omega)
  have b2 := Int.mul_pos hX hU
  have b3 := mulL hT (c := X * U) (by omega)
  have b4 := mulL hQ (c := X * U) (by omega)
  have b5 : 0 < X * U * T := Int.mul_pos b2 (by omega)
  have c1 : 68 * V < Q * (X * U) := by grind
  constructor
  · have : Q * (2 * (V - X ^ 2)) < Q * (X * U) := by grind
    exact Int.lt_of_mul_lt_mul_left this (by omega)
  · have : Q * (2 * (X ^ 2 - V)) < Q * (X * U) := by grind
    exact Int.lt_of_mul_lt_mul_left this (by omega)
theorem root_unit {Q T X V U G : Int} (hT : 1 ≤ T) (hQ : 1000000 * T ≤ Q) (hX : 0 < X) (hV : 0 < V) (hU : 0 < U) (h1 : Q * (X ^ 2 - V) ≤ 34 * V) (h2 : Q * (V - X ^ 2) ≤ 34 * V) (g1 : 2 * G ≤ 2 * X + U) (g2 : 2 * X ≤ 2 * G + U) (g3 : G < T * U) (g4 : U ≤ G) :
    (G - U) ^ 2 < V ∧ V < (G + U) ^ 2 := by
  have h3 : X ≤ (T + 1) * U := by grind
  obtain ⟨k1, k2⟩ := root_near hT hQ hX hV hU h1 h2 h3
  have d1 := sq_le (a := 2 * (G - U)) (b := 2 * X - U) (by omega) (by omega)
  have d2 := sq_le (a := 2 * X + U) (b := 2 * (G + U)) (by omega) (by omega)
  have d3 := Int.mul_le_mul_of_nonneg_right (show U ≤ 2 * X by omega) (show 0 ≤ U by omega)
  have d4 := sq_nn U
  constructor <;> grind
theorem rnd_adjG {n : Bool} {N p m : Nat} (hp : 1 ≤ p) : figs N ≤ rndK n N p m + figs (rndN n N p m) := by
  by_cases h : figs N ≤ p
  · unfold rndN rndK
    rw [if_pos h, if_pos h]; omega
  · have h1 := (cutN_figs (neg := n) (C := N) (p := p) (mode := m) hp (by omega)).1
    unfold rndN rndK
    rw [if_neg h, if_neg h]
    by_cases ho : figs (cutN n N (figs N - p) m) > p
    · rw [if_pos ho, if_pos ho, cutN_over hp (by omega) ho]
      obtain ⟨q, rfl⟩ : ∃ q, p = q + 1 := ⟨p - 1, by omega⟩
      rw [ten_succ, Nat.mul_div_cancel_left _ (by omega), figs_pow]; omega
    · rw [if_neg ho, if_neg ho]
      have h2 := figs_mono h1
      rw [figs_pow] at h2
      omega
theorem rnd_ne {n : Bool} {N p m : Nat} (hp : 1 ≤ p) (h : N ≠ 0) : rndN n N p m ≠ 0 := by
  by_cases hq : figs N ≤ p
  · unfold rndN; rw [if_pos hq]; exact h
  · have h1 := (cutN_figs (neg := n) (C := N) (p := p) (mode := m) hp (by omega)).1
    have h2 := ten_pos (p - 1)
    unfold rndN
    rw [if_neg hq]
    by_cases ho : figs (cutN n N (figs N - p) m) > p
    · rw [if_pos ho, cutN_over hp (by omega) ho]
      obtain ⟨q, rfl⟩ : ∃ q, p = q + 1 := ⟨p - 1, by omega⟩
      rw [ten_succ, Nat.mul_div_cancel_left _ (by omega)]
      have := ten_pos q; omega
    · rw [if_neg ho]; omega
/-- The rounded root and its unit. -/
theorem root_law {S V M C n p : Nat} {e : Int} (hV : 0 < V) (h : SqInv S V M C e n) (hM : p + 6 ≤ M) (hM2 : 7 ≤ M) (hp : 1 ≤ p) (hS : n + p + 10 ≤ S) {G U : Nat}
    (hG : dval S (rndN false C p 2) (e + rndK false C p 2) = G) (hU : dval S 1 (e + rndK false C p 2 + figs (rndN false C p 2) - p) = U) :
    U ≤ G ∧ (G - U) ^ 2 < V ∧ V < (G + U) ^ 2 := by
  have hlo := h.lo
  have hf := h.figs
  have ha := rnd_adjG (n := false) (N := C) (p := p) (m := 2) hp
  have hc := rnd_ne (n := false) (N := C) (p := p) (m := 2) hp h.ne
  have hnear := h.near
  have hk : kOf M = 34 := by unfold kOf; rw [if_neg (by omega), if_neg (by omega), if_neg (by omega)]
  rw [hk] at hnear
  have hX : 0 < dval S C e := val_pos (by have := h.ne; omega)
  have e1 : U = 10 ^ (e + rndK false C p 2 + figs (rndN false C p 2) - p + S).toNat := by rw [← hU]; unfold dval; rw [Nat.one_mul]
  have hU0 : 0 < U := by rw [e1]; exact ten_pos _
  have g3 : G < 10 ^ p * U := by
    rw [← hG, e1, ← Nat.pow_add]
    unfold dval
    have := figs_lt (rndN false C p 2)
    rw [show p + (e + rndK false C p 2 + figs (rndN false C p 2) - p + S).toNat = figs (rndN false C p 2) + (e + rndK false C p 2 + S).toNat by omega, Nat.pow_add]
    exact Nat.mul_lt_mul_of_pos_right this (ten_pos _)
  have g4 : U ≤ G := by
    have h1 := figs_ge hc
    have h2 := figs_pos (rndN false C p 2)
    rw [← hG, e1]
    unfold dval
    calc 10 ^ (e + rndK false C p 2 + figs (rndN false C p 2) - p + S).toNat ≤ 10 ^ (figs (rndN false C p 2) - 1 + (e + rndK false C p 2 + S).toNat) := ten_le (by omega)
      _ = 10 ^ (figs (rndN false C p 2) - 1) * 10 ^ (e + rndK false C p 2 + S).toNat := Nat.pow_add ..
      _ ≤ _ := Nat.mul_le_mul_right _ h1
  have g12 : 2 * G ≤ 2 * dval S C e + U ∧ 2 * dval S C e ≤ 2 * G + U := by
    by_cases hq : figs C ≤ p
    · have : G = dval S C e := by
        rw [← hG, show rndN false C p 2 = C by unfold rndN; rw [if_pos hq], show rndK false C p 2 = 0 by unfold rndK; rw [if_pos hq]]
        congr 1; omega
      omega
    · have h1 := rnd_same false (C := C) (p := p) (m := 2) hp (by omega)
      have h2 := rndF_near false C (10 ^ (figs C - p)) (ten_pos _)
      rw [← val_pow _ _ _ _ (by omega), h1, cutN_rndF, Nat.mul_comm (rndF ..)] at hG
      have h3 : 10 ^ (figs C - p) * 10 ^ (e + (S : Int)).toNat ≤ U := by
        rw [e1, ← Nat.pow_add]
        exact ten_le (by omega)
      rw [← hG]
      unfold dval
      generalize 10 ^ (figs C - p) * rndF false C (10 ^ (figs C - p)) 2 = v at *
      generalize 10 ^ (figs C - p) = E at *
      generalize 10 ^ (e + (S : Int)).toNat = t at *
      have h4 := Nat.mul_le_mul_right t h2.1
      have h5 := Nat.mul_le_mul_right t h2.2
      constructor <;> grind
  have hQ : 1000000 * 10 ^ p ≤ 10 ^ M := by
    rw [show (1000000 : Nat) = 10 ^ 6 by decide, ← Nat.pow_add]; exact ten_le (by omega)
  have hT := ten_pos p
  generalize dval S C e = X at *
  have h3 : (((10 : Nat) ^ M : Nat) : Int) = 10 ^ M := Int.natCast_pow ..
  rw [← h3] at hnear
  generalize 10 ^ M = Q at *
  generalize 10 ^ p = T at *
  obtain ⟨r1, r2⟩ := root_unit (Q := (Q : Int)) (T := (T : Int)) (X := (X : Int)) (V := (V : Int)) (U := (U : Int)) (G := (G : Int)) (by omega) (by omega) (by omega) (by omega) (by omega) hnear.1 hnear.2 (by omega) (by omega) (by exact_mod_cast g3) (by omega)
  refine ⟨g4, ?_, ?_⟩
  · have : (((G - U : Nat) : Int)) = (G : Int) - U := by omega
    rw [← this] at r1
    exact_mod_cast r1
  · exact_mod_cast r2
end Go.Proofs.YtcoljeafgiemkaaGreatDoor

namespace Go.Proofs.YtcoljeafgiemkaaGreatDoor
/-- A number near a root is near what holds the root. -/
theorem near_lo {Q T X V R R1 D : Int} (hT : 1 ≤ T) (hQ : 1000000 * T ≤ Q) (hX : 0 < X) (hR : 0 < R) (hR1 : R1 ≤ 2 * R) (hR0 : 0 < R1) (h2 : Q * (V - X ^ 2) ≤ 34 * V) (hv1 : R ^ 2 ≤ V) (hv2 : V ≤ R1 ^ 2) (hD : R1 ≤ T * D) (hD0 : 0 < D) : 10000 * R ≤ 10000 * X + D := by
  apply Decidable.byContradiction
  intro hc
  have a1 : X < R := by omega
  have a2 : Q * (R ^ 2 - X ^ 2) ≤ 34 * R1 ^ 2 := by
    have := mulL (show R ^ 2 - X ^ 2 ≤ V - X ^ 2 by omega) (c := Q) (by omega)
    omega
  have a3 : (R - X) * R ≤ R ^ 2 - X ^ 2 := by
    have := Int.mul_le_mul_of_nonneg_right (show X ≤ R by omega) (show 0 ≤ X by omega)
    grind
  have a4 := mulL a3 (c := Q) (by omega)
  have a5 := mulL hR1 (c := R1) (by omega)
  have a6 : R * (Q * (R - X)) ≤ R * (68 * R1) := by grind
  have a7 := Int.le_of_mul_le_mul_left a6 hR
  have a8 := mulL (show D + 1 ≤ 10000 * (R - X) by omega) (c := Q) (by omega)
  have a9 := Int.mul_le_mul_of_nonneg_right hQ (show 0 ≤ D by omega)
  have a10 := Int.mul_pos (show 0 < T by omega) hD0
  grind
theorem near_hi {Q T X V R1 D : Int} (hT : 1 ≤ T) (hQ : 1000000 * T ≤ Q) (hX : 0 < X) (hR0 : 0 < R1) (h1 : Q * (X ^ 2 - V) ≤ 34 * V) (hv2 : V ≤ R1 ^ 2) (hD : R1 ≤ T * D) (hD0 : 0 < D) : 10000 * X ≤ 10000 * R1 + D := by
  apply Decidable.byContradiction
  intro hc
  have a1 : R1 < X := by omega
  have a2 : Q * (X ^ 2 - R1 ^ 2) ≤ 34 * R1 ^ 2 := by
    have := mulL (show X ^ 2 - R1 ^ 2 ≤ X ^ 2 - V by omega) (c := Q) (by omega)
    omega
  have a3 : (X - R1) * R1 ≤ X ^ 2 - R1 ^ 2 := by
    have := Int.mul_le_mul_of_nonneg_right (show R1 ≤ X by omega) (show 0 ≤ X by omega)
    grind
  have a4 := mulL a3 (c := Q) (by omega)
  have a6 : R1 * (Q * (X - R1)) ≤ R1 * (34 * R1) := by grind
  have a7 := Int.le_of_mul_le_mul_left a6 hR0
  have a8 := mulL (show D + 1 ≤ 10000 * (X - R1) by omega) (c := Q) (by omega)
  have a9 := Int.mul_le_mul_of_nonneg_right hQ (show 0 ≤ D by omega)
  have a10 := Int.mul_pos (show 0 < T by omega) hD0
  grind
/-- Three figures behind a place: noughts or nines, where a multiple of the place is near. -/
theorem three_figs {r x E : Nat} (hE : 100 ≤ E) (h1 : 10000 * r ≤ 10000 * (x * (1000 * E)) + 1000 * E) (h2 : 10000 * (x * (1000 * E)) ≤ 10000 * (r + 1) + 1000 * E) : r / E % 1000 = 0 ∨ r / E % 1000 = 999 := by
  have e : x * (1000 * E) = (1000 * x) * E := by ac_rfl
  rw [e] at h1 h2
  by_cases h : (1000 * x) * E ≤ r
  · left
    have : r / E = 1000 * x := by
      rw [Nat.div_eq_iff (by omega)]
      omega
    rw [this, Nat.mul_mod_right]
  · right
    have hx : 1 ≤ x := by
      apply Decidable.byContradiction; intro hx
      obtain rfl : x = 0 := by omega
      omega
    have : r / E = 1000 * x - 1 := by
      rw [Nat.div_eq_iff (by omega), Nat.sub_mul]
      omega
    omega
theorem same_place {r x E : Nat} (hE : 0 < E) (hr : r % (1000 * E) = 0) (h1 : 10000 * r ≤ 10000 * (x * (100 * E)) + 1000 * E) (h2 : 10000 * (x * (100 * E)) ≤ 10000 * r + 1000 * E) : r = x * (100 * E) := by
  obtain ⟨y, rfl⟩ : ∃ y, r = y * (1000 * E) := ⟨r / (1000 * E), by have := Nat.div_add_mod r (1000 * E); rw [hr, Nat.add_zero, Nat.mul_comm] at this; exact this.symm⟩
  have e1 : y * (1000 * E) = (10 * y) * (100 * E) := by rw [Nat.mul_comm 10 y, Nat.mul_assoc]; congr 1; omega
  rw [e1] at h1 h2 ⊢
  rcases Nat.lt_trichotomy (10 * y) x with h | h | h
  · have := Nat.mul_le_mul_right (100 * E) (show 10 * y + 1 ≤ x by omega)
    rw [Nat.add_mul, Nat.one_mul] at this
    omega
  · rw [h]
  · have := Nat.mul_le_mul_right (100 * E) (show x + 1 ≤ 10 * y by omega)
    rw [Nat.add_mul, Nat.one_mul] at this
    omega
/-- A decimal of p figures near a root that is not its own: the root has noughts or nines behind the place. -/
theorem plain_law {N r w V Q p c m : Nat} (hV : V = N * (10 ^ w * 10 ^ w)) (hr1 : r * r ≤ N) (hr2 : N < (r + 1) * (r + 1)) (hL : p + 5 ≤ figs r) (hp : 1 ≤ p) (hQ : 1000000 * 10 ^ p ≤ Q) (hc : figs c ≤ p) (hc0 : c ≠ 0)
    (h1 : (Q : Int) * (((c * 10 ^ m : Nat) : Int) ^ 2 - V) ≤ 34 * V) (h2 : (Q : Int) * ((V : Int) - ((c * 10 ^ m : Nat) : Int) ^ 2) ≤ 34 * V) :
    (r / 10 ^ (figs r - p - 3) % 1000 = 0 ∨ r / 10 ^ (figs r - p - 3) % 1000 = 999) ∧ (r % 10 ^ (figs r - p) = 0 → r * r = N → (c * 10 ^ m) * (c * 10 ^ m) = V) := by
  have hr0 : r ≠ 0 := by rintro rfl; rw [figs_zero] at hL; omega
  have hlt := figs_lt r
  have hge := figs_ge hr0
  obtain ⟨q, hq⟩ : ∃ q, figs r = p + q + 5 := ⟨figs r - p - 5, by omega⟩
  rw [hq] at hlt hge ⊢
  rw [show p + q + 5 - p - 3 = q + 2 by omega, show p + q + 5 - p = q + 5 by omega]
  have hW := ten_pos w
  have hT := ten_pos p
  have hE := ten_pos (q + 2)
  have hX : 0 < c * 10 ^ m := Nat.mul_pos (by omega) (ten_pos _)
  have eD : 10 ^ (q + 5) = 1000 * 10 ^ (q + 2) := by rw [show q + 5 = q + 2 + 1 + 1 + 1 by omega, ten_succ, ten_succ, ten_succ]; omega
  have hE100 : 100 ≤ 10 ^ (q + 2) := ten_le (show 2 ≤ q + 2 by omega)
  have eL : 10 ^ (p + q + 5) = 10 ^ p * (1000 * 10 ^ (q + 2)) := by rw [← eD, ← Nat.pow_add]; congr 1
  have hv1 : r * 10 ^ w * (r * 10 ^ w) ≤ V := by
    rw [hV, show r * 10 ^ w * (r * 10 ^ w) = r * r * (10 ^ w * 10 ^ w) by ac_rfl]; exact Nat.mul_le_mul_right _ hr1
  have hv2 : V ≤ (r + 1) * 10 ^ w * ((r + 1) * 10 ^ w) := by
    rw [hV, show (r + 1) * 10 ^ w * ((r + 1) * 10 ^ w) = (r + 1) * (r + 1) * (10 ^ w * 10 ^ w) by ac_rfl]; exact Nat.mul_le_mul_right _ (by omega)
  have hR0 : 0 < r * 10 ^ w := Nat.mul_pos (by omega) hW
  have hD : (r + 1) * 10 ^ w ≤ 10 ^ p * (1000 * 10 ^ (q + 2) * 10 ^ w) := by
    rw [← Nat.mul_assoc, ← eL]; exact Nat.mul_le_mul_right _ (by omega)
  have hD0 : 0 < 1000 * 10 ^ (q + 2) * 10 ^ w := Nat.mul_pos (by omega) hW
  have A := near_lo (Q := (Q : Int)) (T := ((10 ^ p : Nat) : Int)) (X := ((c * 10 ^ m : Nat) : Int)) (V := (V : Int)) (R := ((r * 10 ^ w : Nat) : Int)) (R1 := (((r + 1) * 10 ^ w : Nat) : Int)) (D := ((1000 * 10 ^ (q + 2) * 10 ^ w : Nat) : Int)) (by omega) (by omega) (by omega) (by omega)
    (by have : (r + 1) * 10 ^ w ≤ 2 * (r * 10 ^ w) := by rw [← Nat.mul_assoc]; exact Nat.mul_le_mul_right _ (by omega)
        omega) (by have : 0 < (r + 1) * 10 ^ w := Nat.mul_pos (by omega) hW
                   omega) h2 (by rw [Int.pow_succ, Int.pow_one]; exact_mod_cast hv1) (by rw [Int.pow_succ, Int.pow_one]; exact_mod_cast hv2) (by exact_mod_cast hD) (by omega)
  have B := near_hi (Q := (Q : Int)) (T := ((10 ^ p : Nat) : Int)) (X := ((c * 10 ^ m : Nat) : Int)) (V := (V : Int)) (R1 := (((r + 1) * 10 ^ w : Nat) : Int)) (D := ((1000 * 10 ^ (q + 2) * 10 ^ w : Nat) : Int)) (by omega) (by omega) (by omega)
    (by have : 0 < (r + 1) * 10 ^ w := Nat.mul_pos (by omega) hW
        omega) h1 (by rw [Int.pow_succ, Int.pow_one]; exact_mod_cast hv2) (by exact_mod_cast hD) (by omega)
  have Bx : r * r = N → 10000 * (c * 10 ^ m) ≤ 10000 * (r * 10 ^ w) + 1000 * 10 ^ (q + 2) * 10 ^ w := by
    intro hN
    have hv3 : V ≤ r * 10 ^ w * (r * 10 ^ w) := by rw [hV, ← hN]; apply Nat.le_of_eq; ac_rfl
    have := near_hi (Q := (Q : Int)) (T := ((10 ^ p : Nat) : Int)) (X := ((c * 10 ^ m : Nat) : Int)) (V := (V : Int)) (R1 := ((r * 10 ^ w : Nat) : Int)) (D := ((1000 * 10 ^ (q + 2) * 10 ^ w : Nat) : Int)) (by omega) (by omega) (by omega) (by omega) h1 (by rw [Int.pow_succ, Int.pow_one]; exact_mod_cast hv3)
      (by have : r * 10 ^ w ≤ (r + 1) * 10 ^ w := Nat.mul_le_mul_right _ (by omega)
          have := Nat.le_trans this hD
          exact_mod_cast this) (by omega)
    omega
  have A' : 10000 * (r * 10 ^ w) ≤ 10000 * (c * 10 ^ m) + 1000 * 10 ^ (q + 2) * 10 ^ w := by omega
  have B' : 10000 * (c * 10 ^ m) ≤ 10000 * ((r + 1) * 10 ^ w) + 1000 * 10 ^ (q + 2) * 10 ^ w := by omega
  clear A B
  have hcl : c * 10 ^ m < 10 ^ (p + m) := by
    rw [Nat.pow_add]; exact Nat.mul_lt_mul_of_pos_right (Nat.lt_of_lt_of_le (figs_lt c) (ten_le hc)) (ten_pos m)
  have e5 : 10 ^ (p + q + 4) = 10 * 10 ^ (p + q + 3) := ten_succ _
  have hge' : 10 ^ (p + q + 4) * 10 ^ w ≤ r * 10 ^ w := Nat.mul_le_mul_right _ (by rwa [show p + q + 5 - 1 = p + q + 4 by omega] at hge)
  have hDl : 1000 * 10 ^ (q + 2) * 10 ^ w ≤ 10 ^ (p + q + 4) * 10 ^ w := Nat.mul_le_mul_right _ (by rw [← eD]; exact ten_le (by omega))
  have hlow : 10 ^ (p + q + 3 + w) < c * 10 ^ m := by
    rw [Nat.pow_add]
    have e5w : 10 ^ (p + q + 4) * 10 ^ w = 10 * (10 ^ (p + q + 3) * 10 ^ w) := by rw [e5, Nat.mul_assoc]
    rw [e5w] at hge' hDl
    have : 0 < 10 ^ (p + q + 3) * 10 ^ w := Nat.mul_pos (ten_pos _) hW
    omega
  have hm := ten_lt_iff.1 (Nat.lt_trans hlow hcl)
  obtain ⟨y, hy⟩ : ∃ y, m = y + (q + 4) + w := ⟨m - (q + 4) - w, by omega⟩
  have eX : c * 10 ^ m = c * 10 ^ y * (100 * 10 ^ (q + 2)) * 10 ^ w := by
    rw [hy, Nat.pow_add, Nat.pow_add, show 10 ^ (q + 4) = 100 * 10 ^ (q + 2) by rw [show q + 4 = q + 2 + 1 + 1 by omega, ten_succ, ten_succ]; omega]
    ac_rfl
  have dv : ∀ {a b k : Nat}, 10000 * (a * k) ≤ 10000 * (b * k) + 1000 * 10 ^ (q + 2) * k → 0 < k → 10000 * a ≤ 10000 * b + 1000 * 10 ^ (q + 2) := by
    intro a b k h hk
    rw [← Nat.mul_assoc, ← Nat.mul_assoc, ← Nat.add_mul] at h
    exact Nat.le_of_mul_le_mul_right h hk
  constructor
  · by_cases hbig : 10 ^ (p + q + 4) * 10 ^ w ≤ c * 10 ^ m
    · rw [← Nat.pow_add] at hbig
      have hm2 := ten_lt_iff.1 (Nat.lt_of_le_of_lt hbig hcl)
      obtain ⟨z, hz⟩ : ∃ z, y = z + 1 := ⟨y - 1, by omega⟩
      have eX2 : c * 10 ^ m = c * 10 ^ z * (1000 * 10 ^ (q + 2)) * 10 ^ w := by
        rw [eX, hz, ten_succ, show c * (10 * 10 ^ z) * (100 * 10 ^ (q + 2)) = c * 10 ^ z * (10 * (100 * 10 ^ (q + 2))) by ac_rfl]
        congr 2; omega
      rw [eX2] at A' B'
      exact three_figs hE100 (dv A' hW) (dv B' hW)
    · have e6 : 10 ^ (p - 1) * (1000 * 10 ^ (q + 2)) = 10 ^ (p + q + 4) := by rw [← eD, ← Nat.pow_add]; congr 1; omega
      rw [show p + q + 5 - 1 = p + q + 4 by omega] at hge
      refine three_figs (x := 10 ^ (p - 1)) hE100 ?_ (by rw [e6]; omega)
      rw [e6]
      exact dv (k := 10 ^ w) (by omega) hW
  · intro hz hN
    have B2 := Bx hN
    rw [eX] at A' B2
    rw [eD] at hz
    have := same_place hE hz (dv A' hW) (dv B2 hW)
    rw [eX, ← this, hV, ← hN]
    ac_rfl
end Go.Proofs.YtcoljeafgiemkaaGreatDoor

namespace Go.Proofs.YtcoljeafgiemkaaGreatDoor
/-- Rounding what has no more figures changes nothing. -/
theorem rnd_exact {S C M i : Nat} {e : Int} (hM : 1 ≤ M) (he : 0 ≤ e + S) (h1 : 10 ^ i ∣ dval S C e) (h2 : dval S C e < 10 ^ (M + i)) : dval S (rndN false C M 2) (e + rndK false C M 2) = dval S C e := by
  by_cases hq : figs C ≤ M
  · rw [show rndN false C M 2 = C by unfold rndN; rw [if_pos hq], show rndK false C M 2 = 0 by unfold rndK; rw [if_pos hq]]
    congr 1; omega
  · have h0 : C ≠ 0 := by rintro rfl; rw [figs_zero] at hq; omega
    have hg := figs_ge h0
    rw [← val_pow _ _ _ _ he, rnd_same false (by omega) (by omega), cutN_rndF]
    unfold dval at h1 h2 ⊢
    have h3 : 10 ^ (figs C - 1 + (e + (S : Int)).toNat) < 10 ^ (M + i) := by
      rw [Nat.pow_add]; exact Nat.lt_of_le_of_lt (Nat.mul_le_mul_right _ hg) h2
    have h4 := ten_lt_iff.1 h3
    have h5 : 10 ^ (figs C - M + (e + (S : Int)).toNat) ∣ C * 10 ^ (e + (S : Int)).toNat := Nat.dvd_trans (Nat.pow_dvd_pow 10 (by omega)) h1
    rw [Nat.pow_add] at h5
    have h6 := Nat.dvd_of_mul_dvd_mul_right (ten_pos _) h5
    unfold rndF
    rw [if_pos (Nat.mod_eq_zero_of_dvd h6), Nat.div_mul_cancel h6]
/-- What rounding is off by, in the unit of its place. -/
theorem rnd_unit {S C M i : Nat} {e : Int} (hM : 1 ≤ M) (he : 0 ≤ e + S) (h2 : dval S C e < 10 ^ (M + i)) : 2 * dval S (rndN false C M 2) (e + rndK false C M 2) ≤ 2 * dval S C e + 10 ^ i ∧ 2 * dval S C e ≤ 2 * dval S (rndN false C M 2) (e + rndK false C M 2) + 10 ^ i := by
  by_cases hq : figs C ≤ M
  · rw [show rndN false C M 2 = C by unfold rndN; rw [if_pos hq], show rndK false C M 2 = 0 by unfold rndK; rw [if_pos hq]]
    rw [show e + ((0 : Nat) : Int) = e by omega]
    have := ten_pos i
    omega
  · have h0 : C ≠ 0 := by rintro rfl; rw [figs_zero] at hq; omega
    have hg := figs_ge h0
    rw [← val_pow _ _ _ _ he, rnd_same false (by omega) (by omega), cutN_rndF]
    unfold dval at h2 ⊢
    have h3 : 10 ^ (figs C - 1 + (e + (S : Int)).toNat) < 10 ^ (M + i) := by
      rw [Nat.pow_add]; exact Nat.lt_of_le_of_lt (Nat.mul_le_mul_right _ hg) h2
    have h4 := ten_lt_iff.1 h3
    have h5 := rndF_near false C (10 ^ (figs C - M)) (ten_pos _)
    have h6 : 10 ^ (figs C - M) * 10 ^ (e + (S : Int)).toNat ≤ 10 ^ i := by rw [← Nat.pow_add]; exact ten_le (by omega)
    rw [Nat.mul_comm (rndF ..)]
    generalize 10 ^ (figs C - M) * rndF false C (10 ^ (figs C - M)) 2 = v at *
    generalize 10 ^ (figs C - M) = E at *
    generalize 10 ^ (e + (S : Int)).toNat = t at *
    have h7 := Nat.mul_le_mul_right t h5.1
    have h8 := Nat.mul_le_mul_right t h5.2
    constructor <;> grind
/-- What is rounded to M figures is a multiple of its last place. -/
theorem rnd_dvd {S C M i : Nat} {e : Int} (hM : 1 ≤ M) (he : 0 ≤ e + S) (h : 10 ^ (M - 1 + i) ≤ dval S C e) : 10 ^ i ∣ dval S (rndN false C M 2) (e + rndK false C M 2) := by
  have hl : dval S C e < 10 ^ (figs C + (e + (S : Int)).toNat) := by
    unfold dval; rw [Nat.pow_add]; exact Nat.mul_lt_mul_of_pos_right (figs_lt C) (ten_pos _)
  have h4 := ten_lt_iff.1 (Nat.lt_of_le_of_lt h hl)
  by_cases hq : figs C ≤ M
  · rw [show rndN false C M 2 = C by unfold rndN; rw [if_pos hq], show rndK false C M 2 = 0 by unfold rndK; rw [if_pos hq]]
    unfold dval
    rw [show e + ((0 : Nat) : Int) = e by omega]
    exact Nat.dvd_trans (Nat.pow_dvd_pow 10 (by omega)) (Nat.dvd_mul_left _ _)
  · rw [← val_pow _ _ _ _ he, rnd_same false (by omega) (by omega)]
    unfold dval
    rw [Nat.mul_assoc, ← Nat.pow_add]
    exact Nat.dvd_trans (Nat.pow_dvd_pow 10 (by omega)) (Nat.dvd_mul_left _ _)
/-- Half a unit above an even number of units is rounded to it. -/
theorem rnd_tie {S C M i a : Nat} {e : Int} (hM : 1 ≤ M) (he : 0 ≤ e + S) (hv : 2 * dval S C e = (2 * (2 * a) + 1) * 10 ^ i) (h1 : 10 ^ (M - 1 + i) ≤ dval S C e) (h2 : dval S C e < 10 ^ (M + i)) : dval S (rndN false C M 2) (e + rndK false C M 2) = 2 * a * 10 ^ i := by
  have hl : dval S C e < 10 ^ (figs C + (e + (S : Int)).toNat) := by
    unfold dval; rw [Nat.pow_add]; exact Nat.mul_lt_mul_of_pos_right (figs_lt C) (ten_pos _)
  have h4 := ten_lt_iff.1 (Nat.lt_of_le_of_lt h1 hl)
  have hi := ten_pos i
  by_cases hq : figs C ≤ M
  · exfalso
    have h5 := rnd_dvd hM he h1
    rw [show rndN false C M 2 = C by unfold rndN; rw [if_pos hq], show rndK false C M 2 = 0 by unfold rndK; rw [if_pos hq], show e + ((0 : Nat) : Int) = e by omega] at h5
    obtain ⟨t, ht⟩ := h5
    rw [ht] at hv
    have : 10 ^ i * (2 * t) = 10 ^ i * (2 * (2 * a) + 1) := by grind
    have := Nat.eq_of_mul_eq_mul_left hi this
    omega
  · have h0 : C ≠ 0 := by rintro rfl; rw [figs_zero] at hq; omega
    have hg := figs_ge h0
    have h3 : 10 ^ (figs C - 1 + (e + (S : Int)).toNat) < 10 ^ (M + i) := by
      unfold dval at h2
      rw [Nat.pow_add]; exact Nat.lt_of_le_of_lt (Nat.mul_le_mul_right _ hg) h2
    have h5 := ten_lt_iff.1 h3
    rw [← val_pow _ _ _ _ he, rnd_same false (by omega) (by omega), cutN_rndF]
    unfold dval at hv ⊢
    have h6 : i = figs C - M + (e + (S : Int)).toNat := by omega
    have hE := ten_pos (figs C - M)
    have ht := ten_pos (e + (S : Int)).toNat
    rw [h6, Nat.pow_add] at hv ⊢
    generalize 10 ^ (figs C - M) = E at *
    generalize 10 ^ (e + (S : Int)).toNat = t at *
    have h7 : 2 * C = (2 * (2 * a) + 1) * E := by
      have : t * (2 * C) = t * ((2 * (2 * a) + 1) * E) := by grind
      exact Nat.eq_of_mul_eq_mul_left ht this
    have h8 : C = 2 * a * E + E / 2 ∧ E % 2 = 0 := by
      have : (2 * (2 * a) + 1) * E = 2 * (2 * a * E) + E := by grind
      omega
    have h9 : C / E = 2 * a := by
      rw [Nat.div_eq_iff hE]
      have : 0 < E / 2 := by omega
      omega
    have h10 : C % E = E / 2 := by
      have := Nat.div_add_mod C E
      rw [h9, Nat.mul_comm] at this
      omega
    unfold rndF
    rw [h9, h10, if_neg (by omega), if_neg (by
      unfold awayN ord3
      rw [if_neg (by omega), if_neg (by omega)]
      simp), Nat.mul_assoc]
theorem dvd_small {d k : Int} (hd : 0 < d) (h : d ∣ k) (h1 : -d < k) (h2 : k < d) : k = 0 := by
  obtain ⟨t, rfl⟩ := h
  rcases Int.lt_trichotomy t 0 with h | h | h
  · have := mulL (show t ≤ -1 by omega) (c := d) (by omega); omega
  · rw [h, Int.mul_zero]
  · have := mulL (show 1 ≤ t by omega) (c := d) (by omega); omega
/-- The quotient beside twice the root less the guess: k X - (R - X)^2 is what it is off by. -/
theorem off_le {X R q g u k : Int} (hX : 0 < X) (hk : k = q - (2 * R - X)) (h1 : 2 * (q * X) ≤ 2 * R ^ 2 + g * X) (h2 : 2 * R ^ 2 ≤ 2 * (q * X) + g * X) (hd : 1000 * (R - X) ^ 2 ≤ u * X) : 1000 * (2 * k) ≤ 2 * u + 1000 * g ∧ -g ≤ 2 * k := by
  have e : k * X = q * X - R ^ 2 + (R - X) ^ 2 := by rw [hk]; grind
  have s := sq_nn (R - X)
  constructor
  · have : X * (1000 * (2 * k)) ≤ X * (2 * u + 1000 * g) := by grind
    exact Int.le_of_mul_le_mul_left this hX
  · have : X * (-g) ≤ X * (2 * k) := by grind
    exact Int.le_of_mul_le_mul_left this hX
/-- How far the guess may be: a = 10^p, Q = 10^M, 100 Q <= a^2. -/
theorem guess_far {a Q X R : Int} (ha : 10000000000 ≤ a) (hQ : 100 * Q ≤ a ^ 2) (hX : 0 < X) (hR : 0 < R) (hn : Near a 34 (R ^ 2) X) : 1000 * Q * (R - X) ^ 2 ≤ 2900 * (R * X) := by
  obtain ⟨n1, n2⟩ := hn
  have s1 : (a * (X ^ 2 - R ^ 2)) ^ 2 ≤ (34 * R ^ 2) ^ 2 := by
    rcases Int.le_total 0 (a * (X ^ 2 - R ^ 2)) with h0 | h0
    · exact sq_le h0 n1
    · have := sq_le (a := -(a * (X ^ 2 - R ^ 2))) (b := 34 * R ^ 2) (by omega) (by grind)
      grind
  have s2 : 4 * (X * R) ≤ (X + R) ^ 2 := by have := sq_nn (X - R); grind
  have s3 := mulL s2 (c := a ^ 2 * (R - X) ^ 2) (Int.mul_nonneg (sq_nn _) (sq_nn _))
  have s4 : a ^ 2 * (R - X) ^ 2 * (4 * (X * R)) ≤ 1156 * R ^ 4 := by grind
  have s5 := Int.mul_le_mul_of_nonneg_right hQ (Int.mul_nonneg (sq_nn (R - X)) (show 0 ≤ 4 * (X * R) by have := Int.mul_pos hX hR; omega))
  have s6 : R * (400 * Q * ((R - X) ^ 2 * X)) ≤ R * (1156 * R ^ 3) := by grind
  have s7 := Int.le_of_mul_le_mul_left s6 hR
  have s8 : 1000 * R ^ 2 ≤ 1001 * X ^ 2 := by
    have b1 := Int.mul_le_mul_of_nonneg_right ha (sq_nn X)
    have b2 := Int.mul_le_mul_of_nonneg_right ha (sq_nn R)
    have b3 : (a - 34) * (1000 * R ^ 2) ≤ (a - 34) * (1001 * X ^ 2) := by grind
    exact Int.le_of_mul_le_mul_left b3 (by omega)
  have s9 := mulL s8 (c := R) (by omega)
  have s10 : X * (1000 * Q * (R - X) ^ 2) ≤ X * (2900 * (R * X)) := by
    have := Int.mul_nonneg (show 0 ≤ R by omega) (sq_nn X)
    grind
  exact Int.le_of_mul_le_mul_left s10 hX
theorem quo_unit {S F C M : Nat} {eF e : Int} (hF : F ≠ 0) (hC : C ≠ 0) (hM : 1 ≤ M) (h1 : 0 ≤ stQ F eF C e M + S) (h2 : 0 ≤ e + S) (h3 : 0 ≤ eF + 2 * S - (quoU F C + (M - 1) : Nat)) :
    ∃ g : Nat, 10 ^ g ∣ dval S (qC F C M) (stQ F eF C e M) ∧ 2 * (dval S (qC F C M) (stQ F eF C e M) * dval S C e) ≤ 2 * dval (2 * S) F eF + 10 ^ g * dval S C e ∧ 2 * dval (2 * S) F eF ≤ 2 * (dval S (qC F C M) (stQ F eF C e M) * dval S C e) + 10 ^ g * dval S C e ∧
      10 ^ (M - 1 + g) * dval S C e ≤ dval (2 * S) F eF ∧ dval (2 * S) F eF < 10 ^ (M + g) * dval S C e := by
  refine ⟨(stQ F eF C e M + S).toNat, Nat.dvd_mul_left _ _, ?_⟩
  have hE : 0 < C * 10 ^ (figs F - figs C) := Nat.mul_pos (by omega) (ten_pos _)
  have hq := quoU_le (A := F) (B := C) (p := M) hF hC hM
  have h := rndF_near false (F * 10 ^ (quoU F C + (M - 1))) _ hE
  rw [Nat.le_div_iff_mul_le hE, Nat.div_lt_iff_lt_mul hE] at hq
  obtain ⟨w, hw⟩ : ∃ w : Nat, eF + 2 * S - (quoU F C + (M - 1) : Nat) = (w : Int) := ⟨_, (Int.toNat_of_nonneg h3).symm⟩
  have e1 : dval S (qC F C M) (stQ F eF C e M) * dval S C e = C * 10 ^ (figs F - figs C) * qC F C M * 10 ^ w := by
    rw [val_mul S _ _ _ _ h1 h2]
    unfold dval stQ qE
    rw [show (eF - e + (((figs F - figs C : Nat) : Int) - (quoU F C + (M - 1) : Nat)) + e + ((2 * S : Nat) : Int)).toNat = (figs F - figs C) + w by omega, Nat.pow_add]
    ac_rfl
  have e2 : dval (2 * S) F eF = F * 10 ^ (quoU F C + (M - 1)) * 10 ^ w := by
    unfold dval
    rw [show (eF + ((2 * S : Nat) : Int)).toNat = (quoU F C + (M - 1)) + w by omega, Nat.pow_add, Nat.mul_assoc]
  have e3 : 10 ^ (stQ F eF C e M + S).toNat * dval S C e = C * 10 ^ (figs F - figs C) * 10 ^ w := by
    unfold dval
    rw [Nat.mul_left_comm, ← Nat.pow_add, Nat.mul_assoc, ← Nat.pow_add]
    congr 2
    unfold stQ qE at h1 ⊢
    omega
  rw [Nat.pow_add, Nat.pow_add, Nat.mul_assoc, Nat.mul_assoc, e1, e2, e3]
  unfold qC
  generalize F * 10 ^ (quoU F C + (M - 1)) = D at *
  generalize C * 10 ^ (figs F - figs C) = E at *
  generalize E * rndF false D E 2 = v at *
  have k1 := Nat.mul_le_mul_right (10 ^ w) h.1
  have k2 := Nat.mul_le_mul_right (10 ^ w) h.2
  have k3 := Nat.mul_le_mul_right (10 ^ w) hq.1
  have k4 := Nat.mul_lt_mul_of_pos_right hq.2 (ten_pos w)
  rw [Nat.mul_assoc] at k3 k4
  refine ⟨?_, ?_, k3, k4⟩ <;> grind
/-- The half of twice the root is the root. -/
theorem half_exact {S F C M i R : Nat} {eF e : Int} (hM : 1 ≤ M) (hh : 0 ≤ stHe F eF C e M - 1 + S) (hH : dval S (stH F eF C e M) (stHe F eF C e M) = 2 * R) (h1 : 10 ^ i ∣ R) (h2 : R < 10 ^ (M + i)) : dval S (stY F eF C e M) (stYe F eF C e M) = R := by
  have h := val_half (S := S) (C := stH F eF C e M) (e := stHe F eF C e M) hh
  have h3 : dval S (stH F eF C e M * 5) (stHe F eF C e M - 1) = R := by omega
  have := rnd_exact (C := stH F eF C e M * 5) (M := M) (i := i) hM hh (by rw [h3]; exact h1) (by rw [h3]; exact h2)
  rw [h3] at this
  exact this
end Go.Proofs.YtcoljeafgiemkaaGreatDoor

namespace Go.Proofs.YtcoljeafgiemkaaGreatDoor
theorem dvd_nonneg {d k : Int} (hd : 0 < d) (h : d ∣ k) (h1 : -d < k) : 0 ≤ k := by
  apply Decidable.byContradiction
  intro hk
  have := dvd_small hd h h1 (by omega)
  omega
theorem dvd_one {d k : Int} (hd : 0 < d) (h : d ∣ k) (h1 : -d < k) (h2 : k < 2 * d) : k = 0 ∨ k = d := by
  have h0 := dvd_nonneg hd h h1
  by_cases hk : k < d
  · left; exact dvd_small hd h h1 hk
  · right
    have := dvd_small hd (Int.dvd_sub h (Int.dvd_refl d)) (by omega) (show k - d < d by omega)
    omega
theorem dvd_place {S C M t : Nat} {e : Int} (hC : figs C ≤ M) (h : 10 ^ t ≤ dval S C e) : 10 ^ (t + 1 - M) ∣ dval S C e := by
  have hl : dval S C e < 10 ^ (M + (e + (S : Int)).toNat) := by
    unfold dval; rw [Nat.pow_add]; exact Nat.mul_lt_mul_of_pos_right (Nat.lt_of_lt_of_le (figs_lt C) (ten_le hC)) (ten_pos _)
  have h4 := ten_lt_iff.1 (Nat.lt_of_le_of_lt h hl)
  unfold dval
  exact Nat.dvd_trans (Nat.pow_dvd_pow 10 (by omega)) (Nat.dvd_mul_left _ _)
theorem sqI (a : Int) : a ^ 2 = a * a := by rw [Int.pow_succ, Int.pow_one]
/-- The last step gives the root where it has few figures. -/
theorem root_exact {S F M p C n r c0 R : Nat} {eF e f0 : Int} (hF : F ≠ 0) (hS : 1000 ≤ S) (hp : 10 ≤ p) (hpM : p < M) (hM2 : M ≤ 2 * p - 2) (hM100 : M ≤ 100) (heF : -200 ≤ eF ∧ eF ≤ 0) (hn : n ≤ p) (hr : r + 6 ≤ M)
    (hV : dval (2 * S) F eF = R * R) (inv : SqInv S (dval (2 * S) F eF) p C e n) (hR : dval S c0 f0 = R) (hc0 : figs c0 ≤ r) (hR1 : 10 ^ (S - 1) ≤ R) (hR2 : R < 10 ^ S) :
    dval S (stY F eF C e M) (stYe F eF C e M) = R := by
  have hlo := inv.lo
  have hhi := inv.hi
  have hfC := inv.figs
  have hu := quoU_bound F C
  have hk34 : kOf p = 34 := by unfold kOf; rw [if_neg (by omega), if_neg (by omega), if_neg (by omega)]
  have hnear := inv.near
  rw [hk34] at hnear
  obtain ⟨i, hi⟩ : ∃ i, S = M + i := ⟨S - M, by omega⟩
  have hst : 1 ≤ stQ F eF C e M + S := by unfold stQ qE; omega
  obtain ⟨g, gd, q1, q2, g1, g2⟩ := quo_unit (S := S) (M := M) (eF := eF) (e := e) hF inv.ne (by omega) (by omega) (by omega) (by omega)
  have hsum := st_sum (S := S) (F := F) (C := C) (p := M) (eF := eF) (e := e) (by omega) (by omega)
  have hX0 : 0 < dval S C e := val_pos (by have := inv.ne; omega)
  have hR0 : 0 < R := Nat.lt_of_lt_of_le (ten_pos _) hR1
  have hRd : 10 ^ (i + 6) ∣ R := by
    have := dvd_place hc0 (by rw [hR]; exact hR1)
    rw [hR] at this
    exact Nat.dvd_trans (Nat.pow_dvd_pow 10 (by omega)) this
  have hRd1 : 10 ^ (i + 1) ∣ R := Nat.dvd_trans (Nat.pow_dvd_pow 10 (by omega)) hRd
  have hRd0 : 10 ^ i ∣ R := Nat.dvd_trans (Nat.pow_dvd_pow 10 (by omega)) hRd
  have hmin : 0 ≤ min (stQ F eF C e M) e - 1 + S := by omega
  have hhe : 0 ≤ stHe F eF C e M - 1 + S := by unfold stHe; omega
  have hB : 10 ^ S = 10 ^ M * 10 ^ i := by rw [← Nat.pow_add, hi]
  have fin : dval S (stH F eF C e M) (stHe F eF C e M) = 2 * R → dval S (stY F eF C e M) (stYe F eF C e M) = R := fun h => half_exact (i := i) (by omega) hhe h hRd0 (by rw [Nat.pow_add, ← hB]; exact hR2)
  have ha : (10000000000 : Int) ≤ 10 ^ p := by
    have h1 : (10 : Int) ^ 10 ≤ 10 ^ p := by exact_mod_cast ten_le hp
    have h2 : (10 : Int) ^ 10 = 10000000000 := by rfl
    omega
  rw [hV] at hnear
  have hnear' : Near (10 ^ p) 34 ((R : Int) ^ 2) (dval S C e : Nat) := by
    rw [show (R : Int) ^ 2 = ((R * R : Nat) : Int) by rw [Int.natCast_mul, Int.pow_succ, Int.pow_one]]; exact hnear
  have hQa : (100 : Int) * ((10 ^ M : Nat) : Int) ≤ (10 ^ p) ^ 2 := by
    have h1 : 10 ^ (M + 2) ≤ 10 ^ (2 * p) := ten_le (by omega)
    rw [show M + 2 = M + 1 + 1 by omega, ten_succ, ten_succ, Nat.mul_comm 2 p, Nat.pow_mul] at h1
    have h3 : (((10 : Nat) ^ p : Nat) : Int) = 10 ^ p := Int.natCast_pow ..
    rw [← h3, ← Int.natCast_pow]
    generalize (10 ^ p) ^ 2 = z at *
    omega
  have hfar := guess_far (a := 10 ^ p) (Q := ((10 ^ M : Nat) : Int)) (X := (dval S C e : Nat)) (R := (R : Int)) ha hQa (by omega) (by omega) hnear'
  have hXR : 1000 * (R * R) ≤ 1001 * (dval S C e * dval S C e) ∧ 1000 * (dval S C e * dval S C e) ≤ 1001 * (R * R) := by
    obtain ⟨n1, n2⟩ := hnear'
    generalize dval S C e = X at *
    have b1 := Int.mul_le_mul_of_nonneg_right ha (sq_nn (X : Int))
    have b2 := Int.mul_le_mul_of_nonneg_right ha (sq_nn (R : Int))
    have b0 := sq_nn (X : Int)
    have b5 := sq_nn (R : Int)
    constructor
    · have b3 : ((10 : Int) ^ p - 34) * (1000 * (R : Int) ^ 2) ≤ (10 ^ p - 34) * (1001 * (X : Int) ^ 2) := by grind
      have b4 := Int.le_of_mul_le_mul_left b3 (by omega)
      rw [sqI, sqI, ← Int.natCast_mul, ← Int.natCast_mul] at b4
      omega
    · have b3 : ((10 : Int) ^ p) * (1000 * (X : Int) ^ 2) ≤ 10 ^ p * (1001 * (R : Int) ^ 2) := by grind
      have b4 := Int.le_of_mul_le_mul_left b3 (by omega)
      rw [sqI, sqI, ← Int.natCast_mul, ← Int.natCast_mul] at b4
      omega
  have hXlow : R ≤ 2 * dval S C e := by
    apply Decidable.byContradiction; intro h
    have := Nat.mul_le_mul (show 2 * dval S C e ≤ R by omega) (show 2 * dval S C e ≤ R by omega)
    have := Nat.mul_pos hX0 hX0
    grind
  clear hnear hnear' hQa ha inv
  have hXd0 : 10 ^ (S - 2) ≤ dval S C e := by
    have : 10 ^ (S - 1) = 10 * 10 ^ (S - 2) := by rw [← ten_succ]; congr 1; omega
    omega
  have hXd : 10 ^ i ∣ dval S C e := by
    have := dvd_place (M := p) (by omega) hXd0
    exact Nat.dvd_trans (Nat.pow_dvd_pow 10 (by omega)) this
  have hu10 : 10 ^ (i + 1) = 10 * 10 ^ i := ten_succ i
  have hu6 : 10 ^ (i + 6) = 1000000 * 10 ^ i := by rw [Nat.add_comm, Nat.pow_add]
  have hui := ten_pos i
  have hq1 : 2 * (((dval S (qC F C M) (stQ F eF C e M) : Nat) : Int) * ((dval S C e : Nat) : Int)) ≤ 2 * (R : Int) ^ 2 + ((10 ^ g : Nat) : Int) * ((dval S C e : Nat) : Int) := by
    rw [sqI]; rw [hV] at q1
    have := Int.ofNat_le.2 q1
    simp only [Int.natCast_add, Int.natCast_mul] at this
    exact this
  have hq2 : 2 * (R : Int) ^ 2 ≤ 2 * (((dval S (qC F C M) (stQ F eF C e M) : Nat) : Int) * ((dval S C e : Nat) : Int)) + ((10 ^ g : Nat) : Int) * ((dval S C e : Nat) : Int) := by
    rw [sqI]; rw [hV] at q2
    have := Int.ofNat_le.2 q2
    simp only [Int.natCast_add, Int.natCast_mul] at this
    exact this
  rw [hV] at g1 g2
  have far : ∀ l : Nat, 2900 * R ≤ l * 10 ^ S → 1000 * ((R : Int) - ((dval S C e : Nat) : Int)) ^ 2 ≤ ((l * 10 ^ i : Nat) : Int) * ((dval S C e : Nat) : Int) := by
    intro l hl
    rw [hB] at hl
    have hQ0 := ten_pos M
    generalize 10 ^ M = Q at *
    generalize dval S C e = X at *
    have h1 : 2900 * (R * X) ≤ Q * (l * 10 ^ i * X) := by
      have := Nat.mul_le_mul_right X hl
      grind
    have h2 := Int.ofNat_le.2 h1
    simp only [Int.natCast_mul] at h2
    have h3 : (Q : Int) * (1000 * ((R : Int) - X) ^ 2) ≤ Q * (((l * 10 ^ i : Nat) : Int) * X) := by
      simp only [Int.natCast_mul]
      generalize ((R : Int) - X) ^ 2 = v at *
      have e1 : (Q : Int) * (1000 * v) = 1000 * Q * v := by grind
      rw [e1]
      exact Int.le_trans hfar h2
    exact Int.le_of_mul_le_mul_left h3 (by omega)
  obtain ⟨T, hT⟩ : ∃ T, dval S (qC F C M) (stQ F eF C e M) = T := ⟨_, rfl⟩
  obtain ⟨X, hXe⟩ : ∃ X, dval S C e = X := ⟨_, rfl⟩
  rw [hT, hXe] at hsum hq1 hq2
  rw [hT] at gd
  rw [hXe] at g1 g2 hX0 hXR hXlow hXd0 hXd far
  obtain ⟨k, hk⟩ : ∃ k : Int, k = (T : Int) - (2 * R - X) := ⟨_, rfl⟩
  have hs10 : 10 ^ S = 10 * 10 ^ (S - 1) := by rw [← ten_succ]; congr 1; omega
  have sumv : ((dval S (stSum F eF C e M) (min (stQ F eF C e M) e) : Nat) : Int) = 2 * R + k := by rw [hsum]; omega
  have hRi : ((10 ^ i : Nat) : Int) ∣ (R : Int) := Int.natCast_dvd_natCast.2 hRd0
  have hXi : ((10 ^ i : Nat) : Int) ∣ (X : Int) := Int.natCast_dvd_natCast.2 hXd
  by_cases hI : 10 ^ S * X ≤ R * R
  · have c1 := ten_lt_iff.1 (Nat.lt_of_mul_lt_mul_right (Nat.lt_of_le_of_lt hI g2))
    have c2 : R * R < 10 ^ (S + 1) * X := by
      rw [ten_succ]
      have h1 := Nat.mul_le_mul_left R hXlow
      have h2 := Nat.mul_lt_mul_of_pos_right hR2 hX0
      grind
    have c3 := ten_lt_iff.1 (Nat.lt_of_mul_lt_mul_right (Nat.lt_of_le_of_lt g1 c2))
    obtain rfl : g = i + 1 := by omega
    have c4 : 10 ^ (S - 1) ≤ X := by
      have h1 : X * (1000 * 10 ^ S) ≤ X * (1001 * X) := by
        have := hXR.1
        grind
      have := Nat.le_of_mul_le_mul_left h1 hX0
      omega
    have c5 : 10 ^ (i + 1) ∣ X := by
      have := dvd_place (S := S) (C := C) (e := e) (M := p) (t := S - 1) (by omega) (by rw [hXe]; exact c4)
      rw [hXe] at this
      exact Nat.dvd_trans (Nat.pow_dvd_pow 10 (by omega)) this
    obtain ⟨o1, o2⟩ := off_le (X := (X : Int)) (R := (R : Int)) (q := (T : Int)) (g := ((10 ^ (i + 1) : Nat) : Int)) (u := ((2900 * 10 ^ i : Nat) : Int)) (k := k) (by omega) hk hq1 hq2 (far 2900 (by omega))
    have hkd : ((10 ^ (i + 1) : Nat) : Int) ∣ k := by
      rw [hk]
      have a1 : ((10 ^ (i + 1) : Nat) : Int) ∣ (T : Int) := Int.natCast_dvd_natCast.2 gd
      have a2 : ((10 ^ (i + 1) : Nat) : Int) ∣ (X : Int) := Int.natCast_dvd_natCast.2 c5
      have a3 : ((10 ^ (i + 1) : Nat) : Int) ∣ (R : Int) := Int.natCast_dvd_natCast.2 hRd1
      exact Int.dvd_sub a1 (Int.dvd_sub (Int.dvd_trans a3 (Int.dvd_mul_left _ _)) a2)
    have hk0 := dvd_small (by omega) hkd (by omega) (by omega)
    have hv : dval S (stSum F eF C e M) (min (stQ F eF C e M) e) = 2 * R := by omega
    refine fin ?_
    have := rnd_exact (S := S) (C := stSum F eF C e M) (M := M) (i := i + 1) (e := min (stQ F eF C e M) e) (by omega) (by omega) (by rw [hv]; exact Nat.dvd_trans hRd1 (Nat.dvd_mul_left _ _)) (by rw [hv, ← Nat.add_assoc, ten_succ, ← hi]; omega)
    rw [hv] at this
    exact this
  · have hTi : ∀ j, i ≤ j → 10 ^ j ∣ T → ((10 ^ i : Nat) : Int) ∣ k := by
      intro j hj hd
      have a1 : ((10 ^ i : Nat) : Int) ∣ (T : Int) := Int.natCast_dvd_natCast.2 (Nat.dvd_trans (Nat.pow_dvd_pow 10 hj) hd)
      rw [hk]
      exact Int.dvd_sub a1 (Int.dvd_sub (Int.dvd_trans hRi (Int.dvd_mul_left _ _)) hXi)
    have c1 := ten_lt_iff.1 (Nat.lt_of_mul_lt_mul_right (Nat.lt_of_le_of_lt g1 (Nat.not_le.1 hI)))
    by_cases hII : 10 ^ S * X ≤ 10 * (R * R)
    · have c2 : 10 ^ S * X < 10 ^ (M + g + 1) * X := by rw [ten_succ, Nat.mul_assoc]; omega
      have c3 := ten_lt_iff.1 (Nat.lt_of_mul_lt_mul_right c2)
      obtain rfl : g = i := by omega
      have hkd := hTi g (Nat.le_refl _) gd
      by_cases hh : 10 ^ S ≤ 2 * R
      · obtain ⟨o1, o2⟩ := off_le (X := (X : Int)) (R := (R : Int)) (q := (T : Int)) (g := ((10 ^ g : Nat) : Int)) (u := ((2900 * 10 ^ g : Nat) : Int)) (k := k) (by omega) hk hq1 hq2 (far 2900 (by omega))
        have hk0 := dvd_nonneg (by omega) hkd (by omega)
        have hv1 : 10 ^ S ≤ dval S (stSum F eF C e M) (min (stQ F eF C e M) e) := by omega
        have hv2 : dval S (stSum F eF C e M) (min (stQ F eF C e M) e) < 10 ^ (M + (g + 1)) := by
          rw [← Nat.add_assoc, ten_succ, ← hi]
          have : 10 ^ g ≤ 10 ^ S := ten_le (by omega)
          omega
        obtain ⟨r1, r2⟩ := rnd_unit (S := S) (C := stSum F eF C e M) (M := M) (i := g + 1) (e := min (stQ F eF C e M) e) (by omega) (by omega) hv2
        have r3 := rnd_dvd (S := S) (C := stSum F eF C e M) (M := M) (i := g + 1) (e := min (stQ F eF C e M) e) (by omega) (by omega) (by rw [show M - 1 + (g + 1) = S by omega]; exact hv1)
        refine fin ?_
        change 2 * dval S (stH F eF C e M) (stHe F eF C e M) ≤ _ at r1
        change _ ≤ 2 * dval S (stH F eF C e M) (stHe F eF C e M) + _ at r2
        change _ ∣ dval S (stH F eF C e M) (stHe F eF C e M) at r3
        have r4 : ((10 ^ (g + 1) : Nat) : Int) ∣ ((dval S (stH F eF C e M) (stHe F eF C e M) : Nat) : Int) - 2 * R := Int.dvd_sub (Int.natCast_dvd_natCast.2 r3) (Int.dvd_trans (Int.natCast_dvd_natCast.2 hRd1) (Int.dvd_mul_left _ _))
        have := dvd_small (by omega) r4 (by omega) (by omega)
        omega
      · obtain ⟨o1, o2⟩ := off_le (X := (X : Int)) (R := (R : Int)) (q := (T : Int)) (g := ((10 ^ g : Nat) : Int)) (u := ((1450 * 10 ^ g : Nat) : Int)) (k := k) (by omega) hk hq1 hq2 (far 1450 (by omega))
        have hk01 := dvd_one (by omega) hkd (by omega) (by omega)
        have hle : 2 * R + 10 ^ (g + 1) ≤ 10 ^ S := by
          have b1 : 10 ^ (g + 1) ∣ 10 ^ S - 2 * R := Nat.dvd_sub (Nat.pow_dvd_pow 10 (by omega)) (Nat.dvd_trans hRd1 (Nat.dvd_mul_left _ _))
          have := Nat.le_of_dvd (by omega) b1
          omega
        have hH := rnd_exact (S := S) (C := stSum F eF C e M) (M := M) (i := g) (e := min (stQ F eF C e M) e) (by omega) (by omega) (by
          have : ((10 ^ g : Nat) : Int) ∣ ((dval S (stSum F eF C e M) (min (stQ F eF C e M) e) : Nat) : Int) := by
            rw [sumv]; exact Int.dvd_add (Int.dvd_trans hRi (Int.dvd_mul_left _ _)) hkd
          exact Int.natCast_dvd_natCast.1 this) (by rw [← hi]; omega)
        change dval S (stH F eF C e M) (stHe F eF C e M) = _ at hH
        rcases hk01 with hk0 | hk0
        · exact fin (by omega)
        · have h2v := val_half (S := S) (C := stH F eF C e M) (e := stHe F eF C e M) hhe
          obtain ⟨b, hb⟩ := hRd1
          have hRa : R = 2 * (5 * b) * 10 ^ g := by rw [hb, hu10]; grind
          have := rnd_tie (S := S) (C := stH F eF C e M * 5) (M := M) (i := g) (a := 5 * b) (e := stHe F eF C e M - 1) (by omega) hhe (by
            have e1 : (2 * (2 * (5 * b)) + 1) * 10 ^ g = 2 * R + 10 ^ g := by rw [hRa]; grind
            rw [e1]; omega) (by rw [show M - 1 + g = S - 1 by omega]; omega) (by rw [← hi]; omega)
          rw [← hRa] at this
          exact this
    · have c2 : 10 ^ (M + g) * X < 10 ^ S * X := by
        have h1 := Nat.mul_le_mul_left 10 g1
        rw [← Nat.mul_assoc, ← ten_succ, show M - 1 + g + 1 = M + g by omega] at h1
        omega
      have c3 := ten_lt_iff.1 (Nat.lt_of_mul_lt_mul_right c2)
      have hg10 : 10 * 10 ^ g ≤ 10 ^ i := by rw [← ten_succ]; exact ten_le (by omega)
      have hR3 : 29 * R ≤ 3 * 10 ^ S := by
        apply Decidable.byContradiction; intro hn3
        have h1 : 10 * (R * R) < 10 ^ S * X := by omega
        have h2 : 29 * (10 ^ S * X) ≤ 29 * (10 ^ S * X) := Nat.le_refl _
        have h3 : 3 * 10 ^ S * X ≤ 29 * R * X := Nat.mul_le_mul_right X (by omega)
        have h4 : R * (30 * R) < R * (29 * X) := by grind
        have h5 := Nat.lt_of_mul_lt_mul_left h4
        have h6 := Nat.mul_le_mul (show 30 * R ≤ 29 * X by omega) (show 30 * R ≤ 29 * X by omega)
        have := hXR.2
        have := Nat.mul_pos hR0 hR0
        grind
      obtain ⟨o1, o2⟩ := off_le (X := (X : Int)) (R := (R : Int)) (q := (T : Int)) (g := ((10 ^ g : Nat) : Int)) (u := ((300 * 10 ^ i : Nat) : Int)) (k := k) (by omega) hk hq1 hq2 (far 300 (by omega))
      have hui2 : 10 ^ i ≤ 10 ^ (S - 1) := ten_le (by omega)
      have hv1 : 10 ^ (S - 1) ≤ dval S (stSum F eF C e M) (min (stQ F eF C e M) e) := by omega
      have hv2 : dval S (stSum F eF C e M) (min (stQ F eF C e M) e) < 10 ^ (M + i) := by rw [← hi]; omega
      obtain ⟨r1, r2⟩ := rnd_unit (S := S) (C := stSum F eF C e M) (M := M) (i := i) (e := min (stQ F eF C e M) e) (by omega) (by omega) hv2
      have r3 := rnd_dvd (S := S) (C := stSum F eF C e M) (M := M) (i := i) (e := min (stQ F eF C e M) e) (by omega) (by omega) (by rw [show M - 1 + i = S - 1 by omega]; exact hv1)
      refine fin ?_
      change 2 * dval S (stH F eF C e M) (stHe F eF C e M) ≤ _ at r1
      change _ ≤ 2 * dval S (stH F eF C e M) (stHe F eF C e M) + _ at r2
      change _ ∣ dval S (stH F eF C e M) (stHe F eF C e M) at r3
      have r4 : ((10 ^ i : Nat) : Int) ∣ ((dval S (stH F eF C e M) (stHe F eF C e M) : Nat) : Int) - 2 * R := Int.dvd_sub (Int.natCast_dvd_natCast.2 r3) (Int.dvd_trans hRi (Int.dvd_mul_left _ _))
      have := dvd_small (by omega) r4 (by omega) (by omega)
      omega
/-- A value of few figures loses nothing by rounding to them. -/
theorem few_exact {S C c0 p : Nat} {e f0 : Int} (h : dval S C e = dval S c0 f0) (hc : figs c0 ≤ p) (hq : p < figs C) : C % 10 ^ (figs C - p) = 0 := by
  have h0 : C ≠ 0 := by rintro rfl; rw [figs_zero] at hq; have := figs_pos c0; omega
  have hg := figs_ge h0
  have h1 : 10 ^ (figs C - 1 + (e + (S : Int)).toNat) ≤ dval S c0 f0 := by
    rw [← h, Nat.pow_add]; exact Nat.mul_le_mul_right _ hg
  have h2 := dvd_place hc h1
  rw [← h] at h2
  unfold dval at h2
  rw [show figs C - 1 + (e + (S : Int)).toNat + 1 - p = figs C - p + (e + (S : Int)).toNat by omega, Nat.pow_add] at h2
  exact Nat.mod_eq_zero_of_dvd (Nat.dvd_of_mul_dvd_mul_right (ten_pos _) h2)
/-- What loses nothing by rounding has the same value after it. -/
theorem exact_same {S C p : Nat} {e : Int} (hp : 1 ≤ p) (he : 0 ≤ e + S) (h : figs C ≤ p ∨ C % 10 ^ (figs C - p) = 0) (m : Nat) : dval S (rndN false C p m) (e + rndK false C p m) = dval S C e := by
  by_cases hq : figs C ≤ p
  · rw [show rndN false C p m = C by unfold rndN; rw [if_pos hq], show rndK false C p m = 0 by unfold rndK; rw [if_pos hq]]
    congr 1; omega
  · have h1 := h.resolve_left hq
    rw [← val_pow _ _ _ _ he, rnd_same false hp (by omega), cutN_rndF]
    unfold rndF dval
    rw [if_pos h1, Nat.div_mul_cancel (Nat.dvd_of_mod_eq_zero h1)]
end Go.Proofs.YtcoljeafgiemkaaGreatDoor
