/- More: The square root: Newton's step with rounded quotient, sum and half: plain facts, no program. More: What the laws of rounding near limits and of quotients need: plain facts, no program. -/
import Derived.Test.YtcoljeafgiemkaaGreatDoorC03
import Derived.Test.YtcoljeafgiemkaaGreatDoorC04
namespace Go.Proofs.YtcoljeafgiemkaaGreatDoor
/-- To the nearest: off by half at most. -/
theorem rndF_near (neg : Bool) (D E : Nat) (hE : 0 < E) : 2 * D ≤ 2 * (E * rndF neg D E 2) + E ∧ 2 * (E * rndF neg D E 2) ≤ 2 * D + E := by
  have h := Nat.div_add_mod D E
  have h1 := Nat.mod_lt D hE
  unfold rndF
  split
  · omega
  · split
    · next h2 =>
      have h3 : E ≤ 2 * (D % E) := by
        unfold awayN ord3 at h2
        apply Decidable.byContradiction
        intro h4
        rw [if_pos (by omega)] at h2
        simp at h2
      rw [Nat.mul_add]
      omega
    · next h2 =>
      have h3 : 2 * (D % E) ≤ E := by
        unfold awayN ord3 at h2
        apply Decidable.byContradiction
        intro h4
        rw [if_neg (by omega), if_pos (by omega)] at h2
        simp at h2
      omega
/-- Rounded to the nearest: off by less than one in twice 10^(p-1). -/
theorem rnd_near (n : Bool) {C p : Nat} (hp : 1 ≤ p) : 2 * 10 ^ (p - 1) * (rndN n C p 2 * 10 ^ rndK n C p 2) ≤ (2 * 10 ^ (p - 1) + 1) * C ∧ 2 * 10 ^ (p - 1) * C ≤ 2 * 10 ^ (p - 1) * (rndN n C p 2 * 10 ^ rndK n C p 2) + C := by
  by_cases h : figs C ≤ p
  · rw [show rndN n C p 2 = C by unfold rndN; rw [if_pos h], show rndK n C p 2 = 0 by unfold rndK; rw [if_pos h], Nat.pow_zero, Nat.mul_one, Nat.add_mul]
    omega
  · rw [rnd_same n hp (by omega), cutN_rndF]
    have h1 := rndF_near n C (10 ^ (figs C - p)) (ten_pos _)
    have h2 := figs_ge (n := C) (by rintro rfl; rw [figs_zero] at h; omega)
    rw [show figs C - 1 = (p - 1) + (figs C - p) by omega, Nat.pow_add] at h2
    rw [Nat.mul_comm (rndF ..)]
    generalize 10 ^ (figs C - p) * rndF n C (10 ^ (figs C - p)) 2 = v at *
    generalize 10 ^ (figs C - p) = t at *
    generalize 10 ^ (p - 1) = q at *
    have h3 := Nat.mul_le_mul_left q h1.1
    have h4 := Nat.mul_le_mul_left q h1.2
    constructor <;> grind
/-- A quotient rounded to the nearest. -/
theorem quo_near (n : Bool) {D E p : Nat} (hE : 0 < E) (h : 10 ^ (p - 1) ≤ D / E) : 2 * 10 ^ (p - 1) * (E * rndF n D E 2) ≤ (2 * 10 ^ (p - 1) + 1) * D ∧ 2 * 10 ^ (p - 1) * D ≤ 2 * 10 ^ (p - 1) * (E * rndF n D E 2) + D := by
  rw [Nat.le_div_iff_mul_le hE] at h
  have h1 := rndF_near n D E hE
  generalize E * rndF n D E 2 = v at *
  generalize 10 ^ (p - 1) = q at *
  have h3 := Nat.mul_le_mul_left q h1.1
  have h4 := Nat.mul_le_mul_left q h1.2
  constructor <;> grind

theorem val_pow (S C k : Nat) (e : Int) (h : 0 ≤ e + S) : dval S (C * 10 ^ k) e = dval S C (e + k) := by
  unfold dval
  rw [show (e + (k : Int) + S).toNat = k + (e + S).toNat by omega, Nat.pow_add, Nat.mul_assoc]
theorem val_mul (S A B : Nat) (a b : Int) (ha : 0 ≤ a + S) (hb : 0 ≤ b + S) : dval S A a * dval S B b = dval (2 * S) (A * B) (a + b) := by
  unfold dval
  rw [show (a + b + ((2 * S : Nat) : Int)).toNat = (a + S).toNat + (b + S).toNat by omega, Nat.pow_add]
  ac_rfl
theorem val_add (S A B : Nat) (e : Int) : dval S (A + B) e = dval S A e + dval S B e := Nat.add_mul ..
theorem val_pos {S A : Nat} {e : Int} (h : 0 < A) : 0 < dval S A e := Nat.mul_pos h (ten_pos _)

theorem q_val {S A B p : Nat} {a b : Int} (hA : A ≠ 0) (hB : B ≠ 0) (hp : 1 ≤ p) (hb : 0 ≤ b + S) (hs : 0 ≤ a - b + qE A B p + S) (ha : 0 ≤ a + 2 * S - (quoU A B + (p - 1) : Nat)) :
    2 * 10 ^ (p - 1) * (dval S (qC A B p) (a - b + qE A B p) * dval S B b) ≤ (2 * 10 ^ (p - 1) + 1) * dval (2 * S) A a ∧ 2 * 10 ^ (p - 1) * dval (2 * S) A a ≤ 2 * 10 ^ (p - 1) * (dval S (qC A B p) (a - b + qE A B p) * dval S B b) + dval (2 * S) A a := by
  have hE : 0 < B * 10 ^ (figs A - figs B) := Nat.mul_pos (by omega) (ten_pos _)
  have h := quo_near false hE (quoU_le (p := p) hA hB hp).1
  rw [val_mul S _ _ _ _ hs hb]
  obtain ⟨w, hw⟩ : ∃ w : Nat, a + 2 * S - (quoU A B + (p - 1) : Nat) = (w : Int) := ⟨_, (Int.toNat_of_nonneg ha).symm⟩
  have e1 : dval (2 * S) (qC A B p * B) (a - b + qE A B p + b) = B * 10 ^ (figs A - figs B) * qC A B p * 10 ^ w := by
    unfold dval qE
    rw [show (a - b + (((figs A - figs B : Nat) : Int) - (quoU A B + (p - 1) : Nat)) + b + ((2 * S : Nat) : Int)).toNat = (figs A - figs B) + w by omega, Nat.pow_add]
    ac_rfl
  have e2 : dval (2 * S) A a = A * 10 ^ (quoU A B + (p - 1)) * 10 ^ w := by
    unfold dval
    rw [show (a + ((2 * S : Nat) : Int)).toNat = (quoU A B + (p - 1)) + w by omega, Nat.pow_add, Nat.mul_assoc]
  rw [e1, e2]
  unfold qC
  generalize A * 10 ^ (quoU A B + (p - 1)) = D at *
  generalize B * 10 ^ (figs A - figs B) = E at *
  generalize E * rndF false D E 2 = v at *
  have h3 := Nat.mul_le_mul_right (10 ^ w) h.1
  have h4 := Nat.mul_le_mul_right (10 ^ w) h.2
  constructor <;> grind
theorem r_val {S C p : Nat} {e : Int} (hp : 1 ≤ p) (he : 0 ≤ e + S) :
    2 * 10 ^ (p - 1) * dval S (rndN false C p 2) (e + rndK false C p 2) ≤ (2 * 10 ^ (p - 1) + 1) * dval S C e ∧ 2 * 10 ^ (p - 1) * dval S C e ≤ 2 * 10 ^ (p - 1) * dval S (rndN false C p 2) (e + rndK false C p 2) + dval S C e := by
  have h := rnd_near false (C := C) hp
  rw [← val_pow _ _ _ _ he]
  unfold dval
  generalize rndN false C p 2 * 10 ^ rndK false C p 2 = v at *
  generalize 10 ^ (e + S).toNat = t at *
  have h3 := Nat.mul_le_mul_right t h.1
  have h4 := Nat.mul_le_mul_right t h.2
  constructor <;> grind
theorem mulL {a b c : Int} (h : a ≤ b) (hc : 0 ≤ c) : c * a ≤ c * b := Int.mul_le_mul_of_nonneg_left h hc
theorem nw_up {P X T S Y F : Int} (hP : 0 < P) (hX : 0 < X) (ht : P * (T * X) ≤ (P + 1) * F) (hs : P * S ≤ (P + 1) * (X + T)) (hy : 2 * (P * Y) ≤ (P + 1) * S) :
    2 * P ^ 3 * (X * Y) ≤ (P + 1) ^ 2 * (P * X ^ 2 + (P + 1) * F) := by
  have h1 := mulL hy (c := P ^ 2 * X) (Int.mul_nonneg (Int.pow_nonneg (by omega)) (by omega))
  have h2 := mulL hs (c := (P + 1) * P * X) (Int.mul_nonneg (Int.mul_nonneg (by omega) (by omega)) (by omega))
  have h3 := mulL ht (c := (P + 1) ^ 2) (Int.pow_nonneg (by omega))
  grind
theorem nw_lo {P X T S Y F : Int} (hP : 1 < P) (hX : 0 < X) (ht : (P - 1) * F ≤ P * (T * X)) (hs : (P - 1) * (X + T) ≤ P * S) (hy : (P - 1) * S ≤ 2 * (P * Y)) :
    (P - 1) ^ 2 * (P * X ^ 2 + (P - 1) * F) ≤ 2 * P ^ 3 * (X * Y) := by
  have h1 := mulL hy (c := P ^ 2 * X) (Int.mul_nonneg (Int.pow_nonneg (by omega)) (by omega))
  have h2 := mulL hs (c := (P - 1) * P * X) (Int.mul_nonneg (Int.mul_nonneg (by omega) (by omega)) (by omega))
  have h3 := mulL ht (c := (P - 1) ^ 2) (Int.pow_nonneg (by omega))
  grind
theorem sq_nn (a : Int) : 0 ≤ a ^ 2 := by
  rcases Int.le_total 0 a with h | h
  · exact Int.pow_nonneg h
  · have := Int.pow_nonneg (m := 2) (show 0 ≤ -a by omega)
    grind
theorem sq_le {a b : Int} (ha : 0 ≤ a) (h : a ≤ b) : a ^ 2 ≤ b ^ 2 := by
  have h1 := mulL h ha
  have h2 := Int.mul_le_mul_of_nonneg_right h (show 0 ≤ b by omega)
  grind
/-- The lower side: no square is too small. -/
theorem nw_lo2 {P X T S Y F : Int} (hP : 1 < P) (hX : 0 < X) (hF : 0 < F) (ht : (P - 1) * F ≤ P * (T * X)) (hs : (P - 1) * (X + T) ≤ P * S) (hy : (P - 1) * S ≤ 2 * (P * Y)) :
    (P - 1) ^ 5 * F ≤ P ^ 5 * Y ^ 2 := by
  have h := nw_lo hP hX ht hs hy
  have hU : 0 ≤ P * X ^ 2 + (P - 1) * F := by
    have := Int.mul_nonneg (show 0 ≤ P by omega) (Int.pow_nonneg (m := 2) (show 0 ≤ X by omega))
    have := Int.mul_nonneg (show 0 ≤ P - 1 by omega) (show 0 ≤ F by omega)
    omega
  have h2 := sq_le (Int.mul_nonneg (Int.pow_nonneg (m := 2) (show 0 ≤ P - 1 by omega)) hU) h
  have h3 : 4 * (P * X ^ 2) * ((P - 1) * F) ≤ (P * X ^ 2 + (P - 1) * F) ^ 2 := by
    have : 0 ≤ (P * X ^ 2 - (P - 1) * F) ^ 2 := sq_nn _
    grind
  have h4 := mulL h3 (c := (P - 1) ^ 4) (Int.pow_nonneg (by omega))
  have h5 : 4 * P * X ^ 2 * ((P - 1) ^ 5 * F) ≤ 4 * P * X ^ 2 * (P ^ 5 * Y ^ 2) := by grind
  have h6 : 0 < 4 * P * X ^ 2 := Int.mul_pos (by omega) (Int.pow_pos hX)
  exact Int.le_of_mul_le_mul_left h5 h6
/-- the upper side; D = X^2 - F -/
theorem nw_up2 {P X T S Y F a e : Int} (hP : 0 < P) (hX : 0 < X) (hF : 0 < F) (he : 0 ≤ e) (hea : e < a) (ht : P * (T * X) ≤ (P + 1) * F) (hs : P * S ≤ (P + 1) * (X + T)) (hy : 2 * (P * Y) ≤ (P + 1) * S) (hY : 0 ≤ Y)
    (h1 : a * (X ^ 2 - F) ≤ e * F) (h2 : a * (F - X ^ 2) ≤ e * F) :
    4 * P ^ 6 * Y ^ 2 * (a * (a - e)) ≤ (P + 1) ^ 4 * F * (4 * P * (P + 1) * (a * (a - e)) + (P * e + a) ^ 2) := by
  have h := nw_up hP hX ht hs hy
  have hl : 0 ≤ 2 * P ^ 3 * (X * Y) := Int.mul_nonneg (Int.mul_nonneg (by omega) (Int.pow_nonneg (by omega))) (Int.mul_nonneg (by omega) hY)
  have g1 := sq_le hl h
  have hV : (P * X ^ 2 + (P + 1) * F) ^ 2 = 4 * P * (P + 1) * X ^ 2 * F + (P * (X ^ 2 - F) - F) ^ 2 := by grind
  have b1 : a * (P * (X ^ 2 - F) - F) ≤ (P * e + a) * F := by
    have := mulL h1 (c := P) (by omega)
    have := Int.mul_nonneg (show 0 ≤ a by omega) (show 0 ≤ F by omega)
    grind
  have b2 : -((P * e + a) * F) ≤ a * (P * (X ^ 2 - F) - F) := by
    have := mulL h2 (c := P) (by omega)
    grind
  have b3 : (a * (P * (X ^ 2 - F) - F)) ^ 2 ≤ ((P * e + a) * F) ^ 2 := by
    rcases Int.le_total 0 (a * (P * (X ^ 2 - F) - F)) with h0 | h0
    · exact sq_le h0 b1
    · have := sq_le (a := -(a * (P * (X ^ 2 - F) - F))) (b := (P * e + a) * F) (by omega) (by omega)
      grind
  have c1 : (a - e) * F ≤ a * X ^ 2 := by grind
  have c2 : (a - e) * ((P * e + a) * F) ^ 2 ≤ a * X ^ 2 * ((P * e + a) ^ 2 * F) := by
    have := mulL c1 (c := (P * e + a) ^ 2 * F) (Int.mul_nonneg (Int.pow_nonneg (by have := Int.mul_nonneg (show 0 ≤ P by omega) he; omega)) (by omega))
    grind
  have c3 := mulL b3 (c := a - e) (by omega)
  have c4 : (a - e) * a * (P * (X ^ 2 - F) - F) ^ 2 * a ≤ X ^ 2 * ((P * e + a) ^ 2 * F) * a := by grind
  have c5 := Int.le_of_mul_le_mul_right c4 (show 0 < a by omega)
  have d1 : (a * (a - e)) * (P * X ^ 2 + (P + 1) * F) ^ 2 ≤ X ^ 2 * (F * (4 * P * (P + 1) * (a * (a - e)) + (P * e + a) ^ 2)) := by
    rw [hV]; grind
  have d2 := mulL d1 (c := (P + 1) ^ 4) (Int.pow_nonneg (by omega))
  have d3 := mulL g1 (c := a * (a - e)) (Int.mul_nonneg (by omega) (by omega))
  have d4 : X ^ 2 * (4 * P ^ 6 * Y ^ 2 * (a * (a - e))) ≤ X ^ 2 * ((P + 1) ^ 4 * F * (4 * P * (P + 1) * (a * (a - e)) + (P * e + a) ^ 2)) := by grind
  exact Int.le_of_mul_le_mul_left d4 (Int.pow_pos hX)
theorem nw_step {P X T S Y F a e g : Int} (hP : 2000 ≤ P) (hX : 0 < X) (hF : 0 < F) (he : 0 ≤ e) (hea : e < a) (ht1 : P * (T * X) ≤ (P + 1) * F) (ht2 : (P - 1) * F ≤ P * (T * X)) (hs1 : P * S ≤ (P + 1) * (X + T)) (hs2 : (P - 1) * (X + T) ≤ P * S)
    (hy1 : 2 * (P * Y) ≤ (P + 1) * S) (hy2 : (P - 1) * S ≤ 2 * (P * Y)) (hY : 0 ≤ Y) (hn : Near a e F X) (hpa : 500 * P ≤ a ^ 2) (hap : 2 * a ≤ P) (hg : 0 ≤ g ∧ g ≤ 83) (hge : (2 * e + 1) ^ 2 * a ≤ 1600 * g * (a - e)) :
    Near (5 * P) (26 + g) F Y := by
  obtain ⟨hg0, hg1⟩ := hg
  constructor
  · have h := nw_up2 (show 0 < P by omega) hX hF he hea ht1 hs1 hy1 hY hn.1 hn.2
    have hA : 0 < a * (a - e) := Int.mul_pos (by omega) (by omega)
    -- (P e + a)^2 <= (4/5) P g A
    have h1 : (2 * (P * e + a)) ^ 2 ≤ (P * (2 * e + 1)) ^ 2 := sq_le (by have := Int.mul_nonneg (show 0 ≤ P by omega) he; omega) (by grind)
    have h2 := mulL hge (c := a) (by omega)
    have h3 : (2 * e + 1) ^ 2 * (500 * P) ≤ 1600 * g * (a * (a - e)) := by
      have := mulL hpa (c := (2 * e + 1) ^ 2) (sq_nn _)
      grind
    have h4 : 5 * (P * e + a) ^ 2 ≤ 4 * P * g * (a * (a - e)) := by
      have := mulL h3 (c := P) (by omega)
      grind
    generalize a * (a - e) = A at *
    have h5 : (P + 1) ^ 4 * F * (5 * (P * e + a) ^ 2) ≤ (P + 1) ^ 4 * F * (4 * P * g * A) := mulL h4 (Int.mul_nonneg (Int.pow_nonneg (by omega)) (by omega))
    have h6 : (4 * P * A) * (5 * P ^ 5 * Y ^ 2) ≤ (4 * P * A) * ((P + 1) ^ 4 * (5 * P + 5 + g) * F) := by grind
    have h7 := Int.le_of_mul_le_mul_left h6 (Int.mul_pos (by omega) hA)
    have p1 := mulL hP (c := P) (by omega)
    have p2 := mulL hP (c := P ^ 2) (sq_nn _)
    have p3 := mulL hP (c := P ^ 3) (Int.pow_nonneg (by omega))
    have q1 := mulL hg1 (c := P) (by omega)
    have q2 := mulL hg1 (c := P ^ 2) (sq_nn _)
    have q3 := mulL hg1 (c := P ^ 3) (Int.pow_nonneg (by omega))
    have h8 : (P + 1) ^ 4 * (5 * P + 5 + g) ≤ P ^ 4 * (5 * P + 26 + g) := by grind
    have h9 := mulL h8 (c := F) (by omega)
    have h10 : P ^ 4 * (5 * P * (Y ^ 2 - F)) ≤ P ^ 4 * ((26 + g) * F) := by grind
    exact Int.le_of_mul_le_mul_left h10 (Int.pow_pos (by omega))
  · have h := nw_lo2 (show 1 < P by omega) hX hF ht2 hs2 hy2
    have h8 : P ^ 4 * (P - 5) ≤ (P - 1) ^ 5 := by
      have p1 := mulL hP (c := P) (by omega)
      have p2 := mulL hP (c := P ^ 2) (sq_nn _)
      grind
    have h9 := mulL h8 (c := F) (by omega)
    have h11 : P ^ 4 * (5 * P * (F - Y ^ 2)) ≤ P ^ 4 * (25 * F) := by grind
    have h12 := Int.le_of_mul_le_mul_left h11 (Int.pow_pos (by omega))
    have := Int.mul_nonneg hg0 (show 0 ≤ F by omega)
    grind

theorem val_half {S C : Nat} {e : Int} (h : 0 ≤ e - 1 + S) : 2 * dval S (C * 5) (e - 1) = dval S C e := by
  unfold dval
  rw [show (e + (S : Int)).toNat = (e - 1 + S).toNat + 1 by omega, ten_succ]
  generalize 10 ^ (e - 1 + (S : Int)).toNat = t
  grind
theorem ten_int (p : Nat) (hp : 1 ≤ p) : (10 : Int) ^ p = 5 * ((2 * 10 ^ (p - 1) : Nat) : Int) := by
  obtain ⟨q, rfl⟩ : ∃ q, p = q + 1 := ⟨p - 1, by omega⟩
  rw [Nat.add_sub_cancel, Int.pow_succ]
  push_cast
  omega
theorem st_sum {S F C p : Nat} {eF e : Int} (h1 : 0 ≤ stQ F eF C e p + S) (h2 : 0 ≤ e + S) : dval S (stSum F eF C e p) (min (stQ F eF C e p) e) = dval S (qC F C p) (stQ F eF C e p) + dval S C e := by
  unfold stSum
  rw [val_add, val_pow _ _ _ _ (by omega), val_pow _ _ _ _ (by omega)]
  rw [show min (stQ F eF C e p) e + ((stQ F eF C e p - min (stQ F eF C e p) e).toNat : Int) = stQ F eF C e p by omega, show min (stQ F eF C e p) e + ((e - min (stQ F eF C e p) e).toNat : Int) = e by omega]
theorem twoU {P Y H : Int} (h : P * Y ≤ (P + 1) * H) : 2 * (P * Y) ≤ (P + 1) * (2 * H) := by grind
theorem twoL {P Y H : Int} (h : P * H ≤ P * Y + H) : (P - 1) * (2 * H) ≤ 2 * (P * Y) := by grind
theorem st_near {S F C p : Nat} {eF e : Int} {a k g : Int} (hp : 4 ≤ p) (hF : F ≠ 0) (hC : C ≠ 0) (h1 : 1 ≤ stQ F eF C e p + S) (h2 : 1 ≤ e + S) (h3 : 0 ≤ eF + 2 * S - (quoU F C + (p - 1) : Nat))
    (hk : 0 ≤ k) (hka : k < a) (hn : Near a k (dval (2 * S) F eF : Nat) (dval S C e : Nat)) (hpa : 500 * ((2 * 10 ^ (p - 1) : Nat) : Int) ≤ a ^ 2) (hap : 2 * a ≤ ((2 * 10 ^ (p - 1) : Nat) : Int)) (hg : 0 ≤ g ∧ g ≤ 83) (hge : (2 * k + 1) ^ 2 * a ≤ 1600 * g * (a - k)) :
    Near (10 ^ p) (26 + g) (dval (2 * S) F eF : Nat) (dval S (stY F eF C e p) (stYe F eF C e p) : Nat) := by
  have q := q_val (S := S) (p := p) (a := eF) (b := e) hF hC (by omega) (by omega) (by unfold stQ at h1; omega) h3
  have su := st_sum (S := S) (F := F) (C := C) (p := p) (eF := eF) (e := e) (by omega) (by omega)
  have r := r_val (S := S) (C := stSum F eF C e p) (p := p) (e := min (stQ F eF C e p) e) (by omega) (by omega)
  have y := r_val (S := S) (C := stH F eF C e p * 5) (p := p) (e := stHe F eF C e p - 1) (by omega) (by unfold stHe; omega)
  have hh := val_half (S := S) (C := stH F eF C e p) (e := stHe F eF C e p) (by unfold stHe; omega)
  change _ ∧ _ ≤ _ * dval S (stH F eF C e p) (stHe F eF C e p) + _ at r
  change 2 * 10 ^ (p - 1) * dval S (stH F eF C e p) (stHe F eF C e p) ≤ _ ∧ _ at r
  rw [su] at r
  change 2 * 10 ^ (p - 1) * dval S (stY F eF C e p) (stYe F eF C e p) ≤ _ ∧ _ ≤ 2 * 10 ^ (p - 1) * dval S (stY F eF C e p) (stYe F eF C e p) + _ at y
  change 2 * 10 ^ (p - 1) * (dval S (qC F C p) (stQ F eF C e p) * dval S C e) ≤ _ ∧ _ ≤ 2 * 10 ^ (p - 1) * (dval S (qC F C p) (stQ F eF C e p) * dval S C e) + _ at q
  rw [ten_int p (by omega)]
  have hP : 2000 ≤ 2 * 10 ^ (p - 1) := by have := ten_le (show 3 ≤ p - 1 by omega); omega
  have hX : 0 < dval S C e := val_pos (by omega)
  have hFv : 0 < dval (2 * S) F eF := val_pos (by omega)
  generalize dval S C e = X at *
  generalize dval (2 * S) F eF = V at *
  generalize dval S (qC F C p) (stQ F eF C e p) = T at *
  generalize dval S (stH F eF C e p) (stHe F eF C e p) = H at *
  generalize dval S (stH F eF C e p * 5) (stHe F eF C e p - 1) = H5 at *
  generalize dval S (stY F eF C e p) (stYe F eF C e p) = Y at *
  generalize 2 * 10 ^ (p - 1) = P at *
  obtain ⟨q1, q2⟩ := q
  obtain ⟨r1, r2⟩ := r
  obtain ⟨y1, y2⟩ := y
  refine nw_step (P := (P : Int)) (X := (X : Int)) (T := (T : Int)) (S := (H : Int)) (Y := (Y : Int)) (F := (V : Int)) (by omega) (by omega) (by omega) hk hka ?_ ?_ ?_ ?_ ?_ ?_ (by omega) hn hpa hap hg hge
  · exact_mod_cast q1
  · have : (P : Int) * V ≤ P * (T * X) + V := by exact_mod_cast q2
    grind
  · rw [Int.add_comm (X : Int) T]; exact_mod_cast r1
  · have : (P : Int) * (T + X) ≤ P * H + (T + X) := by exact_mod_cast r2
    grind
  · have y3 : (P : Int) * Y ≤ (P + 1) * H5 := by exact_mod_cast y1
    rw [show (H : Int) = 2 * H5 by omega]
    exact twoU y3
  · have y3 : (P : Int) * H5 ≤ P * Y + H5 := by exact_mod_cast y2
    rw [show (H : Int) = 2 * H5 by omega]
    exact twoL y3
end Go.Proofs.YtcoljeafgiemkaaGreatDoor

namespace Go.Proofs.YtcoljeafgiemkaaGreatDoor

theorem awayN_sg {n : Bool} {l m : Nat} {h : Int} (hm : n = true → m ≠ 3 ∧ m ≠ 4) : awayN n l h m = awayN false l h m := by
  cases n with
  | false => rfl
  | true =>
    obtain ⟨h3, h4⟩ := hm rfl
    match m, h3, h4 with
    | 0, _, _ => rfl
    | 1, _, _ => rfl
    | 2, _, _ => rfl
    | 3, h3, _ => exact absurd rfl h3
    | 4, _, h4 => exact absurd rfl h4
    | 5, _, _ => rfl
    | 6, _, _ => rfl
    | 7, _, _ => rfl
    | _ + 8, _, _ => rfl
/-- Cutting without the sign, but for the modes that look at it. -/
theorem cutN_sg {n : Bool} {N k m : Nat} (hm : n = true → m ≠ 3 ∧ m ≠ 4) : cutN n N k m = cutN false N k m := by
  unfold cutN
  rw [awayN_sg hm]
theorem scale_eq {a b s t i j : Nat} (h : a * 10 ^ s = b * 10 ^ t) (hij : s + j = t + i) : a * 10 ^ i = b * 10 ^ j := by
  have h1 : a * 10 ^ i * 10 ^ (s + j) = b * 10 ^ j * 10 ^ (s + j) := by
    rw [show a * 10 ^ i * 10 ^ (s + j) = a * 10 ^ s * (10 ^ i * 10 ^ j) by rw [Nat.pow_add]; ac_rfl, h, hij, Nat.pow_add]
    ac_rfl
  exact Nat.eq_of_mul_eq_mul_right (ten_pos _) h1
/-- A power of ten whose noughts are off. -/
theorem bare_ten {C i j : Nat} (h : C * 10 ^ i = 10 ^ j) (hC : C % 10 ≠ 0) : C = 1 := by
  rcases Nat.lt_or_ge i j with hij | hij
  · have h1 : C = 10 ^ (j - i) := by
      have : C * 10 ^ i = 10 ^ (j - i) * 10 ^ i := by rw [h, ← Nat.pow_add]; congr 1; omega
      exact Nat.eq_of_mul_eq_mul_right (ten_pos i) this
    obtain ⟨q, hq⟩ : ∃ q, j - i = q + 1 := ⟨j - i - 1, by omega⟩
    rw [h1, hq, ten_succ] at hC
    omega
  · have h2 := ten_pos j
    have h3 : C * 10 ^ (i - j) = 1 := by
      have : C * 10 ^ (i - j) * 10 ^ j = 1 * 10 ^ j := by rw [Nat.mul_assoc, ← Nat.pow_add, Nat.one_mul, ← h]; congr 2; omega
      exact Nat.eq_of_mul_eq_mul_right h2 this
    have h4 := ten_pos (i - j)
    exact Nat.eq_one_of_mul_eq_one_right h3
theorem rndX_iff {C p : Nat} (h : p < figs C) : rndX C p = inexN C (figs C - p) := by unfold rndX; rw [if_neg (by omega)]
end Go.Proofs.YtcoljeafgiemkaaGreatDoor
