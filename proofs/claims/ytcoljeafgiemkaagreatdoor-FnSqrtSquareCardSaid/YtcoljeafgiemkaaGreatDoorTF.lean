/- Magnitudes in the root's iteration: plain facts, no program. The root's iteration as a run: plain facts, no program. The square root's laws on what the iteration comes to: plain facts, no program. When the square root is told as exact: plain facts, no program. -/
import Derived.Test.YtcoljeafgiemkaaGreatDoorC06
import Derived.Test.YtcoljeafgiemkaaGreatDoorC04
import Derived.Test.YtcoljeafgiemkaaGreatDoorC11
namespace Go.Proofs.YtcoljeafgiemkaaGreatDoor

theorem sq_mag {S V p C n : Nat} {e : Int} (hp : 3 ≤ p) (inv : SqInv S V p C e n) (hS : 200 ≤ S) (hn : n ≤ 100) (hV1 : 10 ^ (2 * S - 2) ≤ V) (hV2 : V ≤ 10 ^ (2 * S)) : -1 ≤ (figs C : Int) + e ∧ (figs C : Int) + e ≤ 1 := by
  obtain ⟨hk, hk0, hka⟩ := kOf_le hp
  have ha : (0 : Int) < 10 ^ p := Int.pow_pos (by omega)
  have hlo := inv.lo
  have hhi := inv.hi
  have hne := inv.ne
  have h := inv.near
  have hV0 : 0 < V := Nat.lt_of_lt_of_le (ten_pos _) hV1
  have h1 : dval S C e ^ 2 ≤ 2 * V := by
    have h2 := h.1
    have h3 := Int.mul_le_mul_of_nonneg_right hk (show (0 : Int) ≤ V by omega)
    have h5 := Int.mul_nonneg (show (0 : Int) ≤ 10 ^ p by omega) (show (0 : Int) ≤ V by omega)
    have h4 : 10 ^ p * (((dval S C e : Nat) : Int) ^ 2) ≤ 10 ^ p * (2 * V) := by
      generalize (10 : Int) ^ p = P at *
      grind
    exact_mod_cast Int.le_of_mul_le_mul_left h4 ha
  have h2 : V ≤ 4 * dval S C e ^ 2 := by
    have h2 := h.2
    have h3 := Int.mul_le_mul_of_nonneg_right hk (show (0 : Int) ≤ V by omega)
    have h4 : 10 ^ p * (V : Int) ≤ 10 ^ p * (4 * ((dval S C e : Nat) : Int) ^ 2) := by
      generalize (10 : Int) ^ p = P at *
      grind
    exact_mod_cast Int.le_of_mul_le_mul_left h4 ha
  obtain ⟨t, ht⟩ : ∃ t, (e + (S : Int)).toNat = t := ⟨_, rfl⟩
  have hd : dval S C e = C * 10 ^ t := by unfold dval; rw [ht]
  have hf := figs_mul_pow hne t
  rw [← hd] at hf
  rw [Nat.pow_two] at h1 h2
  generalize dval S C e = D at *
  have e2 : 10 ^ (2 * S) = 10 ^ S * 10 ^ S := by rw [← Nat.pow_add]; congr 1; omega
  have u : D < 10 ^ (S + 1) := by
    apply Decidable.byContradiction
    intro hc
    have g1 : 10 * 10 ^ S ≤ D := by rw [← ten_succ]; omega
    have g2 := Nat.mul_le_mul g1 g1
    have g3 := ten_pos S
    rw [e2] at hV2
    generalize 10 ^ S = s at *
    have g4 := Nat.mul_pos g3 g3
    grind
  have l : 10 ^ (S - 2) ≤ D := by
    apply Decidable.byContradiction
    intro hc
    have g2 : D * D ≤ 10 ^ (S - 2) * 10 ^ (S - 2) := Nat.mul_le_mul (by omega) (by omega)
    rw [← Nat.pow_add] at g2
    have g3 : 10 ^ (2 * S - 2) = 100 * 10 ^ (S - 2 + (S - 2)) := by
      rw [show 2 * S - 2 = (S - 2 + (S - 2)) + 1 + 1 by omega, ten_succ, ten_succ]; omega
    have g4 := ten_pos (S - 2 + (S - 2))
    omega
  have f1 := (figs_le_iff (n := D) (k := S + 1) (by omega)).2 u
  have f2 : S - 1 ≤ figs D := by
    have h3 := figs_mono l
    rw [figs_pow] at h3
    omega
  omega
theorem stQ_mag {F C q : Nat} {eF e : Int} (hq : 1 ≤ q) (h1 : -1 ≤ (figs F : Int) + eF ∧ (figs F : Int) + eF ≤ 0) (h2 : -1 ≤ (figs C : Int) + e ∧ (figs C : Int) + e ≤ 1) : -(q : Int) - 2 ≤ stQ F eF C e q ∧ stQ F eF C e q ≤ -(q : Int) + 2 := by
  unfold stQ qE quoU
  split <;> omega
theorem qC_small {F C q : Nat} (hF : F ≠ 0) (hC : C ≠ 0) (hq : 1 ≤ q) : qC F C q < 10 ^ (q + 1) := by
  rcases quo_figs false 2 hF hC hq rfl rfl with h | ⟨h, _⟩
  · exact Nat.lt_of_lt_of_le (figs_lt _) (ten_le (by unfold qC; omega))
  · unfold qC; rw [h]; exact ten_lt (by omega)
theorem nb_ten {N j : Nat} (h : N < 10 ^ j) : nbits N ≤ 4 * j := by
  refine nbits_le_iff.2 (Nat.lt_of_lt_of_le h ?_)
  rw [Nat.pow_mul]
  exact Nat.pow_le_pow_left (by decide) j
theorem rndN_small (n : Bool) {N p m : Nat} (hp : 1 ≤ p) : rndN n N p m < 10 ^ p := Nat.lt_of_lt_of_le (figs_lt _) (ten_le (rndN_figs hp))
end Go.Proofs.YtcoljeafgiemkaaGreatDoor
namespace Go.Proofs.YtcoljeafgiemkaaGreatDoor

/-- The iteration: at precision p, toward precision M. -/
def sqRun (X : Nat) (eF : Int) (M : Nat) : Nat → Nat → Nat → Int → Nat × Int
  | 0, _, C, e => (C, e)
  | k + 1, p, C, e => if p = M then (C, e) else sqRun X eF M k (min (2 * p - 2) M) (stY X eF C e (min (2 * p - 2) M)) (stYe X eF C e (min (2 * p - 2) M))
theorem sqRun_end (X : Nat) (eF : Int) (M k C : Nat) (e : Int) : sqRun X eF M k M C e = (C, e) := by
  cases k with
  | zero => rfl
  | succ k => unfold sqRun; rw [if_pos rfl]
theorem sqRun_go (X : Nat) (eF : Int) {M k p C : Nat} {e : Int} (h : p ≠ M) : sqRun X eF M (k + 1) p C e = sqRun X eF M k (min (2 * p - 2) M) (stY X eF C e (min (2 * p - 2) M)) (stYe X eF C e (min (2 * p - 2) M)) := by
  rw [sqRun, if_neg h]
/-- What holds at the loop's head. -/
structure SqL (S X : Nat) (eF : Int) (M CL : Nat) (eL : Int) (k p C : Nat) (e : Int) (n : Nat) : Prop where
  run : sqRun X eF M k p C e = (CL, eL)
  inv : SqInv S (dval (2 * S) X eF) p C e n
  fuel : M - 2 ≤ 2 ^ k * (p - 2)
  pp : p = 3 ∨ p = 4 ∨ p = 6 ∨ 10 ≤ p
  le : p ≤ M
  n1 : n ≤ 100
  np : 10 ≤ p → n ≤ p
/-- The dividend: between a tenth of a tenth and one, in units of 10^-(2S). -/
structure SqF (S X : Nat) (eF : Int) (M : Nat) : Prop where
  s : 1000 ≤ S
  ne : X ≠ 0
  lo : -200 ≤ eF
  hi : eF ≤ 0
  v1 : 10 ^ (2 * S - 2) ≤ dval (2 * S) X eF
  v2 : dval (2 * S) X eF < 10 ^ (2 * S)
  m1 : 12 ≤ M
  m2 : M ≤ 66
theorem SqL.step {S X M CL k p C n : Nat} {eF eL e : Int} (f : SqF S X eF M) (h : SqL S X eF M CL eL k p C e n) (hp : p ≠ M) :
    ∃ k', k = k' + 1 ∧ SqL S X eF M CL eL k' (min (2 * p - 2) M) (stY X eF C e (min (2 * p - 2) M)) (stYe X eF C e (min (2 * p - 2) M)) (min (2 * p - 2) M) := by
  have hle := h.le
  have hm1 := f.m1
  have hm2 := f.m2
  have hpp := h.pp
  have hfu := h.fuel
  cases k with
  | zero => rw [Nat.pow_zero, Nat.one_mul] at hfu; omega
  | succ k =>
    have hr := h.run
    rw [sqRun_go X eF hp] at hr
    refine ⟨k, rfl, hr, ?_, ?_, ?_, by omega, by omega, fun _ => Nat.le_refl _⟩
    · refine sq_step f.s f.ne ⟨f.lo, f.hi⟩ f.v1 (Nat.le_of_lt f.v2) h.n1 (by omega) h.inv ?_
      rcases hpp with rfl | rfl | rfl | h10
      · left; omega
      · right; left; omega
      · right; right; left; omega
      · right; right; right; omega
    · rw [Nat.pow_succ, Nat.mul_assoc] at hfu
      by_cases hq : 2 * p - 2 ≤ M
      · rw [Nat.min_eq_left hq, show 2 * p - 2 - 2 = 2 * (p - 2) by omega]
        exact hfu
      · rw [Nat.min_eq_right (by omega)]
        exact Nat.le_trans (Nat.le_of_eq (Nat.one_mul _).symm) (Nat.mul_le_mul_right _ (Nat.pos_of_ne_zero (by have := Nat.pow_pos (n := k) (show 0 < 2 by omega); omega)))
    · rcases hpp with rfl | rfl | rfl | h10
      · right; left; omega
      · right; right; left; omega
      · right; right; right; omega
      · right; right; right; omega
/-- The last step begins with at least ten figures, and ends with all. -/
theorem SqL.last {S X M CL : Nat} {eF eL : Int} (f : SqF S X eF M) : ∀ (k p C n : Nat) (e : Int), SqL S X eF M CL eL k p C e n → p ≠ M →
    SqInv S (dval (2 * S) X eF) M CL eL M ∧ ∃ pp C' e' n', 10 ≤ pp ∧ pp < M ∧ M ≤ 2 * pp - 2 ∧ n' ≤ pp ∧ SqInv S (dval (2 * S) X eF) pp C' e' n' ∧ CL = stY X eF C' e' M ∧ eL = stYe X eF C' e' M := by
  intro k
  induction k with
  | zero =>
    intro p C n e h hp
    obtain ⟨k', hk, _⟩ := h.step f hp
    omega
  | succ k ih =>
    intro p C n e h hp
    obtain ⟨k', hk, h2⟩ := h.step f hp
    obtain rfl : k' = k := by omega
    have hle := h.le
    have hm1 := f.m1
    have hpp := h.pp
    obtain ⟨q, hq⟩ : ∃ q, min (2 * p - 2) M = q := ⟨_, rfl⟩
    rw [hq] at h2
    by_cases hqM : q = M
    · subst hqM
      have hr := h2.run
      rw [sqRun_end] at hr
      have e1 : stY X eF C e q = CL := congrArg Prod.fst hr
      have e2 : stYe X eF C e q = eL := congrArg Prod.snd hr
      have hi := h2.inv
      rw [e1, e2] at hi
      have h10 : 10 ≤ p := by omega
      exact ⟨hi, p, C, e, n, h10, by omega, by omega, h.np h10, h.inv, e1.symm, e2.symm⟩
    · exact ih q _ _ _ h2 hqM

theorem tmod2 (e : Int) : -1 ≤ e.tmod 2 ∧ e.tmod 2 ≤ 1 ∧ (e.tmod 2 = 0 ↔ e % 2 = 0) := by
  rcases Int.le_total 0 e with h | h
  · rw [Int.tmod_eq_emod_of_nonneg h]; omega
  · have h1 := Int.neg_tmod (a := -e) (b := 2)
    have h2 := Int.tmod_eq_emod_of_nonneg (a := -e) (b := 2) (by omega)
    rw [Int.neg_neg] at h1
    omega
/-- The scaled dividend's exponent, the root's shift, the first guess, the precision of the work. -/
abbrev sqEv (X : Nat) (ex : Int) : Prop := ((figs X : Int) + ex) % 2 = 0
def sqEF (X : Nat) (ex : Int) : Int := if sqEv X ex then -(figs X : Int) else -(figs X : Int) - 1
def sqE2 (X : Nat) (ex : Int) : Int := if sqEv X ex then (figs X : Int) + ex else (figs X : Int) + ex + 1
def sqW (X p : Nat) : Nat := max (max (p + 1) (figs X)) 7
def sqC0 (X : Nat) (ex : Int) (w : Nat) : Nat := if sqEv X ex then gC X 819 259 w (-(figs X : Int)) (-3) (-3) else gC X 259 819 w (-(figs X : Int) - 1) (-2) (-4)
def sqE0 (X : Nat) (ex : Int) (w : Nat) : Int := if sqEv X ex then gE X 819 259 w (-(figs X : Int)) (-3) (-3) else gE X 259 819 w (-(figs X : Int) - 1) (-2) (-4)
/-- What the iteration comes to. -/
def sqR (X : Nat) (ex : Int) (p : Nat) : Nat × Int := sqRun X (sqEF X ex) (sqW X p + 5) 6 3 (sqC0 X ex (sqW X p)) (sqE0 X ex (sqW X p))
theorem sqE2_ev (X : Nat) (ex : Int) : sqE2 X ex % 2 = 0 := by
  unfold sqE2
  split
  · assumption
  · rename_i h; omega
/-- The exponents: the number is the scaled dividend, shifted twice by half. -/
theorem sqE2_ex (X : Nat) (ex : Int) : sqEF X ex + 2 * (sqE2 X ex / 2) = ex := by
  have h := sqE2_ev X ex
  have h2 : 2 * (sqE2 X ex / 2) = sqE2 X ex := by omega
  rw [h2]
  unfold sqEF sqE2
  split <;> omega
theorem sq_start {X p : Nat} {ex : Int} (hX0 : X ≠ 0) (hX : figs X ≤ 61) (hp : 1 ≤ p ∧ p ≤ 60) :
    SqF 1000 X (sqEF X ex) (sqW X p + 5) ∧ SqInv 1000 (dval (2 * 1000) X (sqEF X ex)) 3 (sqC0 X ex (sqW X p)) (sqE0 X ex (sqW X p)) (sqW X p) ∧ 7 ≤ sqW X p ∧ p + 1 ≤ sqW X p ∧ sqW X p ≤ 61 := by
  have hf1 := figs_pos X
  obtain ⟨w, hw⟩ : ∃ w, sqW X p = w := ⟨_, rfl⟩
  have hw1 : 7 ≤ w ∧ p + 1 ≤ w ∧ w ≤ 61 := by rw [← hw]; unfold sqW; omega
  obtain ⟨S, hS⟩ : ∃ S, S = 1000 := ⟨_, rfl⟩
  rw [hw, ← hS]
  have hlt := figs_lt X
  have hge := figs_ge hX0
  have hv : ∀ (j : Nat) (eF : Int), eF = -(figs X : Int) - (j : Int) → j ≤ 1 → 10 ^ (2 * S - 1 - j) ≤ dval (2 * S) X eF ∧ dval (2 * S) X eF < 10 ^ (2 * S - j) := by
    intro j eF he hj
    unfold dval
    have ht : (eF + ((2 * S : Nat) : Int)).toNat = 2 * S - figs X - j := by omega
    rw [ht]
    refine ⟨?_, ?_⟩
    · have h1 := Nat.mul_le_mul_right (10 ^ (2 * S - figs X - j)) hge
      rw [← Nat.pow_add, show figs X - 1 + (2 * S - figs X - j) = 2 * S - 1 - j by omega] at h1
      exact h1
    · have h1 := Nat.mul_lt_mul_of_pos_right hlt (ten_pos (2 * S - figs X - j))
      rw [← Nat.pow_add, show figs X + (2 * S - figs X - j) = 2 * S - j by omega] at h1
      exact h1
  by_cases h : sqEv X ex
  · have e1 : sqEF X ex = -(figs X : Int) := by unfold sqEF; rw [if_pos h]
    have e2 : sqC0 X ex w = gC X 819 259 w (-(figs X : Int)) (-3) (-3) := by unfold sqC0; rw [if_pos h]
    have e3 : sqE0 X ex w = gE X 819 259 w (-(figs X : Int)) (-3) (-3) := by unfold sqE0; rw [if_pos h]
    rw [e1, e2, e3]
    obtain ⟨v1, v2⟩ := hv 0 (-(figs X : Int)) (by omega) (by omega)
    rw [Nat.sub_zero] at v1 v2
    exact ⟨⟨by omega, hX0, by omega, by omega, Nat.le_trans (ten_le (by omega)) v1, v2, by omega, by omega⟩, guess_even (by omega) hw1.1 (by omega) (by omega) v1 (Nat.le_of_lt v2), hw1⟩
  · have e1 : sqEF X ex = -(figs X : Int) - 1 := by unfold sqEF; rw [if_neg h]
    have e2 : sqC0 X ex w = gC X 259 819 w (-(figs X : Int) - 1) (-2) (-4) := by unfold sqC0; rw [if_neg h]
    have e3 : sqE0 X ex w = gE X 259 819 w (-(figs X : Int) - 1) (-2) (-4) := by unfold sqE0; rw [if_neg h]
    rw [e1, e2, e3]
    obtain ⟨v1, v2⟩ := hv 1 (-(figs X : Int) - 1) (by omega) (by omega)
    rw [show 2 * S - 1 - 1 = 2 * S - 2 by omega] at v1
    exact ⟨⟨by omega, hX0, by omega, by omega, v1, Nat.lt_of_lt_of_le v2 (ten_le (by omega)), by omega, by omega⟩, guess_odd (by omega) hw1.1 (by omega) (by omega) v1 (Nat.le_of_lt v2), hw1⟩
theorem sq_begin {X p : Nat} {ex : Int} (hX0 : X ≠ 0) (hX : figs X ≤ 61) (hp : 1 ≤ p ∧ p ≤ 60) {CL : Nat} {eL : Int} (hR : sqR X ex p = (CL, eL)) :
    SqL 1000 X (sqEF X ex) (sqW X p + 5) CL eL 6 3 (sqC0 X ex (sqW X p)) (sqE0 X ex (sqW X p)) (sqW X p) := by
  obtain ⟨f, hi, h7, h8, h9⟩ := sq_start (ex := ex) hX0 hX hp
  exact ⟨hR, hi, by have : (2 : Nat) ^ 6 = 64 := rfl; omega, .inl rfl, by omega, by omega, fun h => by omega⟩
end Go.Proofs.YtcoljeafgiemkaaGreatDoor
namespace Go.Proofs.YtcoljeafgiemkaaGreatDoor

theorem dval_def (S C : Nat) (e : Int) : dval S C e = C * 10 ^ (e + S).toNat := rfl
/-- What is known of what the iteration comes to. -/
theorem sq_end {X p : Nat} {ex : Int} (hX0 : X ≠ 0) (hX : figs X ≤ 61) (hp : 1 ≤ p ∧ p ≤ 60) {CL : Nat} {eL : Int} (hR : sqR X ex p = (CL, eL)) :
    SqInv 1000 (dval (2 * 1000) X (sqEF X ex)) (sqW X p + 5) CL eL (sqW X p + 5) ∧ figs CL ≤ 66 ∧ CL ≠ 0 ∧ -67 ≤ eL ∧ eL ≤ 0 := by
  obtain ⟨f, hi, h7, h8, h9⟩ := sq_start (ex := ex) hX0 hX hp
  have h := (SqL.last f _ _ _ _ _ (sq_begin hX0 hX hp hR) (by omega)).1
  have h1 := h.figs
  have h2 := h.lo
  exact ⟨h, by omega, h.ne, by omega, h.hi⟩
theorem cancel_tenE {a b i j t u v : Nat} (hu : u = i + t) (hv : v = j + t) : (a * 10 ^ u = b * 10 ^ v ↔ a * 10 ^ i = b * 10 ^ j) := by
  subst hu hv
  rw [Nat.pow_add, Nat.pow_add, ← Nat.mul_assoc, ← Nat.mul_assoc]
  exact ⟨fun h => Nat.eq_of_mul_eq_mul_right (ten_pos _) h, fun h => by rw [h]⟩
/-- A root of few figures is computed exactly. -/
theorem sqrt_exact {X p : Nat} {ex : Int} (hX0 : X ≠ 0) (hX : figs X ≤ 61) (hp : 1 ≤ p ∧ p ≤ 60) {CL : Nat} {eL : Int} (hR : sqR X ex p = (CL, eL)) {c0 : Nat} {f0 : Int} (hc : figs c0 ≤ p) (_hf : -300 ≤ f0 + 0 ∧ f0 ≤ 300)
    (hV : dval (2 * 1000) X (sqEF X ex) = dval 1000 c0 (f0 - sqE2 X ex / 2) * dval 1000 c0 (f0 - sqE2 X ex / 2)) :
    dval 1000 (rndN false CL p 2) (eL + rndK false CL p 2) = dval 1000 c0 (f0 - sqE2 X ex / 2) ∧ (figs CL ≤ p ∨ CL % 10 ^ (figs CL - p) = 0) := by
  obtain ⟨f, -, h7, h8, h9⟩ := sq_start (ex := ex) hX0 hX hp
  obtain ⟨h, h1, h2, h3, h4⟩ := sq_end hX0 hX hp hR
  obtain ⟨-, pp, C', e', n', g1, g2, g3, g4, g5, g6, g7⟩ := SqL.last f _ _ _ _ _ (sq_begin hX0 hX hp hR) (by omega)
  have hs := f.s
  have hv1 := f.v1
  have hv2 := f.v2
  have hlo := f.lo
  have hhi := f.hi
  have hm2 := f.m2
  obtain ⟨S, hS⟩ : ∃ S, S = 1000 := ⟨_, rfl⟩
  rw [← hS] at hV hv1 hv2 g5 hs ⊢
  obtain ⟨R, hRd⟩ : ∃ R, dval S c0 (f0 - sqE2 X ex / 2) = R := ⟨_, rfl⟩
  rw [hRd] at hV ⊢
  have hR1 : 10 ^ (S - 1) ≤ R := by
    apply Decidable.byContradiction
    intro hc
    have k1 : R * R < 10 ^ (S - 1) * 10 ^ (S - 1) := Nat.mul_lt_mul'' (by omega) (by omega)
    rw [← Nat.pow_add, show S - 1 + (S - 1) = 2 * S - 2 by omega, ← hV] at k1
    omega
  have hR2 : R < 10 ^ S := by
    apply Decidable.byContradiction
    intro hc
    have k1 : 10 ^ S * 10 ^ S ≤ R * R := Nat.mul_le_mul (by omega) (by omega)
    rw [← Nat.pow_add, show S + S = 2 * S by omega, ← hV] at k1
    omega
  have hx := root_exact (r := p) hX0 (show 1000 ≤ S by omega) g1 g2 g3 (by omega) ⟨hlo, hhi⟩ g4 (by omega) hV g5 hRd hc hR1 hR2
  rw [← g6, ← g7] at hx
  have hd : figs CL ≤ p ∨ CL % 10 ^ (figs CL - p) = 0 := by
    by_cases hq : figs CL ≤ p
    · exact .inl hq
    · exact .inr (few_exact (by rw [hx, hRd]) hc (by omega))
  exact ⟨by rw [exact_same hp.1 (by omega) hd 2, hx], hd⟩
end Go.Proofs.YtcoljeafgiemkaaGreatDoor
namespace Go.Proofs.YtcoljeafgiemkaaGreatDoor

/-- The number whose whole root the reference looks at. -/
def plN (N : Nat) (e : Int) (p : Nat) : Nat := (if e % 2 = 0 then N else N * 10) * 10 ^ (2 * (p + 5))
end Go.Proofs.YtcoljeafgiemkaaGreatDoor
