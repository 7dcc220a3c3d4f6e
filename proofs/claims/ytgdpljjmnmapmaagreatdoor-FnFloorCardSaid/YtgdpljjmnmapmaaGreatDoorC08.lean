/- Digits of a number in any base: plain facts, no program. Sums, differences, products and quotients of rows of digits: plain facts, no program. -/
import Derived.Test.YtgdpljjmnmapmaaGreatDoorC01
import Derived.Test.YtgdpljjmnmapmaaGreatDoorC04
namespace Go.Proofs.YtgdpljjmnmapmaaGreatDoor

/-- The number of a list of digits, the lowest first. -/
def vB (B : Nat) : List Nat → Nat
  | [] => 0
  | x :: xs => x + B * vB B xs
/-- Every digit is below the base. -/
def DgB (B : Nat) (l : List Nat) : Prop := ∀ x, x ∈ l → x < B
theorem DgB.nil {B : Nat} : DgB B [] := fun _ h => by cases h
theorem DgB.cons {B x : Nat} {l : List Nat} (hx : x < B) (h : DgB B l) : DgB B (x :: l) := fun y hy => by
  cases hy with
  | head => exact hx
  | tail _ h' => exact h y h'
theorem DgB.head {B x : Nat} {l : List Nat} (h : DgB B (x :: l)) : x < B := h x (List.mem_cons_self ..)
theorem DgB.tail {B x : Nat} {l : List Nat} (h : DgB B (x :: l)) : DgB B l := fun y hy => h y (List.mem_cons_of_mem _ hy)
theorem DgB.append {B : Nat} {a b : List Nat} (ha : DgB B a) (hb : DgB B b) : DgB B (a ++ b) := fun y hy => by
  rcases List.mem_append.1 hy with h | h
  · exact ha y h
  · exact hb y h
theorem DgB.take {B : Nat} {l : List Nat} (h : DgB B l) (n : Nat) : DgB B (l.take n) := fun y hy => h y (List.mem_of_mem_take hy)
theorem DgB.nth {B : Nat} (hB : 0 < B) {l : List Nat} (h : DgB B l) (i : Nat) : nth l i < B := by
  unfold Go.Proofs.YtgdpljjmnmapmaaGreatDoor.nth
  cases hx : l[i]? with
  | none => exact hB
  | some x => exact h x (List.mem_of_getElem? hx)
@[simp] theorem vB_nil (B : Nat) : vB B [] = 0 := rfl
theorem vB_append (B : Nat) (a b : List Nat) : vB B (a ++ b) = vB B a + B ^ a.length * vB B b := by
  induction a with
  | nil => simp [vB]
  | cons x a ih =>
    simp only [List.cons_append, vB, ih, List.length_cons, Nat.pow_succ, Nat.mul_add]
    rw [Nat.add_assoc, Nat.mul_comm (B ^ a.length) B, Nat.mul_assoc]
theorem vB_snoc (B : Nat) (a : List Nat) (x : Nat) : vB B (a ++ [x]) = vB B a + B ^ a.length * x := by
  rw [vB_append]; simp [vB]
theorem vB_take_succ {B : Nat} {l : List Nat} {k : Nat} (h : k < l.length) : vB B (l.take (k + 1)) = vB B (l.take k) + B ^ k * nth l k := by
  rw [take_nth h, vB_snoc, List.length_take, Nat.min_eq_left (by omega)]
theorem vB_zeros (B n : Nat) : vB B (List.replicate n 0) = 0 := by
  induction n with
  | zero => rfl
  | succ n ih => rw [List.replicate_succ, vB, ih, Nat.mul_zero]
theorem vB_lt {B : Nat} {l : List Nat} (h : DgB B l) : vB B l < B ^ l.length := by
  induction l with
  | nil => simp [vB]
  | cons x l ih =>
    have hx := h.head
    have hi := ih h.tail
    simp only [vB, List.length_cons, Nat.pow_succ]
    have : B * vB B l + B ≤ B * B ^ l.length := by
      have := Nat.mul_le_mul_left B (Nat.succ_le_of_lt hi)
      rw [Nat.mul_succ] at this; exact this
    rw [Nat.mul_comm (B ^ l.length)]; omega

/-- The digits of a number, the last one not 0. -/
def dB (B : Nat) (hB : 2 ≤ B) (n : Nat) : List Nat := if _h : n = 0 then [] else n % B :: dB B hB (n / B)
termination_by n
decreasing_by exact Nat.div_lt_self (Nat.pos_of_ne_zero _h) hB
theorem dB_zero {B : Nat} (hB : 2 ≤ B) : dB B hB 0 = [] := by rw [dB]; simp
theorem dB_pos {B : Nat} (hB : 2 ≤ B) {n : Nat} (h : n ≠ 0) : dB B hB n = n % B :: dB B hB (n / B) := by rw [dB]; simp [h]
theorem vB_dB {B : Nat} (hB : 2 ≤ B) (n : Nat) : vB B (dB B hB n) = n := by
  induction n using Nat.strongRecOn with
  | _ n ih =>
    by_cases h : n = 0
    · subst h; rw [dB_zero]; rfl
    · rw [dB_pos hB h, vB, ih _ (Nat.div_lt_self (Nat.pos_of_ne_zero h) hB)]
      exact Nat.mod_add_div n B
theorem DgB_dB {B : Nat} (hB : 2 ≤ B) (n : Nat) : DgB B (dB B hB n) := by
  induction n using Nat.strongRecOn with
  | _ n ih =>
    by_cases h : n = 0
    · subst h; rw [dB_zero]; exact DgB.nil
    · rw [dB_pos hB h]
      exact DgB.cons (Nat.mod_lt _ (by omega)) (ih _ (Nat.div_lt_self (Nat.pos_of_ne_zero h) hB))
theorem dB_eq_nil {B : Nat} (hB : 2 ≤ B) {n : Nat} : dB B hB n = [] ↔ n = 0 := by
  constructor
  · intro h; have := vB_dB hB n; rw [h] at this; exact this.symm
  · rintro rfl; exact dB_zero hB
theorem vB_inj {B : Nat} {a b : List Nat} (ha : DgB B a) (hb : DgB B b) (hl : a.length = b.length) (h : vB B a = vB B b) : a = b := by
  induction a generalizing b with
  | nil => cases b with
    | nil => rfl
    | cons => simp at hl
  | cons x a ih => cases b with
    | nil => simp at hl
    | cons y b =>
      have hx := ha.head
      have hy := hb.head
      simp only [vB] at h
      have e1 : x = y := by
        have h1 := congrArg (· % B) h
        simp only [Nat.add_mul_mod_self_left, Nat.mod_eq_of_lt hx, Nat.mod_eq_of_lt hy] at h1
        exact h1
      subst e1
      have e2 : vB B a = vB B b := Nat.eq_of_mul_eq_mul_left (by omega) (Nat.add_left_cancel h)
      rw [ih ha.tail hb.tail (by simpa using hl) e2]
theorem dB_len_le {B : Nat} (hB : 2 ≤ B) {n k : Nat} : (dB B hB n).length ≤ k ↔ n < B ^ k := by
  constructor
  · intro h
    have := vB_lt (DgB_dB hB n)
    rw [vB_dB] at this
    exact Nat.lt_of_lt_of_le this (Nat.pow_le_pow_right (by omega) h)
  · intro h
    induction k generalizing n with
    | zero => have : n = 0 := by simpa using h
              subst this; simp [dB_zero]
    | succ k ih =>
      by_cases hn : n = 0
      · subst hn; simp [dB_zero]
      · rw [dB_pos hB hn, List.length_cons]
        have : n / B < B ^ k := by
          rw [Nat.div_lt_iff_lt_mul (by omega), ← Nat.pow_succ]; exact h
        have := ih this
        omega
/-- Digits without noughts at the end are those of their number. -/
theorem dB_of {B : Nat} (hB : 2 ≤ B) {L : List Nat} (h : DgB B L) (hl : L = [] ∨ nth L (L.length - 1) ≠ 0) : dB B hB (vB B L) = L := by
  have h1 : (dB B hB (vB B L)).length ≤ L.length := (dB_len_le hB).2 (vB_lt h)
  have h2 : L.length ≤ (dB B hB (vB B L)).length := by
    rcases hl with h0 | h0
    · subst h0; simp
    · rcases Nat.lt_or_ge (dB B hB (vB B L)).length L.length with hlt | hge
      · exfalso
        have h3 := (dB_len_le hB (n := vB B L) (k := L.length - 1)).1 (by omega)
        have h4 := vB_take_succ (B := B) (l := L) (k := L.length - 1) (by omega)
        rw [show L.length - 1 + 1 = L.length by omega, List.take_length] at h4
        have h5 : B ^ (L.length - 1) * 1 ≤ B ^ (L.length - 1) * nth L (L.length - 1) := Nat.mul_le_mul_left _ (by omega)
        omega
      · exact hge
  exact vB_inj (DgB_dB hB _) h (by omega) (vB_dB hB _)
/-- Noughts at the end are left out. -/
theorem dB_cut {B : Nat} (hB : 2 ≤ B) {L : List Nat} (h : DgB B L) {k : Nat} (hk : k ≤ L.length) (hz : ∀ j, k ≤ j → j < L.length → nth L j = 0) (hl : k = 0 ∨ nth L (k - 1) ≠ 0) : dB B hB (vB B L) = L.take k := by
  have e : L = L.take k ++ List.replicate (L.length - k) 0 := by
    apply List.ext_getElem?
    intro j
    by_cases hj : j < k
    · rw [List.getElem?_append_left (by simp; omega), List.getElem?_take_of_lt hj]
    · rw [List.getElem?_append_right (by simp; omega)]
      by_cases hj2 : j < L.length
      · rw [get_nth hj2, hz j (by omega) hj2, List.getElem?_replicate]
        simp; omega
      · rw [List.getElem?_eq_none (by omega), List.getElem?_replicate]
        simp; omega
  have ev : vB B L = vB B (L.take k) := by
    have := vB_append B (L.take k) (List.replicate (L.length - k) 0)
    rw [← e, vB_zeros, Nat.mul_zero, Nat.add_zero] at this; exact this
  rw [ev]
  apply dB_of hB (h.take k)
  rcases hl with h0 | h0
  · subst h0; exact .inl (by simp)
  · rcases Nat.eq_zero_or_pos k with h1 | h1
    · subst h1; exact .inl (by simp)
    · refine .inr ?_
      rw [List.length_take, Nat.min_eq_left hk, nth_take (by omega)]; exact h0

/-! ### Words of 64 bits and digits of 16 bits -/
theorem two16 : 2 ≤ 65536 := by decide
/-- The digits of a natural number of the reference. -/
abbrev d16 (n : Nat) : List Nat := dB 65536 two16 n
theorem WB_16 : WB = 65536 ^ 4 := by rw [WB_eq]
/-- The four digits of a word. -/
def w4 (x : Nat) : List Nat := [x % 65536, x / 65536 % 65536, x / 4294967296 % 65536, x / 281474976710656]
theorem w4_val (x : Nat) : vB 65536 (w4 x) = x := by simp only [w4, vB]; omega
theorem w4_lt {x : Nat} (h : x < WB) : DgB 65536 (w4 x) := by
  rw [WB_eq] at h
  intro y hy
  simp only [w4, List.mem_cons, List.not_mem_nil, or_false] at hy
  rcases hy with rfl | rfl | rfl | rfl <;> omega
/-- The digits of a list of words. -/
def ws4 : List Nat → List Nat
  | [] => []
  | x :: l => w4 x ++ ws4 l
theorem ws4_len (l : List Nat) : (ws4 l).length = 4 * l.length := by
  induction l with
  | nil => rfl
  | cons x l ih => simp only [ws4, List.length_append, ih, List.length_cons]; simp [w4]; omega
theorem ws4_val (l : List Nat) : vB 65536 (ws4 l) = val l := by
  induction l with
  | nil => rfl
  | cons x l ih =>
    simp only [ws4]
    rw [vB_append, w4_val, ih, val_cons, WB_16]; rfl
theorem ws4_dg {l : List Nat} (h : Wd l) : DgB 65536 (ws4 l) := by
  induction l with
  | nil => exact DgB.nil
  | cons x l ih => exact (w4_lt h.head).append (ih h.tail)
theorem ws4_snoc (l : List Nat) (x : Nat) : ws4 (l ++ [x]) = ws4 l ++ w4 x := by
  induction l with
  | nil => simp [ws4]
  | cons y l ih => simp only [List.cons_append, ws4, ih, List.append_assoc]
/-- Words that are grouped out of the digits of a number are those of the number. -/
theorem digs_of_groups {N : Nat} {W : List Nat} (hW : Wd W) (hv : val W = N) (hl : W.length = ((d16 N).length + 3) / 4) : W = digs N := by
  refine val_inj hW (Wd_digs N) ?_ (by rw [val_digs]; exact hv)
  have h1 : (digs N).length ≤ W.length := digs_len_le.2 (by have := val_lt hW; rwa [hv] at this)
  have h2 : (d16 N).length ≤ 4 * (digs N).length := by
    rw [dB_len_le two16, Nat.pow_mul, ← WB_16]
    exact lt_digs_len N
  omega
end Go.Proofs.YtgdpljjmnmapmaaGreatDoor

namespace Go.Proofs.YtgdpljjmnmapmaaGreatDoor

theorem vB_take1 {B : Nat} (l : List Nat) (k : Nat) : vB B (l.take (k + 1)) = vB B (l.take k) + B ^ k * nth l k := by
  by_cases h : k < l.length
  · exact vB_take_succ h
  · rw [List.take_of_length_le (by omega), List.take_of_length_le (by omega), nth_ge (by omega), Nat.mul_zero, Nat.add_zero]
theorem vB_take_all {B : Nat} {l : List Nat} {k : Nat} (h : l.length ≤ k) : vB B (l.take k) = vB B l := by rw [List.take_of_length_le h]
theorem DgB.snoc {B x : Nat} {l : List Nat} (h : DgB B l) (hx : x < B) : DgB B (l ++ [x]) := h.append (DgB.cons hx DgB.nil)
theorem DgB.set {B : Nat} {l : List Nat} (h : DgB B l) (n : Nat) {x : Nat} (hx : x < B) : DgB B (l.set n x) := fun y hy => by
  rcases List.mem_or_eq_of_mem_set hy with h1 | h1
  · exact h y h1
  · rw [h1]; exact hx
theorem DgB.zeros {B : Nat} (hB : 0 < B) (n : Nat) : DgB B (List.replicate n 0) := fun y hy => by
  rw [List.eq_of_mem_replicate hy]; exact hB
theorem nth_zeros (n j : Nat) : nth (List.replicate n 0) j = 0 := by
  unfold nth; rw [List.getElem?_replicate]; split <;> rfl
theorem setD_eq {l : List Nat} {k : Nat} (h : k < l.length) (x : Nat) : nth (l.set k x) k = x := by
  unfold nth; rw [List.getElem?_set_self h]; rfl
theorem setD_ne {l : List Nat} {k j : Nat} (h : k ≠ j) (x : Nat) : nth (l.set k x) j = nth l j := by
  unfold nth; rw [List.getElem?_set_ne h]
theorem vB_cons (B x : Nat) (l : List Nat) : vB B (x :: l) = x + B * vB B l := rfl
theorem vB_set {B : Nat} {l : List Nat} {k : Nat} (h : k < l.length) (x : Nat) : vB B (l.set k x) + B ^ k * nth l k = vB B l + B ^ k * x := by
  induction l generalizing k with
  | nil => exact absurd h (by simp)
  | cons y l ih =>
    cases k with
    | zero => simp [vB, nth]; omega
    | succ k =>
      have := ih (k := k) (by simpa using h)
      rw [List.set_cons_succ, vB_cons, vB_cons, show nth (y :: l) (k + 1) = nth l k from rfl, Nat.pow_succ]
      have e := congrArg (fun z => B * z) this
      simp only [Nat.mul_add] at e
      rw [Nat.mul_comm (B ^ k) B, Nat.mul_assoc, Nat.mul_assoc]
      omega
theorem vB_drop {B : Nat} {l : List Nat} {k : Nat} (h : k < l.length) : vB B (l.drop k) = nth l k + B * vB B (l.drop (k + 1)) := by
  have e : l.drop k = nth l k :: l.drop (k + 1) := by
    rw [List.drop_eq_getElem_cons h]; congr 1; unfold nth; rw [List.getElem?_eq_getElem h]; rfl
  rw [e, vB_cons]
theorem d16_val (n : Nat) : vB 65536 (d16 n) = n := vB_dB two16 n
theorem d16_dg (n : Nat) : DgB 65536 (d16 n) := DgB_dB two16 n
theorem d16_nth (n j : Nat) : nth (d16 n) j < 65536 := (d16_dg n).nth (by decide) j

/-! ### Adding -/
theorem addD_step {a b o : List Nat} {k c : Nat} (hl : o.length = k) (h : vB 65536 o + 65536 ^ k * c = vB 65536 (a.take k) + vB 65536 (b.take k)) :
    vB 65536 (o ++ [(c + nth a k + nth b k) % 65536]) + 65536 ^ (k + 1) * ((c + nth a k + nth b k) / 65536) = vB 65536 (a.take (k + 1)) + vB 65536 (b.take (k + 1)) := by
  rw [vB_snoc, hl, vB_take1, vB_take1, Nat.pow_succ, Nat.mul_assoc]
  have e := Nat.mod_add_div (c + nth a k + nth b k) 65536
  generalize (c + nth a k + nth b k) % 65536 = s at e ⊢
  generalize (c + nth a k + nth b k) / 65536 = t at e ⊢
  have e2 : 65536 ^ k * (s + 65536 * t) = 65536 ^ k * (c + nth a k + nth b k) := by rw [e]
  simp only [Nat.mul_add] at e2
  generalize 65536 ^ k = P at *
  omega
theorem addD_end {a b o : List Nat} {k c : Nat} (hl : o.length = k) (ha : a.length ≤ k) (hb : b.length ≤ k) (h : vB 65536 o + 65536 ^ k * c = vB 65536 (a.take k) + vB 65536 (b.take k)) : vB 65536 (o ++ [c]) = vB 65536 a + vB 65536 b := by
  rw [vB_take_all ha, vB_take_all hb] at h
  rw [vB_snoc, hl]; exact h

/-! ### Taking off -/
theorem subD_step {a b o : List Nat} {k c s c' : Nat} (hl : o.length = k) (h : vB 65536 (a.take k) + 65536 ^ k * c = vB 65536 o + vB 65536 (b.take k)) (e : nth a k + 65536 * c' = s + nth b k + c) :
    vB 65536 (a.take (k + 1)) + 65536 ^ (k + 1) * c' = vB 65536 (o ++ [s]) + vB 65536 (b.take (k + 1)) := by
  rw [vB_snoc, hl, vB_take1, vB_take1, Nat.pow_succ, Nat.mul_assoc]
  have e2 : 65536 ^ k * (nth a k + 65536 * c') = 65536 ^ k * (s + nth b k + c) := by rw [e]
  simp only [Nat.mul_add] at e2
  generalize 65536 ^ k = P at *
  omega
theorem subD_end {a b o : List Nat} {c : Nat} (hl : o.length = a.length) (hb : b.length ≤ a.length) (ho : DgB 65536 o) (h : vB 65536 (a.take a.length) + 65536 ^ a.length * c = vB 65536 o + vB 65536 (b.take a.length)) (hle : vB 65536 b ≤ vB 65536 a) : vB 65536 o = vB 65536 a - vB 65536 b := by
  rw [vB_take_all (Nat.le_refl _), vB_take_all hb] at h
  have h1 := vB_lt ho
  rw [hl] at h1
  have hc : c = 0 := by
    rcases Nat.eq_zero_or_pos c with h2 | h2
    · exact h2
    · have := Nat.mul_le_mul_left (65536 ^ a.length) h2
      omega
  subst hc; omega
theorem d16_len_mono {m n : Nat} (h : m ≤ n) : (d16 m).length ≤ (d16 n).length :=
  (dB_len_le two16).2 (Nat.lt_of_le_of_lt h ((dB_len_le two16).1 (Nat.le_refl _)))

/-! ### Multiplying -/
theorem mulD_bd {c z x y : Nat} (hc : c < 65536) (hz : z < 65536) (hx : x < 65536) (hy : y < 65536) : (c + (z + x * y)) / 65536 < 65536 ∧ c + (z + x * y) < 4294967296 ∧ x * y < 4294967296 := by
  have h : x * y ≤ 65535 * 65535 := Nat.mul_le_mul (by omega) (by omega)
  omega
theorem mulD_step {b O : List Nat} {i k c x V : Nat} (hk : i + k < O.length) (h : vB 65536 O + 65536 ^ (i + k) * c = V + 65536 ^ i * (x * vB 65536 (b.take k))) :
    vB 65536 (O.set (i + k) ((c + (nth O (i + k) + x * nth b k)) % 65536)) + 65536 ^ (i + (k + 1)) * ((c + (nth O (i + k) + x * nth b k)) / 65536) = V + 65536 ^ i * (x * vB 65536 (b.take (k + 1))) := by
  have h1 := vB_set (B := 65536) hk ((c + (nth O (i + k) + x * nth b k)) % 65536)
  have e := Nat.mod_add_div (c + (nth O (i + k) + x * nth b k)) 65536
  generalize (c + (nth O (i + k) + x * nth b k)) % 65536 = s at e h1 ⊢
  generalize (c + (nth O (i + k) + x * nth b k)) / 65536 = t at e ⊢
  rw [vB_take1, ← Nat.add_assoc, Nat.pow_succ, Nat.mul_assoc, Nat.mul_add, Nat.mul_add]
  have e2 : 65536 ^ (i + k) * (s + 65536 * t) = 65536 ^ (i + k) * (c + (nth O (i + k) + x * nth b k)) := by rw [e]
  have e3 : 65536 ^ i * (x * (65536 ^ k * nth b k)) = 65536 ^ (i + k) * (x * nth b k) := by
    rw [Nat.pow_add, Nat.mul_assoc, Nat.mul_left_comm x]
  rw [e3]
  simp only [Nat.mul_add] at e2
  generalize 65536 ^ (i + k) = P at *
  omega
theorem mulD_end {a b O : List Nat} {i c : Nat} (hk : i + b.length < O.length) (h0 : nth O (i + b.length) = 0) (h : vB 65536 O + 65536 ^ (i + b.length) * c = vB 65536 (a.take i) * vB 65536 b + 65536 ^ i * (nth a i * vB 65536 (b.take b.length))) :
    vB 65536 (O.set (i + b.length) c) = vB 65536 (a.take (i + 1)) * vB 65536 b := by
  have h1 := vB_set (B := 65536) hk c
  rw [h0, Nat.mul_zero, Nat.add_zero, h, vB_take_all (Nat.le_refl _)] at h1
  rw [h1, vB_take1, Nat.add_mul, Nat.mul_assoc]

/-! ### By one digit -/
theorem divD_step {D O : List Nat} {i d r : Nat} (hl : O.length = D.length) (hi : i < D.length) (hd : 0 < d) (hr : r < d) (hx : nth D i < 65536) (h : vB 65536 (O.drop (i + 1)) * d + r = vB 65536 (D.drop (i + 1))) :
    (r * 65536 + nth D i) / d < 65536 ∧ (r * 65536 + nth D i) % d < d ∧ vB 65536 ((O.set i ((r * 65536 + nth D i) / d)).drop i) * d + (r * 65536 + nth D i) % d = vB 65536 (D.drop i) := by
  refine ⟨?_, Nat.mod_lt _ hd, ?_⟩
  · rw [Nat.div_lt_iff_lt_mul hd]
    have := Nat.mul_le_mul_right 65536 (Nat.succ_le_of_lt hr)
    rw [Nat.succ_mul, Nat.mul_comm d] at this
    omega
  · rw [vB_drop (k := i) (by rw [List.length_set, hl]; exact hi), vB_drop hi, setD_eq (by rw [hl]; exact hi), List.drop_set_of_lt (by omega)]
    have e := Nat.mod_add_div (r * 65536 + nth D i) d
    generalize (r * 65536 + nth D i) % d = s at e ⊢
    generalize (r * 65536 + nth D i) / d = t at e ⊢
    have e2 := congrArg (fun z => 65536 * z) h
    simp only [Nat.mul_add] at e2
    rw [Nat.add_mul, Nat.mul_assoc, Nat.mul_comm t d]
    omega
theorem divD_end {q d r N : Nat} (hr : r < d) (h : q * d + r = N) : q = N / d ∧ r = N % d := by
  subst h
  have hd : 0 < d := by omega
  refine ⟨?_, ?_⟩
  · rw [Nat.mul_comm, Nat.mul_add_div hd, Nat.div_eq_of_lt hr, Nat.add_zero]
  · rw [Nat.mul_comm, Nat.mul_add_mod, Nat.mod_eq_of_lt hr]

/-! ### Times a power of 2 -/
theorem two_pow16 (n : Nat) : 65536 ^ (n / 16) * 2 ^ (n % 16) = 2 ^ n := by
  rw [show (65536 : Nat) = 2 ^ 16 from rfl, ← Nat.pow_mul, ← Nat.pow_add]; congr 1; omega
theorem shlD_bd {x z r : Nat} (hr : r < 16) (hx : x < 65536) (hz : z < 2 ^ r) : z + x * 2 ^ r % 65536 < 65536 ∧ x * 2 ^ r / 65536 < 2 ^ r ∧ x * 2 ^ r < 4294967296 ∧ 2 ^ r ≤ 32768 := by
  have e : (65536 : Nat) = 2 ^ r * 2 ^ (16 - r) := by rw [← Nat.pow_add, show r + (16 - r) = 16 by omega]
  have hp : 0 < 2 ^ r := Nat.pow_pos (by omega)
  have h15 : 2 ^ r ≤ 2 ^ 15 := Nat.pow_le_pow_right (by omega) (by omega)
  have h1 : x * 2 ^ r % 65536 = 2 ^ r * (x % 2 ^ (16 - r)) := by
    rw [Nat.mul_comm]
    conv => lhs; rw [e]
    exact Nat.mul_mod_mul_left ..
  have h2 : x % 2 ^ (16 - r) < 2 ^ (16 - r) := Nat.mod_lt _ (Nat.pow_pos (by omega))
  have h3 : 2 ^ r * (x % 2 ^ (16 - r)) + 2 ^ r ≤ 65536 := by
    rw [e, ← Nat.mul_succ]; exact Nat.mul_le_mul_left _ h2
  have h4 : x * 2 ^ r < 65536 * 2 ^ r := Nat.mul_lt_mul_of_pos_right hx hp
  refine ⟨by omega, ?_, ?_, h15⟩
  · rw [Nat.div_lt_iff_lt_mul (by omega), Nat.mul_comm (2 ^ r)]; exact h4
  · have : 65536 * 2 ^ r ≤ 65536 * 32768 := Nat.mul_le_mul_left _ h15
    omega
theorem shlD_step {a O : List Nat} {i q r : Nat} (hi : q + i + 1 < O.length) (h1 : nth O (q + i + 1) = 0) (h : vB 65536 O = 65536 ^ q * (2 ^ r * vB 65536 (a.take i))) :
    vB 65536 ((O.set (q + i) (nth O (q + i) + nth a i * 2 ^ r % 65536)).set (q + i + 1) (nth a i * 2 ^ r / 65536)) = 65536 ^ q * (2 ^ r * vB 65536 (a.take (i + 1))) := by
  have k1 := vB_set (B := 65536) (l := O) (k := q + i) (by omega) (nth O (q + i) + nth a i * 2 ^ r % 65536)
  have k2 := vB_set (B := 65536) (l := O.set (q + i) (nth O (q + i) + nth a i * 2 ^ r % 65536)) (k := q + i + 1) (by rw [List.length_set]; exact hi) (nth a i * 2 ^ r / 65536)
  rw [setD_ne (by omega), h1, Nat.mul_zero, Nat.add_zero] at k2
  rw [k2, vB_take1]
  have e := Nat.mod_add_div (nth a i * 2 ^ r) 65536
  generalize nth a i * 2 ^ r % 65536 = s at *
  generalize nth a i * 2 ^ r / 65536 = t at *
  have e2 : 65536 ^ (q + i) * (s + 65536 * t) = 65536 ^ (q + i) * (nth a i * 2 ^ r) := by rw [e]
  have e3 : 65536 ^ q * (2 ^ r * (65536 ^ i * nth a i)) = 65536 ^ (q + i) * (nth a i * 2 ^ r) := by
    rw [Nat.pow_add, Nat.mul_assoc, Nat.mul_left_comm (2 ^ r), Nat.mul_comm (2 ^ r) (nth a i)]
  rw [Nat.mul_add, Nat.mul_add, e3, Nat.pow_succ, Nat.mul_assoc]
  simp only [Nat.mul_add] at e2 k1
  generalize 65536 ^ (q + i) = P at *
  omega

/-! ### Comparing -/
theorem vB_take_drop {B : Nat} (l : List Nat) (k : Nat) : k ≤ l.length → vB B l = vB B (l.take k) + B ^ k * vB B (l.drop k) := fun h => by
  have := vB_append B (l.take k) (l.drop k)
  rw [List.take_append_drop, List.length_take, Nat.min_eq_left h] at this
  exact this
theorem digD_lt {a b : List Nat} {k : Nat} (ha : DgB 65536 a) (hl : a.length = b.length) (hk : k < a.length) (he : ∀ j, k < j → j < a.length → nth a j = nth b j) (h : nth a k < nth b k) : vB 65536 a < vB 65536 b := by
  have e : a.drop (k + 1) = b.drop (k + 1) := by
    apply List.ext_getElem?
    intro j
    rw [List.getElem?_drop, List.getElem?_drop]
    by_cases hj : k + 1 + j < a.length
    · rw [get_nth hj, get_nth (by omega), he _ (by omega) hj]
    · rw [List.getElem?_eq_none (by omega), List.getElem?_eq_none (by omega)]
  rw [vB_take_drop a (k + 1) (by omega), vB_take_drop b (k + 1) (by omega), vB_take1, vB_take1, e]
  have h1 := vB_lt (ha.take k)
  rw [List.length_take, Nat.min_eq_left (by omega)] at h1
  have h2 := Nat.mul_le_mul_left (65536 ^ k) (Nat.succ_le_of_lt h)
  rw [Nat.mul_succ] at h2
  omega
theorem digD_eq {a b : List Nat} (hl : a.length = b.length) (he : ∀ j, j < a.length → nth a j = nth b j) : a = b := by
  apply List.ext_getElem?
  intro j
  by_cases hj : j < a.length
  · rw [get_nth hj, get_nth (by omega), he _ hj]
  · rw [List.getElem?_eq_none (by omega), List.getElem?_eq_none (by omega)]
theorem d16_len_lt {m n : Nat} (h : (d16 m).length < (d16 n).length) : m < n := by
  rcases Nat.lt_or_ge m n with h1 | h1
  · exact h1
  · have := d16_len_mono h1; omega
theorem d16_inj {m n : Nat} (h : d16 m = d16 n) : m = n := by rw [← d16_val m, h, d16_val]

/-! ### Dividing, bit by bit -/
theorem divB_start {N M a b : Nat} (hN : N < 2 ^ a) (hM : 2 ^ (b - 1) ≤ M) (hb : b ≤ a) (hb1 : 1 ≤ b) : N < M * 2 ^ (a - b + 1) := by
  refine Nat.lt_of_lt_of_le hN ?_
  have := Nat.mul_le_mul_right (2 ^ (a - b + 1)) hM
  rw [← Nat.pow_add, show b - 1 + (a - b + 1) = a by omega] at this
  exact this
theorem divB_yes {A Q M N i : Nat} (h : Q * M + A = N) (hlt : A < M * 2 ^ (i + 1)) (hle : M * 2 ^ i ≤ A) : (Q + 2 ^ i) * M + (A - M * 2 ^ i) = N ∧ A - M * 2 ^ i < M * 2 ^ i := by
  rw [Nat.pow_succ, ← Nat.mul_assoc] at hlt
  rw [Nat.add_mul, Nat.mul_comm (2 ^ i)]
  omega
end Go.Proofs.YtgdpljjmnmapmaaGreatDoor
