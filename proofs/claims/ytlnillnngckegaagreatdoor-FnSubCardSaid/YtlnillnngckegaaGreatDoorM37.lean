/- Digits of a number in any base: plain facts, no program. -/
import Derived.Test.YtlnillnngckegaaGreatDoorM01
namespace Go.Proofs.YtlnillnngckegaaGreatDoor

/-- The number of a list of digits, the lowest first. -/
def vB (B : Nat) : List Nat → Nat
  | [] => 0
  | x :: xs => x + B * vB B xs
/-- Every digit is below the base. -/
def DgB (B : Nat) (l : List Nat) : Prop := ∀ x, x ∈ l → x < B
theorem DgB.nil {B : Nat} : DgB B [] := fun _ h => by cases h
theorem DgB.cons {B x : Nat} {l : List Nat} (hx : x < B) (h : DgB B l) : DgB B (x :: l) := fun y hy => by
  cases hy with
  | head => exact hx
  | tail _ h' => exact h y h'
theorem DgB.head {B x : Nat} {l : List Nat} (h : DgB B (x :: l)) : x < B := h x (List.mem_cons_self ..)
theorem DgB.tail {B x : Nat} {l : List Nat} (h : DgB B (x :: l)) : DgB B l := fun y hy => h y (List.mem_cons_of_mem _ hy)
theorem DgB.append {B : Nat} {a b : List Nat} (ha : DgB B a) (hb : DgB B b) : DgB B (a ++ b) := fun y hy => by
  rcases List.mem_append.1 hy with h | h
  · exact ha y h
  · exact hb y h
theorem DgB.take {B : Nat} {l : List Nat} (h : DgB B l) (n : Nat) : DgB B (l.take n) := fun y hy => h y (List.mem_of_mem_take hy)
theorem DgB.nth {B : Nat} (hB : 0 < B) {l : List Nat} (h : DgB B l) (i : Nat) : nth l i < B := by
  unfold Go.Proofs.YtlnillnngckegaaGreatDoor.nth
  cases hx : l[i]? with
  | none => exact hB
  | some x => exact h x (List.mem_of_getElem? hx)
@[simp] theorem vB_nil (B : Nat) : vB B [] = 0 := rfl
theorem vB_append (B : Nat) (a b : List Nat) : vB B (a ++ b) = vB B a + B ^ a.length * vB B b := by
  induction a with
  | nil => simp [vB]
  | cons x a ih =>
    simp only [List.cons_append, vB, ih, List.length_cons, Nat.pow_succ, Nat.mul_add]
    rw [Nat.add_assoc, Nat.mul_comm (B ^ a.length) B, Nat.mul_assoc]
theorem vB_snoc (B : Nat) (a : List Nat) (x : Nat) : vB B (a ++ [x]) = vB B a + B ^ a.length * x := by
  rw [vB_append]; simp [vB]
theorem vB_take_succ {B : Nat} {l : List Nat} {k : Nat} (h : k < l.length) : vB B (l.take (k + 1)) = vB B (l.take k) + B ^ k * nth l k := by
  rw [take_nth h, vB_snoc, List.length_take, Nat.min_eq_left (by omega)]
theorem vB_zeros (B n : Nat) : vB B (List.replicate n 0) = 0 := by
  induction n with
  | zero => rfl
  | succ n ih => rw [List.replicate_succ, vB, ih, Nat.mul_zero]
theorem vB_lt {B : Nat} {l : List Nat} (h : DgB B l) : vB B l < B ^ l.length := by
  induction l with
  | nil => simp [vB]
  | cons x l ih =>
    have hx := h.head
    have hi := ih h.tail
    simp only [vB, List.length_cons, Nat.pow_succ]
    have : B * vB B l + B ≤ B * B ^ l.length := by
      have := Nat.mul_le_mul_left B (Nat.succ_le_of_lt hi)
      rw [Nat.mul_succ] at this; exact this
    rw [Nat.mul_comm (B ^ l.length)]; omega

/-- The digits of a number, the last one not 0. -/
def dB (B : Nat) (hB : 2 ≤ B) (n : Nat) : List Nat := if _h : n = 0 then [] else n % B :: dB B hB (n / B)
termination_by n
decreasing_by exact Nat.div_lt_self (Nat.pos_of_ne_zero _h) hB
theorem dB_zero {B : Nat} (hB : 2 ≤ B) : dB B hB 0 = [] := by rw [dB]; simp
theorem dB_pos {B : Nat} (hB : 2 ≤ B) {n : Nat} (h : n ≠ 0) : dB B hB n = n % B :: dB B hB (n / B) := by rw [dB]; simp [h]
theorem vB_dB {B : Nat} (hB : 2 ≤ B) (n : Nat) : vB B (dB B hB n) = n := by
  induction n using Nat.strongRecOn with
  | _ n ih =>
    by_cases h : n = 0
    · subst h; rw [dB_zero]; rfl
    · rw [dB_pos hB h, vB, ih _ (Nat.div_lt_self (Nat.pos_of_ne_zero h) hB)]
      exact Nat.mod_add_div n B
theorem DgB_dB {B : Nat} (hB : 2 ≤ B) (n : Nat) : DgB B (dB B hB n) := by
  induction n using Nat.strongRecOn with
  | _ n ih =>
    by_cases h : n = 0
    · subst h; rw [dB_zero]; exact DgB.nil
    · rw [dB_pos hB h]
      exact DgB.cons (Nat.mod_lt _ (by omega)) (ih _ (Nat.div_lt_self (Nat.pos_of_ne_zero h) hB))
theorem dB_eq_nil {B : Nat} (hB : 2 ≤ B) {n : Nat} : dB B hB n = [] ↔ n = 0 := by
  constructor
  · intro h; have := vB_dB hB n; rw [h] at this; exact this.symm
  · rintro rfl; exact dB_zero hB
theorem vB_inj {B : Nat} {a b : List Nat} (ha : DgB B a) (hb : DgB B b) (hl : a.length = b.length) (h : vB B a = vB B b) : a = b := by
  induction a generalizing b with
  | nil => cases b with
    | nil => rfl
    | cons => simp at hl
  | cons x a ih => cases b with
    | nil => simp at hl
    | cons y b =>
      have hx := ha.head
      have hy := hb.head
      simp only [vB] at h
      have e1 : x = y := by
        have h1 := congrArg (· % B) h
        simp only [Nat.add_mul_mod_self_left, Nat.mod_eq_of_lt hx, Nat.mod_eq_of_lt hy] at h1
        exact h1
      subst e1
      have e2 : vB B a = vB B b := Nat.eq_of_mul_eq_mul_left (by omega) (Nat.add_left_cancel h)
      rw [ih ha.tail hb.tail (by simpa using hl) e2]
theorem dB_len_le {B : Nat} (hB : 2 ≤ B) {n k : Nat} : (dB B hB n).length ≤ k ↔ n < B ^ k := by
  constructor
  · intro h
    have := vB_lt (DgB_dB hB n)
    rw [vB_dB] at this
    exact Nat.lt_of_lt_of_le this (Nat.pow_le_pow_right (by omega) h)
  · intro h
    induction k generalizing n with
    | zero => have : n = 0 := by simpa using h
              subst this; simp [dB_zero]
    | succ k ih =>
      by_cases hn : n = 0
      · subst hn; simp [dB_zero]
      · rw [dB_pos hB hn, List.length_cons]
        have : n / B < B ^ k := by
          rw [Nat.div_lt_iff_lt_mul (by omega), ← Nat.pow_succ]; exact h
        have := ih this
        omega
/-- Digits without noughts at the end are those of their number. -/
theorem dB_of {B : Nat} (hB : 2 ≤ B) {L : List Nat} (h : DgB B L) (hl : L = [] ∨ nth L (L.length - 1) ≠ 0) : dB B hB (vB B L) = L := by
  have h1 : (dB B hB (vB B L)).length ≤ L.length := (dB_len_le hB).2 (vB_lt h)
  have h2 : L.length ≤ (dB B hB (vB B L)).length := by
    rcases hl with h0 | h0
    · subst h0; simp
    · rcases Nat.lt_or_ge (dB B hB (vB B L)).length L.length with hlt | hge
      · exfalso
        have h3 := (dB_len_le hB (n := vB B L) (k := L.length - 1)).1 (by omega)
        have h4 := vB_take_succ (B := B) (l := L) (k := L.length - 1) (by omega)
        rw [show L.length - 1 + 1 = L.length by omega, List.take_length] at h4
        have h5 : B ^ (L.length - 1) * 1 ≤ B ^ (L.length - 1) * nth L (L.length - 1) := Nat.mul_le_mul_left _ (by omega)
        omega
      · exact hge
  exact vB_inj (DgB_dB hB _) h (by omega) (vB_dB hB _)
/-- Noughts at the end are left out. -/
theorem dB_cut {B : Nat} (hB : 2 ≤ B) {L : List Nat} (h : DgB B L) {k : Nat} (hk : k ≤ L.length) (hz : ∀ j, k ≤ j → j < L.length → nth L j = 0) (hl : k = 0 ∨ nth L (k - 1) ≠ 0) : dB B hB (vB B L) = L.take k := by
  have e : L = L.take k ++ List.replicate (L.length - k) 0 := by
    apply List.ext_getElem?
    intro j
    by_cases hj : j < k
    · rw [List.getElem?_append_left (by simp; omega), List.getElem?_take_of_lt hj]
    · rw [List.getElem?_append_right (by simp; omega)]
      by_cases hj2 : j < L.length
      · rw [get_nth hj2, hz j (by omega) hj2, List.getElem?_replicate]
        simp; omega
      · rw [List.getElem?_eq_none (by omega), List.getElem?_replicate]
        simp; omega
  have ev : vB B L = vB B (L.take k) := by
    have := vB_append B (L.take k) (List.replicate (L.length - k) 0)
    rw [← e, vB_zeros, Nat.mul_zero, Nat.add_zero] at this; exact this
  rw [ev]
  apply dB_of hB (h.take k)
  rcases hl with h0 | h0
  · subst h0; exact .inl (by simp)
  · rcases Nat.eq_zero_or_pos k with h1 | h1
    · subst h1; exact .inl (by simp)
    · refine .inr ?_
      rw [List.length_take, Nat.min_eq_left hk, nth_take (by omega)]; exact h0

/-! ### Words of 64 bits and digits of 16 bits -/
theorem two16 : 2 ≤ 65536 := by decide
/-- The digits of a natural number of the reference. -/
abbrev d16 (n : Nat) : List Nat := dB 65536 two16 n
theorem WB_16 : WB = 65536 ^ 4 := by rw [WB_eq]
/-- The four digits of a word. -/
def w4 (x : Nat) : List Nat := [x % 65536, x / 65536 % 65536, x / 4294967296 % 65536, x / 281474976710656]
theorem w4_val (x : Nat) : vB 65536 (w4 x) = x := by simp only [w4, vB]; omega
theorem w4_lt {x : Nat} (h : x < WB) : DgB 65536 (w4 x) := by
  rw [WB_eq] at h
  intro y hy
  simp only [w4, List.mem_cons, List.not_mem_nil, or_false] at hy
  rcases hy with rfl | rfl | rfl | rfl <;> omega
/-- The digits of a list of words. -/
def ws4 : List Nat → List Nat
  | [] => []
  | x :: l => w4 x ++ ws4 l
theorem ws4_len (l : List Nat) : (ws4 l).length = 4 * l.length := by
  induction l with
  | nil => rfl
  | cons x l ih => simp only [ws4, List.length_append, ih, List.length_cons]; simp [w4]; omega
theorem ws4_val (l : List Nat) : vB 65536 (ws4 l) = val l := by
  induction l with
  | nil => rfl
  | cons x l ih =>
    simp only [ws4]
    rw [vB_append, w4_val, ih, val_cons, WB_16]; rfl
theorem ws4_dg {l : List Nat} (h : Wd l) : DgB 65536 (ws4 l) := by
  induction l with
  | nil => exact DgB.nil
  | cons x l ih => exact (w4_lt h.head).append (ih h.tail)
theorem ws4_snoc (l : List Nat) (x : Nat) : ws4 (l ++ [x]) = ws4 l ++ w4 x := by
  induction l with
  | nil => simp [ws4]
  | cons y l ih => simp only [List.cons_append, ws4, ih, List.append_assoc]
/-- Words that are grouped out of the digits of a number are those of the number. -/
theorem digs_of_groups {N : Nat} {W : List Nat} (hW : Wd W) (hv : val W = N) (hl : W.length = ((d16 N).length + 3) / 4) : W = digs N := by
  refine val_inj hW (Wd_digs N) ?_ (by rw [val_digs]; exact hv)
  have h1 : (digs N).length ≤ W.length := digs_len_le.2 (by have := val_lt hW; rwa [hv] at this)
  have h2 : (d16 N).length ≤ 4 * (digs N).length := by
    rw [dB_len_le two16, Nat.pow_mul, ← WB_16]
    exact lt_digs_len N
  omega
end Go.Proofs.YtlnillnngckegaaGreatDoor
