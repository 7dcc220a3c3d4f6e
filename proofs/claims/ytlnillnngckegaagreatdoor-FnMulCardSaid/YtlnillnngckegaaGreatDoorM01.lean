/- Lists of words of 64 bits as numbers: plain facts, no program. Decimal figures and rounding of natural numbers: plain facts, no program. bits.Len64, from the shelf (laid by the kit's program, plain). -/
import Derived.Shelf.Small.Bits
import Derived.Test.YtlnillnngckegaaGreatDoorProg
namespace Go.Proofs.YtlnillnngckegaaGreatDoor

theorem WB_ex : ∃ n : Nat, n = 18446744073709551616 := ⟨_, rfl⟩
/-- What a word counts to: a number whose value neither Lean nor the kernel lays open by itself. -/
noncomputable def WB : Nat := Classical.choose WB_ex
theorem WB_eq : WB = 18446744073709551616 := Classical.choose_spec WB_ex
theorem WB_pos : 0 < WB := by rw [WB_eq]; decide
theorem WB_two : 2 ≤ WB := by rw [WB_eq]; decide
theorem WB_pow_pos (k : Nat) : 0 < WB ^ k := Nat.pow_pos WB_pos

/-- The number of a list of words, the lowest first. -/
noncomputable def val : List Nat → Nat
  | [] => 0
  | x :: xs => x + WB * val xs

/-- Every word is below the base. -/
def Wd (l : List Nat) : Prop := ∀ x, x ∈ l → x < WB

theorem Wd.nil : Wd [] := fun _ h => by cases h
theorem Wd.cons {x : Nat} {l : List Nat} (hx : x < WB) (h : Wd l) : Wd (x :: l) := fun y hy => by
  cases hy with
  | head => exact hx
  | tail _ h' => exact h y h'
theorem Wd.head {x : Nat} {l : List Nat} (h : Wd (x :: l)) : x < WB := h x (List.mem_cons_self ..)
theorem Wd.tail {x : Nat} {l : List Nat} (h : Wd (x :: l)) : Wd l := fun y hy => h y (List.mem_cons_of_mem _ hy)
theorem Wd.append {a b : List Nat} (ha : Wd a) (hb : Wd b) : Wd (a ++ b) := fun y hy => by
  rcases List.mem_append.1 hy with h | h
  · exact ha y h
  · exact hb y h
theorem Wd.left {a b : List Nat} (h : Wd (a ++ b)) : Wd a := fun y hy => h y (List.mem_append.2 (.inl hy))
theorem Wd.right {a b : List Nat} (h : Wd (a ++ b)) : Wd b := fun y hy => h y (List.mem_append.2 (.inr hy))
theorem Wd.take {l : List Nat} (h : Wd l) (n : Nat) : Wd (l.take n) := fun y hy => h y (List.mem_of_mem_take hy)
theorem Wd.drop {l : List Nat} (h : Wd l) (n : Nat) : Wd (l.drop n) := fun y hy => h y (List.mem_of_mem_drop hy)
theorem Wd.set {l : List Nat} (h : Wd l) (n x : Nat) (hx : x < WB) : Wd (l.set n x) := fun y hy => by
  rcases List.mem_or_eq_of_mem_set hy with h' | h'
  · exact h y h'
  · exact h' ▸ hx
theorem Wd.zeros (n : Nat) : Wd (List.replicate n 0) := fun y hy => by
  have := List.eq_of_mem_replicate hy
  subst this; exact WB_pos
theorem Wd.get {l : List Nat} (h : Wd l) {i x : Nat} (hx : l[i]? = some x) : x < WB := h x (List.mem_of_getElem? hx)
theorem Wd.getD {l : List Nat} (h : Wd l) (i : Nat) : l[i]?.getD 0 < WB := by
  cases hx : l[i]? with
  | none => exact WB_pos
  | some x => exact h.get hx

/-- The word at a place; 0 behind the end. -/
def nth (l : List Nat) (i : Nat) : Nat := l[i]?.getD 0
theorem nth_of {l : List Nat} {i x : Nat} (h : l[i]? = some x) : nth l i = x := by unfold nth; rw [h]; rfl
theorem get_nth {l : List Nat} {i : Nat} (h : i < l.length) : l[i]? = some (nth l i) := by unfold nth; rw [List.getElem?_eq_getElem h]; rfl
theorem nth_ge {l : List Nat} {i : Nat} (h : l.length ≤ i) : nth l i = 0 := by unfold nth; rw [List.getElem?_eq_none h]; rfl
theorem Wd.nth {l : List Nat} (h : Wd l) (i : Nat) : nth l i < WB := h.getD i
theorem take_nth {l : List Nat} {k : Nat} (h : k < l.length) : l.take (k + 1) = l.take k ++ [nth l k] := by
  rw [List.take_add_one, get_nth h]; rfl
theorem nth_append_left {a b : List Nat} {i : Nat} (h : i < a.length) : nth (a ++ b) i = nth a i := by unfold nth; rw [List.getElem?_append_left h]
theorem nth_append_right {a b : List Nat} {i : Nat} (h : a.length ≤ i) : nth (a ++ b) i = nth b (i - a.length) := by unfold nth; rw [List.getElem?_append_right h]
theorem nth_take {l : List Nat} {i k : Nat} (h : i < k) : nth (l.take k) i = nth l i := by unfold nth; rw [List.getElem?_take_of_lt h]
theorem nth_drop (l : List Nat) (i k : Nat) : nth (l.drop k) i = nth l (k + i) := by unfold nth; rw [List.getElem?_drop]

@[simp] theorem val_nil : val [] = 0 := rfl
theorem val_cons (x : Nat) (l : List Nat) : val (x :: l) = x + WB * val l := rfl
theorem val_append (a b : List Nat) : val (a ++ b) = val a + WB ^ a.length * val b := by
  induction a with
  | nil => simp [val]
  | cons x a ih =>
    simp only [List.cons_append, val, ih, List.length_cons, Nat.pow_succ, Nat.mul_add]
    rw [Nat.add_assoc, Nat.mul_comm (WB ^ a.length) WB, Nat.mul_assoc]
theorem val_snoc (a : List Nat) (x : Nat) : val (a ++ [x]) = val a + WB ^ a.length * x := by
  rw [val_append]; simp [val]
theorem val_take_succ {l : List Nat} {k : Nat} (h : k < l.length) : val (l.take (k + 1)) = val (l.take k) + WB ^ k * nth l k := by
  rw [take_nth h, val_snoc, List.length_take, Nat.min_eq_left (by omega)]
theorem val_zeros (n : Nat) : val (List.replicate n 0) = 0 := by
  induction n with
  | zero => rfl
  | succ n ih => rw [List.replicate_succ, val, ih]; rfl
theorem val_lt {l : List Nat} (h : Wd l) : val l < WB ^ l.length := by
  induction l with
  | nil => simp [val]
  | cons x l ih =>
    have hx := h.head
    have hi := ih h.tail
    simp only [val, List.length_cons, Nat.pow_succ]
    have : WB * val l + WB ≤ WB * WB ^ l.length := by
      have := Nat.mul_le_mul_left WB (Nat.succ_le_of_lt hi)
      rw [Nat.mul_succ] at this; exact this
    rw [Nat.mul_comm (WB ^ l.length)]; omega
theorem val_take_drop (l : List Nat) (n : Nat) (h : n ≤ l.length) : val l = val (l.take n) + WB ^ n * val (l.drop n) := by
  have := val_append (l.take n) (l.drop n)
  rw [List.take_append_drop, List.length_take, Nat.min_eq_left h] at this
  exact this
theorem val_inj {a b : List Nat} (ha : Wd a) (hb : Wd b) (hl : a.length = b.length) (h : val a = val b) : a = b := by
  induction a generalizing b with
  | nil => cases b with
    | nil => rfl
    | cons => simp at hl
  | cons x a ih => cases b with
    | nil => simp at hl
    | cons y b =>
      have hx := ha.head
      have hy := hb.head
      simp only [val] at h
      have e1 : x = y := by
        have h1 := congrArg (· % WB) h
        simp only [Nat.add_mul_mod_self_left, Nat.mod_eq_of_lt hx, Nat.mod_eq_of_lt hy] at h1
        exact h1
      subst e1
      have e2 : val a = val b := Nat.eq_of_mul_eq_mul_left WB_pos (by omega)
      rw [ih ha.tail hb.tail (by simpa using hl) e2]

/-- The words of a number, the last one not 0. -/
noncomputable def digs (n : Nat) : List Nat := if _h : n = 0 then [] else n % WB :: digs (n / WB)
termination_by n
decreasing_by exact Nat.div_lt_self (Nat.pos_of_ne_zero _h) WB_two

theorem digs_zero : digs 0 = [] := by rw [digs]; simp
theorem digs_pos {n : Nat} (h : n ≠ 0) : digs n = n % WB :: digs (n / WB) := by rw [digs]; simp [h]
theorem val_digs (n : Nat) : val (digs n) = n := by
  induction n using Nat.strongRecOn with
  | _ n ih =>
    by_cases h : n = 0
    · subst h; rw [digs_zero]; rfl
    · rw [digs_pos h, val, ih _ (Nat.div_lt_self (Nat.pos_of_ne_zero h) WB_two)]
      exact Nat.mod_add_div n WB
theorem Wd_digs (n : Nat) : Wd (digs n) := by
  induction n using Nat.strongRecOn with
  | _ n ih =>
    by_cases h : n = 0
    · subst h; rw [digs_zero]; exact Wd.nil
    · rw [digs_pos h]
      exact Wd.cons (Nat.mod_lt _ WB_pos) (ih _ (Nat.div_lt_self (Nat.pos_of_ne_zero h) WB_two))
theorem digs_eq_nil {n : Nat} : digs n = [] ↔ n = 0 := by
  constructor
  · intro h; have := val_digs n; rw [h] at this; exact this.symm
  · rintro rfl; exact digs_zero
theorem digs_len_eq_zero {n : Nat} : (digs n).length = 0 ↔ n = 0 := by rw [List.length_eq_zero_iff, digs_eq_nil]
theorem digs_last {n : Nat} (h : digs n ≠ []) : (digs n).getLast h ≠ 0 := by
  induction n using Nat.strongRecOn with
  | _ n ih =>
    have hn : n ≠ 0 := fun e => h (digs_eq_nil.2 e)
    by_cases h1 : n / WB = 0
    · have e : digs n = [n % WB] := by rw [digs_pos hn, h1, digs_zero]
      have hlt : n < WB := by
        rcases Nat.lt_or_ge n WB with h' | h'
        · exact h'
        · have := (Nat.le_div_iff_mul_le WB_pos).2 (by omega : 1 * WB ≤ n); omega
      have : ∀ (l : List Nat) (hl : l ≠ []), l = [n % WB] → l.getLast hl ≠ 0 := by
        intro l hl e; subst e; simp; rw [Nat.mod_eq_of_lt hlt]; exact hn
      exact this _ h e
    · have hne : digs (n / WB) ≠ [] := fun e => h1 (digs_eq_nil.1 e)
      have hi := ih (n / WB) (Nat.div_lt_self (Nat.pos_of_ne_zero hn) WB_two) hne
      have : ∀ (l : List Nat) (hl : l ≠ []), l = n % WB :: digs (n / WB) → l.getLast hl ≠ 0 := by
        intro l hl e; subst e; rw [List.getLast_cons hne]; exact hi
      exact this _ h (digs_pos hn)
/-- Words whose last one is not 0 are those of their number. -/
theorem digs_val {l : List Nat} (h : Wd l) (hl : ∀ x, l.getLast? = some x → x ≠ 0) : digs (val l) = l := by
  induction l with
  | nil => exact digs_zero
  | cons x l ih =>
    have hx := h.head
    have hl' : ∀ y, l.getLast? = some y → y ≠ 0 := by
      intro y hy
      cases l with
      | nil => simp at hy
      | cons z l => exact hl y (by rw [List.getLast?_cons_cons]; exact hy)
    have hne : val (x :: l) ≠ 0 := by
      simp only [val]
      intro e
      have ex : x = 0 := by omega
      have ev : val l = 0 := by
        have : WB * val l = 0 := by omega
        rcases Nat.mul_eq_zero.1 this with h' | h'
        · exact absurd h' (Nat.ne_of_gt WB_pos)
        · exact h'
      cases l with
      | nil => exact hl x rfl ex
      | cons z l =>
        have := ih h.tail hl'
        rw [ev, digs_zero] at this
        cases this
    rw [digs_pos hne]
    have e1 : val (x :: l) % WB = x := by simp only [val, Nat.add_mul_mod_self_left, Nat.mod_eq_of_lt hx]
    have e2 : val (x :: l) / WB = val l := by
      simp only [val, Nat.add_mul_div_left _ _ WB_pos, Nat.div_eq_of_lt hx, Nat.zero_add]
    rw [e1, e2, ih h.tail hl']
theorem digs_len_le {n k : Nat} : (digs n).length ≤ k ↔ n < WB ^ k := by
  constructor
  · intro h
    have := val_lt (Wd_digs n)
    rw [val_digs] at this
    exact Nat.lt_of_lt_of_le this (Nat.pow_le_pow_right WB_pos h)
  · intro h
    induction k generalizing n with
    | zero => have : n = 0 := by simpa using h
              subst this; simp [digs_zero]
    | succ k ih =>
      by_cases hn : n = 0
      · subst hn; simp [digs_zero]
      · rw [digs_pos hn, List.length_cons]
        have : n / WB < WB ^ k := by
          rw [Nat.div_lt_iff_lt_mul WB_pos, ← Nat.pow_succ]; exact h
        have := ih this
        omega
theorem digs_len_mono {m n : Nat} (h : m ≤ n) : (digs m).length ≤ (digs n).length :=
  digs_len_le.2 (Nat.lt_of_le_of_lt h (by have := val_lt (Wd_digs n); rwa [val_digs] at this))
theorem lt_digs_len (n : Nat) : n < WB ^ (digs n).length := digs_len_le.1 (Nat.le_refl _)
/-- The least number with so many words. -/
theorem digs_ge {n : Nat} (h : n ≠ 0) : WB ^ ((digs n).length - 1) ≤ n := by
  rcases Nat.lt_or_ge n (WB ^ ((digs n).length - 1)) with h' | h'
  · have h1 := digs_len_le.2 h'
    have h2 : (digs n).length ≠ 0 := fun e => h (digs_len_eq_zero.1 e)
    omega
  · exact h'
/-- Noughts at the end do not count. -/
theorem val_append_zeros (l : List Nat) (k : Nat) : val (l ++ List.replicate k 0) = val l := by
  rw [val_append, val_zeros]; simp
theorem digs_take {l : List Nat} (h : Wd l) {i : Nat} (hi : i ≤ l.length) (hz : ∀ j, i ≤ j → j < l.length → l[j]? = some 0) (hl : i = 0 ∨ ∃ x, l[i - 1]? = some x ∧ x ≠ 0) :
    digs (val l) = l.take i := by
  have e : l = l.take i ++ List.replicate (l.length - i) 0 := by
    apply List.ext_getElem?
    intro j
    by_cases hj : j < i
    · rw [List.getElem?_append_left (by simp; omega), List.getElem?_take_of_lt hj]
    · rw [List.getElem?_append_right (by simp; omega)]
      by_cases hj2 : j < l.length
      · rw [hz j (by omega) hj2, List.getElem?_replicate]
        simp; omega
      · rw [List.getElem?_eq_none (by omega), List.getElem?_replicate]
        simp; omega
  have ev : val l = val (l.take i) := by
    have := val_append_zeros (l.take i) (l.length - i)
    rw [← e] at this; exact this
  rw [ev]
  apply digs_val (h.take i)
  intro x hx
  rcases hl with h0 | ⟨y, hy, hy0⟩
  · subst h0; simp at hx
  · have hi0 : i ≠ 0 := by
      intro e0; subst e0; simp at hx
    rw [List.getLast?_eq_getElem?] at hx
    have hlen : (l.take i).length = i := by simp; omega
    rw [hlen, List.getElem?_take_of_lt (by omega), hy] at hx
    cases hx; exact hy0

/-! Sums and differences of words with a carry, products in two words -/
noncomputable def adds (x y c : Nat) : Nat := (x + y + c) % WB
noncomputable def addc (x y c : Nat) : Nat := (x + y + c) / WB
noncomputable def subs (x y c : Nat) : Nat := (x + WB - y - c) % WB
def subc (x y c : Nat) : Nat := if x < y + c then 1 else 0
noncomputable def mulhi (x y : Nat) : Nat := x * y / WB
noncomputable def mullo (x y : Nat) : Nat := x * y % WB
theorem adds_lt (x y c : Nat) : adds x y c < WB := Nat.mod_lt _ WB_pos
theorem subs_lt (x y c : Nat) : subs x y c < WB := Nat.mod_lt _ WB_pos
theorem mullo_lt (x y : Nat) : mullo x y < WB := Nat.mod_lt _ WB_pos
theorem adds_addc (x y c : Nat) : adds x y c + WB * addc x y c = x + y + c := Nat.mod_add_div _ _
theorem addc_le {x y c : Nat} (hx : x < WB) (hy : y < WB) (hc : c ≤ 1) : addc x y c ≤ 1 := by
  unfold addc
  have : (x + y + c) / WB < 2 := by rw [Nat.div_lt_iff_lt_mul WB_pos]; omega
  omega
theorem subc_le (x y c : Nat) : subc x y c ≤ 1 := by unfold subc; split <;> omega
theorem subs_subc {x y c : Nat} (hx : x < WB) (hy : y < WB) (hc : c ≤ 1) : x + WB * subc x y c = subs x y c + y + c := by
  unfold subs subc
  split
  · rw [Nat.mod_eq_of_lt (by omega)]; omega
  · rw [show x + WB - y - c = (x - y - c) + WB by omega, Nat.add_mod_right, Nat.mod_eq_of_lt (by omega)]; omega
theorem mulhi_lt {x y : Nat} (hx : x < WB) (hy : y < WB) : mulhi x y < WB := by
  unfold mulhi
  rw [Nat.div_lt_iff_lt_mul WB_pos]
  exact Nat.mul_lt_mul'' hx hy
theorem mullo_mulhi (x y : Nat) : mullo x y + WB * mulhi x y = x * y := Nat.mod_add_div _ _
theorem add_step {r P c x y X Y s c' : Nat} (h : r + P * c = X + Y) (e : s + WB * c' = x + y + c) : r + P * s + P * WB * c' = X + P * x + (Y + P * y) := by
  have : P * s + P * WB * c' = P * (x + y + c) := by rw [Nat.mul_assoc, ← Nat.mul_add, e]
  have e2 : P * (x + y + c) = P * x + P * y + P * c := by rw [Nat.mul_add, Nat.mul_add]
  omega
theorem sub_step {r P c x y X Y s c' : Nat} (h : X + P * c = r + Y) (e : x + WB * c' = s + y + c) : X + P * x + P * WB * c' = r + P * s + (Y + P * y) := by
  have : P * x + P * WB * c' = P * (s + y + c) := by rw [Nat.mul_assoc, ← Nat.mul_add, e]
  have e2 : P * (s + y + c) = P * s + P * y + P * c := by rw [Nat.mul_add, Nat.mul_add]
  omega

end Go.Proofs.YtlnillnngckegaaGreatDoor

namespace Go.Proofs.YtlnillnngckegaaGreatDoor

def figsF : Nat → Nat → Nat
  | 0, _ => 1
  | f + 1, n => if n < 10 then 1 else figsF f (n / 10) + 1
/-- How many decimal figures a number has; 0 has one. -/
def figs (n : Nat) : Nat := figsF n n
theorem ten_pos (k : Nat) : 0 < 10 ^ k := Nat.pow_pos (by omega)
theorem ten_succ (k : Nat) : 10 ^ (k + 1) = 10 * 10 ^ k := by rw [Nat.pow_succ, Nat.mul_comm]
theorem ten_le {a b : Nat} (h : a ≤ b) : 10 ^ a ≤ 10 ^ b := Nat.pow_le_pow_right (by omega) h
theorem ten_lt {a b : Nat} (h : a < b) : 10 ^ a < 10 ^ b := Nat.pow_lt_pow_right (by omega) h
theorem ten_lt_iff {a b : Nat} : 10 ^ a < 10 ^ b ↔ a < b := by
  refine ⟨fun h => ?_, ten_lt⟩
  rcases Nat.lt_or_ge a b with h1 | h1
  · exact h1
  · have := ten_le h1; omega
theorem figsF_spec (f : Nat) : ∀ n, n ≤ f → 1 ≤ figsF f n ∧ n < 10 ^ figsF f n ∧ (n ≠ 0 → 10 ^ (figsF f n - 1) ≤ n) := by
  induction f with
  | zero => intro n hn; obtain rfl : n = 0 := by omega
            exact ⟨Nat.le_refl _, by decide, fun h => absurd rfl h⟩
  | succ f ih =>
    intro n hn
    unfold figsF
    by_cases h : n < 10
    · rw [if_pos h]; exact ⟨Nat.le_refl _, by simpa using h, fun h0 => by simp; omega⟩
    · rw [if_neg h]
      obtain ⟨h1, h2, h3⟩ := ih (n / 10) (by omega)
      have h3 := h3 (by omega)
      refine ⟨by omega, ?_, fun _ => ?_⟩
      · rw [ten_succ]; omega
      · rw [Nat.add_sub_cancel]
        obtain ⟨m, hm⟩ : ∃ m, figsF f (n / 10) = m + 1 := ⟨figsF f (n / 10) - 1, by omega⟩
        rw [hm] at h3 ⊢
        rw [Nat.add_sub_cancel] at h3
        rw [ten_succ]; omega
theorem figs_pos (n : Nat) : 1 ≤ figs n := (figsF_spec n n (Nat.le_refl _)).1
theorem figs_lt (n : Nat) : n < 10 ^ figs n := (figsF_spec n n (Nat.le_refl _)).2.1
theorem figs_ge {n : Nat} (h : n ≠ 0) : 10 ^ (figs n - 1) ≤ n := (figsF_spec n n (Nat.le_refl _)).2.2 h
theorem figs_zero : figs 0 = 1 := rfl
theorem figs_le_iff {n k : Nat} (hk : 1 ≤ k) : figs n ≤ k ↔ n < 10 ^ k := by
  refine ⟨fun h => Nat.lt_of_lt_of_le (figs_lt n) (ten_le h), fun h => ?_⟩
  by_cases h0 : n = 0
  · subst h0; rw [figs_zero]; exact hk
  · have h1 := figs_ge h0
    have h2 : 10 ^ (figs n - 1) < 10 ^ k := Nat.lt_of_le_of_lt h1 h
    have := ten_lt_iff.1 h2
    have := figs_pos n
    omega
theorem figs_eq {n k : Nat} (hk : 1 ≤ k) (h1 : 10 ^ (k - 1) ≤ n) (h2 : n < 10 ^ k) : figs n = k := by
  have h3 := (figs_le_iff hk).2 h2
  have h4 := figs_lt n
  have h5 : 10 ^ (k - 1) < 10 ^ figs n := Nat.lt_of_le_of_lt h1 h4
  have := ten_lt_iff.1 h5
  omega
theorem figs_mono {a b : Nat} (h : a ≤ b) : figs a ≤ figs b := (figs_le_iff (figs_pos b)).2 (Nat.lt_of_le_of_lt h (figs_lt b))
theorem figs_step {n : Nat} (h : 10 ≤ n) : figs n = figs (n / 10) + 1 := by
  have h1 := figs_lt (n / 10)
  have h2 := figs_ge (n := n / 10) (by omega)
  have h3 := figs_pos (n / 10)
  obtain ⟨m, hm⟩ : ∃ m, figs (n / 10) = m + 1 := ⟨figs (n / 10) - 1, by omega⟩
  rw [hm] at h1 h2 ⊢
  rw [Nat.add_sub_cancel] at h2
  refine figs_eq (by omega) ?_ ?_
  · rw [Nat.add_sub_cancel, ten_succ]; omega
  · rw [ten_succ]; omega
theorem figs_small {n : Nat} (h : n < 10) : figs n = 1 := by
  have h1 := (figs_le_iff (n := n) (k := 1) (Nat.le_refl _)).2 (by simpa using h)
  have := figs_pos n
  omega
/-- Figures of a number with noughts behind. -/
theorem figs_mul_pow {n : Nat} (h : n ≠ 0) (k : Nat) : figs (n * 10 ^ k) = figs n + k := by
  have h1 := figs_lt n
  have h2 := figs_ge h
  have h3 := figs_pos n
  refine figs_eq (by omega) ?_ ?_
  · rw [show figs n + k - 1 = (figs n - 1) + k by omega, Nat.pow_add]
    exact Nat.mul_le_mul_right _ h2
  · rw [Nat.pow_add]
    exact Nat.mul_lt_mul_of_pos_right h1 (ten_pos k)
/-- Figures cut off. -/
theorem figs_div_pow {n k : Nat} (hk : k < figs n) (h : n ≠ 0) : figs (n / 10 ^ k) = figs n - k := by
  have h1 := figs_lt n
  have h2 := figs_ge h
  refine figs_eq (by omega) ?_ ?_
  · rw [Nat.le_div_iff_mul_le (ten_pos k), ← Nat.pow_add]
    rw [show figs n - k - 1 + k = figs n - 1 by omega]; exact h2
  · rw [Nat.div_lt_iff_lt_mul (ten_pos k), ← Nat.pow_add]
    rw [show figs n - k + k = figs n by omega]; exact h1
theorem figs_pow (k : Nat) : figs (10 ^ k) = k + 1 := figs_eq (by omega) (by simp) (ten_lt (by omega))

/-- -1, 0 or 1. -/
def ord3 (a b : Nat) : Int := if a < b then -1 else if b < a then 1 else 0
/-- Whether a magnitude is made one greater. -/
def awayN (neg : Bool) (last : Nat) (half : Int) (mode : Nat) : Bool :=
  match mode with
  | 0 => false
  | 2 => decide (half > 0) || (half == 0 && last % 2 == 1)
  | 3 => !neg
  | 4 => neg
  | 5 => decide (half > 0)
  | 6 => true
  | 7 => last % 5 == 0
  | _ => decide (half ≥ 0)
/-- k figures less, rounded. -/
def cutN (neg : Bool) (C k mode : Nat) : Nat := if C % 10 ^ k = 0 then C / 10 ^ k else if awayN neg (C / 10 ^ k % 10) (ord3 (2 * (C % 10 ^ k)) (10 ^ k)) mode then C / 10 ^ k + 1 else C / 10 ^ k
def inexN (C k : Nat) : Bool := !decide (C % 10 ^ k = 0)
/-- Rounded to p figures: the coefficient, and how many figures are off. -/
def rndN (neg : Bool) (C p mode : Nat) : Nat := if figs C ≤ p then C else if figs (cutN neg C (figs C - p) mode) > p then cutN neg C (figs C - p) mode / 10 else cutN neg C (figs C - p) mode
def rndK (neg : Bool) (C p mode : Nat) : Nat := if figs C ≤ p then 0 else if figs (cutN neg C (figs C - p) mode) > p then figs C - p + 1 else figs C - p
def rndX (C p : Nat) : Bool := if figs C ≤ p then false else inexN C (figs C - p)
/-- Conditions: Rounded 64, Inexact 16, as apd has them. -/
def rndC (C p : Nat) : Nat := if figs C ≤ p then 0 else if inexN C (figs C - p) then 80 else 64

theorem cutN_le (neg : Bool) (C k mode : Nat) : C / 10 ^ k ≤ cutN neg C k mode ∧ cutN neg C k mode ≤ C / 10 ^ k + 1 := by
  unfold cutN; split <;> (try split) <;> omega
/-- What is cut to p figures has p figures, or is the next power of 10. -/
theorem cutN_figs {neg : Bool} {C p mode : Nat} (hp : 1 ≤ p) (h : p < figs C) : 10 ^ (p - 1) ≤ cutN neg C (figs C - p) mode ∧ cutN neg C (figs C - p) mode ≤ 10 ^ p := by
  have h0 : C ≠ 0 := by rintro rfl; rw [figs_zero] at h; omega
  have h1 := cutN_le neg C (figs C - p) mode
  have h2 := figs_div_pow (n := C) (k := figs C - p) (by omega) h0
  have hq0 : C / 10 ^ (figs C - p) ≠ 0 := by
    intro e
    rw [e, figs_zero] at h2
    have h3 := (Nat.div_eq_zero_iff.1 e).resolve_left (by have := ten_pos (figs C - p); omega)
    have h4 := figs_ge h0
    have := Nat.lt_of_le_of_lt h4 h3
    have := ten_lt_iff.1 this
    omega
  have h3 := figs_lt (C / 10 ^ (figs C - p))
  have h4 := figs_ge hq0
  rw [h2, show figs C - (figs C - p) = p by omega] at h3 h4
  omega
theorem cutN_over {neg : Bool} {C p mode : Nat} (hp : 1 ≤ p) (h : p < figs C) (ho : figs (cutN neg C (figs C - p) mode) > p) : cutN neg C (figs C - p) mode = 10 ^ p := by
  have h1 := (cutN_figs (neg := neg) (mode := mode) hp h).2
  have h2 : ¬ cutN neg C (figs C - p) mode < 10 ^ p := fun h3 => by have := (figs_le_iff hp).2 h3; omega
  omega
theorem rndN_figs {neg : Bool} {C p mode : Nat} (hp : 1 ≤ p) : figs (rndN neg C p mode) ≤ p := by
  unfold rndN
  split
  · assumption
  · next h =>
    split
    · next ho =>
      rw [cutN_over hp (by omega) ho]
      obtain ⟨q, rfl⟩ : ∃ q, p = q + 1 := ⟨p - 1, by omega⟩
      rw [ten_succ, Nat.mul_div_cancel_left _ (by omega), figs_pow]; omega
    · omega
/-- The half that decides, as the code finds it: the rest against 5 with noughts behind. -/
theorem ord3_half {m k : Nat} (hk : 1 ≤ k) : ord3 m (5 * 10 ^ (k - 1)) = ord3 (2 * m) (10 ^ k) := by
  obtain ⟨j, rfl⟩ : ∃ j, k = j + 1 := ⟨k - 1, by omega⟩
  rw [Nat.add_sub_cancel, ten_succ]
  unfold ord3
  have : 0 < 10 ^ j := ten_pos j
  generalize 10 ^ j = t at *
  split <;> split <;> (try split) <;> (try split) <;> omega
/-- A rest with fewer figures than the place is below a half. -/
theorem ord3_few {m k : Nat} (h : figs m < k) : ord3 (2 * m) (10 ^ k) = -1 := by
  have h1 := figs_lt m
  have h2 : 10 ^ figs m ≤ 10 ^ (k - 1) := ten_le (by omega)
  obtain ⟨j, rfl⟩ : ∃ j, k = j + 1 := ⟨k - 1, by omega⟩
  rw [Nat.add_sub_cancel] at h2
  unfold ord3
  rw [ten_succ, if_pos (by omega)]
end Go.Proofs.YtlnillnngckegaaGreatDoor

namespace Go.Proofs.YtlnillnngckegaaGreatDoor
open Go.Shelf Go.Proofs
def shelf_lays129_ren : Go.Shelf.Ren := ⟨fun | 129 => 229 | n => n, fun | 53 => 183 | 3 => 3 | 4 => 4 | 46 => 32 | 5 => 5 | 9 => 9 | n => n, fun | n => n⟩
theorem shelf_lays129 : Go.Proofs.Lays.n129 Tryz.prog shelf_lays129_ren := {
  mixed := by kernel_rfl
  f129 := Tryz.func229.trans (congrArg some (by kernel_rfl))
  t3 := Tryz.underlying3
  a3 := Tryz.isAgg3
  z3 := Tryz.sizeOf3
  v3 := Tryz.zeroValue3
  t4 := Tryz.underlying4
  a4 := Tryz.isAgg4
  z4 := Tryz.sizeOf4
  v4 := Tryz.zeroValue4
  t5 := Tryz.underlying5
  a5 := Tryz.isAgg5
  z5 := Tryz.sizeOf5
  v5 := Tryz.zeroValue5
  t9 := Tryz.underlying9
  a9 := Tryz.isAgg9
  z9 := Tryz.sizeOf9
  v9 := Tryz.zeroValue9
  t46 := Tryz.underlying32
  a46 := Tryz.isAgg32
  z46 := Tryz.sizeOf32
  v46 := Tryz.zeroValue32
  t53 := Tryz.underlying183
  a53 := Tryz.isAgg183
  z53 := Tryz.sizeOf183
  v53 := Tryz.zeroValue183 }
theorem shelf_bits_Len64 (x : Int) (w : World) (h0 : 0 ≤ x) (h1 : x ≤ 18446744073709551615) :
    Calls Tryz.prog 229 #[.int .u64 x] w fun e w' => e = .returned (.int .i64 (Lib.bitLen x.toNat)) ∧ w' = w := Any.bits_Len64 shelf_lays129 x w h0 h1
end Go.Proofs.YtlnillnngckegaaGreatDoor
