/- Lists of words of 64 bits as numbers: plain facts, no program. Blocks of words in memory: what a world holds, and a world that differs in one block. Functions on single words: sums and products with a carry. Sums, differences and products of rows of words. Shifts of words. Rows of words shifted by less than a word. Copies of rows of words; a word added to, or taken off, a row. A word taken off a row of words. Division of two words by one: the numbers alone. Words reckoned with modulo the base. -/
import Derived.WalkKit
import Derived.WalkSpells
import Derived.WalkLawsBesides
import Derived.Deep.QuietTactic
import Derived.BigQuiet
import Derived.StillTailTactics
import Derived.Deep.DeepFit
import Derived.Lib.Hide
import Derived.Deep.LoopGhost
import Derived.Deep.DeepCutAuto
import Derived.Deep.Light
import Derived.Deep.CutBlock
import Derived.Shelf.Spec.BitsCarry
import Derived.Test.YtcoljeafgiemkaaGreatDoorProg
import Derived.Laws.Externs
import Derived.Lib.Mul64
import Derived.Laws.CopyOwn
import Derived.LaidEqlPtr
namespace Go.Proofs.YtcoljeafgiemkaaGreatDoor

theorem WB_ex : ∃ n : Nat, n = 18446744073709551616 := ⟨_, rfl⟩
/-- What a word counts to: a number whose value neither Lean nor the kernel lays open by itself. -/
noncomputable def WB : Nat := Classical.choose WB_ex
theorem WB_eq : WB = 18446744073709551616 := Classical.choose_spec WB_ex
theorem WB_pos : 0 < WB := by rw [WB_eq]; decide
theorem WB_two : 2 ≤ WB := by rw [WB_eq]; decide
theorem WB_pow_pos (k : Nat) : 0 < WB ^ k := Nat.pow_pos WB_pos

/-- The number of a list of words, the lowest first. -/
noncomputable def val : List Nat → Nat
  | [] => 0
  | x :: xs => x + WB * val xs

/-- Every word is below the base. -/
def Wd (l : List Nat) : Prop := ∀ x, x ∈ l → x < WB

theorem Wd.nil : Wd [] := fun _ h => by cases h
theorem Wd.cons {x : Nat} {l : List Nat} (hx : x < WB) (h : Wd l) : Wd (x :: l) := fun y hy => by
  cases hy with
  | head => exact hx
  | tail _ h' => exact h y h'
theorem Wd.head {x : Nat} {l : List Nat} (h : Wd (x :: l)) : x < WB := h x (List.mem_cons_self ..)
theorem Wd.tail {x : Nat} {l : List Nat} (h : Wd (x :: l)) : Wd l := fun y hy => h y (List.mem_cons_of_mem _ hy)
theorem Wd.append {a b : List Nat} (ha : Wd a) (hb : Wd b) : Wd (a ++ b) := fun y hy => by
  rcases List.mem_append.1 hy with h | h
  · exact ha y h
  · exact hb y h
theorem Wd.left {a b : List Nat} (h : Wd (a ++ b)) : Wd a := fun y hy => h y (List.mem_append.2 (.inl hy))
theorem Wd.right {a b : List Nat} (h : Wd (a ++ b)) : Wd b := fun y hy => h y (List.mem_append.2 (.inr hy))
theorem Wd.take {l : List Nat} (h : Wd l) (n : Nat) : Wd (l.take n) := fun y hy => h y (List.mem_of_mem_take hy)
theorem Wd.drop {l : List Nat} (h : Wd l) (n : Nat) : Wd (l.drop n) := fun y hy => h y (List.mem_of_mem_drop hy)
theorem Wd.set {l : List Nat} (h : Wd l) (n x : Nat) (hx : x < WB) : Wd (l.set n x) := fun y hy => by
  rcases List.mem_or_eq_of_mem_set hy with h' | h'
  · exact h y h'
  · exact h' ▸ hx
theorem Wd.zeros (n : Nat) : Wd (List.replicate n 0) := fun y hy => by
  have := List.eq_of_mem_replicate hy
  subst this; exact WB_pos
theorem Wd.get {l : List Nat} (h : Wd l) {i x : Nat} (hx : l[i]? = some x) : x < WB := h x (List.mem_of_getElem? hx)
theorem Wd.getD {l : List Nat} (h : Wd l) (i : Nat) : l[i]?.getD 0 < WB := by
  cases hx : l[i]? with
  | none => exact WB_pos
  | some x => exact h.get hx

/-- The word at a place; 0 behind the end. -/
def nth (l : List Nat) (i : Nat) : Nat := l[i]?.getD 0
theorem nth_of {l : List Nat} {i x : Nat} (h : l[i]? = some x) : nth l i = x := by unfold nth; rw [h]; rfl
theorem get_nth {l : List Nat} {i : Nat} (h : i < l.length) : l[i]? = some (nth l i) := by unfold nth; rw [List.getElem?_eq_getElem h]; rfl
theorem nth_ge {l : List Nat} {i : Nat} (h : l.length ≤ i) : nth l i = 0 := by unfold nth; rw [List.getElem?_eq_none h]; rfl
theorem Wd.nth {l : List Nat} (h : Wd l) (i : Nat) : nth l i < WB := h.getD i
theorem take_nth {l : List Nat} {k : Nat} (h : k < l.length) : l.take (k + 1) = l.take k ++ [nth l k] := by
  rw [List.take_add_one, get_nth h]; rfl
theorem nth_append_left {a b : List Nat} {i : Nat} (h : i < a.length) : nth (a ++ b) i = nth a i := by unfold nth; rw [List.getElem?_append_left h]
theorem nth_append_right {a b : List Nat} {i : Nat} (h : a.length ≤ i) : nth (a ++ b) i = nth b (i - a.length) := by unfold nth; rw [List.getElem?_append_right h]
theorem nth_take {l : List Nat} {i k : Nat} (h : i < k) : nth (l.take k) i = nth l i := by unfold nth; rw [List.getElem?_take_of_lt h]
theorem nth_drop (l : List Nat) (i k : Nat) : nth (l.drop k) i = nth l (k + i) := by unfold nth; rw [List.getElem?_drop]

@[simp] theorem val_nil : val [] = 0 := rfl
theorem val_cons (x : Nat) (l : List Nat) : val (x :: l) = x + WB * val l := rfl
theorem val_append (a b : List Nat) : val (a ++ b) = val a + WB ^ a.length * val b := by
  induction a with
  | nil => simp [val]
  | cons x a ih =>
    simp only [List.cons_append, val, ih, List.length_cons, Nat.pow_succ, Nat.mul_add]
    rw [Nat.add_assoc, Nat.mul_comm (WB ^ a.length) WB, Nat.mul_assoc]
theorem val_snoc (a : List Nat) (x : Nat) : val (a ++ [x]) = val a + WB ^ a.length * x := by
  rw [val_append]; simp [val]
theorem val_take_succ {l : List Nat} {k : Nat} (h : k < l.length) : val (l.take (k + 1)) = val (l.take k) + WB ^ k * nth l k := by
  rw [take_nth h, val_snoc, List.length_take, Nat.min_eq_left (by omega)]
theorem val_zeros (n : Nat) : val (List.replicate n 0) = 0 := by
  induction n with
  | zero => rfl
  | succ n ih => rw [List.replicate_succ, val, ih]; rfl
theorem val_lt {l : List Nat} (h : Wd l) : val l < WB ^ l.length := by
  induction l with
  | nil => simp [val]
  | cons x l ih =>
    have hx := h.head
    have hi := ih h.tail
    simp only [val, List.length_cons, Nat.pow_succ]
    have : WB * val l + WB ≤ WB * WB ^ l.length := by
      have := Nat.mul_le_mul_left WB (Nat.succ_le_of_lt hi)
      rw [Nat.mul_succ] at this; exact this
    rw [Nat.mul_comm (WB ^ l.length)]; omega
theorem val_take_drop (l : List Nat) (n : Nat) (h : n ≤ l.length) : val l = val (l.take n) + WB ^ n * val (l.drop n) := by
  have := val_append (l.take n) (l.drop n)
  rw [List.take_append_drop, List.length_take, Nat.min_eq_left h] at this
  exact this
theorem val_inj {a b : List Nat} (ha : Wd a) (hb : Wd b) (hl : a.length = b.length) (h : val a = val b) : a = b := by
  induction a generalizing b with
  | nil => cases b with
    | nil => rfl
    | cons => simp at hl
  | cons x a ih => cases b with
    | nil => simp at hl
    | cons y b =>
      have hx := ha.head
      have hy := hb.head
      simp only [val] at h
      have e1 : x = y := by
        have h1 := congrArg (· % WB) h
        simp only [Nat.add_mul_mod_self_left, Nat.mod_eq_of_lt hx, Nat.mod_eq_of_lt hy] at h1
        exact h1
      subst e1
      have e2 : val a = val b := Nat.eq_of_mul_eq_mul_left WB_pos (by omega)
      rw [ih ha.tail hb.tail (by simpa using hl) e2]

/-- The words of a number, the last one not 0. -/
noncomputable def digs (n : Nat) : List Nat := if _h : n = 0 then [] else n % WB :: digs (n / WB)
termination_by n
decreasing_by exact Nat.div_lt_self (Nat.pos_of_ne_zero _h) WB_two

theorem digs_zero : digs 0 = [] := by rw [digs]; simp
theorem digs_pos {n : Nat} (h : n ≠ 0) : digs n = n % WB :: digs (n / WB) := by rw [digs]; simp [h]
theorem val_digs (n : Nat) : val (digs n) = n := by
  induction n using Nat.strongRecOn with
  | _ n ih =>
    by_cases h : n = 0
    · subst h; rw [digs_zero]; rfl
    · rw [digs_pos h, val, ih _ (Nat.div_lt_self (Nat.pos_of_ne_zero h) WB_two)]
      exact Nat.mod_add_div n WB
theorem Wd_digs (n : Nat) : Wd (digs n) := by
  induction n using Nat.strongRecOn with
  | _ n ih =>
    by_cases h : n = 0
    · subst h; rw [digs_zero]; exact Wd.nil
    · rw [digs_pos h]
      exact Wd.cons (Nat.mod_lt _ WB_pos) (ih _ (Nat.div_lt_self (Nat.pos_of_ne_zero h) WB_two))
theorem digs_eq_nil {n : Nat} : digs n = [] ↔ n = 0 := by
  constructor
  · intro h; have := val_digs n; rw [h] at this; exact this.symm
  · rintro rfl; exact digs_zero
theorem digs_len_eq_zero {n : Nat} : (digs n).length = 0 ↔ n = 0 := by rw [List.length_eq_zero_iff, digs_eq_nil]
theorem digs_last {n : Nat} (h : digs n ≠ []) : (digs n).getLast h ≠ 0 := by
  induction n using Nat.strongRecOn with
  | _ n ih =>
    have hn : n ≠ 0 := fun e => h (digs_eq_nil.2 e)
    by_cases h1 : n / WB = 0
    · have e : digs n = [n % WB] := by rw [digs_pos hn, h1, digs_zero]
      have hlt : n < WB := by
        rcases Nat.lt_or_ge n WB with h' | h'
        · exact h'
        · have := (Nat.le_div_iff_mul_le WB_pos).2 (by omega : 1 * WB ≤ n); omega
      have : ∀ (l : List Nat) (hl : l ≠ []), l = [n % WB] → l.getLast hl ≠ 0 := by
        intro l hl e; subst e; simp; rw [Nat.mod_eq_of_lt hlt]; exact hn
      exact this _ h e
    · have hne : digs (n / WB) ≠ [] := fun e => h1 (digs_eq_nil.1 e)
      have hi := ih (n / WB) (Nat.div_lt_self (Nat.pos_of_ne_zero hn) WB_two) hne
      have : ∀ (l : List Nat) (hl : l ≠ []), l = n % WB :: digs (n / WB) → l.getLast hl ≠ 0 := by
        intro l hl e; subst e; rw [List.getLast_cons hne]; exact hi
      exact this _ h (digs_pos hn)
/-- Words whose last one is not 0 are those of their number. -/
theorem digs_val {l : List Nat} (h : Wd l) (hl : ∀ x, l.getLast? = some x → x ≠ 0) : digs (val l) = l := by
  induction l with
  | nil => exact digs_zero
  | cons x l ih =>
    have hx := h.head
    have hl' : ∀ y, l.getLast? = some y → y ≠ 0 := by
      intro y hy
      cases l with
      | nil => simp at hy
      | cons z l => exact hl y (by rw [List.getLast?_cons_cons]; exact hy)
    have hne : val (x :: l) ≠ 0 := by
      simp only [val]
      intro e
      have ex : x = 0 := by omega
      have ev : val l = 0 := by
        have : WB * val l = 0 := by omega
        rcases Nat.mul_eq_zero.1 this with h' | h'
        · exact absurd h' (Nat.ne_of_gt WB_pos)
        · exact h'
      cases l with
      | nil => exact hl x rfl ex
      | cons z l =>
        have := ih h.tail hl'
        rw [ev, digs_zero] at this
        cases this
    rw [digs_pos hne]
    have e1 : val (x :: l) % WB = x := by simp only [val, Nat.add_mul_mod_self_left, Nat.mod_eq_of_lt hx]
    have e2 : val (x :: l) / WB = val l := by
      simp only [val, Nat.add_mul_div_left _ _ WB_pos, Nat.div_eq_of_lt hx, Nat.zero_add]
    rw [e1, e2, ih h.tail hl']
theorem digs_len_le {n k : Nat} : (digs n).length ≤ k ↔ n < WB ^ k := by
  constructor
  · intro h
    have := val_lt (Wd_digs n)
    rw [val_digs] at this
    exact Nat.lt_of_lt_of_le this (Nat.pow_le_pow_right WB_pos h)
  · intro h
    induction k generalizing n with
    | zero => have : n = 0 := by simpa using h
              subst this; simp [digs_zero]
    | succ k ih =>
      by_cases hn : n = 0
      · subst hn; simp [digs_zero]
      · rw [digs_pos hn, List.length_cons]
        have : n / WB < WB ^ k := by
          rw [Nat.div_lt_iff_lt_mul WB_pos, ← Nat.pow_succ]; exact h
        have := ih this
        omega
theorem digs_len_mono {m n : Nat} (h : m ≤ n) : (digs m).length ≤ (digs n).length :=
  digs_len_le.2 (Nat.lt_of_le_of_lt h (by have := val_lt (Wd_digs n); rwa [val_digs] at this))
theorem lt_digs_len (n : Nat) : n < WB ^ (digs n).length := digs_len_le.1 (Nat.le_refl _)
/-- The least number with so many words. -/
theorem digs_ge {n : Nat} (h : n ≠ 0) : WB ^ ((digs n).length - 1) ≤ n := by
  rcases Nat.lt_or_ge n (WB ^ ((digs n).length - 1)) with h' | h'
  · have h1 := digs_len_le.2 h'
    have h2 : (digs n).length ≠ 0 := fun e => h (digs_len_eq_zero.1 e)
    omega
  · exact h'
/-- Noughts at the end do not count. -/
theorem val_append_zeros (l : List Nat) (k : Nat) : val (l ++ List.replicate k 0) = val l := by
  rw [val_append, val_zeros]; simp
theorem digs_take {l : List Nat} (h : Wd l) {i : Nat} (hi : i ≤ l.length) (hz : ∀ j, i ≤ j → j < l.length → l[j]? = some 0) (hl : i = 0 ∨ ∃ x, l[i - 1]? = some x ∧ x ≠ 0) :
    digs (val l) = l.take i := by
  have e : l = l.take i ++ List.replicate (l.length - i) 0 := by
    apply List.ext_getElem?
    intro j
    by_cases hj : j < i
    · rw [List.getElem?_append_left (by simp; omega), List.getElem?_take_of_lt hj]
    · rw [List.getElem?_append_right (by simp; omega)]
      by_cases hj2 : j < l.length
      · rw [hz j (by omega) hj2, List.getElem?_replicate]
        simp; omega
      · rw [List.getElem?_eq_none (by omega), List.getElem?_replicate]
        simp; omega
  have ev : val l = val (l.take i) := by
    have := val_append_zeros (l.take i) (l.length - i)
    rw [← e] at this; exact this
  rw [ev]
  apply digs_val (h.take i)
  intro x hx
  rcases hl with h0 | ⟨y, hy, hy0⟩
  · subst h0; simp at hx
  · have hi0 : i ≠ 0 := by
      intro e0; subst e0; simp at hx
    rw [List.getLast?_eq_getElem?] at hx
    have hlen : (l.take i).length = i := by simp; omega
    rw [hlen, List.getElem?_take_of_lt (by omega), hy] at hx
    cases hx; exact hy0

/-! Sums and differences of words with a carry, products in two words -/
noncomputable def adds (x y c : Nat) : Nat := (x + y + c) % WB
noncomputable def addc (x y c : Nat) : Nat := (x + y + c) / WB
noncomputable def subs (x y c : Nat) : Nat := (x + WB - y - c) % WB
def subc (x y c : Nat) : Nat := if x < y + c then 1 else 0
noncomputable def mulhi (x y : Nat) : Nat := x * y / WB
noncomputable def mullo (x y : Nat) : Nat := x * y % WB
theorem adds_lt (x y c : Nat) : adds x y c < WB := Nat.mod_lt _ WB_pos
theorem subs_lt (x y c : Nat) : subs x y c < WB := Nat.mod_lt _ WB_pos
theorem mullo_lt (x y : Nat) : mullo x y < WB := Nat.mod_lt _ WB_pos
theorem adds_addc (x y c : Nat) : adds x y c + WB * addc x y c = x + y + c := Nat.mod_add_div _ _
theorem addc_le {x y c : Nat} (hx : x < WB) (hy : y < WB) (hc : c ≤ 1) : addc x y c ≤ 1 := by
  unfold addc
  have : (x + y + c) / WB < 2 := by rw [Nat.div_lt_iff_lt_mul WB_pos]; omega
  omega
theorem subc_le (x y c : Nat) : subc x y c ≤ 1 := by unfold subc; split <;> omega
theorem subs_subc {x y c : Nat} (hx : x < WB) (hy : y < WB) (hc : c ≤ 1) : x + WB * subc x y c = subs x y c + y + c := by
  unfold subs subc
  split
  · rw [Nat.mod_eq_of_lt (by omega)]; omega
  · rw [show x + WB - y - c = (x - y - c) + WB by omega, Nat.add_mod_right, Nat.mod_eq_of_lt (by omega)]; omega
theorem mulhi_lt {x y : Nat} (hx : x < WB) (hy : y < WB) : mulhi x y < WB := by
  unfold mulhi
  rw [Nat.div_lt_iff_lt_mul WB_pos]
  exact Nat.mul_lt_mul'' hx hy
theorem mullo_mulhi (x y : Nat) : mullo x y + WB * mulhi x y = x * y := Nat.mod_add_div _ _
theorem add_step {r P c x y X Y s c' : Nat} (h : r + P * c = X + Y) (e : s + WB * c' = x + y + c) : r + P * s + P * WB * c' = X + P * x + (Y + P * y) := by
  have : P * s + P * WB * c' = P * (x + y + c) := by rw [Nat.mul_assoc, ← Nat.mul_add, e]
  have e2 : P * (x + y + c) = P * x + P * y + P * c := by rw [Nat.mul_add, Nat.mul_add]
  omega
theorem sub_step {r P c x y X Y s c' : Nat} (h : X + P * c = r + Y) (e : x + WB * c' = s + y + c) : X + P * x + P * WB * c' = r + P * s + (Y + P * y) := by
  have : P * x + P * WB * c' = P * (s + y + c) := by rw [Nat.mul_assoc, ← Nat.mul_add, e]
  have e2 : P * (s + y + c) = P * s + P * y + P * c := by rw [Nat.mul_add, Nat.mul_add]
  omega

end Go.Proofs.YtcoljeafgiemkaaGreatDoor

namespace Go.Proofs.YtcoljeafgiemkaaGreatDoor
open Go Go.RowKit

/-- A word as a value. -/
def uw (x : Nat) : Value := .int .u64 (x : Int)

/-- Block b holds just these words (154: the type of a word). -/
structure Arr (w : World) (b : Nat) (C : List Nat) : Prop where
  heap : w.heap[b]? = some (.cells (C.map uw).toArray 154 (0, 0))
  wd : Wd C

theorem Arr.cell {w : World} {b : Nat} {C : List Nat} (h : Arr w b C) {i x : Nat} (hx : C[i]? = some x) : w.cell? ⟨b, i, none⟩ = some (.int .u64 (x : Int)) := by
  have h := h.heap; unfold World.cell?; simp [h, hx, uw]
theorem Arr.cellN {w : World} {b : Nat} {C : List Nat} (h : Arr w b C) {i : Nat} (hi : i < C.length) : w.cell? ⟨b, i, none⟩ = some (.int .u64 (nth C i : Int)) := h.cell (get_nth hi)
theorem Arr.frozen {w : World} {b : Nat} {C : List Nat} (h : Arr w b C) (i : Nat) : w.frozen? ⟨b, i, none⟩ = false := by
  unfold World.frozen?; rw [h.heap]; simp
theorem Arr.lt {w : World} {b : Nat} {C : List Nat} (h : Arr w b C) : b < w.heap.size := by
  have h := h.heap
  rcases Nat.lt_or_ge b w.heap.size with h' | h'
  · exact h'
  · rw [Array.getElem?_eq_none h'] at h; cases h
theorem Arr.inj {w : World} {b : Nat} {C D : List Nat} (h : Arr w b C) (h' : Arr w b D) : C = D := by
  have h := h.heap
  have h' := h'.heap
  rw [h] at h'
  simp only [Option.some.injEq, Obj.cells.injEq, and_true] at h'
  have e := congrArg Array.toList h'
  simp only at e
  exact (List.map_inj_right (fun a b e => by unfold uw at e; simp at e; omega)).1 e
theorem Arr.drewN {w : World} {b : Nat} {C : List Nat} (h : Arr w b C) (n : Nat) : Arr (w.drewN n) b C := ⟨h.heap, h.wd⟩

/-- wr is w but for block b, which holds C. -/
structure Sub (w wr : World) (b : Nat) (C : List Nat) : Prop where
  arr : Arr wr b C
  block : ∀ k, k ≠ b → wr.heap[k]? = w.heap[k]?
  size : wr.heap.size = w.heap.size
  os : wr.os = w.os
  tape : wr.tape = w.tape
  output : wr.output = w.output

theorem Sub.refl {w : World} {b : Nat} {C : List Nat} (h : Arr w b C) : Sub w w b C := ⟨h, fun _ _ => rfl, rfl, rfl, rfl, rfl⟩
theorem Sub.drewN {w wr : World} {b : Nat} {C : List Nat} (h : Sub w wr b C) (n : Nat) : Sub w (wr.drewN n) b C := ⟨h.arr.drewN n, h.block, h.size, h.os, h.tape, h.output⟩
theorem Sub.drew {w wr : World} {b : Nat} {C : List Nat} (h : Sub w wr b C) : Sub w wr.drew b C := ⟨⟨h.arr.heap, h.arr.wd⟩, h.block, h.size, h.os, h.tape, h.output⟩
theorem Sub.other {w wr : World} {b k : Nat} {C D : List Nat} (h : Sub w wr b C) (hk : k ≠ b) (hD : Arr w k D) : Arr wr k D := ⟨by rw [h.block k hk]; exact hD.heap, hD.wd⟩
theorem Sub.set {w wr : World} {b : Nat} {C : List Nat} (h : Sub w wr b C) {i : Nat} (x : Nat) (hx : x < WB) : Sub w (wr.setCell ⟨b, i, none⟩ (.int .u64 (x : Int))) b (C.set i x) := by
  have ha := h.arr.heap
  refine ⟨⟨?_, h.arr.wd.set i x hx⟩, fun k hk => ?_, by rw [World.size_setCell]; exact h.size, h.os, h.tape, h.output⟩
  · simp only [World.setCell, Array.getElem?_modify, if_true, ha, Option.map_some]
    simp [List.map_set, uw]
  · rw [Below.heap_setCell _ _ _ _ hk]; exact h.block k hk
theorem Sub.trans {a b c : World} {k : Nat} {C D : List Nat} (h : Sub a b k C) (h' : Sub b c k D) : Sub a c k D :=
  ⟨h'.arr, fun i hi => (h'.block i hi).trans (h.block i hi), h'.size.trans h.size, h'.os.trans h.os, h'.tape.trans h.tape, h'.output.trans h.output⟩

/-- C with R laid over it from o on. -/
def spl (C : List Nat) (o : Nat) (R : List Nat) : List Nat := C.take o ++ R ++ C.drop (o + R.length)
theorem spl_length {C : List Nat} {o : Nat} {R : List Nat} (h : o + R.length ≤ C.length) : (spl C o R).length = C.length := by
  unfold spl; simp; omega
theorem spl_nil (C : List Nat) (o : Nat) : spl C o [] = C := by unfold spl; simp
theorem spl_lt {C : List Nat} {o : Nat} {R : List Nat} {j : Nat} (h : o + R.length ≤ C.length) (hj : j < o) : (spl C o R)[j]? = C[j]? := by
  unfold spl; rw [List.append_assoc, List.getElem?_append_left (by simp; omega), List.getElem?_take_of_lt hj]
theorem spl_ge {C : List Nat} {o : Nat} {R : List Nat} {j : Nat} (h : o + R.length ≤ C.length) (hj : o + R.length ≤ j) : (spl C o R)[j]? = C[j]? := by
  unfold spl; rw [List.getElem?_append_right (by simp; omega), List.getElem?_drop]; congr 1; simp; omega
theorem spl_mid {C : List Nat} {o : Nat} {R : List Nat} {j : Nat} (h : o + R.length ≤ C.length) (hj : j < R.length) : (spl C o R)[o + j]? = R[j]? := by
  unfold spl; rw [List.append_assoc, List.getElem?_append_right (by simp; omega), List.getElem?_append_left (by simp; omega)]; congr 1; simp; omega
theorem spl_next {C : List Nat} {o : Nat} {R : List Nat} (h : o + R.length < C.length) (x : Nat) : (spl C o R).set (o + R.length) x = spl C o (R ++ [x]) := by
  apply List.ext_getElem?
  intro j
  rw [List.getElem?_set]
  split
  · rename_i e; subst e
    rw [if_pos (by rw [spl_length (by omega)]; exact h), spl_mid (by simp; omega) (by simp)]
    simp
  · rename_i e
    by_cases h1 : j < o
    · rw [spl_lt (by omega) h1, spl_lt (by simp; omega) h1]
    · by_cases h2 : j < o + R.length
      · obtain ⟨d, rfl⟩ : ∃ d, j = o + d := ⟨j - o, by omega⟩
        rw [spl_mid (by omega) (by omega), spl_mid (by simp; omega) (by simp; omega), List.getElem?_append_left (by omega)]
      · rw [spl_ge (by omega) (by omega), spl_ge (by simp; omega) (by simp; omega)]
/-- One word more at the front. -/
theorem spl_prev {C : List Nat} {o : Nat} {R : List Nat} (h : o + 1 + R.length ≤ C.length) (x : Nat) : (spl C (o + 1) R).set o x = spl C o (x :: R) := by
  apply List.ext_getElem?
  intro j
  rw [List.getElem?_set]
  split
  · rename_i e; subst e
    rw [if_pos (by rw [spl_length (by omega)]; omega)]
    have := spl_mid (C := C) (o := o) (R := x :: R) (j := 0) (by simp; omega) (by simp)
    rw [Nat.add_zero] at this; rw [this]; rfl
  · rename_i e
    by_cases h1 : j < o
    · rw [spl_lt (by omega) (by omega), spl_lt (by simp; omega) h1]
    · by_cases h2 : j < o + 1 + R.length
      · obtain ⟨d, rfl⟩ : ∃ d, j = o + 1 + d := ⟨j - (o + 1), by omega⟩
        rw [spl_mid (by omega) (by omega), show o + 1 + d = o + (d + 1) by omega, spl_mid (by simp; omega) (by simp; omega)]
        rfl
      · rw [spl_ge (by omega) (by omega), spl_ge (by simp; omega) (by simp; omega)]
theorem nth_spl_lt {C : List Nat} {o : Nat} {R : List Nat} {j : Nat} (h : o + R.length ≤ C.length) (hj : j < o) : nth (spl C o R) j = nth C j := by unfold nth; rw [spl_lt h hj]
theorem nth_spl_ge {C : List Nat} {o : Nat} {R : List Nat} {j : Nat} (h : o + R.length ≤ C.length) (hj : o + R.length ≤ j) : nth (spl C o R) j = nth C j := by unfold nth; rw [spl_ge h hj]
theorem nth_spl_mid {C : List Nat} {o : Nat} {R : List Nat} {j : Nat} (h : o + R.length ≤ C.length) (hj : j < R.length) : nth (spl C o R) (o + j) = nth R j := by unfold nth; rw [spl_mid h hj]
theorem Wd_spl {C : List Nat} {o : Nat} {R : List Nat} (h : Wd C) (hr : Wd R) : Wd (spl C o R) := ((h.take o).append hr).append (h.drop _)
theorem spl_spl_next {C : List Nat} {o : Nat} {R S : List Nat} (h : o + R.length + S.length ≤ C.length) : spl (spl C o R) (o + R.length) S = spl C o (R ++ S) := by
  apply List.ext_getElem?
  intro j
  have l1 : (spl C o R).length = C.length := spl_length (by omega)
  by_cases h1 : j < o
  · rw [spl_lt (by omega) (by omega), spl_lt (by omega) h1, spl_lt (by simp; omega) h1]
  · by_cases h2 : j < o + R.length
    · obtain ⟨d, rfl⟩ : ∃ d, j = o + d := ⟨j - o, by omega⟩
      rw [spl_lt (by omega) (by omega), spl_mid (by omega) (by omega), spl_mid (by simp; omega) (by simp; omega), List.getElem?_append_left (by omega)]
    · by_cases h3 : j < o + R.length + S.length
      · obtain ⟨d, rfl⟩ : ∃ d, j = o + R.length + d := ⟨j - (o + R.length), by omega⟩
        rw [spl_mid (by omega) (by omega), Nat.add_assoc, spl_mid (by simp; omega) (by simp; omega), List.getElem?_append_right (by omega)]
        congr 1; omega
      · rw [spl_ge (by omega) (by omega), spl_ge (by omega) (by omega), spl_ge (by simp; omega) (by simp; omega)]
theorem spl_all {C R : List Nat} (h : R.length = C.length) : spl C 0 R = R := by unfold spl; simp [h]
theorem spl_take_drop {C R : List Nat} {o : Nat} (h : o + R.length ≤ C.length) : ((spl C o R).drop o).take R.length = R := by
  apply List.ext_getElem?
  intro j
  by_cases hj : j < R.length
  · rw [List.getElem?_take_of_lt hj, List.getElem?_drop, spl_mid h hj]
  · rw [List.getElem?_eq_none (by simp; omega), List.getElem?_eq_none (by omega)]

theorem Sub.next {w wr : World} {b o k : Nat} {C R : List Nat} (h : Sub w wr b (spl C o R)) (hk : R.length = k) (hl : o + k < C.length) (x : Nat) (hx : x < WB) :
    Sub w (wr.setCell ⟨b, o + k, none⟩ (.int .u64 (x : Int))) b (spl C o (R ++ [x])) := by
  subst hk
  have := h.set (i := o + R.length) x hx
  rwa [spl_next hl] at this

/-- A row X of words that is read while the words of block bz from oz on are written, one after the other. -/
def Rd (w : World) (bz oz n : Nat) (Cz : List Nat) (bx ox : Nat) (X : List Nat) : Prop :=
  ∀ wr R, Sub w wr bz (spl Cz oz R) → R.length < n → wr.cell? ⟨bx, ox + R.length, none⟩ = some (.int .u64 (nth X R.length : Int))
theorem Rd.mk {w : World} {bz oz n : Nat} {Cz : List Nat} {bx ox : Nat} {Cx : List Nat} (hz : Arr w bz Cz) (_lz : oz + n ≤ Cz.length) (hx : Arr w bx Cx) (lx : ox + n ≤ Cx.length)
    (hs : bx ≠ bz ∨ oz ≤ ox) : Rd w bz oz n Cz bx ox ((Cx.drop ox).take n) := by
  intro wr R hS hR
  rw [nth_take hR, nth_drop]
  by_cases e : bx = bz
  · subst e
    have hle : oz ≤ ox := by
      rcases hs with h | h
      · exact absurd rfl h
      · exact h
    obtain rfl := hz.inj hx
    have := hS.arr.cellN (i := ox + R.length) (by rw [spl_length (by omega)]; omega)
    rw [this, nth_spl_ge (by omega) (by omega)]
  · exact (hS.other e hx).cellN (by omega)

theorem ret_i {k : IntKind} {a b : Int} (h : a = b) : Ending.returned (.int k a) = .returned (.int k b) := by rw [h]
theorem ret2_i {k k' : IntKind} {a b c d : Int} (h : a = b) (h' : c = d) : Ending.returned (.tuple #[.int k a, .int k' c]) = .returned (.tuple #[.int k b, .int k' d]) := by rw [h, h']

end Go.Proofs.YtcoljeafgiemkaaGreatDoor

namespace Go.Proofs.YtcoljeafgiemkaaGreatDoor
open Go Go.RowKit

theorem run_Add64 (x y c : Nat) (hx : x < WB) (hy : y < WB) (hc : c ≤ 1) (w : World) :
    (callFunc 266 #[.int .u64 x, .int .u64 y, .int .u64 c]).run Tryz.prog w =
      .ok (.value (.tuple #[.int .u64 (adds x y c : Int), .int .u64 (addc x y c : Int)])) w := by
  unfold adds addc
  rw [run_callFunc_extern Tryz.func266 (by kernel_rfl) (by kernel_rfl) (by kernel_rfl) (e := add64Entry) (by kernel_rfl)]
  rw [WB_eq] at *
  rw [run_add64 x y c (by omega) (by omega) (by omega) (by omega)]
  simp only [Result.andThen]
  congr 5 <;> omega

theorem run_Sub64 (x y c : Nat) (hc : c ≤ 1) (w : World) :
    (callFunc 268 #[.int .u64 x, .int .u64 y, .int .u64 c]).run Tryz.prog w =
      .ok (.value (.tuple #[.int .u64 (subs x y c : Int), .int .u64 (subc x y c : Int)])) w := by
  unfold subs subc
  rw [run_callFunc_extern Tryz.func268 (by kernel_rfl) (by kernel_rfl) (by kernel_rfl) (e := sub64Entry) (by kernel_rfl)]
  rw [WB_eq] at *
  rw [run_sub64 x y c hc]
  rfl

set_option maxHeartbeats 400000 in
theorem bits_Add (x y c : Nat) (hx : x < WB) (hy : y < WB) (hc : c ≤ 1) (w : World) :
    Calls Tryz.prog 239 #[.int .u64 x, .int .u64 y, .int .u64 c] w fun e w' => e = .returned (.tuple #[.int .u64 (adds x y c : Int), .int .u64 (addc x y c : Int)]) ∧ w' = w := by
  have H := run_Add64 x y c hx hy hc
  go_enter Tryz.func239, Tryz.ntmps239
  go_wp2
  go_ret2
  exact ⟨rfl, rfl⟩

set_option maxHeartbeats 400000 in
theorem bits_Sub (x y c : Nat) (hc : c ≤ 1) (w : World) :
    Calls Tryz.prog 241 #[.int .u64 x, .int .u64 y, .int .u64 c] w fun e w' => e = .returned (.tuple #[.int .u64 (subs x y c : Int), .int .u64 (subc x y c : Int)]) ∧ w' = w := by
  have H := run_Sub64 x y c hc
  go_enter Tryz.func241, Tryz.ntmps241
  go_wp2
  go_ret2
  exact ⟨rfl, rfl⟩

namespace M64
theorem maskN (a : Nat) (ha : a < 18446744073709551616) : bits .and .u64 (a : Int) 4294967295 = ((a % 4294967296 : Nat) : Int) := by
  have h := bits_and_u64_nat a 4294967295 ha (by omega)
  have e : a &&& 4294967295 = a % 4294967296 := Nat.and_two_pow_sub_one_eq_mod a 32
  rw [e] at h
  exact h
theorem divN (a : Nat) : (a : Int) / 4294967296 = ((a / 4294967296 : Nat) : Int) := by omega
theorem mulN (a b : Nat) : (a : Int) * (b : Int) = ((a * b : Nat) : Int) := (Int.natCast_mul a b).symm
theorem addN (a b : Nat) : (a : Int) + (b : Int) = ((a + b : Nat) : Int) := (Int.natCast_add a b).symm
theorem wrapN (a : Nat) (ha : a < 18446744073709551616) : IntKind.u64.wrap (a : Int) = (a : Int) := by rw [IntKind.wrap_u64]; omega
theorem wrapM (a : Nat) : IntKind.u64.wrap (a : Int) = ((a % 18446744073709551616 : Nat) : Int) := by rw [IntKind.wrap_u64]; omega
end M64

set_option maxHeartbeats 1000000 in
theorem bits_Mul64 (x y : Nat) (hx : x < WB) (hy : y < WB) (w : World) :
    Calls Tryz.prog 272 #[.int .u64 x, .int .u64 y] w fun e w' => e = .returned (.tuple #[.int .u64 (mulhi x y : Int), .int .u64 (mullo x y : Int)]) ∧ w' = w := by
  unfold mulhi mullo
  rw [WB_eq] at *
  obtain ⟨bd, bt, bw, hhi⟩ := Lib.mul64_hi x y hx hy
  have ba := Lib.half_mul_le (a := x / 4294967296) (b := y / 4294967296) (by omega) (by omega)
  have bb := Lib.half_mul_le (a := x / 4294967296) (b := y % 4294967296) (by omega) (by omega)
  have bc := Lib.half_mul_le (a := x % 4294967296) (b := y / 4294967296) (by omega) (by omega)
  have ba' : x / 4294967296 * (y / 4294967296) < 18446744073709551616 := by omega
  have bb' : x / 4294967296 * (y % 4294967296) < 18446744073709551616 := by omega
  have bc' : x % 4294967296 * (y / 4294967296) < 18446744073709551616 := by omega
  have bh1 : x / 4294967296 * (y / 4294967296) + (x / 4294967296 * (y % 4294967296) + x % 4294967296 * (y % 4294967296) / 4294967296) / 4294967296 < 18446744073709551616 := by omega
  have bh : x / 4294967296 * (y / 4294967296) + (x / 4294967296 * (y % 4294967296) + x % 4294967296 * (y % 4294967296) / 4294967296) / 4294967296 + ((x / 4294967296 * (y % 4294967296) + x % 4294967296 * (y % 4294967296) / 4294967296) % 4294967296 + x % 4294967296 * (y / 4294967296)) / 4294967296 < 18446744073709551616 := by omega
  go_enter Tryz.func272, Tryz.ntmps272
  go_wp2
  simp only [M64.maskN x hx, M64.maskN y hy, M64.divN, M64.mulN, M64.addN, M64.wrapN _ bd, M64.wrapN _ bb', M64.wrapN _ bt, M64.maskN _ bt, M64.wrapN _ bc', M64.wrapN _ bw, M64.wrapN _ ba', M64.wrapN _ bh1, M64.wrapN _ bh, M64.wrapM (x * y)]
  rw [hhi]
  go_ret2
  exact ⟨rfl, rfl⟩

set_option maxHeartbeats 400000 in
theorem bits_Mul (x y : Nat) (hx : x < WB) (hy : y < WB) (w : World) :
    Calls Tryz.prog 244 #[.int .u64 x, .int .u64 y] w fun e w' => e = .returned (.tuple #[.int .u64 (mulhi x y : Int), .int .u64 (mullo x y : Int)]) ∧ w' = w := by
  go_enter Tryz.func244, Tryz.ntmps244
  go_wp2_with (go_at_call 272; refine (bits_Mul64 x y hx hy _).mono ?_; rintro e w' ⟨rfl, rfl⟩)
  go_ret2
  exact ⟨rfl, rfl⟩

set_option maxHeartbeats 400000 in
theorem mulWW_c (x y : Nat) (hx : x < WB) (hy : y < WB) (w : World) :
    Calls Tryz.prog 214 #[.int .u64 x, .int .u64 y] w fun e w' => e = .returned (.tuple #[.int .u64 (mulhi x y : Int), .int .u64 (mullo x y : Int)]) ∧ w' = w := by
  go_enter Tryz.func214, Tryz.ntmps214
  go_wp2_with (go_at_call 244; refine (bits_Mul x y hx hy _).mono ?_; rintro e w' ⟨rfl, rfl⟩)
  go_ret2
  exact ⟨rfl, rfl⟩

/-- The product of two words and a third one, in two words. -/
noncomputable def mac1 (x y c : Nat) : Nat := (x * y + c) / WB
noncomputable def mac0 (x y c : Nat) : Nat := (x * y + c) % WB
theorem mac_eq (x y c : Nat) : mac0 x y c + WB * mac1 x y c = x * y + c := Nat.mod_add_div _ _
theorem mac0_lt (x y c : Nat) : mac0 x y c < WB := Nat.mod_lt _ WB_pos
theorem mac_bound {x y c d : Nat} (hx : x < WB) (hy : y < WB) (hc : c < WB) (hd : d < WB) : x * y + c + d < WB * WB := by
  have h1 : x * y ≤ (WB - 1) * (WB - 1) := Nat.mul_le_mul (by omega) (by omega)
  have h2 : (WB - 1) * (WB - 1) + (WB - 1) + (WB - 1) < WB * WB := by rw [WB_eq]; decide
  omega
theorem mac1_lt {x y c : Nat} (hx : x < WB) (hy : y < WB) (hc : c < WB) : mac1 x y c < WB := by
  unfold mac1
  rw [Nat.div_lt_iff_lt_mul WB_pos]
  have := mac_bound hx hy hc WB_pos
  omega
theorem mac_of (x y c : Nat) (_hx : x < WB) (_hy : y < WB) (_hc : c < WB) : mulhi x y + addc (mullo x y) c 0 = mac1 x y c ∧ adds (mullo x y) c 0 = mac0 x y c := by
  have e1 := mullo_mulhi x y
  have e2 := adds_addc (mullo x y) c 0
  have e3 := mac_eq x y c
  have l1 := adds_lt (mullo x y) c 0
  have l2 := mac0_lt x y c
  have e : mac0 x y c + WB * mac1 x y c = adds (mullo x y) c 0 + WB * (mulhi x y + addc (mullo x y) c 0) := by rw [Nat.mul_add]; omega
  have a := congrArg (· % WB) e
  simp only [Nat.add_mul_mod_self_left, Nat.mod_eq_of_lt l1, Nat.mod_eq_of_lt l2] at a
  have b : mac1 x y c = mulhi x y + addc (mullo x y) c 0 := Nat.eq_of_mul_eq_mul_left WB_pos (by omega)
  exact ⟨b.symm, a.symm⟩

theorem wrap_u64_nat (a : Nat) (h : a < WB) : IntKind.u64.wrap (a : Int) = (a : Int) := by rw [WB_eq] at h; rw [IntKind.wrap_u64]; omega

set_option maxHeartbeats 400000 in
theorem mulAddWWW_g_c (x y c : Nat) (hx : x < WB) (hy : y < WB) (hc : c < WB) (w : World) :
    Calls Tryz.prog 290 #[.int .u64 x, .int .u64 y, .int .u64 c] w fun e w' => e = .returned (.tuple #[.int .u64 (mac1 x y c : Int), .int .u64 (mac0 x y c : Int)]) ∧ w' = w := by
  have H := mac_of x y c hx hy hc
  have L := mac1_lt hx hy hc
  obtain ⟨H1, H2⟩ := H
  have HH1 := Lib.hid H1
  have HH2 := Lib.hid H2
  have HL := Lib.hid L
  clear H1 H2 L
  have hl := mullo_lt x y
  go_enter Tryz.func290, Tryz.ntmps290
  go_wp2_with (first
    | (go_at_call 244; refine (bits_Mul x y hx hy _).mono ?_; rintro e w' ⟨rfl, rfl⟩)
    | (go_at_call 239; refine (bits_Add (mullo x y) c 0 hl hc (by omega) _).mono ?_; rintro e w' ⟨rfl, rfl⟩))
  go_ret2
  refine ⟨ret2_i ?_ ?_, rfl⟩
  · rw [← Int.natCast_add, HH1.out]; exact wrap_u64_nat _ HL.out
  · rw [HH2.out]

end Go.Proofs.YtcoljeafgiemkaaGreatDoor

namespace Go.Proofs.YtcoljeafgiemkaaGreatDoor
open Go Go.RowKit

set_option maxHeartbeats 400000 in
theorem addVV_g_c (w : World) (bz oz n cz bx ox cx by_ oy cy : Nat) (Cz X Y : List Nat) (hn : n < 1000000)
    (hz : Arr w bz Cz) (hzl : oz + n ≤ Cz.length) (hX : X.length = n) (hY : Y.length = n) (WX : Wd X) (WY : Wd Y)
    (hx : Rd w bz oz n Cz bx ox X) (hy : Rd w bz oz n Cz by_ oy Y) :
    Calls Tryz.prog 238 #[.slice (some ⟨bz, oz, none⟩) n cz, .slice (some ⟨bx, ox, none⟩) n cx, .slice (some ⟨by_, oy, none⟩) n cy] w fun e w' =>
      ∃ R c, e = .returned (.int .u64 ((c : Nat) : Int)) ∧ Sub w w' bz (spl Cz oz R) ∧ R.length = n ∧ c ≤ 1 ∧ val R + WB ^ n * c = val X + val Y := by
  have hx := Lib.hid hx
  have hy := Lib.hid hy
  go_enter Tryz.func238, Tryz.ntmps238
  go_wp2
  go_loopw [6, 25] (fun c i wr => ∃ k cc : Nat, k ≤ n ∧ i = .int .i64 k ∧ c = .int .u64 cc ∧ ∃ R : List Nat, R.length = k ∧ cc ≤ 1 ∧ val R + WB ^ k * cc = val (X.take k) + val (Y.take k) ∧ Sub w wr bz (spl Cz oz R)) (fun _ i _ => n - (intOf i).toNat)
  case atStart => exact ⟨0, 0, Nat.zero_le _, rfl, rfl, [], rfl, by omega, by simp, by rw [spl_nil]; exact Sub.refl hz⟩
  case round =>
    obtain ⟨k, cc, hk, rfl, rfl, R, hR1, hc, hR3, hS⟩ := hrel
    by_cases hlt : k < n
    · have hx1 := hx.out wr R hS (by omega)
      have hy1 := hy.out wr R hS (by omega)
      rw [hR1] at hx1 hy1
      have hwx := WX.nth k
      have hwy := WY.nth k
      have hz1 := hS.arr.cellN (i := oz + k) (by rw [spl_length (by omega)]; omega)
      have hz2 := hS.arr.frozen (oz + k)
      go_wp2
      go_quiet ((go_at_call 239; exact Calls.quiet_of_same (bits_Add _ _ _ hwx hwy hc _)))
      go_wp2
      go_roundw
      case rel =>
        refine ⟨k + 1, addc (nth X k) (nth Y k) cc, by omega, by go_num, rfl, R ++ [adds (nth X k) (nth Y k) cc], by simp [hR1], addc_le hwx hwy hc, ?_, ?_⟩
        · rw [val_snoc, hR1, val_take_succ (by omega), val_take_succ (by omega)]
          exact add_step hR3 (adds_addc _ _ _)
        · exact (hS.drewN nq).next hR1 (by omega) _ (adds_lt _ _ _)
      case measure => simp [intOf]; omega
    · go_wp2
      go_ret
      obtain rfl : k = n := by omega
      refine ⟨R, cc, rfl, hS, hR1, hc, ?_⟩
      rw [hR3, List.take_of_length_le (by omega), List.take_of_length_le (by omega)]

set_option maxHeartbeats 400000 in
theorem subVV_g_c (w : World) (bz oz n cz bx ox cx by_ oy cy : Nat) (Cz X Y : List Nat) (hn : n < 1000000)
    (hz : Arr w bz Cz) (hzl : oz + n ≤ Cz.length) (hX : X.length = n) (hY : Y.length = n) (WX : Wd X) (WY : Wd Y)
    (hx : Rd w bz oz n Cz bx ox X) (hy : Rd w bz oz n Cz by_ oy Y) :
    Calls Tryz.prog 240 #[.slice (some ⟨bz, oz, none⟩) n cz, .slice (some ⟨bx, ox, none⟩) n cx, .slice (some ⟨by_, oy, none⟩) n cy] w fun e w' =>
      ∃ R c, e = .returned (.int .u64 ((c : Nat) : Int)) ∧ Sub w w' bz (spl Cz oz R) ∧ R.length = n ∧ Wd R ∧ c ≤ 1 ∧ val X + WB ^ n * c = val R + val Y := by
  have hx := Lib.hid hx
  have hy := Lib.hid hy
  go_enter Tryz.func240, Tryz.ntmps240
  go_wp2
  go_loopw [6, 25] (fun c i wr => ∃ k cc : Nat, k ≤ n ∧ i = .int .i64 k ∧ c = .int .u64 cc ∧ ∃ R : List Nat, R.length = k ∧ Wd R ∧ cc ≤ 1 ∧ val (X.take k) + WB ^ k * cc = val R + val (Y.take k) ∧ Sub w wr bz (spl Cz oz R)) (fun _ i _ => n - (intOf i).toNat)
  case atStart => exact ⟨0, 0, Nat.zero_le _, rfl, rfl, [], rfl, Wd.nil, by omega, by simp, by rw [spl_nil]; exact Sub.refl hz⟩
  case round =>
    obtain ⟨k, cc, hk, rfl, rfl, R, hR1, hW, hc, hR3, hS⟩ := hrel
    by_cases hlt : k < n
    · have hx1 := hx.out wr R hS (by omega)
      have hy1 := hy.out wr R hS (by omega)
      rw [hR1] at hx1 hy1
      have hwx := WX.nth k
      have hwy := WY.nth k
      have hz1 := hS.arr.cellN (i := oz + k) (by rw [spl_length (by omega)]; omega)
      have hz2 := hS.arr.frozen (oz + k)
      go_wp2
      go_quiet ((go_at_call 241; exact Calls.quiet_of_same (bits_Sub _ _ _ hc _)))
      go_wp2
      go_roundw
      case rel =>
        refine ⟨k + 1, subc (nth X k) (nth Y k) cc, by omega, by go_num, rfl, R ++ [subs (nth X k) (nth Y k) cc], by simp [hR1], hW.append (Wd.cons (subs_lt _ _ _) Wd.nil), subc_le _ _ _, ?_, ?_⟩
        · rw [val_snoc, hR1, val_take_succ (by omega), val_take_succ (by omega)]
          exact sub_step hR3 (subs_subc hwx hwy hc)
        · exact (hS.drewN nq).next hR1 (by omega) _ (subs_lt _ _ _)
      case measure => simp [intOf]; omega
    · go_wp2
      go_ret
      obtain rfl : k = n := by omega
      refine ⟨R, cc, rfl, hS, hR1, hW, hc, ?_⟩
      rw [List.take_of_length_le (by omega), List.take_of_length_le (by omega)] at hR3
      exact hR3

theorem mul_step {r P c x X y s c' r0 : Nat} (h : r + P * c = X * y + r0) (e : s + WB * c' = x * y + c) : r + P * s + P * WB * c' = (X + P * x) * y + r0 := by
  have : P * s + P * WB * c' = P * (x * y + c) := by rw [Nat.mul_assoc, ← Nat.mul_add, e]
  rw [Nat.mul_add] at this
  rw [Nat.add_mul, Nat.mul_assoc P x y]
  omega

set_option maxHeartbeats 400000 in
/-- z = x * y + r, with a carry. -/
theorem mulAddVWW_g_c (w : World) (bz oz n cz bx ox cx y r : Nat) (Cz X : List Nat) (hn : n < 1000000)
    (hz : Arr w bz Cz) (hzl : oz + n ≤ Cz.length) (hX : X.length = n) (WX : Wd X) (hwy : y < WB) (hwr : r < WB)
    (hx : Rd w bz oz n Cz bx ox X) :
    Calls Tryz.prog 274 #[.slice (some ⟨bz, oz, none⟩) n cz, .slice (some ⟨bx, ox, none⟩) n cx, .int .u64 y, .int .u64 r] w fun e w' =>
      ∃ R c, e = .returned (.int .u64 ((c : Nat) : Int)) ∧ Sub w w' bz (spl Cz oz R) ∧ R.length = n ∧ c < WB ∧ val R + WB ^ n * c = val X * y + r := by
  have hx := Lib.hid hx
  go_enter Tryz.func274, Tryz.ntmps274
  go_wp2
  go_loopw [8, 19] (fun c i wr => ∃ k cc : Nat, k ≤ n ∧ i = .int .i64 k ∧ c = .int .u64 cc ∧ ∃ R : List Nat, R.length = k ∧ cc < WB ∧ val R + WB ^ k * cc = val (X.take k) * y + r ∧ Sub w wr bz (spl Cz oz R)) (fun _ i _ => n - (intOf i).toNat)
  case atStart => exact ⟨0, r, Nat.zero_le _, rfl, rfl, [], rfl, hwr, by simp, by rw [spl_nil]; exact Sub.refl hz⟩
  case round =>
    obtain ⟨k, cc, hk, rfl, rfl, R, hR1, hc, hR3, hS⟩ := hrel
    by_cases hlt : k < n
    · have hx1 := hx.out wr R hS (by omega)
      rw [hR1] at hx1
      have hwx := WX.nth k
      have hz1 := hS.arr.cellN (i := oz + k) (by rw [spl_length (by omega)]; omega)
      have hz2 := hS.arr.frozen (oz + k)
      go_wp2_with (go_at_call 290; refine (mulAddWWW_g_c _ _ _ hwx hwy hc _).mono ?_; rintro e w' ⟨rfl, rfl⟩)
      go_roundw
      case rel =>
        refine ⟨k + 1, mac1 (nth X k) y cc, by omega, by go_num, rfl, R ++ [mac0 (nth X k) y cc], by simp [hR1], mac1_lt hwx hwy hc, ?_, ?_⟩
        · rw [val_snoc, hR1, val_take_succ (by omega)]
          exact mul_step hR3 (mac_eq _ _ _)
        · exact hS.next hR1 (by omega) _ (mac0_lt _ _ _)
      case measure => simp [intOf]; omega
    · go_wp2
      go_ret
      obtain rfl : k = n := by omega
      refine ⟨R, cc, rfl, hS, hR1, hc, ?_⟩
      rw [hR3, List.take_of_length_le (by omega)]

theorem macc_step {r P c x X y Y m s z1 z0 cc a : Nat} (h : r + P * c = X + Y * m + a) (e1 : z0 + WB * z1 = y * m + x) (e2 : s + WB * cc = z0 + c) :
    r + P * s + P * WB * (cc + z1) = X + P * x + (Y + P * y) * m + a := by
  have h1 : P * s + P * WB * cc = P * (z0 + c) := by rw [Nat.mul_assoc, ← Nat.mul_add, e2]
  have h2 : P * z0 + P * WB * z1 = P * (y * m + x) := by rw [Nat.mul_assoc, ← Nat.mul_add, e1]
  rw [Nat.mul_add] at h1 h2
  rw [Nat.mul_add, Nat.add_mul, Nat.mul_assoc P y m]
  omega

/-- The carry of a product with two sums. -/
theorem macc_lt {x y m c : Nat} (hx : x < WB) (hy : y < WB) (hm : m < WB) (hc : c < WB) : addc (mac0 y m x) c 0 + mac1 y m x < WB := by
  have b := mac_bound hy hm hx hc
  have e1 := mac_eq y m x
  have e2 := adds_addc (mac0 y m x) c 0
  have : WB * (addc (mac0 y m x) c 0 + mac1 y m x) < WB * WB := by rw [Nat.mul_add]; omega
  exact Nat.lt_of_mul_lt_mul_left this

set_option maxHeartbeats 800000 in
/-- z = x + y * m + a, with a carry. -/
theorem addMulVVWW_g_c (w : World) (bz oz n cz bx ox cx by_ oy cy m a : Nat) (Cz X Y : List Nat) (hn : n < 1000000)
    (hz : Arr w bz Cz) (hzl : oz + n ≤ Cz.length) (hX : X.length = n) (hY : Y.length = n) (WX : Wd X) (WY : Wd Y) (hwm : m < WB) (hwa : a < WB)
    (hx : Rd w bz oz n Cz bx ox X) (hy : Rd w bz oz n Cz by_ oy Y) :
    Calls Tryz.prog 273 #[.slice (some ⟨bz, oz, none⟩) n cz, .slice (some ⟨bx, ox, none⟩) n cx, .slice (some ⟨by_, oy, none⟩) n cy, .int .u64 m, .int .u64 a] w fun e w' =>
      ∃ R c, e = .returned (.int .u64 ((c : Nat) : Int)) ∧ Sub w w' bz (spl Cz oz R) ∧ R.length = n ∧ c < WB ∧ val R + WB ^ n * c = val X + val Y * m + a := by
  have hx := Lib.hid hx
  have hy := Lib.hid hy
  go_enter Tryz.func273, Tryz.ntmps273
  go_wp2
  go_loopw [10, 32] (fun c i wr => ∃ k cc : Nat, k ≤ n ∧ i = .int .i64 k ∧ c = .int .u64 cc ∧ ∃ R : List Nat, R.length = k ∧ cc < WB ∧ val R + WB ^ k * cc = val (X.take k) + val (Y.take k) * m + a ∧ Sub w wr bz (spl Cz oz R)) (fun _ i _ => n - (intOf i).toNat)
  case atStart => exact ⟨0, a, Nat.zero_le _, rfl, rfl, [], rfl, hwa, by simp, by rw [spl_nil]; exact Sub.refl hz⟩
  case round =>
    obtain ⟨k, cc, hk, rfl, rfl, R, hR1, hc, hR3, hS⟩ := hrel
    by_cases hlt : k < n
    · have hx1 := hx.out wr R hS (by omega)
      have hy1 := hy.out wr R hS (by omega)
      rw [hR1] at hx1 hy1
      have hwx := WX.nth k
      have hwy := WY.nth k
      have hz1 := hS.arr.cellN (i := oz + k) (by rw [spl_length (by omega)]; omega)
      have hz2 := hS.arr.frozen (oz + k)
      have hl := mac0_lt (nth Y k) m (nth X k)
      have hmc := Lib.hid (macc_lt hwx hwy hwm hc)
      have hR3 := Lib.hid hR3
      have hR1 := Lib.hid hR1
      go_wp2
      go_quiet ((go_at_call 290; exact Calls.quiet_of_same (mulAddWWW_g_c _ _ _ hwy hwm hwx _)))
      go_wp2_with (go_at_call 239; refine (bits_Add _ _ 0 hl hc (by omega) _).mono ?_; rintro e w' ⟨rfl, rfl⟩)
      go_roundw
      case rel =>
        refine ⟨k + 1, addc (mac0 (nth Y k) m (nth X k)) cc 0 + mac1 (nth Y k) m (nth X k), by omega, by go_num, ?_, R ++ [adds (mac0 (nth Y k) m (nth X k)) cc 0], by simp [hR1.out], hmc.out, ?_, ?_⟩
        · show Value.int .u64 (IntKind.u64.wrap _) = _
          rw [← Int.natCast_add, wrap_u64_nat _ hmc.out]
        · rw [val_snoc, hR1.out, val_take_succ (by omega), val_take_succ (by omega)]
          exact macc_step hR3.out (mac_eq _ _ _) (adds_addc _ _ _)
        · exact (hS.drewN nq).next hR1.out (by omega) _ (adds_lt _ _ _)
      case measure => simp [intOf]; omega
    · go_wp2
      go_ret
      obtain rfl : k = n := by omega
      refine ⟨R, cc, rfl, hS, hR1, hc, ?_⟩
      rw [hR3, List.take_of_length_le (by omega), List.take_of_length_le (by omega)]

end Go.Proofs.YtcoljeafgiemkaaGreatDoor

namespace Go.Proofs.YtcoljeafgiemkaaGreatDoor
open Go Go.RowKit

def shrw (x t : Nat) : Nat := x / 2 ^ t
noncomputable def shlw (x t : Nat) : Nat := x * 2 ^ t % WB
def orw (x y : Nat) : Nat := x ||| y
theorem WB_two_pow : WB = 2 ^ 64 := by rw [WB_eq]
theorem shrw_le (x t : Nat) : shrw x t ≤ x := Nat.div_le_self _ _
theorem shrw_lt {x : Nat} (t : Nat) (h : x < WB) : shrw x t < WB := Nat.lt_of_le_of_lt (shrw_le _ _) h
theorem shlw_lt (x t : Nat) : shlw x t < WB := Nat.mod_lt _ WB_pos
theorem orw_lt {x y : Nat} (hx : x < WB) (hy : y < WB) : orw x y < WB := by
  rw [WB_two_pow] at *; exact Nat.or_lt_two_pow hx hy
/-- The two parts of a word times a power of two. -/
theorem shl_shr {x s t : Nat} (hst : s + t = 64) : shlw x s + WB * shrw x t = x * 2 ^ s := by
  unfold shlw shrw
  have e : x / 2 ^ t = x * 2 ^ s / WB := by
    rw [WB_two_pow, ← hst, Nat.pow_add, Nat.mul_comm (2 ^ s) (2 ^ t), Nat.mul_div_mul_right _ _ (Nat.two_pow_pos s)]
  rw [e]; exact Nat.mod_add_div _ _
theorem orw_add {x y s t : Nat} (hst : s + t = 64) (hy : y < WB) : orw (shlw x s) (shrw y t) = shlw x s + shrw y t := by
  unfold orw
  have hb : shrw y t < 2 ^ s := by
    unfold shrw; rw [Nat.div_lt_iff_lt_mul (Nat.two_pow_pos t), ← Nat.pow_add, hst, ← WB_two_pow]; exact hy
  have ha : shlw x s = 2 ^ s * (x % 2 ^ t) := by
    unfold shlw; rw [WB_two_pow, ← hst, Nat.add_comm s t, Nat.pow_add, Nat.mul_comm (2 ^ t) (2 ^ s), Nat.mul_comm x (2 ^ s), Nat.mul_mod_mul_left]
  rw [ha, Nat.two_pow_add_eq_or_of_lt hb]
theorem orw_add' {x y s t : Nat} (hst : s + t = 64) (hy : y < WB) : orw (shrw y t) (shlw x s) = shrw y t + shlw x s := by
  have := orw_add (x := x) hst hy
  unfold orw at *
  rw [Nat.or_comm, this, Nat.add_comm]

@[go_sem ↓ high] theorem shift_shr_nat (x t : Nat) (ht : t < 64) : Op.shift .shr .u64 (x : Int) .u64 (t : Int) = pure (.int .u64 (shrw x t : Int)) := by
  unfold Op.shift shrw
  rw [if_neg (by omega)]
  simp only [Int.toNat_natCast, IntKind.bits, Nat.min_eq_left (Nat.le_of_lt ht)]
  congr 2
  rw [Int.fdiv_eq_ediv_of_nonneg _ (by exact_mod_cast Nat.zero_le (2 ^ t))]
  simp
@[go_sem ↓ high] theorem shift_shl_nat (x t : Nat) (ht : t < 64) : Op.shift .shl .u64 (x : Int) .u64 (t : Int) = pure (.int .u64 (shlw x t : Int)) := by
  unfold Op.shift shlw
  rw [if_neg (by omega)]
  simp only [Int.toNat_natCast, IntKind.bits, Nat.min_eq_left (Nat.le_of_lt ht)]
  congr 2
  rw [IntKind.wrap_u64, WB_eq]
  simp
@[go_sem ↓ high] theorem bits_and63 (s : Nat) (h : s < 64) : bits .and .u64 (s : Int) 63 = (s : Int) := by
  have h1 := bits_and_u64_nat s 63 (by omega) (by omega)
  have e : s &&& 63 = s := by
    rw [show (63 : Nat) = 2 ^ 6 - 1 from rfl, Nat.and_two_pow_sub_one_eq_mod]; exact Nat.mod_eq_of_lt h
  rw [e] at h1; exact h1
theorem bits_orw (x y : Nat) (hx : x < WB) (hy : y < WB) : bits .or .u64 (x : Int) (y : Int) = (orw x y : Int) := by
  rw [WB_eq] at *; exact bits_or_u64_nat x y hx hy
@[go_sem ↓ high] theorem bits_or_lr (x s y t : Nat) (hy : y < WB) : bits .or .u64 (shlw x s : Int) (shrw y t : Int) = (orw (shlw x s) (shrw y t) : Int) := bits_orw _ _ (shlw_lt _ _) (shrw_lt _ hy)
@[go_sem ↓ high] theorem bits_or_rl (x s y t : Nat) (hy : y < WB) : bits .or .u64 (shrw y t : Int) (shlw x s : Int) = (orw (shrw y t) (shlw x s) : Int) := bits_orw _ _ (shrw_lt _ hy) (shlw_lt _ _)

end Go.Proofs.YtcoljeafgiemkaaGreatDoor

namespace Go.Proofs.YtcoljeafgiemkaaGreatDoor
open Go Go.RowKit

theorem Sub.read {w wr : World} {bz o bx p : Nat} {Cz R Cx : List Nat} (h : Sub w wr bz (spl Cz o R)) (hz : Arr w bz Cz) (hx : Arr w bx Cx) (hl : o + R.length ≤ Cz.length) (hp : p < Cx.length)
    (hs : bx ≠ bz ∨ p < o ∨ o + R.length ≤ p) : wr.cell? ⟨bx, p, none⟩ = some (.int .u64 (nth Cx p : Int)) := by
  by_cases e : bx = bz
  · subst e
    obtain rfl := hz.inj hx
    rw [h.arr.cellN (by rw [spl_length hl]; exact hp)]
    rcases hs with h1 | h1 | h1
    · exact absurd rfl h1
    · rw [nth_spl_lt hl h1]
    · rw [nth_spl_ge hl h1]
  · exact (h.other e hx).cellN hp
theorem Sub.prev {w wr : World} {b o : Nat} {C R : List Nat} (h : Sub w wr b (spl C (o + 1) R)) (hl : o + 1 + R.length ≤ C.length) (x : Nat) (hx : x < WB) :
    Sub w (wr.setCell ⟨b, o, none⟩ (.int .u64 (x : Int))) b (spl C o (x :: R)) := by
  have := h.set (i := o) x hx
  rwa [spl_prev hl] at this
theorem drop_nth {l : List Nat} {i : Nat} (h : i < l.length) : l.drop i = nth l i :: l.drop (i + 1) := by
  rw [List.drop_eq_getElem_cons h]; congr 1; rw [nth, List.getElem?_eq_getElem h]; rfl
theorem nth_dt (C : List Nat) (o n j : Nat) (h : j < n) : nth ((C.drop o).take n) j = nth C (o + j) := by rw [nth_take h, nth_drop]
theorem lsh_step {r c v h x P p lo : Nat} (e : r + P * c = v * p + h) (ex : lo + WB * h = x * p) (g : Nat) : (lo + g) + WB * r + (P * WB) * c = (x + WB * v) * p + g := by
  have h1 : WB * r + WB * (P * c) = WB * (v * p) + WB * h := by rw [← Nat.mul_add, ← Nat.mul_add, e]
  rw [Nat.add_mul, Nat.mul_assoc WB v p, Nat.mul_comm P WB, Nat.mul_assoc WB P c]
  omega

set_option maxRecDepth 100000 in
set_option maxHeartbeats 800000 in
theorem lshVU_g_c (w : World) (bz oz m cz bx ox cx s : Nat) (Cz Cx : List Nat) (hn : m < 1000000) (hs0 : 0 < s) (hs : s < 64)
    (hz : Arr w bz Cz) (hzl : oz + (m + 1) ≤ Cz.length) (hx : Arr w bx Cx) (hxl : ox + (m + 1) ≤ Cx.length) (hsep : bx ≠ bz ∨ ox ≤ oz) :
    Calls Tryz.prog 261 #[.slice (some ⟨bz, oz, none⟩) (m + 1) cz, .slice (some ⟨bx, ox, none⟩) (m + 1) cx, .int .u64 s] w fun e w' =>
      ∃ R c, e = .returned (.int .u64 ((c : Nat) : Int)) ∧ Sub w w' bz (spl Cz oz R) ∧ R.length = m + 1 ∧ c < WB ∧ val R + WB ^ (m + 1) * c = val ((Cx.drop ox).take (m + 1)) * 2 ^ s := by
  have e0 : ((s : Int) == 0) = false := by simp; omega
  have e1 : ((m : Int) + 1 == 0) = false := by simp; omega
  obtain ⟨t, ht⟩ : ∃ t, s + t = 64 := ⟨64 - s, by omega⟩
  have htl : t < 64 := by omega
  have hw : IntKind.u64.wrap (64 - (s : Int)) = (t : Int) := by rw [IntKind.wrap_u64]; omega
  have hst := Lib.hid ht
  clear ht
  have hX : ((Cx.drop ox).take (m + 1)).length = m + 1 := by simp; omega
  replace hX := Lib.hid hX
  have hl := hx.cellN (i := ox + m) (by omega)
  go_enter Tryz.func261, Tryz.ntmps261
  go_wp2
  go_loopw [8] (fun i wr => ∃ k : Nat, k ≤ m ∧ i = .int .i64 k ∧ ∃ R : List Nat, R.length + k = m ∧ val R + WB ^ R.length * shrw (nth Cx (ox + m)) t = val (((Cx.drop ox).take (m + 1)).drop (k + 1)) * 2 ^ s + shrw (nth Cx (ox + k)) t ∧ Sub w wr bz (spl Cz (oz + k + 1) R)) (fun i _ => (intOf i).toNat)
  case atStart => exact ⟨m, Nat.le_refl _, by go_num, [], by simp, by rw [List.drop_eq_nil_of_le (by rw [hX.out]; omega)]; simp, by rw [spl_nil]; exact Sub.refl hz⟩
  case round =>
    obtain ⟨k, hk, rfl, R, hR1, hR3, hS⟩ := hrel
    have hx0 := hS.read (p := ox + k) hz hx (by omega) (by omega) (by omega)
    have hwx := hx.wd.nth (ox + k)
    by_cases hlt : 0 < k
    · obtain ⟨j, rfl⟩ : ∃ j, k = j + 1 := ⟨k - 1, by omega⟩
      have hx1 := hS.read (p := ox + j) hz hx (by omega) (by omega) (by omega)
      have hwj := hx.wd.nth (ox + j)
      have hz1 := hS.arr.cellN (i := oz + (j + 1)) (by rw [spl_length (by omega)]; omega)
      have hz2 := hS.arr.frozen (oz + (j + 1))
      replace hR3 := Lib.hid hR3
      replace hR1 := Lib.hid hR1
      go_wp2
      go_region
      go_wp2
      go_roundw
      case rel =>
        refine ⟨j, by omega, rfl, orw (shlw (nth Cx (ox + (j + 1))) s) (shrw (nth Cx (ox + j)) t) :: R, by simp; have := hR1.out; omega, ?_, ?_⟩
        · rw [orw_add hst.out hwj, drop_nth (i := j + 1) (by rw [hX.out]; omega), nth_dt _ _ _ _ (by omega), val_cons, val_cons, List.length_cons, Nat.pow_succ]
          exact lsh_step (h := shrw (nth Cx (ox + (j + 1))) t) hR3.out (shl_shr hst.out) _
        · have := hR1.out
          exact (Sub.prev hS (by omega) _ (orw_lt (shlw_lt _ _) (shrw_lt _ hwj))).drew
      case measure => simp [intOf]
    · obtain rfl : k = 0 := by omega
      rw [Nat.add_zero] at hx0 hwx
      have hz1 := hS.arr.cellN (i := oz) (by rw [spl_length (by omega)]; omega)
      have hz2 := hS.arr.frozen oz
      replace hR3 := Lib.hid hR3
      replace hR1 := Lib.hid hR1
      go_wp2
      go_ret
      have hR1 := hR1.out
      refine ⟨shlw (nth Cx ox) s :: R, shrw (nth Cx (ox + m)) t, rfl, Sub.prev hS (by omega) _ (shlw_lt _ _), by simp; omega, shrw_lt _ (hx.wd.nth _), ?_⟩
      have h0 := drop_nth (l := (Cx.drop ox).take (m + 1)) (i := 0) (by rw [hX.out]; omega)
      rw [List.drop_zero, nth_dt _ _ _ _ (by omega), Nat.add_zero] at h0
      rw [h0, val_cons, val_cons]
      have e := lsh_step (x := nth Cx ox) (lo := shlw (nth Cx ox) s) (h := shrw (nth Cx ox) t) hR3.out (shl_shr hst.out) 0
      rw [Nat.add_zero, Nat.add_zero, ← Nat.pow_succ] at e
      have e2 : WB ^ (m + 1) = WB ^ R.length.succ := by rw [show m + 1 = R.length.succ by omega]
      rw [e2]
      simpa using e

theorem rsh_step {v r P p q a x lo hi : Nat} (hp : 0 < p) (hW : WB = p * q) (e : v / p = r + P * a) (ex : lo + WB * hi = x * q) : (v + P * WB * x) / p = r + P * (a + lo) + P * WB * hi := by
  have h1 : v + P * WB * x = v + p * (P * (x * q)) := by rw [hW]; congr 1; rw [Nat.mul_comm p q, ← Nat.mul_assoc, Nat.mul_right_comm (P * q) p x, Nat.mul_comm (P * q * x) p, Nat.mul_assoc P q x, Nat.mul_comm q x]
  rw [h1, Nat.add_mul_div_left _ _ hp, e, ← ex, Nat.mul_add, Nat.mul_add, Nat.mul_assoc P WB hi]
  omega

set_option maxRecDepth 100000 in
set_option maxHeartbeats 800000 in
theorem rshVU_g_c (w : World) (bz oz m cz bx ox cx s : Nat) (Cz Cx : List Nat) (hn : m < 1000000) (hs0 : 0 < s) (hs : s < 64)
    (hz : Arr w bz Cz) (hzl : oz + (m + 1) ≤ Cz.length) (hx : Arr w bx Cx) (hxl : ox + (m + 1) ≤ Cx.length) (hsep : bx ≠ bz ∨ oz ≤ ox) :
    Calls Tryz.prog 264 #[.slice (some ⟨bz, oz, none⟩) (m + 1) cz, .slice (some ⟨bx, ox, none⟩) (m + 1) cx, .int .u64 s] w fun e w' =>
      ∃ R c, e = .returned (.int .u64 ((c : Nat) : Int)) ∧ Sub w w' bz (spl Cz oz R) ∧ R.length = m + 1 ∧ val R = val ((Cx.drop ox).take (m + 1)) / 2 ^ s := by
  have e0 : ((s : Int) == 0) = false := by simp; omega
  have e1 : ((m : Int) + 1 == 0) = false := by simp; omega
  obtain ⟨t, ht⟩ : ∃ t, t + s = 64 := ⟨64 - s, by omega⟩
  have htl : t < 64 := by omega
  have hw : IntKind.u64.wrap (64 - (s : Int)) = (t : Int) := by rw [IntKind.wrap_u64]; omega
  have hst := Lib.hid ht
  clear ht
  have hX : ((Cx.drop ox).take (m + 1)).length = m + 1 := by simp; omega
  replace hX := Lib.hid hX
  have hl := hx.cellN (i := ox) (by omega)
  go_enter Tryz.func264, Tryz.ntmps264
  go_wp2
  go_loopw [8] (fun i wr => ∃ k : Nat, k ≤ m ∧ i = .int .i64 (k + 1) ∧ ∃ R : List Nat, R.length = k ∧ val (((Cx.drop ox).take (m + 1)).take (k + 1)) / 2 ^ s = val R + WB ^ k * shrw (nth Cx (ox + k)) s ∧ Sub w wr bz (spl Cz oz R)) (fun i _ => m + 1 - (intOf i).toNat)
  case atStart =>
    refine ⟨0, Nat.zero_le _, by go_num, [], rfl, ?_, by rw [spl_nil]; exact Sub.refl hz⟩
    rw [val_take_succ (by rw [hX.out]; omega), nth_dt _ _ _ _ (by omega)]
    simp [shrw]
  case round =>
    obtain ⟨k, hk, rfl, R, hR1, hR3, hS⟩ := hrel
    have hx0 := hS.read (p := ox + k) hz hx (by omega) (by omega) (by omega)
    have hwx := hx.wd.nth (ox + k)
    have hz1 := hS.arr.cellN (i := oz + k) (by rw [spl_length (by omega)]; omega)
    have hz2 := hS.arr.frozen (oz + k)
    by_cases hlt : k < m
    · have hx1 := hS.read (p := ox + (k + 1)) hz hx (by omega) (by omega) (by omega)
      have hwj := hx.wd.nth (ox + (k + 1))
      replace hR3 := Lib.hid hR3
      replace hR1 := Lib.hid hR1
      go_wp2
      go_region
      go_wp2
      go_roundw
      case rel =>
        refine ⟨k + 1, by omega, by go_num, R ++ [orw (shrw (nth Cx (ox + k)) s) (shlw (nth Cx (ox + (k + 1))) t)], by simp; have := hR1.out; omega, ?_, ?_⟩
        · have hR1 := hR1.out
          rw [orw_add' hst.out hwx, val_snoc, hR1, val_take_succ (by rw [hX.out]; omega), nth_dt _ _ _ _ (by omega), Nat.pow_succ WB k]
          exact rsh_step (Nat.two_pow_pos s) (by rw [WB_two_pow, ← hst.out, Nat.add_comm, Nat.pow_add]) hR3.out (shl_shr hst.out)
        · have := hR1.out
          exact (hS.next this (by omega) _ (orw_lt (shrw_lt _ hwx) (shlw_lt _ _))).drew
      case measure => simp [intOf]; omega
    · obtain rfl : k = m := by omega
      replace hR3 := Lib.hid hR3
      replace hR1 := Lib.hid hR1
      go_wp2
      go_ret
      have hR1 := hR1.out
      refine ⟨R ++ [shrw (nth Cx (ox + k)) s], shlw (nth Cx ox) t, rfl, hS.next hR1 (by omega) _ (shrw_lt _ hwx), by simp; omega, ?_⟩
      rw [val_snoc, hR1, ← hR3.out, List.take_of_length_le (by rw [hX.out]; omega)]
end Go.Proofs.YtcoljeafgiemkaaGreatDoor

namespace Go.Proofs.YtcoljeafgiemkaaGreatDoor
open Go Go.RowKit

theorem infoW : (Tryz.prog.info? 154).map (·.size) = some 1 := by kernel_rfl

theorem wpList_copyW {ops : Array Oper} {rest : List Oper} {o : Oper} {a : Act} {w : World} {Q : Exit → Act → World → Prop} (hgd : o.guard = none) (d s : Operand) (T sT : TypeId)
    (ho : o.op = .call { callee := .builtin .copy, args := #[d, s], argTypes := #[T, sT] }) (hu : Tryz.prog.underlying T = some (.slice 154))
    (bz oz n cz bx ox ns cs : Nat) (hd : a.eval d = .slice (some ⟨bz, oz, none⟩) n cz) (hs : a.eval s = .slice (some ⟨bx, ox, none⟩) ns cs)
    (Cz X : List Nat) (hz : Arr w bz Cz) (WX : Wd X) (hX : X.length = Nat.min ns n) (hfit : oz + X.length ≤ Cz.length)
    (hsrc : ∀ j, j < X.length → w.cell? ⟨bx, ox + j, none⟩ = some (.int .u64 (nth X j : Int)))
    (h : ∀ w', Sub w w' bz (spl Cz oz X) → wpList Tryz.prog ops Q rest (a.put o.dst (.int .i64 (X.length : Int))) w') : wpList Tryz.prog ops Q (o :: rest) a w := by
  refine wpList_copy_own hgd d s T sT ho 154 hu infoW bz oz n cz ⟨bx, ox, none⟩ ns cs hd hs (Cz.map uw).toArray 154 hz.heap (X.map uw) (by simpa using hX) ?_ (by simpa using hfit) ?_ ?_
  · intro j v hv
    rw [List.getElem?_map] at hv
    cases hj : X[j]? with
    | none => rw [hj] at hv; cases hv
    | some x =>
      rw [hj] at hv
      have hlt : j < X.length := by
        rcases Nat.lt_or_ge j X.length with h' | h'
        · exact h'
        · rw [List.getElem?_eq_none h'] at hj; cases hj
      have := hsrc j hlt
      rw [nth_of hj] at this
      simp only [Option.map_some, Option.some.injEq] at hv
      subst hv
      have e : (⟨bx, ox, none⟩ : Addr).add j = ⟨bx, ox + j, none⟩ := by unfold Addr.add; split <;> simp_all
      rw [e]; exact this
  · intro v hv
    obtain ⟨x, _, rfl⟩ := List.mem_map.1 hv
    rfl
  · have e : (List.take oz (Cz.map uw).toArray.toList ++ (X.map uw ++ List.drop (oz + (X.map uw).length) (Cz.map uw).toArray.toList)).toArray = ((spl Cz oz X).map uw).toArray := by
      unfold spl; simp
    rw [e]
    have hl : (X.map uw).length = X.length := by simp
    rw [hl]
    refine h _ ⟨⟨?_, Wd_spl hz.wd WX⟩, fun k hk => ?_, ?_, rfl, rfl, rfl⟩
    · have := setRow_heap w bz (Cz.map uw).toArray ((spl Cz oz X).map uw).toArray 154 (0, 0) hz.heap
      exact this
    · exact setRow_other w bz k _ hk
    · simp [World.setRow]

theorem run_neq_ptr_other {P : Program} {w : World} {tp te : TypeId} {j : TypeInfo} {a b : Addr} {ca cb : Array Value} {ta tb : TypeId} (hp : P.underlying tp = some (.pointer te)) (hte : P.info? te = some j) (hsz : j.size ≠ 0)
    (hne : a ≠ b) (ha : w.heap[a.block]? = some (.cells ca ta (0, 0))) (hb : w.heap[b.block]? = some (.cells cb tb (0, 0))) :
    (binOp .neq tp (.pointer (some a)) (.pointer (some b))).run P w = .ok (.bool true) w := by
  have h : ∀ d : Nat, (Op.equalIn (d + 1) tp (.pointer (some a)) (.pointer (some b))).run P w = .ok false w := fun d => by
    simp [Op.equalIn, run_underlying hp, sizeOf, typeInfo, hte, hsz, run_sameAddr_other w hne ha hb]
  simp only [binOp]
  simp [Op.equal, Op.maxDepth, h 9999]
theorem run_neq_ptr_same {P : Program} {w : World} {tp te : TypeId} {j : TypeInfo} (a : Addr) (hp : P.underlying tp = some (.pointer te)) (hte : P.info? te = some j) :
    (binOp .neq tp (.pointer (some a)) (.pointer (some a))).run P w = .ok (.bool false) w := by
  have h : ∀ d : Nat, (Op.equalIn (d + 1) tp (.pointer (some a)) (.pointer (some a))).run P w = .ok true w := fun d => by
    simp [Op.equalIn, run_underlying hp, sizeOf, typeInfo, hte, run_sameAddr_same]
  simp only [binOp]
  simp [Op.equal, Op.maxDepth, h 9999]
theorem infoWj : ∃ j, Tryz.prog.info? 154 = some j ∧ j.size ≠ 0 := by
  have h := infoW
  cases hj : Tryz.prog.info? 154 with
  | none => rw [hj] at h; cases h
  | some j => rw [hj] at h; exact ⟨j, rfl, by simp at h; omega⟩
theorem neq_word_ptr {w : World} {bz oz bx ox : Nat} {Cz Cx : List Nat} (hz : Arr w bz Cz) (hx : Arr w bx Cx) (hne : bx ≠ bz) (n : Nat) :
    (binOp .neq 239 (.pointer (some ⟨bz, oz, none⟩)) (.pointer (some ⟨bx, ox, none⟩))).run Tryz.prog (w.drewN n) = .ok (.bool true) (w.drewN n) := by
  obtain ⟨j, hj, hs⟩ := infoWj
  exact run_neq_ptr_other Tryz.underlying239 hj hs (fun e => hne (congrArg Addr.block e).symm) (hz.drewN n).heap (hx.drewN n).heap
theorem neq_word_ptr_same {w : World} (a : Addr) (n : Nat) : (binOp .neq 239 (.pointer (some a)) (.pointer (some a))).run Tryz.prog (w.drewN n) = .ok (.bool false) (w.drewN n) := by
  obtain ⟨j, hj, hs⟩ := infoWj
  exact run_neq_ptr_same a Tryz.underlying239 hj
theorem dt_drop (C : List Nat) (o n k : Nat) : ((C.drop o).take n).drop k = (C.drop (o + k)).take (n - k) := by
  rw [List.drop_take, List.drop_drop]
theorem spl_self {C R : List Nat} {o n : Nat} (h : o + n ≤ C.length) (hR : R.length ≤ n) : spl C o (R ++ ((C.drop o).take n).drop R.length) = spl C o R := by
  apply List.ext_getElem?
  intro j
  have hl : (R ++ ((C.drop o).take n).drop R.length).length = n := by simp; omega
  by_cases h1 : j < o
  · rw [spl_lt (by omega) h1, spl_lt (by omega) h1]
  · by_cases h2 : j < o + R.length
    · obtain ⟨d, rfl⟩ : ∃ d, j = o + d := ⟨j - o, by omega⟩
      rw [spl_mid (by omega) (by omega), spl_mid (by omega) (by omega), List.getElem?_append_left (by omega)]
    · by_cases h3 : j < o + n
      · obtain ⟨d, rfl⟩ : ∃ d, j = o + R.length + d := ⟨j - (o + R.length), by omega⟩
        rw [Nat.add_assoc, spl_mid (by omega) (by omega), ← Nat.add_assoc, spl_ge (by omega) (by omega), List.getElem?_append_right (by omega), List.getElem?_drop, List.getElem?_take_of_lt (by omega), List.getElem?_drop]
        congr 1; omega
      · rw [spl_ge (by omega) (by omega), spl_ge (by omega) (by omega)]
/-- What is behind a prefix stays. -/
theorem val_tail {X R : List Nat} {k v : Nat} (hk : k ≤ X.length) (hR : R.length = k) (h : val R = v + val (X.take k)) : val (R ++ X.drop k) = v + val X := by
  rw [val_append, hR, h, val_take_drop X k hk, Nat.add_assoc]
theorem val_tail_sub {X R : List Nat} {k v : Nat} (hk : k ≤ X.length) (hR : R.length = k) (h : val R + v = val (X.take k)) : val (R ++ X.drop k) + v = val X := by
  rw [val_append, hR, val_take_drop X k hk, ← h]; omega
theorem Sub.tail {w w1 w2 : World} {bz oz : Nat} {Cz R T : List Nat} (h1 : Sub w w1 bz (spl Cz oz R)) {k : Nat} (hk : R.length = k) (h2 : Sub w1 w2 bz (spl (spl Cz oz R) (oz + k) T)) (hl : oz + k + T.length ≤ Cz.length) :
    Sub w w2 bz (spl Cz oz (R ++ T)) := by
  subst hk
  have := h1.trans h2
  rwa [spl_spl_next hl] at this
theorem val_add_lt {L : List Nat} {n y c r : Nat} (h : r + WB ^ n * c = val L + y) (hL : val L < WB ^ n) (hy : y ≤ 1) : c ≤ 1 := by
  rcases Nat.lt_or_ge c 2 with h' | h'
  · omega
  · have := Nat.mul_le_mul_left (WB ^ n) h'
    have hp := WB_pow_pos n
    omega

set_option maxRecDepth 100000 in
set_option maxHeartbeats 2000000 in
theorem addVW_c (w : World) (bz oz m cz bx ox cx y : Nat) (Cz Cx : List Nat) (hn : m < 1000000) (hy : y ≤ 1)
    (hz : Arr w bz Cz) (hzl : oz + (m + 1) ≤ Cz.length) (hx : Arr w bx Cx) (hxl : ox + (m + 1) ≤ Cx.length) (hcase : bx ≠ bz ∨ (bx = bz ∧ ox = oz)) (hc0 : m + 1 ≤ cz) (hc1 : m + 1 ≤ cx) :
    Calls Tryz.prog 208 #[.slice (some ⟨bz, oz, none⟩) (m + 1) cz, .slice (some ⟨bx, ox, none⟩) (m + 1) cx, .int .u64 y] w fun e w' =>
      ∃ R c, e = .returned (.int .u64 ((c : Nat) : Int)) ∧ Sub w w' bz (spl Cz oz R) ∧ R.length = m + 1 ∧ c ≤ 1 ∧ val R + WB ^ (m + 1) * c = val ((Cx.drop ox).take (m + 1)) + y := by
  have e1 : ((m : Int) + 1 == 0) = false := by simp; omega
  have hX : ((Cx.drop ox).take (m + 1)).length = m + 1 := by simp; omega
  replace hX := Lib.hid hX
  have hl := hx.cellN (i := ox) (by omega)
  have hwl := hx.wd.nth ox
  have hz1 := hz.cellN (i := oz) (by omega)
  have hz2 := hz.frozen oz
  have hx0 : val (((Cx.drop ox).take (m + 1)).take 1) = nth Cx ox := by
    rw [val_take_succ (by rw [hX.out]; omega), nth_dt _ _ _ _ (by omega)]; simp
  have hsum := adds_addc (nth Cx ox) y 0
  have hyw : y < WB := Nat.lt_of_le_of_lt hy (by rw [WB_eq]; decide)
  have hcc := addc_le hwl hyw (Nat.zero_le 1)
  replace hx0 := Lib.hid hx0
  replace hsum := Lib.hid hsum
  replace hcc := Lib.hid hcc
  go_enter Tryz.func208, Tryz.ntmps208
  go_wp2_with (go_at_call 239; refine (bits_Add _ _ 0 hwl hyw (by omega) _).mono ?_; rintro e w' ⟨rfl, hw⟩; obtain rfl := hw.symm)
  · have hc0' : addc (nth Cx ox) y 0 = 0 := by simpa using ‹((addc (nth Cx ox) y 0 : Int) == 0) = true›
    have hS1 := (Sub.refl hz).set (i := oz) _ (adds_lt (nth Cx ox) y 0)
    have hsp : Cz.set oz (adds (nth Cx ox) y 0) = spl Cz oz [adds (nth Cx ox) y 0] := by
      have := spl_next (C := Cz) (o := oz) (R := []) (by simp; omega) (adds (nth Cx ox) y 0)
      rw [spl_nil] at this; simpa using this
    rw [hsp] at hS1
    clear hsp
    replace hc0' := Lib.hid hc0'
    generalize w.setCell ⟨bz, oz, none⟩ _ = w1 at hS1 ⊢
    have hv : val [adds (nth Cx ox) y 0] = y + val (((Cx.drop ox).take (m + 1)).take 1) := by
      have h1 := hsum.out; have h2 := hx0.out; have h3 := hc0'.out; rw [h3] at h1; rw [h2]; simp [val]; omega
    replace hv := Lib.hid hv
    rcases hcase with hne | ⟨rfl, rfl⟩
    · have hxw := hS1.other hne hx
      have hp := neq_word_ptr (oz := oz) (ox := ox) hS1.arr hxw hne
      go_quiet (fail)
      clear hp
      by_cases hm : 0 < m
      · have h1 : (1 : Int) ≤ (m : Int) + 1 := by omega
        have h2 : ¬ cz = 1 := by omega
        have h3 : ¬ cx = 1 := by omega
        go_wp2
        go_still_tail 4, (by kernel_rfl)
        change wpList _ _ _ _ _ (w1.drewN _).drew
        have hT : ((Cx.drop (ox + 1)).take m).length = m := by simp; omega
        refine wpList_copyW rfl (.tmp 40) (.tmp 42) 68 68 rfl Tryz.underlying68 bz (oz + 1) m (cz - 1) bx (ox + 1) m (cx - 1) rfl rfl _ ((Cx.drop (ox + 1)).take m) ((hS1.drewN _).drew).arr ((hx.wd.drop _).take _) ?_ ?_ ?_ ?_
        · rw [hT]; simp
        · rw [hT, spl_length (by simp; omega)]; omega
        · intro j hj
          rw [hT] at hj
          rw [nth_dt _ _ _ _ hj]
          exact hxw.cellN (by omega)
        intro w2 hS2
        have hS3 := Sub.tail ((hS1.drewN _).drew) (k := 1) rfl hS2 (by rw [hT]; omega)
        go_wp2
        go_ret
        refine ⟨_, 0, rfl, hS3, by simp; omega, by omega, ?_⟩
        have := val_tail (k := 1) (by rw [hX.out]; omega) rfl hv.out
        rw [dt_drop, Nat.add_sub_cancel] at this
        rw [this]; omega
      · obtain rfl : m = 0 := by omega
        have h1 : (1 : Int) ≤ ((0 : Nat) : Int) + 1 := by omega
        go_wp2
        go_still_tail 4, (by kernel_rfl)
        change wpList _ _ _ _ _ (w1.drewN _).drew
        refine wpList_copy_nothing rfl (.tmp 40) (.tmp 42) 68 68 rfl 154 Tryz.underlying68 infoW _ _ 0 (cz - 1) 0 (cx - 1) rfl rfl rfl ?_
        have hend : val [adds (nth Cx ox) y 0] + WB * 0 = val (List.take 1 (List.drop ox Cx)) + y := by
          have := hv.out
          rw [this, List.take_of_length_le (by rw [hX.out]; omega)]; simp; omega
        replace hend := Lib.hid hend
        go_wp2
        all_goals
          go_ret
          exact ⟨_, 0, rfl, (hS1.drewN _).drew, rfl, by omega, hend.out⟩
    · obtain rfl := hz.inj hx
      have hp := neq_word_ptr_same (w := w1) ⟨bx, ox, none⟩
      go_quiet (fail)
      go_wp2
      go_ret
      have hs := spl_self (C := Cz) (o := ox) (n := m + 1) (R := [adds (nth Cz ox) y 0]) (by omega) (by simp)
      refine ⟨_, 0, rfl, by rw [hs]; exact hS1.drewN _, by simp; omega, by omega, ?_⟩
      have := val_tail (k := 1) (by rw [hX.out]; omega) rfl hv.out
      rw [List.length_singleton, this]; omega
  · have hc1' : addc (nth Cx ox) y 0 = 1 := by
      have h := ‹((addc (nth Cx ox) y 0 : Int) == 0) = false›
      have := hcc.out
      simp at h; omega
    have hS1 := (Sub.refl hz).set (i := oz) _ (adds_lt (nth Cx ox) y 0)
    have hsp : Cz.set oz (adds (nth Cx ox) y 0) = spl Cz oz [adds (nth Cx ox) y 0] := by
      have := spl_next (C := Cz) (o := oz) (R := []) (by simp; omega) (adds (nth Cx ox) y 0)
      rw [spl_nil] at this; simpa using this
    rw [hsp] at hS1
    clear hsp
    replace hc1' := Lib.hid hc1'
    generalize w.setCell ⟨bz, oz, none⟩ _ = w1 at hS1 ⊢
    have hv : val [adds (nth Cx ox) y 0] + WB ^ 1 * 1 = y + val (((Cx.drop ox).take (m + 1)).take 1) := by
      have h1 := hsum.out; have h2 := hx0.out; have h3 := hc1'.out; rw [h3] at h1; rw [h2]; simp [val]; omega
    replace hv := Lib.hid hv

    go_loopw [9] (fun i wr => ∃ k : Nat, k ≤ m ∧ i = .int .i64 (k + 1) ∧ ∃ R : List Nat, R.length = k + 1 ∧ val R + WB ^ (k + 1) * 1 = y + val (((Cx.drop ox).take (m + 1)).take (k + 1)) ∧ Sub w wr bz (spl Cz oz R)) (fun i _ => m + 1 - (intOf i).toNat)
    case atStart => exact ⟨0, by omega, by go_num, _, rfl, hv.out, hS1⟩
    case round =>
      obtain ⟨k, hk, rfl, R, hR1, hR3, hS⟩ := hrel
      by_cases hlt : k < m
      · have hxk := hS.read (p := ox + (k + 1)) hz hx (by omega) (by omega) (by rcases hcase with h | ⟨h1, h2⟩ <;> omega)
        have hwx := hx.wd.nth (ox + (k + 1))
        have hz1 := hS.arr.cellN (i := oz + (k + 1)) (by rw [spl_length (by omega)]; omega)
        have hz2 := hS.arr.frozen (oz + (k + 1))
        replace hR3 := Lib.hid hR3
        replace hR1 := Lib.hid hR1
        go_wp2


        · have hxm : nth Cx (ox + (k + 1)) + 1 < WB := by
            have h := ‹((nth Cx (ox + (k + 1)) : Int) != 18446744073709551615) = true›
            rw [WB_eq] at *
            simp at h; omega
          have hww := wrap_u64_nat _ hxm
          rw [Int.natCast_add] at hww
          rw [show ((1 : Nat) : Int) = 1 from rfl] at hww
          rw [hww]
          have hS1 := hS.next hR1.out (by omega) _ hxm
          have hstep : val (R ++ [nth Cx (ox + (k + 1)) + 1]) = y + val (((Cx.drop ox).take (m + 1)).take (k + 1 + 1)) := by
            have h3 := hR3.out
            rw [val_snoc, hR1.out, val_take_succ (by rw [hX.out]; omega), nth_dt _ _ _ _ (by omega), Nat.mul_add]; omega
          have hl2 : (R ++ [nth Cx (ox + (k + 1)) + 1]).length = k + 1 + 1 := by simp; exact hR1.out
          rw [show ((nth Cx (ox + (k + 1)) : Int) + 1) = ((nth Cx (ox + (k + 1)) + 1 : Nat) : Int) from by simp]
          generalize wr.setCell ⟨bz, oz + (k + 1), none⟩ _ = w3 at hS1 ⊢
          generalize R ++ [nth Cx (ox + (k + 1)) + 1] = R' at hS1 hstep hl2
          replace hstep := Lib.hid hstep
          replace hl2 := Lib.hid hl2
          clear hww
          rcases hcase with hne | ⟨rfl, rfl⟩
          · have hxw := hS1.other hne hx
            have hp := neq_word_ptr (oz := oz) (ox := ox) hS1.arr hxw hne
            go_quiet (fail)
            clear hp
            have i1 : IntKind.i64.wrap ((k : Int) + 1 + 1) = (k : Int) + 1 + 1 := IntWalk.i64_in _ (by omega)
            have i2 : (0 : Int) ≤ (k : Int) + 1 + 1 := by omega
            have i3 : ((k : Int) + 1 + 1).toNat = k + 2 := by omega
            have i4 : (k : Int) + 1 + 1 ≤ (m : Int) + 1 := by omega
            by_cases hm : k + 1 < m
            · have h2 : ¬ cz = k + 2 := by omega
              have h3 : ¬ cx = k + 2 := by omega
              go_wp2
              go_still_tail 8, (by kernel_rfl)
              change wpList _ _ _ _ _ (w3.drewN _).drew
              have hT : ((Cx.drop (ox + (k + 2))).take (m - (k + 1))).length = m - (k + 1) := by simp; omega
              refine wpList_copyW rfl (.tmp 69) (.tmp 73) 68 68 rfl Tryz.underlying68 bz (oz + (k + 2)) (m - (k + 1)) (cz - (k + 2)) bx (ox + (k + 2)) (m - (k + 1)) (cx - (k + 2)) rfl rfl _ ((Cx.drop (ox + (k + 2))).take (m - (k + 1))) ((hS1.drewN _).drew).arr ((hx.wd.drop _).take _) ?_ ?_ ?_ ?_
              · rw [hT]; simp
              · have := hl2.out; rw [hT, spl_length (by omega)]; omega
              · intro j hj
                rw [hT] at hj
                rw [nth_dt _ _ _ _ hj]
                exact hxw.cellN (by omega)
              intro w4 hS4
              have hS5 := Sub.tail ((hS1.drewN _).drew) (k := k + 2) hl2.out hS4 (by rw [hT]; omega)
              go_wp2
              go_ret
              refine ⟨_, 0, rfl, hS5, by rw [List.length_append, hT, hl2.out]; omega, by omega, ?_⟩
              have := val_tail (k := k + 2) (by rw [hX.out]; omega) hl2.out hstep.out
              rw [dt_drop, show m + 1 - (k + 2) = m - (k + 1) by omega] at this
              rw [this]; omega
            · obtain rfl : m = k + 1 := by omega
              go_wp2
              go_still_tail 8, (by kernel_rfl)
              change wpList _ _ _ _ _ (w3.drewN _).drew
              refine wpList_copy_nothing rfl (.tmp 69) (.tmp 73) 68 68 rfl 154 Tryz.underlying68 infoW _ _ _ _ _ _ rfl rfl (by simp) ?_
              have hend : val R' + WB ^ (k + 2) * 0 = val (List.take (k + 2) (List.drop ox Cx)) + y := by
                have := hstep.out
                rw [List.take_of_length_le (by rw [hX.out]; omega)] at this
                rw [Nat.mul_zero, Nat.add_zero, this, Nat.add_comm]
              replace hend := Lib.hid hend
              go_wp2
              all_goals
                go_ret
                exact ⟨_, 0, rfl, (hS1.drewN _).drew, hl2.out, by omega, hend.out⟩
          · obtain rfl := hz.inj hx
            have hp := neq_word_ptr_same (w := w3) ⟨bx, ox, none⟩
            go_quiet (fail)
            go_wp2
            go_ret
            have hs := spl_self (C := Cz) (o := ox) (n := m + 1) (R := R') (by omega) (by rw [hl2.out]; omega)
            refine ⟨_, 0, rfl, by rw [hs]; exact Sub.drewN (by assumption) _, by simp; have := hl2.out; omega, by omega, ?_⟩
            have := val_tail (k := k + 1 + 1) (by rw [hX.out]; omega) hl2.out hstep.out
            rw [hl2.out, this]; omega
        · go_roundw
          case rel =>
            have hxm : nth Cx (ox + (k + 1)) + 1 = WB := by
              have h := ‹((nth Cx (ox + (k + 1)) : Int) != 18446744073709551615) = false›
              rw [WB_eq] at *
              simp at h; omega
            refine ⟨k + 1, by omega, by go_num, R ++ [0], by simp; exact hR1.out, ?_, by exact hS.next hR1.out (by omega) 0 WB_pos⟩
            have h3 := hR3.out
            rw [val_snoc, hR1.out, val_take_succ (by rw [hX.out]; omega), nth_dt _ _ _ _ (by omega)]
            have h4 : WB ^ (k + 1 + 1) = WB ^ (k + 1) * nth Cx (ox + (k + 1)) + WB ^ (k + 1) := by
              rw [Nat.pow_succ WB (k + 1), ← hxm, Nat.mul_add, Nat.mul_one]
            omega
          case measure => simp [intOf]; omega
      · obtain rfl : k = m := by omega
        replace hR3 := Lib.hid hR3
        replace hR1 := Lib.hid hR1
        go_wp2
        go_ret
        refine ⟨R, 1, rfl, hS, hR1.out, by omega, ?_⟩
        have := hR3.out
        rw [List.take_of_length_le (by rw [hX.out]; omega)] at this
        omega
end Go.Proofs.YtcoljeafgiemkaaGreatDoor

namespace Go.Proofs.YtcoljeafgiemkaaGreatDoor
open Go Go.RowKit
theorem castmax : ((WB - 1 : Nat) : Int) = 18446744073709551615 := by rw [WB_eq]; omega
theorem store_max {w wr : World} {b o k : Nat} {C R : List Nat} (h : Sub w wr b (spl C o R)) (hk : R.length = k) (hl : o + k < C.length) :
    Sub w (wr.setCell ⟨b, o + k, none⟩ (.int .u64 18446744073709551615)) b (spl C o (R ++ [WB - 1])) := by
  have := h.next hk hl (WB - 1) (by have := WB_pos; omega)
  rwa [castmax] at this
set_option maxRecDepth 100000 in
set_option maxHeartbeats 2000000 in
theorem subVW_c (w : World) (bz oz m cz bx ox cx y : Nat) (Cz Cx : List Nat) (hn : m < 1000000) (hy : y ≤ 1)
    (hz : Arr w bz Cz) (hzl : oz + (m + 1) ≤ Cz.length) (hx : Arr w bx Cx) (hxl : ox + (m + 1) ≤ Cx.length) (hcase : bx ≠ bz ∨ (bx = bz ∧ ox = oz)) (hc0 : m + 1 ≤ cz) (hc1 : m + 1 ≤ cx) :
    Calls Tryz.prog 210 #[.slice (some ⟨bz, oz, none⟩) (m + 1) cz, .slice (some ⟨bx, ox, none⟩) (m + 1) cx, .int .u64 y] w fun e w' =>
      ∃ R c, e = .returned (.int .u64 ((c : Nat) : Int)) ∧ Sub w w' bz (spl Cz oz R) ∧ R.length = m + 1 ∧ c ≤ 1 ∧ val ((Cx.drop ox).take (m + 1)) + WB ^ (m + 1) * c = val R + y := by
  have e1 : ((m : Int) + 1 == 0) = false := by simp; omega
  have hX : ((Cx.drop ox).take (m + 1)).length = m + 1 := by simp; omega
  replace hX := Lib.hid hX
  have hl := hx.cellN (i := ox) (by omega)
  have hwl := hx.wd.nth ox
  have hz1 := hz.cellN (i := oz) (by omega)
  have hz2 := hz.frozen oz
  have hx0 : val (((Cx.drop ox).take (m + 1)).take 1) = nth Cx ox := by
    rw [val_take_succ (by rw [hX.out]; omega), nth_dt _ _ _ _ (by omega)]; simp
  have hyw : y < WB := Nat.lt_of_le_of_lt hy (by rw [WB_eq]; decide)
  have hsum := subs_subc hwl hyw (Nat.zero_le 1)
  have hcc := subc_le (nth Cx ox) y 0
  replace hx0 := Lib.hid hx0
  replace hsum := Lib.hid hsum
  replace hcc := Lib.hid hcc
  go_enter Tryz.func210, Tryz.ntmps210
  go_wp2_with (go_at_call 241; refine (bits_Sub _ _ 0 (by omega) _).mono ?_; rintro e w' ⟨rfl, hw⟩; obtain rfl := hw.symm)
  · have hc0' : subc (nth Cx ox) y 0 = 0 := by simpa using ‹((subc (nth Cx ox) y 0 : Int) == 0) = true›
    have hS1 := (Sub.refl hz).set (i := oz) _ (subs_lt (nth Cx ox) y 0)
    have hsp : Cz.set oz (subs (nth Cx ox) y 0) = spl Cz oz [subs (nth Cx ox) y 0] := by
      have := spl_next (C := Cz) (o := oz) (R := []) (by simp; omega) (subs (nth Cx ox) y 0)
      rw [spl_nil] at this; simpa using this
    rw [hsp] at hS1
    clear hsp
    replace hc0' := Lib.hid hc0'
    generalize w.setCell ⟨bz, oz, none⟩ _ = w1 at hS1 ⊢
    have hv : val [subs (nth Cx ox) y 0] + y = val (((Cx.drop ox).take (m + 1)).take 1) := by
      have h1 := hsum.out; have h2 := hx0.out; have h3 := hc0'.out; rw [h3] at h1; rw [h2]; simp [val]; omega
    replace hv := Lib.hid hv
    rcases hcase with hne | ⟨rfl, rfl⟩
    · have hxw := hS1.other hne hx
      have hp := neq_word_ptr (oz := oz) (ox := ox) hS1.arr hxw hne
      go_quiet (fail)
      clear hp
      by_cases hm : 0 < m
      · have h1 : (1 : Int) ≤ (m : Int) + 1 := by omega
        have h2 : ¬ cz = 1 := by omega
        have h3 : ¬ cx = 1 := by omega
        go_wp2
        go_still_tail 4, (by kernel_rfl)
        change wpList _ _ _ _ _ (w1.drewN _).drew
        have hT : ((Cx.drop (ox + 1)).take m).length = m := by simp; omega
        refine wpList_copyW rfl (.tmp 40) (.tmp 42) 68 68 rfl Tryz.underlying68 bz (oz + 1) m (cz - 1) bx (ox + 1) m (cx - 1) rfl rfl _ ((Cx.drop (ox + 1)).take m) ((hS1.drewN _).drew).arr ((hx.wd.drop _).take _) ?_ ?_ ?_ ?_
        · rw [hT]; simp
        · rw [hT, spl_length (by simp; omega)]; omega
        · intro j hj
          rw [hT] at hj
          rw [nth_dt _ _ _ _ hj]
          exact hxw.cellN (by omega)
        intro w2 hS2
        have hS3 := Sub.tail ((hS1.drewN _).drew) (k := 1) rfl hS2 (by rw [hT]; omega)
        go_wp2
        go_ret
        refine ⟨_, 0, rfl, hS3, by simp; omega, by omega, ?_⟩
        have := val_tail_sub (k := 1) (by rw [hX.out]; omega) rfl hv.out
        rw [dt_drop, Nat.add_sub_cancel] at this
        rw [this]; omega
      · obtain rfl : m = 0 := by omega
        have h1 : (1 : Int) ≤ ((0 : Nat) : Int) + 1 := by omega
        go_wp2
        go_still_tail 4, (by kernel_rfl)
        change wpList _ _ _ _ _ (w1.drewN _).drew
        refine wpList_copy_nothing rfl (.tmp 40) (.tmp 42) 68 68 rfl 154 Tryz.underlying68 infoW _ _ 0 (cz - 1) 0 (cx - 1) rfl rfl rfl ?_
        have hend : val (List.take 1 (List.drop ox Cx)) + WB * 0 = val [subs (nth Cx ox) y 0] + y := by
          have := hv.out
          rw [this, List.take_take]; simp
        replace hend := Lib.hid hend
        go_wp2
        all_goals
          go_ret
          exact ⟨_, 0, rfl, (hS1.drewN _).drew, rfl, by omega, hend.out⟩
    · obtain rfl := hz.inj hx
      have hp := neq_word_ptr_same (w := w1) ⟨bx, ox, none⟩
      go_quiet (fail)
      go_wp2
      go_ret
      have hs := spl_self (C := Cz) (o := ox) (n := m + 1) (R := [subs (nth Cz ox) y 0]) (by omega) (by simp)
      refine ⟨_, 0, rfl, by rw [hs]; exact hS1.drewN _, by simp; omega, by omega, ?_⟩
      have := val_tail_sub (k := 1) (by rw [hX.out]; omega) rfl hv.out
      rw [List.length_singleton, this]; omega
  · have hc1' : subc (nth Cx ox) y 0 = 1 := by
      have h := ‹((subc (nth Cx ox) y 0 : Int) == 0) = false›
      have := hcc.out
      simp at h; omega
    have hS1 := (Sub.refl hz).set (i := oz) _ (subs_lt (nth Cx ox) y 0)
    have hsp : Cz.set oz (subs (nth Cx ox) y 0) = spl Cz oz [subs (nth Cx ox) y 0] := by
      have := spl_next (C := Cz) (o := oz) (R := []) (by simp; omega) (subs (nth Cx ox) y 0)
      rw [spl_nil] at this; simpa using this
    rw [hsp] at hS1
    clear hsp
    replace hc1' := Lib.hid hc1'
    generalize w.setCell ⟨bz, oz, none⟩ _ = w1 at hS1 ⊢
    have hv : val (((Cx.drop ox).take (m + 1)).take 1) + WB ^ 1 * 1 = val [subs (nth Cx ox) y 0] + y := by
      have h1 := hsum.out; have h2 := hx0.out; have h3 := hc1'.out; rw [h3] at h1; rw [h2]; simp [val]; omega
    replace hv := Lib.hid hv

    go_loopw [9] (fun i wr => ∃ k : Nat, k ≤ m ∧ i = .int .i64 (k + 1) ∧ ∃ R : List Nat, R.length = k + 1 ∧ val (((Cx.drop ox).take (m + 1)).take (k + 1)) + WB ^ (k + 1) * 1 = val R + y ∧ Sub w wr bz (spl Cz oz R)) (fun i _ => m + 1 - (intOf i).toNat)
    case atStart => exact ⟨0, by omega, by go_num, _, rfl, hv.out, hS1⟩
    case round =>
      obtain ⟨k, hk, rfl, R, hR1, hR3, hS⟩ := hrel
      by_cases hlt : k < m
      · have hxk := hS.read (p := ox + (k + 1)) hz hx (by omega) (by omega) (by rcases hcase with h | ⟨h1, h2⟩ <;> omega)
        have hwx := hx.wd.nth (ox + (k + 1))
        have hz1 := hS.arr.cellN (i := oz + (k + 1)) (by rw [spl_length (by omega)]; omega)
        have hz2 := hS.arr.frozen (oz + (k + 1))
        replace hR3 := Lib.hid hR3
        replace hR1 := Lib.hid hR1
        go_wp2


        · obtain ⟨x, hxx⟩ : ∃ x, nth Cx (ox + (k + 1)) = x + 1 := by
            have h := ‹((nth Cx (ox + (k + 1)) : Int) != 0) = true›
            simp at h
            exact ⟨nth Cx (ox + (k + 1)) - 1, by omega⟩
          rw [hxx] at hwx
          have hxm : x < WB := by omega
          have hww := wrap_u64_nat _ hxm
          rw [hxx]
          rw [show (((x + 1 : Nat) : Int) - 1) = (x : Int) from by omega]
          try rw [hww]
          have hS1 := hS.next hR1.out (by omega) _ hxm
          have hstep : val (R ++ [x]) + y = val (((Cx.drop ox).take (m + 1)).take (k + 1 + 1)) := by
            have h3 := hR3.out
            rw [val_snoc, hR1.out, val_take_succ (by rw [hX.out]; omega), nth_dt _ _ _ _ (by omega), hxx, Nat.mul_add]; omega
          have hl2 : (R ++ [x]).length = k + 1 + 1 := by simp; exact hR1.out
          generalize wr.setCell ⟨bz, oz + (k + 1), none⟩ _ = w3 at hS1 ⊢
          generalize R ++ [x] = R' at hS1 hstep hl2
          replace hstep := Lib.hid hstep
          replace hl2 := Lib.hid hl2
          clear hww
          rcases hcase with hne | ⟨rfl, rfl⟩
          · have hxw := hS1.other hne hx
            have hp := neq_word_ptr (oz := oz) (ox := ox) hS1.arr hxw hne
            go_quiet (fail)
            clear hp
            have i1 : IntKind.i64.wrap ((k : Int) + 1 + 1) = (k : Int) + 1 + 1 := IntWalk.i64_in _ (by omega)
            have i2 : (0 : Int) ≤ (k : Int) + 1 + 1 := by omega
            have i3 : ((k : Int) + 1 + 1).toNat = k + 2 := by omega
            have i4 : (k : Int) + 1 + 1 ≤ (m : Int) + 1 := by omega
            by_cases hm : k + 1 < m
            · have h2 : ¬ cz = k + 2 := by omega
              have h3 : ¬ cx = k + 2 := by omega
              go_wp2
              go_still_tail 8, (by kernel_rfl)
              change wpList _ _ _ _ _ (w3.drewN _).drew
              have hT : ((Cx.drop (ox + (k + 2))).take (m - (k + 1))).length = m - (k + 1) := by simp; omega
              refine wpList_copyW rfl (.tmp 69) (.tmp 73) 68 68 rfl Tryz.underlying68 bz (oz + (k + 2)) (m - (k + 1)) (cz - (k + 2)) bx (ox + (k + 2)) (m - (k + 1)) (cx - (k + 2)) rfl rfl _ ((Cx.drop (ox + (k + 2))).take (m - (k + 1))) ((hS1.drewN _).drew).arr ((hx.wd.drop _).take _) ?_ ?_ ?_ ?_
              · rw [hT]; simp
              · have := hl2.out; rw [hT, spl_length (by omega)]; omega
              · intro j hj
                rw [hT] at hj
                rw [nth_dt _ _ _ _ hj]
                exact hxw.cellN (by omega)
              intro w4 hS4
              have hS5 := Sub.tail ((hS1.drewN _).drew) (k := k + 2) hl2.out hS4 (by rw [hT]; omega)
              go_wp2
              go_ret
              refine ⟨_, 0, rfl, hS5, by rw [List.length_append, hT, hl2.out]; omega, by omega, ?_⟩
              have := val_tail_sub (k := k + 2) (by rw [hX.out]; omega) hl2.out hstep.out
              rw [dt_drop, show m + 1 - (k + 2) = m - (k + 1) by omega] at this
              rw [this]; omega
            · obtain rfl : m = k + 1 := by omega
              go_wp2
              go_still_tail 8, (by kernel_rfl)
              change wpList _ _ _ _ _ (w3.drewN _).drew
              refine wpList_copy_nothing rfl (.tmp 69) (.tmp 73) 68 68 rfl 154 Tryz.underlying68 infoW _ _ _ _ _ _ rfl rfl (by simp) ?_
              have hend : val (List.take (k + 2) (List.drop ox Cx)) + WB ^ (k + 2) * 0 = val R' + y := by
                have := hstep.out
                rw [List.take_of_length_le (by rw [hX.out]; omega)] at this
                rw [Nat.mul_zero, Nat.add_zero, ← this]
              replace hend := Lib.hid hend
              go_wp2
              all_goals
                go_ret
                exact ⟨_, 0, rfl, (hS1.drewN _).drew, hl2.out, by omega, hend.out⟩
          · obtain rfl := hz.inj hx
            have hp := neq_word_ptr_same (w := w3) ⟨bx, ox, none⟩
            go_quiet (fail)
            go_wp2
            go_ret
            have hs := spl_self (C := Cz) (o := ox) (n := m + 1) (R := R') (by omega) (by rw [hl2.out]; omega)
            refine ⟨_, 0, rfl, by rw [hs]; exact Sub.drewN (by assumption) _, by simp; have := hl2.out; omega, by omega, ?_⟩
            have := val_tail_sub (k := k + 1 + 1) (by rw [hX.out]; omega) hl2.out hstep.out
            rw [hl2.out, this]; omega
        · go_roundw
          case rel =>
            have hx0 : nth Cx (ox + (k + 1)) = 0 := by
              have h := ‹((nth Cx (ox + (k + 1)) : Int) != 0) = false›
              simp at h; omega
            have hB : WB - 1 < WB := by have := WB_pos; omega
            refine ⟨k + 1, by omega, by go_num, R ++ [WB - 1], by simp; exact hR1.out, ?_, ?_⟩
            · have h3 := hR3.out
              rw [val_snoc, hR1.out, val_take_succ (by rw [hX.out]; omega), nth_dt _ _ _ _ (by omega), hx0]
              have h4 : WB ^ (k + 1 + 1) = WB ^ (k + 1) * (WB - 1) + WB ^ (k + 1) := by
                rw [Nat.pow_succ WB (k + 1)]
                have : WB = WB - 1 + 1 := by omega
                rw [this, Nat.mul_add, Nat.mul_one, ← this]
              omega
            · exact store_max hS hR1.out (by omega)
          case measure => simp [intOf]; omega
      · obtain rfl : k = m := by omega
        replace hR3 := Lib.hid hR3
        replace hR1 := Lib.hid hR1
        go_wp2
        go_ret
        refine ⟨R, 1, rfl, hS, hR1.out, by omega, ?_⟩
        have := hR3.out
        rw [List.take_of_length_le (by rw [hX.out]; omega)] at this
        omega
end Go.Proofs.YtcoljeafgiemkaaGreatDoor

namespace Go.Proofs.YtcoljeafgiemkaaGreatDoor

/-- One step of a long division by halves of words: the guess q is at least the true digit; r is what it leaves of the upper part. -/
structure Guess (H a b u v q r : Nat) : Prop where
  split : q * a + r = u
  ge : (u * H + v) / (a * H + b) ≤ q
  le : q ≤ H + 1

theorem Guess.start {H a b u v : Nat} (ha : 0 < a) (hH : H ≤ 2 * a) (hb : b < H) (hv : v < H) (hu : u < a * H + b) : Guess H a b u v (u / a) (u % a) := by
  refine ⟨Nat.div_add_mod' u a, ?_, ?_⟩
  · rw [Nat.div_le_iff_le_mul_add_pred (by have := Nat.mul_pos ha (Nat.lt_of_le_of_lt (Nat.zero_le b) hb); omega)]
    have h1 : u < (u / a + 1) * a := by rw [Nat.add_mul]; have := Nat.div_add_mod' u a; have := Nat.mod_lt u ha; omega
    have h2 : (u + 1) * H ≤ ((u / a + 1) * a) * H := Nat.mul_le_mul_right H h1
    rw [Nat.add_mul, Nat.one_mul] at h2
    have h3 : ((u / a + 1) * a) * H = (a * H) * (u / a) + a * H := by rw [Nat.add_mul, Nat.one_mul, Nat.add_mul, Nat.mul_comm (u / a) a, Nat.mul_right_comm]
    have h4 : (a * H) * (u / a) ≤ (a * H + b) * (u / a) := Nat.mul_le_mul_right _ (Nat.le_add_right _ _)
    have h5 : 0 < a * H := Nat.mul_pos ha (Nat.lt_of_le_of_lt (Nat.zero_le b) hb)
    omega
  · have h1 : u / a ≤ (a * H + (H - 1)) / a := Nat.div_le_div_right (by omega)
    have h2 : (a * H + (H - 1)) / a = H + (H - 1) / a := Nat.mul_add_div ha _ _
    have h3 : (H - 1) / a ≤ 1 := by
      have : (H - 1) / a < 2 := by rw [Nat.div_lt_iff_lt_mul ha]; omega
      omega
    omega

theorem Guess.done {H a b u v q r : Nat} (h : Guess H a b u v q r) (hc : q * b ≤ H * r + v) (hd : 0 < a * H + b) : q = (u * H + v) / (a * H + b) := by
  refine Nat.le_antisymm ?_ h.ge
  rw [Nat.le_div_iff_mul_le hd]
  rw [Nat.mul_add, ← h.split, Nat.add_mul, ← Nat.mul_assoc, Nat.mul_comm r H]
  omega

theorem Guess.next {H a b u v q r : Nat} (h : Guess H a b u v q r) (hv : v < H) (hu : u < a * H + b) (hc : H ≤ q ∨ H * r + v < q * b) : 0 < q ∧ Guess H a b u v (q - 1) (r + a) := by
  have hd : 0 < a * H + b := by omega
  have hq : (u * H + v) / (a * H + b) < q := by
    rw [Nat.div_lt_iff_lt_mul hd]
    rcases hc with h1 | h1
    · have h2 : (u + 1) * H ≤ (a * H + b) * H := Nat.mul_le_mul_right H hu
      rw [Nat.add_mul, Nat.one_mul] at h2
      have h3 : (a * H + b) * H ≤ q * (a * H + b) := by rw [Nat.mul_comm]; exact Nat.mul_le_mul_right _ h1
      omega
    · have e1 : u * H = q * (a * H) + H * r := by rw [← h.split, Nat.add_mul, ← Nat.mul_assoc, Nat.mul_comm r H]
      rw [Nat.mul_add]
      omega
  have hq0 : 0 < q := Nat.lt_of_le_of_lt (Nat.zero_le _) hq
  have hle := h.le
  refine ⟨hq0, ?_, Nat.le_sub_one_of_lt hq, by clear hq; omega⟩
  have := h.split
  obtain ⟨p, rfl⟩ : ∃ p, q = p + 1 := ⟨q - 1, by clear hq; omega⟩
  rw [Nat.add_mul, Nat.one_mul] at this
  rw [Nat.add_sub_cancel]
  clear hq hc
  omega

/-- When the rest has no room in half a word any more the guess is right. -/
theorem Guess.full {H a b u v q r : Nat} (h : Guess H a b u v q r) (hb : b < H) (hr : H ≤ r) (hq : q ≤ H) (hd : 0 < a * H + b) : q = (u * H + v) / (a * H + b) := by
  refine h.done ?_ hd
  have h1 : q * b ≤ H * b := Nat.mul_le_mul_right _ hq
  have h2 : H * b ≤ H * r := Nat.mul_le_mul_left _ (by omega)
  omega

/-- A difference, taken modulo M. -/
theorem mod_diff {M a b r : Nat} (h : a = b + r) (hr : r < M) : (a % M + (M - b % M)) % M = r := by
  have hb := Nat.mod_lt b (Nat.lt_of_le_of_lt (Nat.zero_le r) hr)
  subst h
  rw [Nat.add_mod, Nat.mod_mod, Nat.add_mod b r, Nat.mod_eq_of_lt hr]
  generalize b % M = b' at *
  rcases Nat.lt_or_ge (b' + r) M with h1 | h1
  · rw [Nat.mod_eq_of_lt h1]
    rcases Nat.eq_zero_or_pos b' with h0 | h0
    · subst h0; simp [Nat.mod_eq_of_lt hr]
    · rw [Nat.mod_eq_of_lt (show M - b' < M by omega), show b' + r + (M - b') = r + M by omega, Nat.add_mod_right, Nat.mod_eq_of_lt hr]
  · rw [show b' + r = (b' + r - M) + M by omega, Nat.add_mod_right, Nat.mod_eq_of_lt (show b' + r - M < M by omega)]
    rcases Nat.eq_zero_or_pos b' with h0 | h0
    · omega
    · rw [Nat.mod_eq_of_lt (show M - b' < M by omega), show b' + r - M + (M - b') = r by omega, Nat.mod_eq_of_lt hr]

/-- The guess by a reciprocal: at most two too low. -/
theorem recip_guess {B d m x1 x0 : Nat} (hd : d < B) (hm1 : d * (m + B) + 1 ≤ B * B) (hm2 : B * B ≤ d * (m + B) + d) (hx1 : x1 < d) (hx0 : x0 < B) :
    (x1 * m + x1 * B + x0) / B * d ≤ x1 * B + x0 ∧ x1 * B + x0 < (x1 * m + x1 * B + x0) / B * d + B + d := by
  have hB : 0 < B := by omega
  have e := Nat.div_add_mod (x1 * m + x1 * B + x0) B
  have l := Nat.mod_lt (x1 * m + x1 * B + x0) hB
  generalize (x1 * m + x1 * B + x0) / B = q at *
  generalize (x1 * m + x1 * B + x0) % B = s at *
  -- B q + s = x1 (m + B) + x0
  have e1 : B * q + s = x1 * (m + B) + x0 := by rw [Nat.mul_add]; omega
  have e2 : B * (q * d) + s * d = x1 * (d * (m + B)) + x0 * d := by
    have := congrArg (· * d) e1
    simp only [Nat.add_mul] at this
    rw [Nat.mul_assoc] at this
    rw [this, Nat.mul_assoc, Nat.mul_comm (m + B) d]
  have a1 : x1 * (d * (m + B)) + x1 ≤ x1 * (B * B) := by have := Nat.mul_le_mul_left x1 hm1; rw [Nat.mul_add, Nat.mul_one] at this; exact this
  have a2 : x1 * (B * B) ≤ x1 * (d * (m + B)) + x1 * d := by have := Nat.mul_le_mul_left x1 hm2; rw [Nat.mul_add] at this; exact this
  have a3 : x0 * d ≤ x0 * B := Nat.mul_le_mul_left _ (by omega)
  have e3 : B * (x1 * B + x0) = x1 * (B * B) + x0 * B := by rw [Nat.mul_add, Nat.mul_comm B x0, Nat.mul_comm B (x1 * B), Nat.mul_assoc]
  constructor
  · refine Nat.le_of_mul_le_mul_left (a := q * d) (c := B) ?_ hB
    rw [e3]; omega
  · refine Nat.lt_of_mul_lt_mul_left (a := B) ?_
    rw [e3, Nat.mul_add, Nat.mul_add]
    -- x0 (B - d) + x1 d + s d < B B + B d
    have b1 : x0 * B + d ≤ x0 * d + (B * B - B * d + d) := by
      obtain ⟨k, rfl⟩ : ∃ k, B = d + k := ⟨B - d, by omega⟩
      have : x0 * k + k ≤ (d + k) * k := by have := Nat.mul_le_mul_right k hx0; rw [Nat.succ_mul] at this; exact this
      have e5 : (d + k) * (d + k) - (d + k) * d = (d + k) * k := by rw [← Nat.mul_sub]; congr 1; omega
      rw [e5, Nat.mul_add]; omega
    have b2 : x1 * d + d ≤ d * d := by have := Nat.mul_le_mul_right d hx1; rw [Nat.succ_mul] at this; exact this
    have b3 : s * d + d ≤ B * d := by have := Nat.mul_le_mul_right d l; rw [Nat.succ_mul] at this; exact this
    have b4 : d * d ≤ B * d := Nat.mul_le_mul_right _ (by omega)
    have b5 : B * d ≤ B * B := Nat.mul_le_mul_left _ (by omega)
    have b6 : 0 < d := by omega
    have b7 : d * d < B * d := Nat.mul_lt_mul_of_pos_right hd b6
    omega

end Go.Proofs.YtcoljeafgiemkaaGreatDoor

namespace Go.Proofs.YtcoljeafgiemkaaGreatDoor
open Go Go.RowKit

noncomputable def wadd (x y : Nat) : Nat := (x + y) % WB
noncomputable def wsub (x y : Nat) : Nat := (x % WB + (WB - y % WB)) % WB
noncomputable def wmul (x y : Nat) : Nat := x * y % WB
def low32 (x : Nat) : Nat := x % 4294967296
theorem wadd_lt (x y : Nat) : wadd x y < WB := Nat.mod_lt _ WB_pos
theorem wsub_lt (x y : Nat) : wsub x y < WB := Nat.mod_lt _ WB_pos
theorem wmul_lt (x y : Nat) : wmul x y < WB := Nat.mod_lt _ WB_pos
theorem wadd_of {x y : Nat} (h : x + y < WB) : wadd x y = x + y := Nat.mod_eq_of_lt h
theorem wmul_of {x y : Nat} (h : x * y < WB) : wmul x y = x * y := Nat.mod_eq_of_lt h
theorem wsub_of {x y : Nat} (h : y ≤ x) (hx : x < WB) : wsub x y = x - y := mod_diff (by omega) (by omega)
theorem wsub_borrow {x y : Nat} (h : x < y) (hy : y < WB) : wsub x y = x + WB - y := by
  unfold wsub
  rw [Nat.mod_eq_of_lt (show x < WB by omega), Nat.mod_eq_of_lt hy, Nat.mod_eq_of_lt (by omega)]; omega

theorem wsub_chain {u H v q y r : Nat} (h : u * H + v = q * y + r) (hr : r < WB) : wsub (wadd (wmul u H) v) (wmul q y) = r := by
  unfold wsub wadd wmul
  have := mod_diff h hr
  simp only [Nat.mod_mod, Nat.mod_add_mod] at this ⊢
  exact this

theorem wrap_u64_mod (a : Nat) : IntKind.u64.wrap (a : Int) = ((a % WB : Nat) : Int) := by rw [IntKind.wrap_u64, WB_eq]; omega
@[go_sem] theorem wrap_u64_lt (x : Nat) (h : x < WB) : IntKind.u64.wrap (x : Int) = (x : Int) := wrap_u64_nat x h
@[go_sem] theorem wrap_wadd (x y : Nat) : IntKind.u64.wrap ((x : Int) + (y : Int)) = (wadd x y : Int) := by
  rw [← Int.natCast_add, wrap_u64_mod]; rfl
@[go_sem] theorem wrap_wadd1 (x : Nat) : IntKind.u64.wrap ((x : Int) + 1) = (wadd x 1 : Int) := wrap_wadd x 1
@[go_sem] theorem wrap_wmul (x y : Nat) : IntKind.u64.wrap ((x : Int) * (y : Int)) = (wmul x y : Int) := by
  rw [← Int.natCast_mul, wrap_u64_mod]; rfl
@[go_sem] theorem wrap_wsub (x y : Nat) : IntKind.u64.wrap ((x : Int) - (y : Int)) = (wsub x y : Int) := by
  unfold wsub
  rw [IntKind.wrap_u64, WB_eq]
  have := Nat.mod_lt y (show 0 < 18446744073709551616 by decide)
  omega
@[go_sem] theorem wrap_wsub1 (x : Nat) : IntKind.u64.wrap ((x : Int) - 1) = (wsub x 1 : Int) := wrap_wsub x 1
@[go_sem ↓ high] theorem shift_shr_32 (x : Nat) : Op.shift .shr .u64 (x : Int) .u64 32 = pure (.int .u64 (shrw x 32 : Int)) := shift_shr_nat x 32 (by decide)
@[go_sem ↓ high] theorem bits_low32 (x : Nat) (h : x < WB) : bits .and .u64 (x : Int) 4294967295 = (low32 x : Int) := M64.maskN x (by rw [WB_eq] at h; exact h)
def wdiv (x y : Nat) : Nat := x / y
def wmod (x y : Nat) : Nat := x % y
@[go_sem] theorem wrap_tdiv (x y : Nat) (h : x < WB) : IntKind.u64.wrap ((x : Int).tdiv (y : Int)) = (wdiv x y : Int) := by
  rw [← Int.ofNat_tdiv, wrap_u64_nat _ (Nat.lt_of_le_of_lt (Nat.div_le_self x y) h)]; rfl
@[go_sem] theorem wrap_tmod (x y : Nat) (h : x < WB) : IntKind.u64.wrap ((x : Int).tmod (y : Int)) = (wmod x y : Int) := by
  rw [Int.tmod_eq_emod_of_nonneg (by omega), ← Int.natCast_emod, wrap_u64_nat _ (Nat.lt_of_le_of_lt (Nat.mod_le x y) h)]; rfl
@[go_sem] theorem wrap_ediv (x y : Nat) (h : x < WB) : IntKind.u64.wrap ((x : Int) / (y : Int)) = (wdiv x y : Int) := by
  rw [← Int.natCast_ediv, wrap_u64_nat _ (Nat.lt_of_le_of_lt (Nat.div_le_self x y) h)]; rfl
@[go_sem] theorem wrap_emod (x y : Nat) (h : x < WB) : IntKind.u64.wrap ((x : Int) % (y : Int)) = (wmod x y : Int) := by
  rw [← Int.natCast_emod, wrap_u64_nat _ (Nat.lt_of_le_of_lt (Nat.mod_le x y) h)]; rfl
@[go_sem] theorem bits_or_top (x y : Nat) (hx : x < WB) (hy : y < WB) : bits .or .u64 (x : Int) ((y : Int) / 18446744073709551616) = (x : Int) := by
  have : (y : Int) / 18446744073709551616 = ((0 : Nat) : Int) := by rw [WB_eq] at hy; omega
  rw [this, bits_orw x 0 hx WB_pos]
  unfold orw; simp
theorem shrw32 (x : Nat) : shrw x 32 = x / 4294967296 := rfl
theorem low_high (x : Nat) : shrw x 32 * 4294967296 + low32 x = x := Nat.div_add_mod' x 4294967296
theorem low32_lt (x : Nat) : low32 x < 4294967296 := Nat.mod_lt _ (by decide)
theorem HB_ex : ∃ n : Nat, n = 4294967296 := ⟨_, rfl⟩
/-- What half a word counts to. -/
noncomputable def HB : Nat := Classical.choose HB_ex
theorem HB_eq : HB = 4294967296 := Classical.choose_spec HB_ex
theorem HB_pos : 0 < HB := by rw [HB_eq]; decide
theorem HB_int : (HB : Int) = 4294967296 := by rw [HB_eq]; rfl
theorem HB_two_le : HB + HB + 2 ≤ WB := by rw [WB_eq, HB_eq]; decide
theorem WB_half : WB = HB * HB := by rw [WB_eq, HB_eq]
theorem low_highH (x : Nat) : shrw x 32 * HB + low32 x = x := by rw [HB_eq]; exact low_high x
theorem low32_ltH (x : Nat) : low32 x < HB := by rw [HB_eq]; exact low32_lt x
theorem shrw32_ltH {x : Nat} (h : x < WB) : shrw x 32 < HB := by rw [HB_eq, shrw32]; rw [WB_eq] at h; omega
theorem shrw32_geH {x : Nat} (h : WB ≤ 2 * x) : HB ≤ 2 * shrw x 32 := by rw [HB_eq, shrw32]; rw [WB_eq] at h; omega

@[go_sem] theorem wrap_wmul_l (x : Nat) : IntKind.u64.wrap (4294967296 * (x : Int)) = (wmul HB x : Int) := by rw [← HB_int]; exact wrap_wmul HB x
@[go_sem] theorem wrap_wmul_r (x : Nat) : IntKind.u64.wrap ((x : Int) * 4294967296) = (wmul x HB : Int) := by rw [← HB_int]; exact wrap_wmul x HB

end Go.Proofs.YtcoljeafgiemkaaGreatDoor
