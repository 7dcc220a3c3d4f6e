/- Lists of words of 64 bits as numbers: plain facts, no program. Blocks of words in memory: what a world holds, and a world that differs in one block. Functions on single words: sums and products with a carry. Sums, differences and products of rows of words. Shifts of words. Rows of words shifted by less than a word. Powers by squaring: plain facts. -/
import Derived.WalkKit
import Derived.WalkSpells
import Derived.WalkLawsBesides
import Derived.Deep.QuietTactic
import Derived.BigQuiet
import Derived.StillTailTactics
import Derived.Deep.DeepFit
import Derived.Lib.Hide
import Derived.Deep.LoopGhost
import Derived.Deep.DeepCutAuto
import Derived.Deep.Light
import Derived.Deep.CutBlock
import Derived.Shelf.Spec.BitsCarry
import Derived.Test.YtonepclpllelfaaGreatDoorProg
import Derived.Laws.Externs
import Derived.Lib.Mul64
namespace Go.Proofs.YtonepclpllelfaaGreatDoor

theorem WB_ex : ∃ n : Nat, n = 18446744073709551616 := ⟨_, rfl⟩
/-- What a word counts to: a number whose value neither Lean nor the kernel lays open by itself. -/
noncomputable def WB : Nat := Classical.choose WB_ex
theorem WB_eq : WB = 18446744073709551616 := Classical.choose_spec WB_ex
theorem WB_pos : 0 < WB := by rw [WB_eq]; decide
theorem WB_two : 2 ≤ WB := by rw [WB_eq]; decide
theorem WB_pow_pos (k : Nat) : 0 < WB ^ k := Nat.pow_pos WB_pos

/-- The number of a list of words, the lowest first. -/
noncomputable def val : List Nat → Nat
  | [] => 0
  | x :: xs => x + WB * val xs

/-- Every word is below the base. -/
def Wd (l : List Nat) : Prop := ∀ x, x ∈ l → x < WB

theorem Wd.nil : Wd [] := fun _ h => by cases h
theorem Wd.cons {x : Nat} {l : List Nat} (hx : x < WB) (h : Wd l) : Wd (x :: l) := fun y hy => by
  cases hy with
  | head => exact hx
  | tail _ h' => exact h y h'
theorem Wd.head {x : Nat} {l : List Nat} (h : Wd (x :: l)) : x < WB := h x (List.mem_cons_self ..)
theorem Wd.tail {x : Nat} {l : List Nat} (h : Wd (x :: l)) : Wd l := fun y hy => h y (List.mem_cons_of_mem _ hy)
theorem Wd.append {a b : List Nat} (ha : Wd a) (hb : Wd b) : Wd (a ++ b) := fun y hy => by
  rcases List.mem_append.1 hy with h | h
  · exact ha y h
  · exact hb y h
theorem Wd.left {a b : List Nat} (h : Wd (a ++ b)) : Wd a := fun y hy => h y (List.mem_append.2 (.inl hy))
theorem Wd.right {a b : List Nat} (h : Wd (a ++ b)) : Wd b := fun y hy => h y (List.mem_append.2 (.inr hy))
theorem Wd.take {l : List Nat} (h : Wd l) (n : Nat) : Wd (l.take n) := fun y hy => h y (List.mem_of_mem_take hy)
theorem Wd.drop {l : List Nat} (h : Wd l) (n : Nat) : Wd (l.drop n) := fun y hy => h y (List.mem_of_mem_drop hy)
theorem Wd.set {l : List Nat} (h : Wd l) (n x : Nat) (hx : x < WB) : Wd (l.set n x) := fun y hy => by
  rcases List.mem_or_eq_of_mem_set hy with h' | h'
  · exact h y h'
  · exact h' ▸ hx
theorem Wd.zeros (n : Nat) : Wd (List.replicate n 0) := fun y hy => by
  have := List.eq_of_mem_replicate hy
  subst this; exact WB_pos
theorem Wd.get {l : List Nat} (h : Wd l) {i x : Nat} (hx : l[i]? = some x) : x < WB := h x (List.mem_of_getElem? hx)
theorem Wd.getD {l : List Nat} (h : Wd l) (i : Nat) : l[i]?.getD 0 < WB := by
  cases hx : l[i]? with
  | none => exact WB_pos
  | some x => exact h.get hx

/-- The word at a place; 0 behind the end. -/
def nth (l : List Nat) (i : Nat) : Nat := l[i]?.getD 0
theorem nth_of {l : List Nat} {i x : Nat} (h : l[i]? = some x) : nth l i = x := by unfold nth; rw [h]; rfl
theorem get_nth {l : List Nat} {i : Nat} (h : i < l.length) : l[i]? = some (nth l i) := by unfold nth; rw [List.getElem?_eq_getElem h]; rfl
theorem nth_ge {l : List Nat} {i : Nat} (h : l.length ≤ i) : nth l i = 0 := by unfold nth; rw [List.getElem?_eq_none h]; rfl
theorem Wd.nth {l : List Nat} (h : Wd l) (i : Nat) : nth l i < WB := h.getD i
theorem take_nth {l : List Nat} {k : Nat} (h : k < l.length) : l.take (k + 1) = l.take k ++ [nth l k] := by
  rw [List.take_add_one, get_nth h]; rfl
theorem nth_append_left {a b : List Nat} {i : Nat} (h : i < a.length) : nth (a ++ b) i = nth a i := by unfold nth; rw [List.getElem?_append_left h]
theorem nth_append_right {a b : List Nat} {i : Nat} (h : a.length ≤ i) : nth (a ++ b) i = nth b (i - a.length) := by unfold nth; rw [List.getElem?_append_right h]
theorem nth_take {l : List Nat} {i k : Nat} (h : i < k) : nth (l.take k) i = nth l i := by unfold nth; rw [List.getElem?_take_of_lt h]
theorem nth_drop (l : List Nat) (i k : Nat) : nth (l.drop k) i = nth l (k + i) := by unfold nth; rw [List.getElem?_drop]

@[simp] theorem val_nil : val [] = 0 := rfl
theorem val_cons (x : Nat) (l : List Nat) : val (x :: l) = x + WB * val l := rfl
theorem val_append (a b : List Nat) : val (a ++ b) = val a + WB ^ a.length * val b := by
  induction a with
  | nil => simp [val]
  | cons x a ih =>
    simp only [List.cons_append, val, ih, List.length_cons, Nat.pow_succ, Nat.mul_add]
    rw [Nat.add_assoc, Nat.mul_comm (WB ^ a.length) WB, Nat.mul_assoc]
theorem val_snoc (a : List Nat) (x : Nat) : val (a ++ [x]) = val a + WB ^ a.length * x := by
  rw [val_append]; simp [val]
theorem val_take_succ {l : List Nat} {k : Nat} (h : k < l.length) : val (l.take (k + 1)) = val (l.take k) + WB ^ k * nth l k := by
  rw [take_nth h, val_snoc, List.length_take, Nat.min_eq_left (by omega)]
theorem val_zeros (n : Nat) : val (List.replicate n 0) = 0 := by
  induction n with
  | zero => rfl
  | succ n ih => rw [List.replicate_succ, val, ih]; rfl
theorem val_lt {l : List Nat} (h : Wd l) : val l < WB ^ l.length := by
  induction l with
  | nil => simp [val]
  | cons x l ih =>
    have hx := h.head
    have hi := ih h.tail
    simp only [val, List.length_cons, Nat.pow_succ]
    have : WB * val l + WB ≤ WB * WB ^ l.length := by
      have := Nat.mul_le_mul_left WB (Nat.succ_le_of_lt hi)
      rw [Nat.mul_succ] at this; exact this
    rw [Nat.mul_comm (WB ^ l.length)]; omega
theorem val_take_drop (l : List Nat) (n : Nat) (h : n ≤ l.length) : val l = val (l.take n) + WB ^ n * val (l.drop n) := by
  have := val_append (l.take n) (l.drop n)
  rw [List.take_append_drop, List.length_take, Nat.min_eq_left h] at this
  exact this
theorem val_inj {a b : List Nat} (ha : Wd a) (hb : Wd b) (hl : a.length = b.length) (h : val a = val b) : a = b := by
  induction a generalizing b with
  | nil => cases b with
    | nil => rfl
    | cons => simp at hl
  | cons x a ih => cases b with
    | nil => simp at hl
    | cons y b =>
      have hx := ha.head
      have hy := hb.head
      simp only [val] at h
      have e1 : x = y := by
        have h1 := congrArg (· % WB) h
        simp only [Nat.add_mul_mod_self_left, Nat.mod_eq_of_lt hx, Nat.mod_eq_of_lt hy] at h1
        exact h1
      subst e1
      have e2 : val a = val b := Nat.eq_of_mul_eq_mul_left WB_pos (by omega)
      rw [ih ha.tail hb.tail (by simpa using hl) e2]

/-- The words of a number, the last one not 0. -/
noncomputable def digs (n : Nat) : List Nat := if _h : n = 0 then [] else n % WB :: digs (n / WB)
termination_by n
decreasing_by exact Nat.div_lt_self (Nat.pos_of_ne_zero _h) WB_two

theorem digs_zero : digs 0 = [] := by rw [digs]; simp
theorem digs_pos {n : Nat} (h : n ≠ 0) : digs n = n % WB :: digs (n / WB) := by rw [digs]; simp [h]
theorem val_digs (n : Nat) : val (digs n) = n := by
  induction n using Nat.strongRecOn with
  | _ n ih =>
    by_cases h : n = 0
    · subst h; rw [digs_zero]; rfl
    · rw [digs_pos h, val, ih _ (Nat.div_lt_self (Nat.pos_of_ne_zero h) WB_two)]
      exact Nat.mod_add_div n WB
theorem Wd_digs (n : Nat) : Wd (digs n) := by
  induction n using Nat.strongRecOn with
  | _ n ih =>
    by_cases h : n = 0
    · subst h; rw [digs_zero]; exact Wd.nil
    · rw [digs_pos h]
      exact Wd.cons (Nat.mod_lt _ WB_pos) (ih _ (Nat.div_lt_self (Nat.pos_of_ne_zero h) WB_two))
theorem digs_eq_nil {n : Nat} : digs n = [] ↔ n = 0 := by
  constructor
  · intro h; have := val_digs n; rw [h] at this; exact this.symm
  · rintro rfl; exact digs_zero
theorem digs_len_eq_zero {n : Nat} : (digs n).length = 0 ↔ n = 0 := by rw [List.length_eq_zero_iff, digs_eq_nil]
theorem digs_last {n : Nat} (h : digs n ≠ []) : (digs n).getLast h ≠ 0 := by
  induction n using Nat.strongRecOn with
  | _ n ih =>
    have hn : n ≠ 0 := fun e => h (digs_eq_nil.2 e)
    by_cases h1 : n / WB = 0
    · have e : digs n = [n % WB] := by rw [digs_pos hn, h1, digs_zero]
      have hlt : n < WB := by
        rcases Nat.lt_or_ge n WB with h' | h'
        · exact h'
        · have := (Nat.le_div_iff_mul_le WB_pos).2 (by omega : 1 * WB ≤ n); omega
      have : ∀ (l : List Nat) (hl : l ≠ []), l = [n % WB] → l.getLast hl ≠ 0 := by
        intro l hl e; subst e; simp; rw [Nat.mod_eq_of_lt hlt]; exact hn
      exact this _ h e
    · have hne : digs (n / WB) ≠ [] := fun e => h1 (digs_eq_nil.1 e)
      have hi := ih (n / WB) (Nat.div_lt_self (Nat.pos_of_ne_zero hn) WB_two) hne
      have : ∀ (l : List Nat) (hl : l ≠ []), l = n % WB :: digs (n / WB) → l.getLast hl ≠ 0 := by
        intro l hl e; subst e; rw [List.getLast_cons hne]; exact hi
      exact this _ h (digs_pos hn)
/-- Words whose last one is not 0 are those of their number. -/
theorem digs_val {l : List Nat} (h : Wd l) (hl : ∀ x, l.getLast? = some x → x ≠ 0) : digs (val l) = l := by
  induction l with
  | nil => exact digs_zero
  | cons x l ih =>
    have hx := h.head
    have hl' : ∀ y, l.getLast? = some y → y ≠ 0 := by
      intro y hy
      cases l with
      | nil => simp at hy
      | cons z l => exact hl y (by rw [List.getLast?_cons_cons]; exact hy)
    have hne : val (x :: l) ≠ 0 := by
      simp only [val]
      intro e
      have ex : x = 0 := by omega
      have ev : val l = 0 := by
        have : WB * val l = 0 := by omega
        rcases Nat.mul_eq_zero.1 this with h' | h'
        · exact absurd h' (Nat.ne_of_gt WB_pos)
        · exact h'
      cases l with
      | nil => exact hl x rfl ex
      | cons z l =>
        have := ih h.tail hl'
        rw [ev, digs_zero] at this
        cases this
    rw [digs_pos hne]
    have e1 : val (x :: l) % WB = x := by simp only [val, Nat.add_mul_mod_self_left, Nat.mod_eq_of_lt hx]
    have e2 : val (x :: l) / WB = val l := by
      simp only [val, Nat.add_mul_div_left _ _ WB_pos, Nat.div_eq_of_lt hx, Nat.zero_add]
    rw [e1, e2, ih h.tail hl']
theorem digs_len_le {n k : Nat} : (digs n).length ≤ k ↔ n < WB ^ k := by
  constructor
  · intro h
    have := val_lt (Wd_digs n)
    rw [val_digs] at this
    exact Nat.lt_of_lt_of_le this (Nat.pow_le_pow_right WB_pos h)
  · intro h
    induction k generalizing n with
    | zero => have : n = 0 := by simpa using h
              subst this; simp [digs_zero]
    | succ k ih =>
      by_cases hn : n = 0
      · subst hn; simp [digs_zero]
      · rw [digs_pos hn, List.length_cons]
        have : n / WB < WB ^ k := by
          rw [Nat.div_lt_iff_lt_mul WB_pos, ← Nat.pow_succ]; exact h
        have := ih this
        omega
theorem digs_len_mono {m n : Nat} (h : m ≤ n) : (digs m).length ≤ (digs n).length :=
  digs_len_le.2 (Nat.lt_of_le_of_lt h (by have := val_lt (Wd_digs n); rwa [val_digs] at this))
theorem lt_digs_len (n : Nat) : n < WB ^ (digs n).length := digs_len_le.1 (Nat.le_refl _)
/-- Noughts at the end do not count. -/
theorem val_append_zeros (l : List Nat) (k : Nat) : val (l ++ List.replicate k 0) = val l := by
  rw [val_append, val_zeros]; simp
theorem digs_take {l : List Nat} (h : Wd l) {i : Nat} (hi : i ≤ l.length) (hz : ∀ j, i ≤ j → j < l.length → l[j]? = some 0) (hl : i = 0 ∨ ∃ x, l[i - 1]? = some x ∧ x ≠ 0) :
    digs (val l) = l.take i := by
  have e : l = l.take i ++ List.replicate (l.length - i) 0 := by
    apply List.ext_getElem?
    intro j
    by_cases hj : j < i
    · rw [List.getElem?_append_left (by simp; omega), List.getElem?_take_of_lt hj]
    · rw [List.getElem?_append_right (by simp; omega)]
      by_cases hj2 : j < l.length
      · rw [hz j (by omega) hj2, List.getElem?_replicate]
        simp; omega
      · rw [List.getElem?_eq_none (by omega), List.getElem?_replicate]
        simp; omega
  have ev : val l = val (l.take i) := by
    have := val_append_zeros (l.take i) (l.length - i)
    rw [← e] at this; exact this
  rw [ev]
  apply digs_val (h.take i)
  intro x hx
  rcases hl with h0 | ⟨y, hy, hy0⟩
  · subst h0; simp at hx
  · have hi0 : i ≠ 0 := by
      intro e0; subst e0; simp at hx
    rw [List.getLast?_eq_getElem?] at hx
    have hlen : (l.take i).length = i := by simp; omega
    rw [hlen, List.getElem?_take_of_lt (by omega), hy] at hx
    cases hx; exact hy0

/-! Sums and differences of words with a carry, products in two words -/
noncomputable def adds (x y c : Nat) : Nat := (x + y + c) % WB
noncomputable def addc (x y c : Nat) : Nat := (x + y + c) / WB
noncomputable def subs (x y c : Nat) : Nat := (x + WB - y - c) % WB
def subc (x y c : Nat) : Nat := if x < y + c then 1 else 0
noncomputable def mulhi (x y : Nat) : Nat := x * y / WB
noncomputable def mullo (x y : Nat) : Nat := x * y % WB
theorem adds_lt (x y c : Nat) : adds x y c < WB := Nat.mod_lt _ WB_pos
theorem subs_lt (x y c : Nat) : subs x y c < WB := Nat.mod_lt _ WB_pos
theorem mullo_lt (x y : Nat) : mullo x y < WB := Nat.mod_lt _ WB_pos
theorem adds_addc (x y c : Nat) : adds x y c + WB * addc x y c = x + y + c := Nat.mod_add_div _ _
theorem addc_le {x y c : Nat} (hx : x < WB) (hy : y < WB) (hc : c ≤ 1) : addc x y c ≤ 1 := by
  unfold addc
  have : (x + y + c) / WB < 2 := by rw [Nat.div_lt_iff_lt_mul WB_pos]; omega
  omega
theorem subc_le (x y c : Nat) : subc x y c ≤ 1 := by unfold subc; split <;> omega
theorem subs_subc {x y c : Nat} (hx : x < WB) (hy : y < WB) (hc : c ≤ 1) : x + WB * subc x y c = subs x y c + y + c := by
  unfold subs subc
  split
  · rw [Nat.mod_eq_of_lt (by omega)]; omega
  · rw [show x + WB - y - c = (x - y - c) + WB by omega, Nat.add_mod_right, Nat.mod_eq_of_lt (by omega)]; omega
theorem mulhi_lt {x y : Nat} (hx : x < WB) (hy : y < WB) : mulhi x y < WB := by
  unfold mulhi
  rw [Nat.div_lt_iff_lt_mul WB_pos]
  exact Nat.mul_lt_mul'' hx hy
theorem mullo_mulhi (x y : Nat) : mullo x y + WB * mulhi x y = x * y := Nat.mod_add_div _ _
theorem add_step {r P c x y X Y s c' : Nat} (h : r + P * c = X + Y) (e : s + WB * c' = x + y + c) : r + P * s + P * WB * c' = X + P * x + (Y + P * y) := by
  have : P * s + P * WB * c' = P * (x + y + c) := by rw [Nat.mul_assoc, ← Nat.mul_add, e]
  have e2 : P * (x + y + c) = P * x + P * y + P * c := by rw [Nat.mul_add, Nat.mul_add]
  omega
theorem sub_step {r P c x y X Y s c' : Nat} (h : X + P * c = r + Y) (e : x + WB * c' = s + y + c) : X + P * x + P * WB * c' = r + P * s + (Y + P * y) := by
  have : P * x + P * WB * c' = P * (s + y + c) := by rw [Nat.mul_assoc, ← Nat.mul_add, e]
  have e2 : P * (s + y + c) = P * s + P * y + P * c := by rw [Nat.mul_add, Nat.mul_add]
  omega

end Go.Proofs.YtonepclpllelfaaGreatDoor

namespace Go.Proofs.YtonepclpllelfaaGreatDoor
open Go Go.RowKit

/-- A word as a value. -/
def uw (x : Nat) : Value := .int .u64 (x : Int)

/-- Block b holds just these words (112: the type of a word). -/
structure Arr (w : World) (b : Nat) (C : List Nat) : Prop where
  heap : w.heap[b]? = some (.cells (C.map uw).toArray 112 (0, 0))
  wd : Wd C

theorem Arr.cell {w : World} {b : Nat} {C : List Nat} (h : Arr w b C) {i x : Nat} (hx : C[i]? = some x) : w.cell? ⟨b, i, none⟩ = some (.int .u64 (x : Int)) := by
  have h := h.heap; unfold World.cell?; simp [h, hx, uw]
theorem Arr.cellN {w : World} {b : Nat} {C : List Nat} (h : Arr w b C) {i : Nat} (hi : i < C.length) : w.cell? ⟨b, i, none⟩ = some (.int .u64 (nth C i : Int)) := h.cell (get_nth hi)
theorem Arr.frozen {w : World} {b : Nat} {C : List Nat} (h : Arr w b C) (i : Nat) : w.frozen? ⟨b, i, none⟩ = false := by
  unfold World.frozen?; rw [h.heap]; simp
theorem Arr.lt {w : World} {b : Nat} {C : List Nat} (h : Arr w b C) : b < w.heap.size := by
  have h := h.heap
  rcases Nat.lt_or_ge b w.heap.size with h' | h'
  · exact h'
  · rw [Array.getElem?_eq_none h'] at h; cases h
theorem Arr.inj {w : World} {b : Nat} {C D : List Nat} (h : Arr w b C) (h' : Arr w b D) : C = D := by
  have h := h.heap
  have h' := h'.heap
  rw [h] at h'
  simp only [Option.some.injEq, Obj.cells.injEq, and_true] at h'
  have e := congrArg Array.toList h'
  simp only at e
  exact (List.map_inj_right (fun a b e => by unfold uw at e; simp at e; omega)).1 e
theorem Arr.drewN {w : World} {b : Nat} {C : List Nat} (h : Arr w b C) (n : Nat) : Arr (w.drewN n) b C := ⟨h.heap, h.wd⟩

/-- wr is w but for block b, which holds C. -/
structure Sub (w wr : World) (b : Nat) (C : List Nat) : Prop where
  arr : Arr wr b C
  block : ∀ k, k ≠ b → wr.heap[k]? = w.heap[k]?
  size : wr.heap.size = w.heap.size
  os : wr.os = w.os
  tape : wr.tape = w.tape
  output : wr.output = w.output

theorem Sub.refl {w : World} {b : Nat} {C : List Nat} (h : Arr w b C) : Sub w w b C := ⟨h, fun _ _ => rfl, rfl, rfl, rfl, rfl⟩
theorem Sub.drewN {w wr : World} {b : Nat} {C : List Nat} (h : Sub w wr b C) (n : Nat) : Sub w (wr.drewN n) b C := ⟨h.arr.drewN n, h.block, h.size, h.os, h.tape, h.output⟩
theorem Sub.drew {w wr : World} {b : Nat} {C : List Nat} (h : Sub w wr b C) : Sub w wr.drew b C := ⟨⟨h.arr.heap, h.arr.wd⟩, h.block, h.size, h.os, h.tape, h.output⟩
theorem Sub.other {w wr : World} {b k : Nat} {C D : List Nat} (h : Sub w wr b C) (hk : k ≠ b) (hD : Arr w k D) : Arr wr k D := ⟨by rw [h.block k hk]; exact hD.heap, hD.wd⟩
theorem Sub.set {w wr : World} {b : Nat} {C : List Nat} (h : Sub w wr b C) {i : Nat} (x : Nat) (hx : x < WB) : Sub w (wr.setCell ⟨b, i, none⟩ (.int .u64 (x : Int))) b (C.set i x) := by
  have ha := h.arr.heap
  refine ⟨⟨?_, h.arr.wd.set i x hx⟩, fun k hk => ?_, by rw [World.size_setCell]; exact h.size, h.os, h.tape, h.output⟩
  · simp only [World.setCell, Array.getElem?_modify, if_true, ha, Option.map_some]
    simp [List.map_set, uw]
  · rw [Below.heap_setCell _ _ _ _ hk]; exact h.block k hk
theorem Sub.trans {a b c : World} {k : Nat} {C D : List Nat} (h : Sub a b k C) (h' : Sub b c k D) : Sub a c k D :=
  ⟨h'.arr, fun i hi => (h'.block i hi).trans (h.block i hi), h'.size.trans h.size, h'.os.trans h.os, h'.tape.trans h.tape, h'.output.trans h.output⟩

/-- C with R laid over it from o on. -/
def spl (C : List Nat) (o : Nat) (R : List Nat) : List Nat := C.take o ++ R ++ C.drop (o + R.length)
theorem spl_length {C : List Nat} {o : Nat} {R : List Nat} (h : o + R.length ≤ C.length) : (spl C o R).length = C.length := by
  unfold spl; simp; omega
theorem spl_nil (C : List Nat) (o : Nat) : spl C o [] = C := by unfold spl; simp
theorem spl_lt {C : List Nat} {o : Nat} {R : List Nat} {j : Nat} (h : o + R.length ≤ C.length) (hj : j < o) : (spl C o R)[j]? = C[j]? := by
  unfold spl; rw [List.append_assoc, List.getElem?_append_left (by simp; omega), List.getElem?_take_of_lt hj]
theorem spl_ge {C : List Nat} {o : Nat} {R : List Nat} {j : Nat} (h : o + R.length ≤ C.length) (hj : o + R.length ≤ j) : (spl C o R)[j]? = C[j]? := by
  unfold spl; rw [List.getElem?_append_right (by simp; omega), List.getElem?_drop]; congr 1; simp; omega
theorem spl_mid {C : List Nat} {o : Nat} {R : List Nat} {j : Nat} (h : o + R.length ≤ C.length) (hj : j < R.length) : (spl C o R)[o + j]? = R[j]? := by
  unfold spl; rw [List.append_assoc, List.getElem?_append_right (by simp; omega), List.getElem?_append_left (by simp; omega)]; congr 1; simp; omega
theorem spl_next {C : List Nat} {o : Nat} {R : List Nat} (h : o + R.length < C.length) (x : Nat) : (spl C o R).set (o + R.length) x = spl C o (R ++ [x]) := by
  apply List.ext_getElem?
  intro j
  rw [List.getElem?_set]
  split
  · rename_i e; subst e
    rw [if_pos (by rw [spl_length (by omega)]; exact h), spl_mid (by simp; omega) (by simp)]
    simp
  · rename_i e
    by_cases h1 : j < o
    · rw [spl_lt (by omega) h1, spl_lt (by simp; omega) h1]
    · by_cases h2 : j < o + R.length
      · obtain ⟨d, rfl⟩ : ∃ d, j = o + d := ⟨j - o, by omega⟩
        rw [spl_mid (by omega) (by omega), spl_mid (by simp; omega) (by simp; omega), List.getElem?_append_left (by omega)]
      · rw [spl_ge (by omega) (by omega), spl_ge (by simp; omega) (by simp; omega)]
/-- One word more at the front. -/
theorem spl_prev {C : List Nat} {o : Nat} {R : List Nat} (h : o + 1 + R.length ≤ C.length) (x : Nat) : (spl C (o + 1) R).set o x = spl C o (x :: R) := by
  apply List.ext_getElem?
  intro j
  rw [List.getElem?_set]
  split
  · rename_i e; subst e
    rw [if_pos (by rw [spl_length (by omega)]; omega)]
    have := spl_mid (C := C) (o := o) (R := x :: R) (j := 0) (by simp; omega) (by simp)
    rw [Nat.add_zero] at this; rw [this]; rfl
  · rename_i e
    by_cases h1 : j < o
    · rw [spl_lt (by omega) (by omega), spl_lt (by simp; omega) h1]
    · by_cases h2 : j < o + 1 + R.length
      · obtain ⟨d, rfl⟩ : ∃ d, j = o + 1 + d := ⟨j - (o + 1), by omega⟩
        rw [spl_mid (by omega) (by omega), show o + 1 + d = o + (d + 1) by omega, spl_mid (by simp; omega) (by simp; omega)]
        rfl
      · rw [spl_ge (by omega) (by omega), spl_ge (by simp; omega) (by simp; omega)]
theorem nth_spl_lt {C : List Nat} {o : Nat} {R : List Nat} {j : Nat} (h : o + R.length ≤ C.length) (hj : j < o) : nth (spl C o R) j = nth C j := by unfold nth; rw [spl_lt h hj]
theorem nth_spl_ge {C : List Nat} {o : Nat} {R : List Nat} {j : Nat} (h : o + R.length ≤ C.length) (hj : o + R.length ≤ j) : nth (spl C o R) j = nth C j := by unfold nth; rw [spl_ge h hj]
theorem nth_spl_mid {C : List Nat} {o : Nat} {R : List Nat} {j : Nat} (h : o + R.length ≤ C.length) (hj : j < R.length) : nth (spl C o R) (o + j) = nth R j := by unfold nth; rw [spl_mid h hj]
theorem Wd_spl {C : List Nat} {o : Nat} {R : List Nat} (h : Wd C) (hr : Wd R) : Wd (spl C o R) := ((h.take o).append hr).append (h.drop _)
theorem spl_spl_next {C : List Nat} {o : Nat} {R S : List Nat} (h : o + R.length + S.length ≤ C.length) : spl (spl C o R) (o + R.length) S = spl C o (R ++ S) := by
  apply List.ext_getElem?
  intro j
  have l1 : (spl C o R).length = C.length := spl_length (by omega)
  by_cases h1 : j < o
  · rw [spl_lt (by omega) (by omega), spl_lt (by omega) h1, spl_lt (by simp; omega) h1]
  · by_cases h2 : j < o + R.length
    · obtain ⟨d, rfl⟩ : ∃ d, j = o + d := ⟨j - o, by omega⟩
      rw [spl_lt (by omega) (by omega), spl_mid (by omega) (by omega), spl_mid (by simp; omega) (by simp; omega), List.getElem?_append_left (by omega)]
    · by_cases h3 : j < o + R.length + S.length
      · obtain ⟨d, rfl⟩ : ∃ d, j = o + R.length + d := ⟨j - (o + R.length), by omega⟩
        rw [spl_mid (by omega) (by omega), Nat.add_assoc, spl_mid (by simp; omega) (by simp; omega), List.getElem?_append_right (by omega)]
        congr 1; omega
      · rw [spl_ge (by omega) (by omega), spl_ge (by omega) (by omega), spl_ge (by simp; omega) (by simp; omega)]
theorem spl_take_drop {C R : List Nat} {o : Nat} (h : o + R.length ≤ C.length) : ((spl C o R).drop o).take R.length = R := by
  apply List.ext_getElem?
  intro j
  by_cases hj : j < R.length
  · rw [List.getElem?_take_of_lt hj, List.getElem?_drop, spl_mid h hj]
  · rw [List.getElem?_eq_none (by simp; omega), List.getElem?_eq_none (by omega)]

theorem Sub.next {w wr : World} {b o k : Nat} {C R : List Nat} (h : Sub w wr b (spl C o R)) (hk : R.length = k) (hl : o + k < C.length) (x : Nat) (hx : x < WB) :
    Sub w (wr.setCell ⟨b, o + k, none⟩ (.int .u64 (x : Int))) b (spl C o (R ++ [x])) := by
  subst hk
  have := h.set (i := o + R.length) x hx
  rwa [spl_next hl] at this

/-- A row X of words that is read while the words of block bz from oz on are written, one after the other. -/
def Rd (w : World) (bz oz n : Nat) (Cz : List Nat) (bx ox : Nat) (X : List Nat) : Prop :=
  ∀ wr R, Sub w wr bz (spl Cz oz R) → R.length < n → wr.cell? ⟨bx, ox + R.length, none⟩ = some (.int .u64 (nth X R.length : Int))
theorem Rd.mk {w : World} {bz oz n : Nat} {Cz : List Nat} {bx ox : Nat} {Cx : List Nat} (hz : Arr w bz Cz) (_lz : oz + n ≤ Cz.length) (hx : Arr w bx Cx) (lx : ox + n ≤ Cx.length)
    (hs : bx ≠ bz ∨ oz ≤ ox) : Rd w bz oz n Cz bx ox ((Cx.drop ox).take n) := by
  intro wr R hS hR
  rw [nth_take hR, nth_drop]
  by_cases e : bx = bz
  · subst e
    have hle : oz ≤ ox := by
      rcases hs with h | h
      · exact absurd rfl h
      · exact h
    obtain rfl := hz.inj hx
    have := hS.arr.cellN (i := ox + R.length) (by rw [spl_length (by omega)]; omega)
    rw [this, nth_spl_ge (by omega) (by omega)]
  · exact (hS.other e hx).cellN (by omega)

theorem ret_i {k : IntKind} {a b : Int} (h : a = b) : Ending.returned (.int k a) = .returned (.int k b) := by rw [h]
theorem ret2_i {k k' : IntKind} {a b c d : Int} (h : a = b) (h' : c = d) : Ending.returned (.tuple #[.int k a, .int k' c]) = .returned (.tuple #[.int k b, .int k' d]) := by rw [h, h']

end Go.Proofs.YtonepclpllelfaaGreatDoor

namespace Go.Proofs.YtonepclpllelfaaGreatDoor
open Go Go.RowKit

theorem run_Add64 (x y c : Nat) (hx : x < WB) (hy : y < WB) (hc : c ≤ 1) (w : World) :
    (callFunc 227 #[.int .u64 x, .int .u64 y, .int .u64 c]).run Tryz.prog w =
      .ok (.value (.tuple #[.int .u64 (adds x y c : Int), .int .u64 (addc x y c : Int)])) w := by
  unfold adds addc
  rw [run_callFunc_extern Tryz.func227 (by kernel_rfl) (by kernel_rfl) (by kernel_rfl) (e := add64Entry) (by kernel_rfl)]
  rw [WB_eq] at *
  rw [run_add64 x y c (by omega) (by omega) (by omega) (by omega)]
  simp only [Result.andThen]
  congr 5 <;> omega

theorem run_Sub64 (x y c : Nat) (hc : c ≤ 1) (w : World) :
    (callFunc 229 #[.int .u64 x, .int .u64 y, .int .u64 c]).run Tryz.prog w =
      .ok (.value (.tuple #[.int .u64 (subs x y c : Int), .int .u64 (subc x y c : Int)])) w := by
  unfold subs subc
  rw [run_callFunc_extern Tryz.func229 (by kernel_rfl) (by kernel_rfl) (by kernel_rfl) (e := sub64Entry) (by kernel_rfl)]
  rw [WB_eq] at *
  rw [run_sub64 x y c hc]
  rfl

set_option maxHeartbeats 400000 in
theorem bits_Add (x y c : Nat) (hx : x < WB) (hy : y < WB) (hc : c ≤ 1) (w : World) :
    Calls Tryz.prog 193 #[.int .u64 x, .int .u64 y, .int .u64 c] w fun e w' => e = .returned (.tuple #[.int .u64 (adds x y c : Int), .int .u64 (addc x y c : Int)]) ∧ w' = w := by
  have H := run_Add64 x y c hx hy hc
  go_enter Tryz.func193, Tryz.ntmps193
  go_wp2
  go_ret2
  exact ⟨rfl, rfl⟩

set_option maxHeartbeats 400000 in
theorem bits_Sub (x y c : Nat) (hc : c ≤ 1) (w : World) :
    Calls Tryz.prog 195 #[.int .u64 x, .int .u64 y, .int .u64 c] w fun e w' => e = .returned (.tuple #[.int .u64 (subs x y c : Int), .int .u64 (subc x y c : Int)]) ∧ w' = w := by
  have H := run_Sub64 x y c hc
  go_enter Tryz.func195, Tryz.ntmps195
  go_wp2
  go_ret2
  exact ⟨rfl, rfl⟩

namespace M64
theorem maskN (a : Nat) (ha : a < 18446744073709551616) : bits .and .u64 (a : Int) 4294967295 = ((a % 4294967296 : Nat) : Int) := by
  have h := bits_and_u64_nat a 4294967295 ha (by omega)
  have e : a &&& 4294967295 = a % 4294967296 := Nat.and_two_pow_sub_one_eq_mod a 32
  rw [e] at h
  exact h
theorem divN (a : Nat) : (a : Int) / 4294967296 = ((a / 4294967296 : Nat) : Int) := by omega
theorem mulN (a b : Nat) : (a : Int) * (b : Int) = ((a * b : Nat) : Int) := (Int.natCast_mul a b).symm
theorem addN (a b : Nat) : (a : Int) + (b : Int) = ((a + b : Nat) : Int) := (Int.natCast_add a b).symm
theorem wrapN (a : Nat) (ha : a < 18446744073709551616) : IntKind.u64.wrap (a : Int) = (a : Int) := by rw [IntKind.wrap_u64]; omega
theorem wrapM (a : Nat) : IntKind.u64.wrap (a : Int) = ((a % 18446744073709551616 : Nat) : Int) := by rw [IntKind.wrap_u64]; omega
end M64

set_option maxHeartbeats 1000000 in
theorem bits_Mul64 (x y : Nat) (hx : x < WB) (hy : y < WB) (w : World) :
    Calls Tryz.prog 244 #[.int .u64 x, .int .u64 y] w fun e w' => e = .returned (.tuple #[.int .u64 (mulhi x y : Int), .int .u64 (mullo x y : Int)]) ∧ w' = w := by
  unfold mulhi mullo
  rw [WB_eq] at *
  obtain ⟨bd, bt, bw, hhi⟩ := Lib.mul64_hi x y hx hy
  have ba := Lib.half_mul_le (a := x / 4294967296) (b := y / 4294967296) (by omega) (by omega)
  have bb := Lib.half_mul_le (a := x / 4294967296) (b := y % 4294967296) (by omega) (by omega)
  have bc := Lib.half_mul_le (a := x % 4294967296) (b := y / 4294967296) (by omega) (by omega)
  have ba' : x / 4294967296 * (y / 4294967296) < 18446744073709551616 := by omega
  have bb' : x / 4294967296 * (y % 4294967296) < 18446744073709551616 := by omega
  have bc' : x % 4294967296 * (y / 4294967296) < 18446744073709551616 := by omega
  have bh1 : x / 4294967296 * (y / 4294967296) + (x / 4294967296 * (y % 4294967296) + x % 4294967296 * (y % 4294967296) / 4294967296) / 4294967296 < 18446744073709551616 := by omega
  have bh : x / 4294967296 * (y / 4294967296) + (x / 4294967296 * (y % 4294967296) + x % 4294967296 * (y % 4294967296) / 4294967296) / 4294967296 + ((x / 4294967296 * (y % 4294967296) + x % 4294967296 * (y % 4294967296) / 4294967296) % 4294967296 + x % 4294967296 * (y / 4294967296)) / 4294967296 < 18446744073709551616 := by omega
  go_enter Tryz.func244, Tryz.ntmps244
  go_wp2
  simp only [M64.maskN x hx, M64.maskN y hy, M64.divN, M64.mulN, M64.addN, M64.wrapN _ bd, M64.wrapN _ bb', M64.wrapN _ bt, M64.maskN _ bt, M64.wrapN _ bc', M64.wrapN _ bw, M64.wrapN _ ba', M64.wrapN _ bh1, M64.wrapN _ bh, M64.wrapM (x * y)]
  rw [hhi]
  go_ret2
  exact ⟨rfl, rfl⟩

set_option maxHeartbeats 400000 in
theorem bits_Mul (x y : Nat) (hx : x < WB) (hy : y < WB) (w : World) :
    Calls Tryz.prog 212 #[.int .u64 x, .int .u64 y] w fun e w' => e = .returned (.tuple #[.int .u64 (mulhi x y : Int), .int .u64 (mullo x y : Int)]) ∧ w' = w := by
  go_enter Tryz.func212, Tryz.ntmps212
  go_wp2_with (go_at_call 244; refine (bits_Mul64 x y hx hy _).mono ?_; rintro e w' ⟨rfl, rfl⟩)
  go_ret2
  exact ⟨rfl, rfl⟩

set_option maxHeartbeats 400000 in
theorem mulWW_c (x y : Nat) (hx : x < WB) (hy : y < WB) (w : World) :
    Calls Tryz.prog 174 #[.int .u64 x, .int .u64 y] w fun e w' => e = .returned (.tuple #[.int .u64 (mulhi x y : Int), .int .u64 (mullo x y : Int)]) ∧ w' = w := by
  go_enter Tryz.func174, Tryz.ntmps174
  go_wp2_with (go_at_call 212; refine (bits_Mul x y hx hy _).mono ?_; rintro e w' ⟨rfl, rfl⟩)
  go_ret2
  exact ⟨rfl, rfl⟩

/-- The product of two words and a third one, in two words. -/
noncomputable def mac1 (x y c : Nat) : Nat := (x * y + c) / WB
noncomputable def mac0 (x y c : Nat) : Nat := (x * y + c) % WB
theorem mac_eq (x y c : Nat) : mac0 x y c + WB * mac1 x y c = x * y + c := Nat.mod_add_div _ _
theorem mac0_lt (x y c : Nat) : mac0 x y c < WB := Nat.mod_lt _ WB_pos
theorem mac_bound {x y c d : Nat} (hx : x < WB) (hy : y < WB) (hc : c < WB) (hd : d < WB) : x * y + c + d < WB * WB := by
  have h1 : x * y ≤ (WB - 1) * (WB - 1) := Nat.mul_le_mul (by omega) (by omega)
  have h2 : (WB - 1) * (WB - 1) + (WB - 1) + (WB - 1) < WB * WB := by rw [WB_eq]; decide
  omega
theorem mac1_lt {x y c : Nat} (hx : x < WB) (hy : y < WB) (hc : c < WB) : mac1 x y c < WB := by
  unfold mac1
  rw [Nat.div_lt_iff_lt_mul WB_pos]
  have := mac_bound hx hy hc WB_pos
  omega
theorem mac_of (x y c : Nat) (_hx : x < WB) (_hy : y < WB) (_hc : c < WB) : mulhi x y + addc (mullo x y) c 0 = mac1 x y c ∧ adds (mullo x y) c 0 = mac0 x y c := by
  have e1 := mullo_mulhi x y
  have e2 := adds_addc (mullo x y) c 0
  have e3 := mac_eq x y c
  have l1 := adds_lt (mullo x y) c 0
  have l2 := mac0_lt x y c
  have e : mac0 x y c + WB * mac1 x y c = adds (mullo x y) c 0 + WB * (mulhi x y + addc (mullo x y) c 0) := by rw [Nat.mul_add]; omega
  have a := congrArg (· % WB) e
  simp only [Nat.add_mul_mod_self_left, Nat.mod_eq_of_lt l1, Nat.mod_eq_of_lt l2] at a
  have b : mac1 x y c = mulhi x y + addc (mullo x y) c 0 := Nat.eq_of_mul_eq_mul_left WB_pos (by omega)
  exact ⟨b.symm, a.symm⟩

theorem wrap_u64_nat (a : Nat) (h : a < WB) : IntKind.u64.wrap (a : Int) = (a : Int) := by rw [WB_eq] at h; rw [IntKind.wrap_u64]; omega

set_option maxHeartbeats 400000 in
theorem mulAddWWW_g_c (x y c : Nat) (hx : x < WB) (hy : y < WB) (hc : c < WB) (w : World) :
    Calls Tryz.prog 256 #[.int .u64 x, .int .u64 y, .int .u64 c] w fun e w' => e = .returned (.tuple #[.int .u64 (mac1 x y c : Int), .int .u64 (mac0 x y c : Int)]) ∧ w' = w := by
  have H := mac_of x y c hx hy hc
  have L := mac1_lt hx hy hc
  obtain ⟨H1, H2⟩ := H
  have HH1 := Lib.hid H1
  have HH2 := Lib.hid H2
  have HL := Lib.hid L
  clear H1 H2 L
  have hl := mullo_lt x y
  go_enter Tryz.func256, Tryz.ntmps256
  go_wp2_with (first
    | (go_at_call 212; refine (bits_Mul x y hx hy _).mono ?_; rintro e w' ⟨rfl, rfl⟩)
    | (go_at_call 193; refine (bits_Add (mullo x y) c 0 hl hc (by omega) _).mono ?_; rintro e w' ⟨rfl, rfl⟩))
  go_ret2
  refine ⟨ret2_i ?_ ?_, rfl⟩
  · rw [← Int.natCast_add, HH1.out]; exact wrap_u64_nat _ HL.out
  · rw [HH2.out]

end Go.Proofs.YtonepclpllelfaaGreatDoor

namespace Go.Proofs.YtonepclpllelfaaGreatDoor
open Go Go.RowKit

set_option maxHeartbeats 400000 in
theorem addVV_g_c (w : World) (bz oz n cz bx ox cx by_ oy cy : Nat) (Cz X Y : List Nat) (hn : n < 1000000)
    (hz : Arr w bz Cz) (hzl : oz + n ≤ Cz.length) (hX : X.length = n) (hY : Y.length = n) (WX : Wd X) (WY : Wd Y)
    (hx : Rd w bz oz n Cz bx ox X) (hy : Rd w bz oz n Cz by_ oy Y) :
    Calls Tryz.prog 192 #[.slice (some ⟨bz, oz, none⟩) n cz, .slice (some ⟨bx, ox, none⟩) n cx, .slice (some ⟨by_, oy, none⟩) n cy] w fun e w' =>
      ∃ R c, e = .returned (.int .u64 ((c : Nat) : Int)) ∧ Sub w w' bz (spl Cz oz R) ∧ R.length = n ∧ c ≤ 1 ∧ val R + WB ^ n * c = val X + val Y := by
  have hx := Lib.hid hx
  have hy := Lib.hid hy
  go_enter Tryz.func192, Tryz.ntmps192
  go_wp2
  go_loopw [6, 25] (fun c i wr => ∃ k cc : Nat, k ≤ n ∧ i = .int .i64 k ∧ c = .int .u64 cc ∧ ∃ R : List Nat, R.length = k ∧ cc ≤ 1 ∧ val R + WB ^ k * cc = val (X.take k) + val (Y.take k) ∧ Sub w wr bz (spl Cz oz R)) (fun _ i _ => n - (intOf i).toNat)
  case atStart => exact ⟨0, 0, Nat.zero_le _, rfl, rfl, [], rfl, by omega, by simp, by rw [spl_nil]; exact Sub.refl hz⟩
  case round =>
    obtain ⟨k, cc, hk, rfl, rfl, R, hR1, hc, hR3, hS⟩ := hrel
    by_cases hlt : k < n
    · have hx1 := hx.out wr R hS (by omega)
      have hy1 := hy.out wr R hS (by omega)
      rw [hR1] at hx1 hy1
      have hwx := WX.nth k
      have hwy := WY.nth k
      have hz1 := hS.arr.cellN (i := oz + k) (by rw [spl_length (by omega)]; omega)
      have hz2 := hS.arr.frozen (oz + k)
      go_wp2
      go_quiet ((go_at_call 193; exact Calls.quiet_of_same (bits_Add _ _ _ hwx hwy hc _)))
      go_wp2
      go_roundw
      case rel =>
        refine ⟨k + 1, addc (nth X k) (nth Y k) cc, by omega, by go_num, rfl, R ++ [adds (nth X k) (nth Y k) cc], by simp [hR1], addc_le hwx hwy hc, ?_, ?_⟩
        · rw [val_snoc, hR1, val_take_succ (by omega), val_take_succ (by omega)]
          exact add_step hR3 (adds_addc _ _ _)
        · exact (hS.drewN nq).next hR1 (by omega) _ (adds_lt _ _ _)
      case measure => simp [intOf]; omega
    · go_wp2
      go_ret
      obtain rfl : k = n := by omega
      refine ⟨R, cc, rfl, hS, hR1, hc, ?_⟩
      rw [hR3, List.take_of_length_le (by omega), List.take_of_length_le (by omega)]

set_option maxHeartbeats 400000 in
theorem subVV_g_c (w : World) (bz oz n cz bx ox cx by_ oy cy : Nat) (Cz X Y : List Nat) (hn : n < 1000000)
    (hz : Arr w bz Cz) (hzl : oz + n ≤ Cz.length) (hX : X.length = n) (hY : Y.length = n) (WX : Wd X) (WY : Wd Y)
    (hx : Rd w bz oz n Cz bx ox X) (hy : Rd w bz oz n Cz by_ oy Y) :
    Calls Tryz.prog 194 #[.slice (some ⟨bz, oz, none⟩) n cz, .slice (some ⟨bx, ox, none⟩) n cx, .slice (some ⟨by_, oy, none⟩) n cy] w fun e w' =>
      ∃ R c, e = .returned (.int .u64 ((c : Nat) : Int)) ∧ Sub w w' bz (spl Cz oz R) ∧ R.length = n ∧ Wd R ∧ c ≤ 1 ∧ val X + WB ^ n * c = val R + val Y := by
  have hx := Lib.hid hx
  have hy := Lib.hid hy
  go_enter Tryz.func194, Tryz.ntmps194
  go_wp2
  go_loopw [6, 25] (fun c i wr => ∃ k cc : Nat, k ≤ n ∧ i = .int .i64 k ∧ c = .int .u64 cc ∧ ∃ R : List Nat, R.length = k ∧ Wd R ∧ cc ≤ 1 ∧ val (X.take k) + WB ^ k * cc = val R + val (Y.take k) ∧ Sub w wr bz (spl Cz oz R)) (fun _ i _ => n - (intOf i).toNat)
  case atStart => exact ⟨0, 0, Nat.zero_le _, rfl, rfl, [], rfl, Wd.nil, by omega, by simp, by rw [spl_nil]; exact Sub.refl hz⟩
  case round =>
    obtain ⟨k, cc, hk, rfl, rfl, R, hR1, hW, hc, hR3, hS⟩ := hrel
    by_cases hlt : k < n
    · have hx1 := hx.out wr R hS (by omega)
      have hy1 := hy.out wr R hS (by omega)
      rw [hR1] at hx1 hy1
      have hwx := WX.nth k
      have hwy := WY.nth k
      have hz1 := hS.arr.cellN (i := oz + k) (by rw [spl_length (by omega)]; omega)
      have hz2 := hS.arr.frozen (oz + k)
      go_wp2
      go_quiet ((go_at_call 195; exact Calls.quiet_of_same (bits_Sub _ _ _ hc _)))
      go_wp2
      go_roundw
      case rel =>
        refine ⟨k + 1, subc (nth X k) (nth Y k) cc, by omega, by go_num, rfl, R ++ [subs (nth X k) (nth Y k) cc], by simp [hR1], hW.append (Wd.cons (subs_lt _ _ _) Wd.nil), subc_le _ _ _, ?_, ?_⟩
        · rw [val_snoc, hR1, val_take_succ (by omega), val_take_succ (by omega)]
          exact sub_step hR3 (subs_subc hwx hwy hc)
        · exact (hS.drewN nq).next hR1 (by omega) _ (subs_lt _ _ _)
      case measure => simp [intOf]; omega
    · go_wp2
      go_ret
      obtain rfl : k = n := by omega
      refine ⟨R, cc, rfl, hS, hR1, hW, hc, ?_⟩
      rw [List.take_of_length_le (by omega), List.take_of_length_le (by omega)] at hR3
      exact hR3

theorem mul_step {r P c x X y s c' r0 : Nat} (h : r + P * c = X * y + r0) (e : s + WB * c' = x * y + c) : r + P * s + P * WB * c' = (X + P * x) * y + r0 := by
  have : P * s + P * WB * c' = P * (x * y + c) := by rw [Nat.mul_assoc, ← Nat.mul_add, e]
  rw [Nat.mul_add] at this
  rw [Nat.add_mul, Nat.mul_assoc P x y]
  omega

set_option maxHeartbeats 400000 in
/-- z = x * y + r, with a carry. -/
theorem mulAddVWW_g_c (w : World) (bz oz n cz bx ox cx y r : Nat) (Cz X : List Nat) (hn : n < 1000000)
    (hz : Arr w bz Cz) (hzl : oz + n ≤ Cz.length) (hX : X.length = n) (WX : Wd X) (hwy : y < WB) (hwr : r < WB)
    (hx : Rd w bz oz n Cz bx ox X) :
    Calls Tryz.prog 246 #[.slice (some ⟨bz, oz, none⟩) n cz, .slice (some ⟨bx, ox, none⟩) n cx, .int .u64 y, .int .u64 r] w fun e w' =>
      ∃ R c, e = .returned (.int .u64 ((c : Nat) : Int)) ∧ Sub w w' bz (spl Cz oz R) ∧ R.length = n ∧ c < WB ∧ val R + WB ^ n * c = val X * y + r := by
  have hx := Lib.hid hx
  go_enter Tryz.func246, Tryz.ntmps246
  go_wp2
  go_loopw [8, 19] (fun c i wr => ∃ k cc : Nat, k ≤ n ∧ i = .int .i64 k ∧ c = .int .u64 cc ∧ ∃ R : List Nat, R.length = k ∧ cc < WB ∧ val R + WB ^ k * cc = val (X.take k) * y + r ∧ Sub w wr bz (spl Cz oz R)) (fun _ i _ => n - (intOf i).toNat)
  case atStart => exact ⟨0, r, Nat.zero_le _, rfl, rfl, [], rfl, hwr, by simp, by rw [spl_nil]; exact Sub.refl hz⟩
  case round =>
    obtain ⟨k, cc, hk, rfl, rfl, R, hR1, hc, hR3, hS⟩ := hrel
    by_cases hlt : k < n
    · have hx1 := hx.out wr R hS (by omega)
      rw [hR1] at hx1
      have hwx := WX.nth k
      have hz1 := hS.arr.cellN (i := oz + k) (by rw [spl_length (by omega)]; omega)
      have hz2 := hS.arr.frozen (oz + k)
      go_wp2_with (go_at_call 256; refine (mulAddWWW_g_c _ _ _ hwx hwy hc _).mono ?_; rintro e w' ⟨rfl, rfl⟩)
      go_roundw
      case rel =>
        refine ⟨k + 1, mac1 (nth X k) y cc, by omega, by go_num, rfl, R ++ [mac0 (nth X k) y cc], by simp [hR1], mac1_lt hwx hwy hc, ?_, ?_⟩
        · rw [val_snoc, hR1, val_take_succ (by omega)]
          exact mul_step hR3 (mac_eq _ _ _)
        · exact hS.next hR1 (by omega) _ (mac0_lt _ _ _)
      case measure => simp [intOf]; omega
    · go_wp2
      go_ret
      obtain rfl : k = n := by omega
      refine ⟨R, cc, rfl, hS, hR1, hc, ?_⟩
      rw [hR3, List.take_of_length_le (by omega)]

theorem macc_step {r P c x X y Y m s z1 z0 cc a : Nat} (h : r + P * c = X + Y * m + a) (e1 : z0 + WB * z1 = y * m + x) (e2 : s + WB * cc = z0 + c) :
    r + P * s + P * WB * (cc + z1) = X + P * x + (Y + P * y) * m + a := by
  have h1 : P * s + P * WB * cc = P * (z0 + c) := by rw [Nat.mul_assoc, ← Nat.mul_add, e2]
  have h2 : P * z0 + P * WB * z1 = P * (y * m + x) := by rw [Nat.mul_assoc, ← Nat.mul_add, e1]
  rw [Nat.mul_add] at h1 h2
  rw [Nat.mul_add, Nat.add_mul, Nat.mul_assoc P y m]
  omega

/-- The carry of a product with two sums. -/
theorem macc_lt {x y m c : Nat} (hx : x < WB) (hy : y < WB) (hm : m < WB) (hc : c < WB) : addc (mac0 y m x) c 0 + mac1 y m x < WB := by
  have b := mac_bound hy hm hx hc
  have e1 := mac_eq y m x
  have e2 := adds_addc (mac0 y m x) c 0
  have : WB * (addc (mac0 y m x) c 0 + mac1 y m x) < WB * WB := by rw [Nat.mul_add]; omega
  exact Nat.lt_of_mul_lt_mul_left this

set_option maxHeartbeats 800000 in
/-- z = x + y * m + a, with a carry. -/
theorem addMulVVWW_g_c (w : World) (bz oz n cz bx ox cx by_ oy cy m a : Nat) (Cz X Y : List Nat) (hn : n < 1000000)
    (hz : Arr w bz Cz) (hzl : oz + n ≤ Cz.length) (hX : X.length = n) (hY : Y.length = n) (WX : Wd X) (WY : Wd Y) (hwm : m < WB) (hwa : a < WB)
    (hx : Rd w bz oz n Cz bx ox X) (hy : Rd w bz oz n Cz by_ oy Y) :
    Calls Tryz.prog 245 #[.slice (some ⟨bz, oz, none⟩) n cz, .slice (some ⟨bx, ox, none⟩) n cx, .slice (some ⟨by_, oy, none⟩) n cy, .int .u64 m, .int .u64 a] w fun e w' =>
      ∃ R c, e = .returned (.int .u64 ((c : Nat) : Int)) ∧ Sub w w' bz (spl Cz oz R) ∧ R.length = n ∧ c < WB ∧ val R + WB ^ n * c = val X + val Y * m + a := by
  have hx := Lib.hid hx
  have hy := Lib.hid hy
  go_enter Tryz.func245, Tryz.ntmps245
  go_wp2
  go_loopw [10, 32] (fun c i wr => ∃ k cc : Nat, k ≤ n ∧ i = .int .i64 k ∧ c = .int .u64 cc ∧ ∃ R : List Nat, R.length = k ∧ cc < WB ∧ val R + WB ^ k * cc = val (X.take k) + val (Y.take k) * m + a ∧ Sub w wr bz (spl Cz oz R)) (fun _ i _ => n - (intOf i).toNat)
  case atStart => exact ⟨0, a, Nat.zero_le _, rfl, rfl, [], rfl, hwa, by simp, by rw [spl_nil]; exact Sub.refl hz⟩
  case round =>
    obtain ⟨k, cc, hk, rfl, rfl, R, hR1, hc, hR3, hS⟩ := hrel
    by_cases hlt : k < n
    · have hx1 := hx.out wr R hS (by omega)
      have hy1 := hy.out wr R hS (by omega)
      rw [hR1] at hx1 hy1
      have hwx := WX.nth k
      have hwy := WY.nth k
      have hz1 := hS.arr.cellN (i := oz + k) (by rw [spl_length (by omega)]; omega)
      have hz2 := hS.arr.frozen (oz + k)
      have hl := mac0_lt (nth Y k) m (nth X k)
      have hmc := Lib.hid (macc_lt hwx hwy hwm hc)
      have hR3 := Lib.hid hR3
      have hR1 := Lib.hid hR1
      go_wp2
      go_quiet ((go_at_call 256; exact Calls.quiet_of_same (mulAddWWW_g_c _ _ _ hwy hwm hwx _)))
      go_wp2_with (go_at_call 193; refine (bits_Add _ _ 0 hl hc (by omega) _).mono ?_; rintro e w' ⟨rfl, rfl⟩)
      go_roundw
      case rel =>
        refine ⟨k + 1, addc (mac0 (nth Y k) m (nth X k)) cc 0 + mac1 (nth Y k) m (nth X k), by omega, by go_num, ?_, R ++ [adds (mac0 (nth Y k) m (nth X k)) cc 0], by simp [hR1.out], hmc.out, ?_, ?_⟩
        · show Value.int .u64 (IntKind.u64.wrap _) = _
          rw [← Int.natCast_add, wrap_u64_nat _ hmc.out]
        · rw [val_snoc, hR1.out, val_take_succ (by omega), val_take_succ (by omega)]
          exact macc_step hR3.out (mac_eq _ _ _) (adds_addc _ _ _)
        · exact (hS.drewN nq).next hR1.out (by omega) _ (adds_lt _ _ _)
      case measure => simp [intOf]; omega
    · go_wp2
      go_ret
      obtain rfl : k = n := by omega
      refine ⟨R, cc, rfl, hS, hR1, hc, ?_⟩
      rw [hR3, List.take_of_length_le (by omega), List.take_of_length_le (by omega)]

end Go.Proofs.YtonepclpllelfaaGreatDoor

namespace Go.Proofs.YtonepclpllelfaaGreatDoor
open Go Go.RowKit

def shrw (x t : Nat) : Nat := x / 2 ^ t
noncomputable def shlw (x t : Nat) : Nat := x * 2 ^ t % WB
def orw (x y : Nat) : Nat := x ||| y
theorem WB_two_pow : WB = 2 ^ 64 := by rw [WB_eq]
theorem shrw_le (x t : Nat) : shrw x t ≤ x := Nat.div_le_self _ _
theorem shrw_lt {x : Nat} (t : Nat) (h : x < WB) : shrw x t < WB := Nat.lt_of_le_of_lt (shrw_le _ _) h
theorem shlw_lt (x t : Nat) : shlw x t < WB := Nat.mod_lt _ WB_pos
theorem orw_lt {x y : Nat} (hx : x < WB) (hy : y < WB) : orw x y < WB := by
  rw [WB_two_pow] at *; exact Nat.or_lt_two_pow hx hy
/-- The two parts of a word times a power of two. -/
theorem shl_shr {x s t : Nat} (hst : s + t = 64) : shlw x s + WB * shrw x t = x * 2 ^ s := by
  unfold shlw shrw
  have e : x / 2 ^ t = x * 2 ^ s / WB := by
    rw [WB_two_pow, ← hst, Nat.pow_add, Nat.mul_comm (2 ^ s) (2 ^ t), Nat.mul_div_mul_right _ _ (Nat.two_pow_pos s)]
  rw [e]; exact Nat.mod_add_div _ _
theorem orw_add {x y s t : Nat} (hst : s + t = 64) (hy : y < WB) : orw (shlw x s) (shrw y t) = shlw x s + shrw y t := by
  unfold orw
  have hb : shrw y t < 2 ^ s := by
    unfold shrw; rw [Nat.div_lt_iff_lt_mul (Nat.two_pow_pos t), ← Nat.pow_add, hst, ← WB_two_pow]; exact hy
  have ha : shlw x s = 2 ^ s * (x % 2 ^ t) := by
    unfold shlw; rw [WB_two_pow, ← hst, Nat.add_comm s t, Nat.pow_add, Nat.mul_comm (2 ^ t) (2 ^ s), Nat.mul_comm x (2 ^ s), Nat.mul_mod_mul_left]
  rw [ha, Nat.two_pow_add_eq_or_of_lt hb]
theorem orw_add' {x y s t : Nat} (hst : s + t = 64) (hy : y < WB) : orw (shrw y t) (shlw x s) = shrw y t + shlw x s := by
  have := orw_add (x := x) hst hy
  unfold orw at *
  rw [Nat.or_comm, this, Nat.add_comm]

@[go_sem ↓ high] theorem shift_shr_nat (x t : Nat) (ht : t < 64) : Op.shift .shr .u64 (x : Int) .u64 (t : Int) = pure (.int .u64 (shrw x t : Int)) := by
  unfold Op.shift shrw
  rw [if_neg (by omega)]
  simp only [Int.toNat_natCast, IntKind.bits, Nat.min_eq_left (Nat.le_of_lt ht)]
  congr 2
  rw [Int.fdiv_eq_ediv_of_nonneg _ (by exact_mod_cast Nat.zero_le (2 ^ t))]
  simp
@[go_sem ↓ high] theorem shift_shl_nat (x t : Nat) (ht : t < 64) : Op.shift .shl .u64 (x : Int) .u64 (t : Int) = pure (.int .u64 (shlw x t : Int)) := by
  unfold Op.shift shlw
  rw [if_neg (by omega)]
  simp only [Int.toNat_natCast, IntKind.bits, Nat.min_eq_left (Nat.le_of_lt ht)]
  congr 2
  rw [IntKind.wrap_u64, WB_eq]
  simp
@[go_sem ↓ high] theorem bits_and63 (s : Nat) (h : s < 64) : bits .and .u64 (s : Int) 63 = (s : Int) := by
  have h1 := bits_and_u64_nat s 63 (by omega) (by omega)
  have e : s &&& 63 = s := by
    rw [show (63 : Nat) = 2 ^ 6 - 1 from rfl, Nat.and_two_pow_sub_one_eq_mod]; exact Nat.mod_eq_of_lt h
  rw [e] at h1; exact h1
theorem bits_orw (x y : Nat) (hx : x < WB) (hy : y < WB) : bits .or .u64 (x : Int) (y : Int) = (orw x y : Int) := by
  rw [WB_eq] at *; exact bits_or_u64_nat x y hx hy
@[go_sem ↓ high] theorem bits_or_lr (x s y t : Nat) (hy : y < WB) : bits .or .u64 (shlw x s : Int) (shrw y t : Int) = (orw (shlw x s) (shrw y t) : Int) := bits_orw _ _ (shlw_lt _ _) (shrw_lt _ hy)
@[go_sem ↓ high] theorem bits_or_rl (x s y t : Nat) (hy : y < WB) : bits .or .u64 (shrw y t : Int) (shlw x s : Int) = (orw (shrw y t) (shlw x s) : Int) := bits_orw _ _ (shrw_lt _ hy) (shlw_lt _ _)

end Go.Proofs.YtonepclpllelfaaGreatDoor

namespace Go.Proofs.YtonepclpllelfaaGreatDoor
open Go Go.RowKit

theorem Sub.read {w wr : World} {bz o bx p : Nat} {Cz R Cx : List Nat} (h : Sub w wr bz (spl Cz o R)) (hz : Arr w bz Cz) (hx : Arr w bx Cx) (hl : o + R.length ≤ Cz.length) (hp : p < Cx.length)
    (hs : bx ≠ bz ∨ p < o ∨ o + R.length ≤ p) : wr.cell? ⟨bx, p, none⟩ = some (.int .u64 (nth Cx p : Int)) := by
  by_cases e : bx = bz
  · subst e
    obtain rfl := hz.inj hx
    rw [h.arr.cellN (by rw [spl_length hl]; exact hp)]
    rcases hs with h1 | h1 | h1
    · exact absurd rfl h1
    · rw [nth_spl_lt hl h1]
    · rw [nth_spl_ge hl h1]
  · exact (h.other e hx).cellN hp
theorem Sub.prev {w wr : World} {b o : Nat} {C R : List Nat} (h : Sub w wr b (spl C (o + 1) R)) (hl : o + 1 + R.length ≤ C.length) (x : Nat) (hx : x < WB) :
    Sub w (wr.setCell ⟨b, o, none⟩ (.int .u64 (x : Int))) b (spl C o (x :: R)) := by
  have := h.set (i := o) x hx
  rwa [spl_prev hl] at this
theorem drop_nth {l : List Nat} {i : Nat} (h : i < l.length) : l.drop i = nth l i :: l.drop (i + 1) := by
  rw [List.drop_eq_getElem_cons h]; congr 1; rw [nth, List.getElem?_eq_getElem h]; rfl
theorem nth_dt (C : List Nat) (o n j : Nat) (h : j < n) : nth ((C.drop o).take n) j = nth C (o + j) := by rw [nth_take h, nth_drop]
theorem lsh_step {r c v h x P p lo : Nat} (e : r + P * c = v * p + h) (ex : lo + WB * h = x * p) (g : Nat) : (lo + g) + WB * r + (P * WB) * c = (x + WB * v) * p + g := by
  have h1 : WB * r + WB * (P * c) = WB * (v * p) + WB * h := by rw [← Nat.mul_add, ← Nat.mul_add, e]
  rw [Nat.add_mul, Nat.mul_assoc WB v p, Nat.mul_comm P WB, Nat.mul_assoc WB P c]
  omega

set_option maxRecDepth 100000 in
set_option maxHeartbeats 800000 in
theorem lshVU_g_c (w : World) (bz oz m cz bx ox cx s : Nat) (Cz Cx : List Nat) (hn : m < 1000000) (hs0 : 0 < s) (hs : s < 64)
    (hz : Arr w bz Cz) (hzl : oz + (m + 1) ≤ Cz.length) (hx : Arr w bx Cx) (hxl : ox + (m + 1) ≤ Cx.length) (hsep : bx ≠ bz ∨ ox ≤ oz) :
    Calls Tryz.prog 198 #[.slice (some ⟨bz, oz, none⟩) (m + 1) cz, .slice (some ⟨bx, ox, none⟩) (m + 1) cx, .int .u64 s] w fun e w' =>
      ∃ R c, e = .returned (.int .u64 ((c : Nat) : Int)) ∧ Sub w w' bz (spl Cz oz R) ∧ R.length = m + 1 ∧ c < WB ∧ val R + WB ^ (m + 1) * c = val ((Cx.drop ox).take (m + 1)) * 2 ^ s := by
  have e0 : ((s : Int) == 0) = false := by simp; omega
  have e1 : ((m : Int) + 1 == 0) = false := by simp; omega
  obtain ⟨t, ht⟩ : ∃ t, s + t = 64 := ⟨64 - s, by omega⟩
  have htl : t < 64 := by omega
  have hw : IntKind.u64.wrap (64 - (s : Int)) = (t : Int) := by rw [IntKind.wrap_u64]; omega
  have hst := Lib.hid ht
  clear ht
  have hX : ((Cx.drop ox).take (m + 1)).length = m + 1 := by simp; omega
  replace hX := Lib.hid hX
  have hl := hx.cellN (i := ox + m) (by omega)
  go_enter Tryz.func198, Tryz.ntmps198
  go_wp2
  go_loopw [8] (fun i wr => ∃ k : Nat, k ≤ m ∧ i = .int .i64 k ∧ ∃ R : List Nat, R.length + k = m ∧ val R + WB ^ R.length * shrw (nth Cx (ox + m)) t = val (((Cx.drop ox).take (m + 1)).drop (k + 1)) * 2 ^ s + shrw (nth Cx (ox + k)) t ∧ Sub w wr bz (spl Cz (oz + k + 1) R)) (fun i _ => (intOf i).toNat)
  case atStart => exact ⟨m, Nat.le_refl _, by go_num, [], by simp, by rw [List.drop_eq_nil_of_le (by rw [hX.out]; omega)]; simp, by rw [spl_nil]; exact Sub.refl hz⟩
  case round =>
    obtain ⟨k, hk, rfl, R, hR1, hR3, hS⟩ := hrel
    have hx0 := hS.read (p := ox + k) hz hx (by omega) (by omega) (by omega)
    have hwx := hx.wd.nth (ox + k)
    by_cases hlt : 0 < k
    · obtain ⟨j, rfl⟩ : ∃ j, k = j + 1 := ⟨k - 1, by omega⟩
      have hx1 := hS.read (p := ox + j) hz hx (by omega) (by omega) (by omega)
      have hwj := hx.wd.nth (ox + j)
      have hz1 := hS.arr.cellN (i := oz + (j + 1)) (by rw [spl_length (by omega)]; omega)
      have hz2 := hS.arr.frozen (oz + (j + 1))
      replace hR3 := Lib.hid hR3
      replace hR1 := Lib.hid hR1
      go_wp2
      go_region
      go_wp2
      go_roundw
      case rel =>
        refine ⟨j, by omega, rfl, orw (shlw (nth Cx (ox + (j + 1))) s) (shrw (nth Cx (ox + j)) t) :: R, by simp; have := hR1.out; omega, ?_, ?_⟩
        · rw [orw_add hst.out hwj, drop_nth (i := j + 1) (by rw [hX.out]; omega), nth_dt _ _ _ _ (by omega), val_cons, val_cons, List.length_cons, Nat.pow_succ]
          exact lsh_step (h := shrw (nth Cx (ox + (j + 1))) t) hR3.out (shl_shr hst.out) _
        · have := hR1.out
          exact (Sub.prev hS (by omega) _ (orw_lt (shlw_lt _ _) (shrw_lt _ hwj))).drew
      case measure => simp [intOf]
    · obtain rfl : k = 0 := by omega
      rw [Nat.add_zero] at hx0 hwx
      have hz1 := hS.arr.cellN (i := oz) (by rw [spl_length (by omega)]; omega)
      have hz2 := hS.arr.frozen oz
      replace hR3 := Lib.hid hR3
      replace hR1 := Lib.hid hR1
      go_wp2
      go_ret
      have hR1 := hR1.out
      refine ⟨shlw (nth Cx ox) s :: R, shrw (nth Cx (ox + m)) t, rfl, Sub.prev hS (by omega) _ (shlw_lt _ _), by simp; omega, shrw_lt _ (hx.wd.nth _), ?_⟩
      have h0 := drop_nth (l := (Cx.drop ox).take (m + 1)) (i := 0) (by rw [hX.out]; omega)
      rw [List.drop_zero, nth_dt _ _ _ _ (by omega), Nat.add_zero] at h0
      rw [h0, val_cons, val_cons]
      have e := lsh_step (x := nth Cx ox) (lo := shlw (nth Cx ox) s) (h := shrw (nth Cx ox) t) hR3.out (shl_shr hst.out) 0
      rw [Nat.add_zero, Nat.add_zero, ← Nat.pow_succ] at e
      have e2 : WB ^ (m + 1) = WB ^ R.length.succ := by rw [show m + 1 = R.length.succ by omega]
      rw [e2]
      simpa using e

theorem rsh_step {v r P p q a x lo hi : Nat} (hp : 0 < p) (hW : WB = p * q) (e : v / p = r + P * a) (ex : lo + WB * hi = x * q) : (v + P * WB * x) / p = r + P * (a + lo) + P * WB * hi := by
  have h1 : v + P * WB * x = v + p * (P * (x * q)) := by rw [hW]; congr 1; rw [Nat.mul_comm p q, ← Nat.mul_assoc, Nat.mul_right_comm (P * q) p x, Nat.mul_comm (P * q * x) p, Nat.mul_assoc P q x, Nat.mul_comm q x]
  rw [h1, Nat.add_mul_div_left _ _ hp, e, ← ex, Nat.mul_add, Nat.mul_add, Nat.mul_assoc P WB hi]
  omega

set_option maxRecDepth 100000 in
set_option maxHeartbeats 800000 in
theorem rshVU_g_c (w : World) (bz oz m cz bx ox cx s : Nat) (Cz Cx : List Nat) (hn : m < 1000000) (hs0 : 0 < s) (hs : s < 64)
    (hz : Arr w bz Cz) (hzl : oz + (m + 1) ≤ Cz.length) (hx : Arr w bx Cx) (hxl : ox + (m + 1) ≤ Cx.length) (hsep : bx ≠ bz ∨ oz ≤ ox) :
    Calls Tryz.prog 225 #[.slice (some ⟨bz, oz, none⟩) (m + 1) cz, .slice (some ⟨bx, ox, none⟩) (m + 1) cx, .int .u64 s] w fun e w' =>
      ∃ R c, e = .returned (.int .u64 ((c : Nat) : Int)) ∧ Sub w w' bz (spl Cz oz R) ∧ R.length = m + 1 ∧ val R = val ((Cx.drop ox).take (m + 1)) / 2 ^ s := by
  have e0 : ((s : Int) == 0) = false := by simp; omega
  have e1 : ((m : Int) + 1 == 0) = false := by simp; omega
  obtain ⟨t, ht⟩ : ∃ t, t + s = 64 := ⟨64 - s, by omega⟩
  have htl : t < 64 := by omega
  have hw : IntKind.u64.wrap (64 - (s : Int)) = (t : Int) := by rw [IntKind.wrap_u64]; omega
  have hst := Lib.hid ht
  clear ht
  have hX : ((Cx.drop ox).take (m + 1)).length = m + 1 := by simp; omega
  replace hX := Lib.hid hX
  have hl := hx.cellN (i := ox) (by omega)
  go_enter Tryz.func225, Tryz.ntmps225
  go_wp2
  go_loopw [8] (fun i wr => ∃ k : Nat, k ≤ m ∧ i = .int .i64 (k + 1) ∧ ∃ R : List Nat, R.length = k ∧ val (((Cx.drop ox).take (m + 1)).take (k + 1)) / 2 ^ s = val R + WB ^ k * shrw (nth Cx (ox + k)) s ∧ Sub w wr bz (spl Cz oz R)) (fun i _ => m + 1 - (intOf i).toNat)
  case atStart =>
    refine ⟨0, Nat.zero_le _, by go_num, [], rfl, ?_, by rw [spl_nil]; exact Sub.refl hz⟩
    rw [val_take_succ (by rw [hX.out]; omega), nth_dt _ _ _ _ (by omega)]
    simp [shrw]
  case round =>
    obtain ⟨k, hk, rfl, R, hR1, hR3, hS⟩ := hrel
    have hx0 := hS.read (p := ox + k) hz hx (by omega) (by omega) (by omega)
    have hwx := hx.wd.nth (ox + k)
    have hz1 := hS.arr.cellN (i := oz + k) (by rw [spl_length (by omega)]; omega)
    have hz2 := hS.arr.frozen (oz + k)
    by_cases hlt : k < m
    · have hx1 := hS.read (p := ox + (k + 1)) hz hx (by omega) (by omega) (by omega)
      have hwj := hx.wd.nth (ox + (k + 1))
      replace hR3 := Lib.hid hR3
      replace hR1 := Lib.hid hR1
      go_wp2
      go_region
      go_wp2
      go_roundw
      case rel =>
        refine ⟨k + 1, by omega, by go_num, R ++ [orw (shrw (nth Cx (ox + k)) s) (shlw (nth Cx (ox + (k + 1))) t)], by simp; have := hR1.out; omega, ?_, ?_⟩
        · have hR1 := hR1.out
          rw [orw_add' hst.out hwx, val_snoc, hR1, val_take_succ (by rw [hX.out]; omega), nth_dt _ _ _ _ (by omega), Nat.pow_succ WB k]
          exact rsh_step (Nat.two_pow_pos s) (by rw [WB_two_pow, ← hst.out, Nat.add_comm, Nat.pow_add]) hR3.out (shl_shr hst.out)
        · have := hR1.out
          exact (hS.next this (by omega) _ (orw_lt (shrw_lt _ hwx) (shlw_lt _ _))).drew
      case measure => simp [intOf]; omega
    · obtain rfl : k = m := by omega
      replace hR3 := Lib.hid hR3
      replace hR1 := Lib.hid hR1
      go_wp2
      go_ret
      have hR1 := hR1.out
      refine ⟨R ++ [shrw (nth Cx (ox + k)) s], shlw (nth Cx ox) t, rfl, hS.next hR1 (by omega) _ (shrw_lt _ hwx), by simp; omega, ?_⟩
      rw [val_snoc, hR1, ← hR3.out, List.take_of_length_le (by rw [hX.out]; omega)]
end Go.Proofs.YtonepclpllelfaaGreatDoor

namespace Go.Proofs.YtonepclpllelfaaGreatDoor

theorem top_bit {Y k : Nat} (hk : k ≤ 63) : Y * 2 ^ (63 - k) % 18446744073709551616 / 9223372036854775808 = Y / 2 ^ k % 2 := by
  have e1 : (18446744073709551616 : Nat) = 2 ^ k * 2 * 2 ^ (63 - k) := by
    rw [Nat.mul_assoc, Nat.mul_comm 2, ← Nat.mul_assoc, ← Nat.pow_add, show k + (63 - k) = 63 by omega]
  have e2 : (9223372036854775808 : Nat) = 2 ^ k * 2 ^ (63 - k) := by
    rw [← Nat.pow_add, show k + (63 - k) = 63 by omega]
  rw [e1, e2, Nat.mul_mod_mul_right, Nat.mul_div_mul_right _ _ (Nat.pow_pos (by omega)), Nat.mod_mul_right_div_self]
theorem next_word {Y a : Nat} : Y * 2 ^ a % 18446744073709551616 * 2 % 18446744073709551616 = Y * 2 ^ (a + 1) % 18446744073709551616 := by
  rw [Nat.pow_succ, ← Nat.mul_assoc]
  omega
theorem half_step (Y k : Nat) : Y / 2 ^ k = 2 * (Y / 2 ^ (k + 1)) + Y / 2 ^ k % 2 := by
  rw [Nat.pow_succ, ← Nat.div_div_eq_div_mul]; omega
theorem pow_step (X Y k : Nat) : X ^ (Y / 2 ^ k) = X ^ (Y / 2 ^ (k + 1)) * X ^ (Y / 2 ^ (k + 1)) * X ^ (Y / 2 ^ k % 2) := by
  conv => lhs; rw [half_step]
  rw [Nat.pow_add, Nat.two_mul, Nat.pow_add]
theorem pow_mono {X a b : Nat} (hX : 0 < X) (h : a ≤ b) : X ^ a ≤ X ^ b := Nat.pow_le_pow_right hX h
theorem sq_lt {a B : Nat} {k : Nat} (h : a * a < B ^ (2 * k)) : a < B ^ k := by
  rcases Nat.lt_or_ge a (B ^ k) with h1 | h1
  · exact h1
  · have := Nat.mul_le_mul h1 h1
    rw [← Nat.pow_add, ← Nat.two_mul] at this
    omega
/-- Squares on the way are small. -/
theorem way_lt {X Y k c : Nat} (hX : 0 < X) (h : X ^ Y < WB ^ (2 * c)) : X ^ (Y / 2 ^ (k + 1)) < WB ^ c := by
  refine sq_lt (Nat.lt_of_le_of_lt ?_ h)
  rw [← Nat.pow_add]
  refine pow_mono hX ?_
  have h1 : Y / 2 ^ (k + 1) = Y / 2 ^ k / 2 := by rw [Nat.pow_succ, Nat.div_div_eq_div_mul]
  have h2 : Y / 2 ^ k ≤ Y := Nat.div_le_self _ _
  omega
end Go.Proofs.YtonepclpllelfaaGreatDoor
