/- Blocks of words in memory: what a world holds, and a world that differs in one block. -/
import Derived.WalkKit
import Derived.WalkSpells
import Derived.WalkLawsBesides
import Derived.Deep.QuietTactic
import Derived.BigQuiet
import Derived.StillTailTactics
import Derived.Deep.DeepFit
import Derived.Lib.Hide
import Derived.Deep.LoopGhost
import Derived.Deep.DeepCutAuto
import Derived.Deep.Light
import Derived.Deep.CutBlock
import Derived.Shelf.Spec.BitsCarry
import Derived.Test.YtabggbajgpbmmaaGreatDoorL0
namespace Go.Proofs.YtabggbajgpbmmaaGreatDoor
open Go Go.RowKit

/-- A word as a value. -/
def uw (x : Nat) : Value := .int .u64 (x : Int)

/-- Block b holds just these words (128: the type of a word). -/
structure Arr (w : World) (b : Nat) (C : List Nat) : Prop where
  heap : w.heap[b]? = some (.cells (C.map uw).toArray 128 (0, 0))
  wd : Wd C

theorem Arr.cell {w : World} {b : Nat} {C : List Nat} (h : Arr w b C) {i x : Nat} (hx : C[i]? = some x) : w.cell? ⟨b, i, none⟩ = some (.int .u64 (x : Int)) := by
  have h := h.heap; unfold World.cell?; simp [h, hx, uw]
theorem Arr.cellN {w : World} {b : Nat} {C : List Nat} (h : Arr w b C) {i : Nat} (hi : i < C.length) : w.cell? ⟨b, i, none⟩ = some (.int .u64 (nth C i : Int)) := h.cell (get_nth hi)
theorem Arr.frozen {w : World} {b : Nat} {C : List Nat} (h : Arr w b C) (i : Nat) : w.frozen? ⟨b, i, none⟩ = false := by
  unfold World.frozen?; rw [h.heap]; simp
theorem Arr.lt {w : World} {b : Nat} {C : List Nat} (h : Arr w b C) : b < w.heap.size := by
  have h := h.heap
  rcases Nat.lt_or_ge b w.heap.size with h' | h'
  · exact h'
  · rw [Array.getElem?_eq_none h'] at h; cases h
theorem Arr.inj {w : World} {b : Nat} {C D : List Nat} (h : Arr w b C) (h' : Arr w b D) : C = D := by
  have h := h.heap
  have h' := h'.heap
  rw [h] at h'
  simp only [Option.some.injEq, Obj.cells.injEq, and_true] at h'
  have e := congrArg Array.toList h'
  simp only at e
  exact (List.map_inj_right (fun a b e => by unfold uw at e; simp at e; omega)).1 e
theorem Arr.drewN {w : World} {b : Nat} {C : List Nat} (h : Arr w b C) (n : Nat) : Arr (w.drewN n) b C := ⟨h.heap, h.wd⟩

/-- wr is w but for block b, which holds C. -/
structure Sub (w wr : World) (b : Nat) (C : List Nat) : Prop where
  arr : Arr wr b C
  block : ∀ k, k ≠ b → wr.heap[k]? = w.heap[k]?
  size : wr.heap.size = w.heap.size
  os : wr.os = w.os
  tape : wr.tape = w.tape
  output : wr.output = w.output

theorem Sub.refl {w : World} {b : Nat} {C : List Nat} (h : Arr w b C) : Sub w w b C := ⟨h, fun _ _ => rfl, rfl, rfl, rfl, rfl⟩
theorem Sub.drewN {w wr : World} {b : Nat} {C : List Nat} (h : Sub w wr b C) (n : Nat) : Sub w (wr.drewN n) b C := ⟨h.arr.drewN n, h.block, h.size, h.os, h.tape, h.output⟩
theorem Sub.drew {w wr : World} {b : Nat} {C : List Nat} (h : Sub w wr b C) : Sub w wr.drew b C := ⟨⟨h.arr.heap, h.arr.wd⟩, h.block, h.size, h.os, h.tape, h.output⟩
theorem Sub.other {w wr : World} {b k : Nat} {C D : List Nat} (h : Sub w wr b C) (hk : k ≠ b) (hD : Arr w k D) : Arr wr k D := ⟨by rw [h.block k hk]; exact hD.heap, hD.wd⟩
theorem Sub.set {w wr : World} {b : Nat} {C : List Nat} (h : Sub w wr b C) {i : Nat} (x : Nat) (hx : x < WB) : Sub w (wr.setCell ⟨b, i, none⟩ (.int .u64 (x : Int))) b (C.set i x) := by
  have ha := h.arr.heap
  refine ⟨⟨?_, h.arr.wd.set i x hx⟩, fun k hk => ?_, by rw [World.size_setCell]; exact h.size, h.os, h.tape, h.output⟩
  · simp only [World.setCell, Array.getElem?_modify, if_true, ha, Option.map_some]
    simp [List.map_set, uw]
  · rw [Below.heap_setCell _ _ _ _ hk]; exact h.block k hk
theorem Sub.trans {a b c : World} {k : Nat} {C D : List Nat} (h : Sub a b k C) (h' : Sub b c k D) : Sub a c k D :=
  ⟨h'.arr, fun i hi => (h'.block i hi).trans (h.block i hi), h'.size.trans h.size, h'.os.trans h.os, h'.tape.trans h.tape, h'.output.trans h.output⟩

/-- C with R laid over it from o on. -/
def spl (C : List Nat) (o : Nat) (R : List Nat) : List Nat := C.take o ++ R ++ C.drop (o + R.length)
theorem spl_length {C : List Nat} {o : Nat} {R : List Nat} (h : o + R.length ≤ C.length) : (spl C o R).length = C.length := by
  unfold spl; simp; omega
theorem spl_nil (C : List Nat) (o : Nat) : spl C o [] = C := by unfold spl; simp
theorem spl_lt {C : List Nat} {o : Nat} {R : List Nat} {j : Nat} (h : o + R.length ≤ C.length) (hj : j < o) : (spl C o R)[j]? = C[j]? := by
  unfold spl; rw [List.append_assoc, List.getElem?_append_left (by simp; omega), List.getElem?_take_of_lt hj]
theorem spl_ge {C : List Nat} {o : Nat} {R : List Nat} {j : Nat} (h : o + R.length ≤ C.length) (hj : o + R.length ≤ j) : (spl C o R)[j]? = C[j]? := by
  unfold spl; rw [List.getElem?_append_right (by simp; omega), List.getElem?_drop]; congr 1; simp; omega
theorem spl_mid {C : List Nat} {o : Nat} {R : List Nat} {j : Nat} (h : o + R.length ≤ C.length) (hj : j < R.length) : (spl C o R)[o + j]? = R[j]? := by
  unfold spl; rw [List.append_assoc, List.getElem?_append_right (by simp; omega), List.getElem?_append_left (by simp; omega)]; congr 1; simp; omega
theorem spl_next {C : List Nat} {o : Nat} {R : List Nat} (h : o + R.length < C.length) (x : Nat) : (spl C o R).set (o + R.length) x = spl C o (R ++ [x]) := by
  apply List.ext_getElem?
  intro j
  rw [List.getElem?_set]
  split
  · rename_i e; subst e
    rw [if_pos (by rw [spl_length (by omega)]; exact h), spl_mid (by simp; omega) (by simp)]
    simp
  · rename_i e
    by_cases h1 : j < o
    · rw [spl_lt (by omega) h1, spl_lt (by simp; omega) h1]
    · by_cases h2 : j < o + R.length
      · obtain ⟨d, rfl⟩ : ∃ d, j = o + d := ⟨j - o, by omega⟩
        rw [spl_mid (by omega) (by omega), spl_mid (by simp; omega) (by simp; omega), List.getElem?_append_left (by omega)]
      · rw [spl_ge (by omega) (by omega), spl_ge (by simp; omega) (by simp; omega)]
/-- One word more at the front. -/
theorem spl_prev {C : List Nat} {o : Nat} {R : List Nat} (h : o + 1 + R.length ≤ C.length) (x : Nat) : (spl C (o + 1) R).set o x = spl C o (x :: R) := by
  apply List.ext_getElem?
  intro j
  rw [List.getElem?_set]
  split
  · rename_i e; subst e
    rw [if_pos (by rw [spl_length (by omega)]; omega)]
    have := spl_mid (C := C) (o := o) (R := x :: R) (j := 0) (by simp; omega) (by simp)
    rw [Nat.add_zero] at this; rw [this]; rfl
  · rename_i e
    by_cases h1 : j < o
    · rw [spl_lt (by omega) (by omega), spl_lt (by simp; omega) h1]
    · by_cases h2 : j < o + 1 + R.length
      · obtain ⟨d, rfl⟩ : ∃ d, j = o + 1 + d := ⟨j - (o + 1), by omega⟩
        rw [spl_mid (by omega) (by omega), show o + 1 + d = o + (d + 1) by omega, spl_mid (by simp; omega) (by simp; omega)]
        rfl
      · rw [spl_ge (by omega) (by omega), spl_ge (by simp; omega) (by simp; omega)]
theorem nth_spl_lt {C : List Nat} {o : Nat} {R : List Nat} {j : Nat} (h : o + R.length ≤ C.length) (hj : j < o) : nth (spl C o R) j = nth C j := by unfold nth; rw [spl_lt h hj]
theorem nth_spl_ge {C : List Nat} {o : Nat} {R : List Nat} {j : Nat} (h : o + R.length ≤ C.length) (hj : o + R.length ≤ j) : nth (spl C o R) j = nth C j := by unfold nth; rw [spl_ge h hj]
theorem nth_spl_mid {C : List Nat} {o : Nat} {R : List Nat} {j : Nat} (h : o + R.length ≤ C.length) (hj : j < R.length) : nth (spl C o R) (o + j) = nth R j := by unfold nth; rw [spl_mid h hj]
theorem Wd_spl {C : List Nat} {o : Nat} {R : List Nat} (h : Wd C) (hr : Wd R) : Wd (spl C o R) := ((h.take o).append hr).append (h.drop _)
theorem spl_spl_next {C : List Nat} {o : Nat} {R S : List Nat} (h : o + R.length + S.length ≤ C.length) : spl (spl C o R) (o + R.length) S = spl C o (R ++ S) := by
  apply List.ext_getElem?
  intro j
  have l1 : (spl C o R).length = C.length := spl_length (by omega)
  by_cases h1 : j < o
  · rw [spl_lt (by omega) (by omega), spl_lt (by omega) h1, spl_lt (by simp; omega) h1]
  · by_cases h2 : j < o + R.length
    · obtain ⟨d, rfl⟩ : ∃ d, j = o + d := ⟨j - o, by omega⟩
      rw [spl_lt (by omega) (by omega), spl_mid (by omega) (by omega), spl_mid (by simp; omega) (by simp; omega), List.getElem?_append_left (by omega)]
    · by_cases h3 : j < o + R.length + S.length
      · obtain ⟨d, rfl⟩ : ∃ d, j = o + R.length + d := ⟨j - (o + R.length), by omega⟩
        rw [spl_mid (by omega) (by omega), Nat.add_assoc, spl_mid (by simp; omega) (by simp; omega), List.getElem?_append_right (by omega)]
        congr 1; omega
      · rw [spl_ge (by omega) (by omega), spl_ge (by omega) (by omega), spl_ge (by simp; omega) (by simp; omega)]
theorem spl_all {C R : List Nat} (h : R.length = C.length) : spl C 0 R = R := by unfold spl; simp [h]
theorem spl_take_drop {C R : List Nat} {o : Nat} (h : o + R.length ≤ C.length) : ((spl C o R).drop o).take R.length = R := by
  apply List.ext_getElem?
  intro j
  by_cases hj : j < R.length
  · rw [List.getElem?_take_of_lt hj, List.getElem?_drop, spl_mid h hj]
  · rw [List.getElem?_eq_none (by simp; omega), List.getElem?_eq_none (by omega)]

theorem Sub.next {w wr : World} {b o k : Nat} {C R : List Nat} (h : Sub w wr b (spl C o R)) (hk : R.length = k) (hl : o + k < C.length) (x : Nat) (hx : x < WB) :
    Sub w (wr.setCell ⟨b, o + k, none⟩ (.int .u64 (x : Int))) b (spl C o (R ++ [x])) := by
  subst hk
  have := h.set (i := o + R.length) x hx
  rwa [spl_next hl] at this

/-- A row X of words that is read while the words of block bz from oz on are written, one after the other. -/
def Rd (w : World) (bz oz n : Nat) (Cz : List Nat) (bx ox : Nat) (X : List Nat) : Prop :=
  ∀ wr R, Sub w wr bz (spl Cz oz R) → R.length < n → wr.cell? ⟨bx, ox + R.length, none⟩ = some (.int .u64 (nth X R.length : Int))
theorem Rd.mk {w : World} {bz oz n : Nat} {Cz : List Nat} {bx ox : Nat} {Cx : List Nat} (hz : Arr w bz Cz) (_lz : oz + n ≤ Cz.length) (hx : Arr w bx Cx) (lx : ox + n ≤ Cx.length)
    (hs : bx ≠ bz ∨ oz ≤ ox) : Rd w bz oz n Cz bx ox ((Cx.drop ox).take n) := by
  intro wr R hS hR
  rw [nth_take hR, nth_drop]
  by_cases e : bx = bz
  · subst e
    have hle : oz ≤ ox := by
      rcases hs with h | h
      · exact absurd rfl h
      · exact h
    obtain rfl := hz.inj hx
    have := hS.arr.cellN (i := ox + R.length) (by rw [spl_length (by omega)]; omega)
    rw [this, nth_spl_ge (by omega) (by omega)]
  · exact (hS.other e hx).cellN (by omega)

theorem ret_i {k : IntKind} {a b : Int} (h : a = b) : Ending.returned (.int k a) = .returned (.int k b) := by rw [h]
theorem ret2_i {k k' : IntKind} {a b c d : Int} (h : a = b) (h' : c = d) : Ending.returned (.tuple #[.int k a, .int k' c]) = .returned (.tuple #[.int k b, .int k' d]) := by rw [h, h']

end Go.Proofs.YtabggbajgpbmmaaGreatDoor
