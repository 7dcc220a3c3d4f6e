/- Blocks of words in memory: what a world holds, and a world that differs in one block. Functions on single words: sums and products with a carry. Sums, differences and products of rows of words. -/
import Derived.WalkKit
import Derived.WalkSpells
import Derived.WalkLawsBesides
import Derived.Deep.QuietTactic
import Derived.BigQuiet
import Derived.StillTailTactics
import Derived.Deep.DeepFit
import Derived.Lib.Hide
import Derived.Deep.LoopGhost
import Derived.Deep.DeepCutAuto
import Derived.Deep.Light
import Derived.Deep.CutBlock
import Derived.Shelf.Spec.BitsCarry
import Derived.Test.YtlnillnngckegaaGreatDoorProg
import Derived.Laws.Externs
import Derived.Lib.Mul64
import Derived.Test.YtlnillnngckegaaGreatDoorM01
namespace Go.Proofs.YtlnillnngckegaaGreatDoor
open Go Go.RowKit

/-- A word as a value. -/
def uw (x : Nat) : Value := .int .u64 (x : Int)

/-- Block b holds just these words (104: the type of a word). -/
structure Arr (w : World) (b : Nat) (C : List Nat) : Prop where
  heap : w.heap[b]? = some (.cells (C.map uw).toArray 104 (0, 0))
  wd : Wd C

theorem Arr.cell {w : World} {b : Nat} {C : List Nat} (h : Arr w b C) {i x : Nat} (hx : C[i]? = some x) : w.cell? ⟨b, i, none⟩ = some (.int .u64 (x : Int)) := by
  have h := h.heap; unfold World.cell?; simp [h, hx, uw]
theorem Arr.cellN {w : World} {b : Nat} {C : List Nat} (h : Arr w b C) {i : Nat} (hi : i < C.length) : w.cell? ⟨b, i, none⟩ = some (.int .u64 (nth C i : Int)) := h.cell (get_nth hi)
theorem Arr.frozen {w : World} {b : Nat} {C : List Nat} (h : Arr w b C) (i : Nat) : w.frozen? ⟨b, i, none⟩ = false := by
  unfold World.frozen?; rw [h.heap]; simp
theorem Arr.lt {w : World} {b : Nat} {C : List Nat} (h : Arr w b C) : b < w.heap.size := by
  have h := h.heap
  rcases Nat.lt_or_ge b w.heap.size with h' | h'
  · exact h'
  · rw [Array.getElem?_eq_none h'] at h; cases h
theorem Arr.inj {w : World} {b : Nat} {C D : List Nat} (h : Arr w b C) (h' : Arr w b D) : C = D := by
  have h := h.heap
  have h' := h'.heap
  rw [h] at h'
  simp only [Option.some.injEq, Obj.cells.injEq, and_true] at h'
  have e := congrArg Array.toList h'
  simp only at e
  exact (List.map_inj_right (fun a b e => by unfold uw at e; simp at e; omega)).1 e
theorem Arr.drewN {w : World} {b : Nat} {C : List Nat} (h : Arr w b C) (n : Nat) : Arr (w.drewN n) b C := ⟨h.heap, h.wd⟩

/-- wr is w but for block b, which holds C. -/
structure Sub (w wr : World) (b : Nat) (C : List Nat) : Prop where
  arr : Arr wr b C
  block : ∀ k, k ≠ b → wr.heap[k]? = w.heap[k]?
  size : wr.heap.size = w.heap.size
  os : wr.os = w.os
  tape : wr.tape = w.tape
  output : wr.output = w.output

theorem Sub.refl {w : World} {b : Nat} {C : List Nat} (h : Arr w b C) : Sub w w b C := ⟨h, fun _ _ => rfl, rfl, rfl, rfl, rfl⟩
theorem Sub.drewN {w wr : World} {b : Nat} {C : List Nat} (h : Sub w wr b C) (n : Nat) : Sub w (wr.drewN n) b C := ⟨h.arr.drewN n, h.block, h.size, h.os, h.tape, h.output⟩
theorem Sub.drew {w wr : World} {b : Nat} {C : List Nat} (h : Sub w wr b C) : Sub w wr.drew b C := ⟨⟨h.arr.heap, h.arr.wd⟩, h.block, h.size, h.os, h.tape, h.output⟩
theorem Sub.other {w wr : World} {b k : Nat} {C D : List Nat} (h : Sub w wr b C) (hk : k ≠ b) (hD : Arr w k D) : Arr wr k D := ⟨by rw [h.block k hk]; exact hD.heap, hD.wd⟩
theorem Sub.set {w wr : World} {b : Nat} {C : List Nat} (h : Sub w wr b C) {i : Nat} (x : Nat) (hx : x < WB) : Sub w (wr.setCell ⟨b, i, none⟩ (.int .u64 (x : Int))) b (C.set i x) := by
  have ha := h.arr.heap
  refine ⟨⟨?_, h.arr.wd.set i x hx⟩, fun k hk => ?_, by rw [World.size_setCell]; exact h.size, h.os, h.tape, h.output⟩
  · simp only [World.setCell, Array.getElem?_modify, if_true, ha, Option.map_some]
    simp [List.map_set, uw]
  · rw [Below.heap_setCell _ _ _ _ hk]; exact h.block k hk
theorem Sub.trans {a b c : World} {k : Nat} {C D : List Nat} (h : Sub a b k C) (h' : Sub b c k D) : Sub a c k D :=
  ⟨h'.arr, fun i hi => (h'.block i hi).trans (h.block i hi), h'.size.trans h.size, h'.os.trans h.os, h'.tape.trans h.tape, h'.output.trans h.output⟩

/-- C with R laid over it from o on. -/
def spl (C : List Nat) (o : Nat) (R : List Nat) : List Nat := C.take o ++ R ++ C.drop (o + R.length)
theorem spl_length {C : List Nat} {o : Nat} {R : List Nat} (h : o + R.length ≤ C.length) : (spl C o R).length = C.length := by
  unfold spl; simp; omega
theorem spl_nil (C : List Nat) (o : Nat) : spl C o [] = C := by unfold spl; simp
theorem spl_lt {C : List Nat} {o : Nat} {R : List Nat} {j : Nat} (h : o + R.length ≤ C.length) (hj : j < o) : (spl C o R)[j]? = C[j]? := by
  unfold spl; rw [List.append_assoc, List.getElem?_append_left (by simp; omega), List.getElem?_take_of_lt hj]
theorem spl_ge {C : List Nat} {o : Nat} {R : List Nat} {j : Nat} (h : o + R.length ≤ C.length) (hj : o + R.length ≤ j) : (spl C o R)[j]? = C[j]? := by
  unfold spl; rw [List.getElem?_append_right (by simp; omega), List.getElem?_drop]; congr 1; simp; omega
theorem spl_mid {C : List Nat} {o : Nat} {R : List Nat} {j : Nat} (h : o + R.length ≤ C.length) (hj : j < R.length) : (spl C o R)[o + j]? = R[j]? := by
  unfold spl; rw [List.append_assoc, List.getElem?_append_right (by simp; omega), List.getElem?_append_left (by simp; omega)]; congr 1; simp; omega
theorem spl_next {C : List Nat} {o : Nat} {R : List Nat} (h : o + R.length < C.length) (x : Nat) : (spl C o R).set (o + R.length) x = spl C o (R ++ [x]) := by
  apply List.ext_getElem?
  intro j
  rw [List.getElem?_set]
  split
  · rename_i e; subst e
    rw [if_pos (by rw [spl_length (by omega)]; exact h), spl_mid (by simp; omega) (by simp)]
    simp
  · rename_i e
    by_cases h1 : j < o
    · rw [spl_lt (by omega) h1, spl_lt (by simp; omega) h1]
    · by_cases h2 : j < o + R.length
      · obtain ⟨d, rfl⟩ : ∃ d, j = o + d := ⟨j - o, by omega⟩
        rw [spl_mid (by omega) (by omega), spl_mid (by simp; omega) (by simp; omega), List.getElem?_append_left (by omega)]
      · rw [spl_ge (by omega) (by omega), spl_ge (by simp; omega) (by simp; omega)]
/-- One word more at the front. -/
theorem spl_prev {C : List Nat} {o : Nat} {R : List Nat} (h : o + 1 + R.length ≤ C.length) (x : Nat) : (spl C (o + 1) R).set o x = spl C o (x :: R) := by
  apply List.ext_getElem?
  intro j
  rw [List.getElem?_set]
  split
  · rename_i e; subst e
    rw [if_pos (by rw [spl_length (by omega)]; omega)]
    have := spl_mid (C := C) (o := o) (R := x :: R) (j := 0) (by simp; omega) (by simp)
    rw [Nat.add_zero] at this; rw [this]; rfl
  · rename_i e
    by_cases h1 : j < o
    · rw [spl_lt (by omega) (by omega), spl_lt (by simp; omega) h1]
    · by_cases h2 : j < o + 1 + R.length
      · obtain ⟨d, rfl⟩ : ∃ d, j = o + 1 + d := ⟨j - (o + 1), by omega⟩
        rw [spl_mid (by omega) (by omega), show o + 1 + d = o + (d + 1) by omega, spl_mid (by simp; omega) (by simp; omega)]
        rfl
      · rw [spl_ge (by omega) (by omega), spl_ge (by simp; omega) (by simp; omega)]
theorem nth_spl_lt {C : List Nat} {o : Nat} {R : List Nat} {j : Nat} (h : o + R.length ≤ C.length) (hj : j < o) : nth (spl C o R) j = nth C j := by unfold nth; rw [spl_lt h hj]
theorem nth_spl_ge {C : List Nat} {o : Nat} {R : List Nat} {j : Nat} (h : o + R.length ≤ C.length) (hj : o + R.length ≤ j) : nth (spl C o R) j = nth C j := by unfold nth; rw [spl_ge h hj]
theorem nth_spl_mid {C : List Nat} {o : Nat} {R : List Nat} {j : Nat} (h : o + R.length ≤ C.length) (hj : j < R.length) : nth (spl C o R) (o + j) = nth R j := by unfold nth; rw [spl_mid h hj]
theorem Wd_spl {C : List Nat} {o : Nat} {R : List Nat} (h : Wd C) (hr : Wd R) : Wd (spl C o R) := ((h.take o).append hr).append (h.drop _)
theorem spl_spl_next {C : List Nat} {o : Nat} {R S : List Nat} (h : o + R.length + S.length ≤ C.length) : spl (spl C o R) (o + R.length) S = spl C o (R ++ S) := by
  apply List.ext_getElem?
  intro j
  have l1 : (spl C o R).length = C.length := spl_length (by omega)
  by_cases h1 : j < o
  · rw [spl_lt (by omega) (by omega), spl_lt (by omega) h1, spl_lt (by simp; omega) h1]
  · by_cases h2 : j < o + R.length
    · obtain ⟨d, rfl⟩ : ∃ d, j = o + d := ⟨j - o, by omega⟩
      rw [spl_lt (by omega) (by omega), spl_mid (by omega) (by omega), spl_mid (by simp; omega) (by simp; omega), List.getElem?_append_left (by omega)]
    · by_cases h3 : j < o + R.length + S.length
      · obtain ⟨d, rfl⟩ : ∃ d, j = o + R.length + d := ⟨j - (o + R.length), by omega⟩
        rw [spl_mid (by omega) (by omega), Nat.add_assoc, spl_mid (by simp; omega) (by simp; omega), List.getElem?_append_right (by omega)]
        congr 1; omega
      · rw [spl_ge (by omega) (by omega), spl_ge (by omega) (by omega), spl_ge (by simp; omega) (by simp; omega)]
theorem spl_all {C R : List Nat} (h : R.length = C.length) : spl C 0 R = R := by unfold spl; simp [h]
theorem spl_take_drop {C R : List Nat} {o : Nat} (h : o + R.length ≤ C.length) : ((spl C o R).drop o).take R.length = R := by
  apply List.ext_getElem?
  intro j
  by_cases hj : j < R.length
  · rw [List.getElem?_take_of_lt hj, List.getElem?_drop, spl_mid h hj]
  · rw [List.getElem?_eq_none (by simp; omega), List.getElem?_eq_none (by omega)]

theorem Sub.next {w wr : World} {b o k : Nat} {C R : List Nat} (h : Sub w wr b (spl C o R)) (hk : R.length = k) (hl : o + k < C.length) (x : Nat) (hx : x < WB) :
    Sub w (wr.setCell ⟨b, o + k, none⟩ (.int .u64 (x : Int))) b (spl C o (R ++ [x])) := by
  subst hk
  have := h.set (i := o + R.length) x hx
  rwa [spl_next hl] at this

/-- A row X of words that is read while the words of block bz from oz on are written, one after the other. -/
def Rd (w : World) (bz oz n : Nat) (Cz : List Nat) (bx ox : Nat) (X : List Nat) : Prop :=
  ∀ wr R, Sub w wr bz (spl Cz oz R) → R.length < n → wr.cell? ⟨bx, ox + R.length, none⟩ = some (.int .u64 (nth X R.length : Int))
theorem Rd.mk {w : World} {bz oz n : Nat} {Cz : List Nat} {bx ox : Nat} {Cx : List Nat} (hz : Arr w bz Cz) (_lz : oz + n ≤ Cz.length) (hx : Arr w bx Cx) (lx : ox + n ≤ Cx.length)
    (hs : bx ≠ bz ∨ oz ≤ ox) : Rd w bz oz n Cz bx ox ((Cx.drop ox).take n) := by
  intro wr R hS hR
  rw [nth_take hR, nth_drop]
  by_cases e : bx = bz
  · subst e
    have hle : oz ≤ ox := by
      rcases hs with h | h
      · exact absurd rfl h
      · exact h
    obtain rfl := hz.inj hx
    have := hS.arr.cellN (i := ox + R.length) (by rw [spl_length (by omega)]; omega)
    rw [this, nth_spl_ge (by omega) (by omega)]
  · exact (hS.other e hx).cellN (by omega)

theorem ret_i {k : IntKind} {a b : Int} (h : a = b) : Ending.returned (.int k a) = .returned (.int k b) := by rw [h]
theorem ret2_i {k k' : IntKind} {a b c d : Int} (h : a = b) (h' : c = d) : Ending.returned (.tuple #[.int k a, .int k' c]) = .returned (.tuple #[.int k b, .int k' d]) := by rw [h, h']

end Go.Proofs.YtlnillnngckegaaGreatDoor

namespace Go.Proofs.YtlnillnngckegaaGreatDoor
open Go Go.RowKit

theorem run_Add64 (x y c : Nat) (hx : x < WB) (hy : y < WB) (hc : c ≤ 1) (w : World) :
    (callFunc 215 #[.int .u64 x, .int .u64 y, .int .u64 c]).run Tryz.prog w =
      .ok (.value (.tuple #[.int .u64 (adds x y c : Int), .int .u64 (addc x y c : Int)])) w := by
  unfold adds addc
  rw [run_callFunc_extern Tryz.func215 (by kernel_rfl) (by kernel_rfl) (by kernel_rfl) (e := add64Entry) (by kernel_rfl)]
  rw [WB_eq] at *
  rw [run_add64 x y c (by omega) (by omega) (by omega) (by omega)]
  simp only [Result.andThen]
  congr 5 <;> omega

theorem run_Sub64 (x y c : Nat) (hc : c ≤ 1) (w : World) :
    (callFunc 217 #[.int .u64 x, .int .u64 y, .int .u64 c]).run Tryz.prog w =
      .ok (.value (.tuple #[.int .u64 (subs x y c : Int), .int .u64 (subc x y c : Int)])) w := by
  unfold subs subc
  rw [run_callFunc_extern Tryz.func217 (by kernel_rfl) (by kernel_rfl) (by kernel_rfl) (e := sub64Entry) (by kernel_rfl)]
  rw [WB_eq] at *
  rw [run_sub64 x y c hc]
  rfl

set_option maxHeartbeats 400000 in
theorem bits_Add (x y c : Nat) (hx : x < WB) (hy : y < WB) (hc : c ≤ 1) (w : World) :
    Calls Tryz.prog 194 #[.int .u64 x, .int .u64 y, .int .u64 c] w fun e w' => e = .returned (.tuple #[.int .u64 (adds x y c : Int), .int .u64 (addc x y c : Int)]) ∧ w' = w := by
  have H := run_Add64 x y c hx hy hc
  go_enter Tryz.func194, Tryz.ntmps194
  go_wp2
  go_ret2
  exact ⟨rfl, rfl⟩

set_option maxHeartbeats 400000 in
theorem bits_Sub (x y c : Nat) (hc : c ≤ 1) (w : World) :
    Calls Tryz.prog 196 #[.int .u64 x, .int .u64 y, .int .u64 c] w fun e w' => e = .returned (.tuple #[.int .u64 (subs x y c : Int), .int .u64 (subc x y c : Int)]) ∧ w' = w := by
  have H := run_Sub64 x y c hc
  go_enter Tryz.func196, Tryz.ntmps196
  go_wp2
  go_ret2
  exact ⟨rfl, rfl⟩

namespace M64
theorem maskN (a : Nat) (ha : a < 18446744073709551616) : bits .and .u64 (a : Int) 4294967295 = ((a % 4294967296 : Nat) : Int) := by
  have h := bits_and_u64_nat a 4294967295 ha (by omega)
  have e : a &&& 4294967295 = a % 4294967296 := Nat.and_two_pow_sub_one_eq_mod a 32
  rw [e] at h
  exact h
theorem divN (a : Nat) : (a : Int) / 4294967296 = ((a / 4294967296 : Nat) : Int) := by omega
theorem mulN (a b : Nat) : (a : Int) * (b : Int) = ((a * b : Nat) : Int) := (Int.natCast_mul a b).symm
theorem addN (a b : Nat) : (a : Int) + (b : Int) = ((a + b : Nat) : Int) := (Int.natCast_add a b).symm
theorem wrapN (a : Nat) (ha : a < 18446744073709551616) : IntKind.u64.wrap (a : Int) = (a : Int) := by rw [IntKind.wrap_u64]; omega
theorem wrapM (a : Nat) : IntKind.u64.wrap (a : Int) = ((a % 18446744073709551616 : Nat) : Int) := by rw [IntKind.wrap_u64]; omega
end M64

set_option maxHeartbeats 1000000 in
theorem bits_Mul64 (x y : Nat) (hx : x < WB) (hy : y < WB) (w : World) :
    Calls Tryz.prog 206 #[.int .u64 x, .int .u64 y] w fun e w' => e = .returned (.tuple #[.int .u64 (mulhi x y : Int), .int .u64 (mullo x y : Int)]) ∧ w' = w := by
  unfold mulhi mullo
  rw [WB_eq] at *
  obtain ⟨bd, bt, bw, hhi⟩ := Lib.mul64_hi x y hx hy
  have ba := Lib.half_mul_le (a := x / 4294967296) (b := y / 4294967296) (by omega) (by omega)
  have bb := Lib.half_mul_le (a := x / 4294967296) (b := y % 4294967296) (by omega) (by omega)
  have bc := Lib.half_mul_le (a := x % 4294967296) (b := y / 4294967296) (by omega) (by omega)
  have ba' : x / 4294967296 * (y / 4294967296) < 18446744073709551616 := by omega
  have bb' : x / 4294967296 * (y % 4294967296) < 18446744073709551616 := by omega
  have bc' : x % 4294967296 * (y / 4294967296) < 18446744073709551616 := by omega
  have bh1 : x / 4294967296 * (y / 4294967296) + (x / 4294967296 * (y % 4294967296) + x % 4294967296 * (y % 4294967296) / 4294967296) / 4294967296 < 18446744073709551616 := by omega
  have bh : x / 4294967296 * (y / 4294967296) + (x / 4294967296 * (y % 4294967296) + x % 4294967296 * (y % 4294967296) / 4294967296) / 4294967296 + ((x / 4294967296 * (y % 4294967296) + x % 4294967296 * (y % 4294967296) / 4294967296) % 4294967296 + x % 4294967296 * (y / 4294967296)) / 4294967296 < 18446744073709551616 := by omega
  go_enter Tryz.func206, Tryz.ntmps206
  go_wp2
  simp only [M64.maskN x hx, M64.maskN y hy, M64.divN, M64.mulN, M64.addN, M64.wrapN _ bd, M64.wrapN _ bb', M64.wrapN _ bt, M64.maskN _ bt, M64.wrapN _ bc', M64.wrapN _ bw, M64.wrapN _ ba', M64.wrapN _ bh1, M64.wrapN _ bh, M64.wrapM (x * y)]
  rw [hhi]
  go_ret2
  exact ⟨rfl, rfl⟩

set_option maxHeartbeats 400000 in
theorem bits_Mul (x y : Nat) (hx : x < WB) (hy : y < WB) (w : World) :
    Calls Tryz.prog 179 #[.int .u64 x, .int .u64 y] w fun e w' => e = .returned (.tuple #[.int .u64 (mulhi x y : Int), .int .u64 (mullo x y : Int)]) ∧ w' = w := by
  go_enter Tryz.func179, Tryz.ntmps179
  go_wp2_with (go_at_call 206; refine (bits_Mul64 x y hx hy _).mono ?_; rintro e w' ⟨rfl, rfl⟩)
  go_ret2
  exact ⟨rfl, rfl⟩

set_option maxHeartbeats 400000 in
theorem mulWW_c (x y : Nat) (hx : x < WB) (hy : y < WB) (w : World) :
    Calls Tryz.prog 148 #[.int .u64 x, .int .u64 y] w fun e w' => e = .returned (.tuple #[.int .u64 (mulhi x y : Int), .int .u64 (mullo x y : Int)]) ∧ w' = w := by
  go_enter Tryz.func148, Tryz.ntmps148
  go_wp2_with (go_at_call 179; refine (bits_Mul x y hx hy _).mono ?_; rintro e w' ⟨rfl, rfl⟩)
  go_ret2
  exact ⟨rfl, rfl⟩

/-- The product of two words and a third one, in two words. -/
noncomputable def mac1 (x y c : Nat) : Nat := (x * y + c) / WB
noncomputable def mac0 (x y c : Nat) : Nat := (x * y + c) % WB
theorem mac_eq (x y c : Nat) : mac0 x y c + WB * mac1 x y c = x * y + c := Nat.mod_add_div _ _
theorem mac0_lt (x y c : Nat) : mac0 x y c < WB := Nat.mod_lt _ WB_pos
theorem mac_bound {x y c d : Nat} (hx : x < WB) (hy : y < WB) (hc : c < WB) (hd : d < WB) : x * y + c + d < WB * WB := by
  have h1 : x * y ≤ (WB - 1) * (WB - 1) := Nat.mul_le_mul (by omega) (by omega)
  have h2 : (WB - 1) * (WB - 1) + (WB - 1) + (WB - 1) < WB * WB := by rw [WB_eq]; decide
  omega
theorem mac1_lt {x y c : Nat} (hx : x < WB) (hy : y < WB) (hc : c < WB) : mac1 x y c < WB := by
  unfold mac1
  rw [Nat.div_lt_iff_lt_mul WB_pos]
  have := mac_bound hx hy hc WB_pos
  omega
theorem mac_of (x y c : Nat) (_hx : x < WB) (_hy : y < WB) (_hc : c < WB) : mulhi x y + addc (mullo x y) c 0 = mac1 x y c ∧ adds (mullo x y) c 0 = mac0 x y c := by
  have e1 := mullo_mulhi x y
  have e2 := adds_addc (mullo x y) c 0
  have e3 := mac_eq x y c
  have l1 := adds_lt (mullo x y) c 0
  have l2 := mac0_lt x y c
  have e : mac0 x y c + WB * mac1 x y c = adds (mullo x y) c 0 + WB * (mulhi x y + addc (mullo x y) c 0) := by rw [Nat.mul_add]; omega
  have a := congrArg (· % WB) e
  simp only [Nat.add_mul_mod_self_left, Nat.mod_eq_of_lt l1, Nat.mod_eq_of_lt l2] at a
  have b : mac1 x y c = mulhi x y + addc (mullo x y) c 0 := Nat.eq_of_mul_eq_mul_left WB_pos (by omega)
  exact ⟨b.symm, a.symm⟩

theorem wrap_u64_nat (a : Nat) (h : a < WB) : IntKind.u64.wrap (a : Int) = (a : Int) := by rw [WB_eq] at h; rw [IntKind.wrap_u64]; omega

set_option maxHeartbeats 400000 in
theorem mulAddWWW_g_c (x y c : Nat) (hx : x < WB) (hy : y < WB) (hc : c < WB) (w : World) :
    Calls Tryz.prog 227 #[.int .u64 x, .int .u64 y, .int .u64 c] w fun e w' => e = .returned (.tuple #[.int .u64 (mac1 x y c : Int), .int .u64 (mac0 x y c : Int)]) ∧ w' = w := by
  have H := mac_of x y c hx hy hc
  have L := mac1_lt hx hy hc
  obtain ⟨H1, H2⟩ := H
  have HH1 := Lib.hid H1
  have HH2 := Lib.hid H2
  have HL := Lib.hid L
  clear H1 H2 L
  have hl := mullo_lt x y
  go_enter Tryz.func227, Tryz.ntmps227
  go_wp2_with (first
    | (go_at_call 179; refine (bits_Mul x y hx hy _).mono ?_; rintro e w' ⟨rfl, rfl⟩)
    | (go_at_call 194; refine (bits_Add (mullo x y) c 0 hl hc (by omega) _).mono ?_; rintro e w' ⟨rfl, rfl⟩))
  go_ret2
  refine ⟨ret2_i ?_ ?_, rfl⟩
  · rw [← Int.natCast_add, HH1.out]; exact wrap_u64_nat _ HL.out
  · rw [HH2.out]

end Go.Proofs.YtlnillnngckegaaGreatDoor

namespace Go.Proofs.YtlnillnngckegaaGreatDoor
open Go Go.RowKit

set_option maxHeartbeats 400000 in
theorem addVV_g_c (w : World) (bz oz n cz bx ox cx by_ oy cy : Nat) (Cz X Y : List Nat) (hn : n < 1000000)
    (hz : Arr w bz Cz) (hzl : oz + n ≤ Cz.length) (hX : X.length = n) (hY : Y.length = n) (WX : Wd X) (WY : Wd Y)
    (hx : Rd w bz oz n Cz bx ox X) (hy : Rd w bz oz n Cz by_ oy Y) :
    Calls Tryz.prog 193 #[.slice (some ⟨bz, oz, none⟩) n cz, .slice (some ⟨bx, ox, none⟩) n cx, .slice (some ⟨by_, oy, none⟩) n cy] w fun e w' =>
      ∃ R c, e = .returned (.int .u64 ((c : Nat) : Int)) ∧ Sub w w' bz (spl Cz oz R) ∧ R.length = n ∧ c ≤ 1 ∧ val R + WB ^ n * c = val X + val Y := by
  have hx := Lib.hid hx
  have hy := Lib.hid hy
  go_enter Tryz.func193, Tryz.ntmps193
  go_wp2
  go_loopw [6, 25] (fun c i wr => ∃ k cc : Nat, k ≤ n ∧ i = .int .i64 k ∧ c = .int .u64 cc ∧ ∃ R : List Nat, R.length = k ∧ cc ≤ 1 ∧ val R + WB ^ k * cc = val (X.take k) + val (Y.take k) ∧ Sub w wr bz (spl Cz oz R)) (fun _ i _ => n - (intOf i).toNat)
  case atStart => exact ⟨0, 0, Nat.zero_le _, rfl, rfl, [], rfl, by omega, by simp, by rw [spl_nil]; exact Sub.refl hz⟩
  case round =>
    obtain ⟨k, cc, hk, rfl, rfl, R, hR1, hc, hR3, hS⟩ := hrel
    by_cases hlt : k < n
    · have hx1 := hx.out wr R hS (by omega)
      have hy1 := hy.out wr R hS (by omega)
      rw [hR1] at hx1 hy1
      have hwx := WX.nth k
      have hwy := WY.nth k
      have hz1 := hS.arr.cellN (i := oz + k) (by rw [spl_length (by omega)]; omega)
      have hz2 := hS.arr.frozen (oz + k)
      go_wp2
      go_quiet ((go_at_call 194; exact Calls.quiet_of_same (bits_Add _ _ _ hwx hwy hc _)))
      go_wp2
      go_roundw
      case rel =>
        refine ⟨k + 1, addc (nth X k) (nth Y k) cc, by omega, by go_num, rfl, R ++ [adds (nth X k) (nth Y k) cc], by simp [hR1], addc_le hwx hwy hc, ?_, ?_⟩
        · rw [val_snoc, hR1, val_take_succ (by omega), val_take_succ (by omega)]
          exact add_step hR3 (adds_addc _ _ _)
        · exact (hS.drewN nq).next hR1 (by omega) _ (adds_lt _ _ _)
      case measure => simp [intOf]; omega
    · go_wp2
      go_ret
      obtain rfl : k = n := by omega
      refine ⟨R, cc, rfl, hS, hR1, hc, ?_⟩
      rw [hR3, List.take_of_length_le (by omega), List.take_of_length_le (by omega)]

set_option maxHeartbeats 400000 in
theorem subVV_g_c (w : World) (bz oz n cz bx ox cx by_ oy cy : Nat) (Cz X Y : List Nat) (hn : n < 1000000)
    (hz : Arr w bz Cz) (hzl : oz + n ≤ Cz.length) (hX : X.length = n) (hY : Y.length = n) (WX : Wd X) (WY : Wd Y)
    (hx : Rd w bz oz n Cz bx ox X) (hy : Rd w bz oz n Cz by_ oy Y) :
    Calls Tryz.prog 195 #[.slice (some ⟨bz, oz, none⟩) n cz, .slice (some ⟨bx, ox, none⟩) n cx, .slice (some ⟨by_, oy, none⟩) n cy] w fun e w' =>
      ∃ R c, e = .returned (.int .u64 ((c : Nat) : Int)) ∧ Sub w w' bz (spl Cz oz R) ∧ R.length = n ∧ Wd R ∧ c ≤ 1 ∧ val X + WB ^ n * c = val R + val Y := by
  have hx := Lib.hid hx
  have hy := Lib.hid hy
  go_enter Tryz.func195, Tryz.ntmps195
  go_wp2
  go_loopw [6, 25] (fun c i wr => ∃ k cc : Nat, k ≤ n ∧ i = .int .i64 k ∧ c = .int .u64 cc ∧ ∃ R : List Nat, R.length = k ∧ Wd R ∧ cc ≤ 1 ∧ val (X.take k) + WB ^ k * cc = val R + val (Y.take k) ∧ Sub w wr bz (spl Cz oz R)) (fun _ i _ => n - (intOf i).toNat)
  case atStart => exact ⟨0, 0, Nat.zero_le _, rfl, rfl, [], rfl, Wd.nil, by omega, by simp, by rw [spl_nil]; exact Sub.refl hz⟩
  case round =>
    obtain ⟨k, cc, hk, rfl, rfl, R, hR1, hW, hc, hR3, hS⟩ := hrel
    by_cases hlt : k < n
    · have hx1 := hx.out wr R hS (by omega)
      have hy1 := hy.out wr R hS (by omega)
      rw [hR1] at hx1 hy1
      have hwx := WX.nth k
      have hwy := WY.nth k
      have hz1 := hS.arr.cellN (i := oz + k) (by rw [spl_length (by omega)]; omega)
      have hz2 := hS.arr.frozen (oz + k)
      go_wp2
      go_quiet ((go_at_call 196; exact Calls.quiet_of_same (bits_Sub _ _ _ hc _)))
      go_wp2
      go_roundw
      case rel =>
        refine ⟨k + 1, subc (nth X k) (nth Y k) cc, by omega, by go_num, rfl, R ++ [subs (nth X k) (nth Y k) cc], by simp [hR1], hW.append (Wd.cons (subs_lt _ _ _) Wd.nil), subc_le _ _ _, ?_, ?_⟩
        · rw [val_snoc, hR1, val_take_succ (by omega), val_take_succ (by omega)]
          exact sub_step hR3 (subs_subc hwx hwy hc)
        · exact (hS.drewN nq).next hR1 (by omega) _ (subs_lt _ _ _)
      case measure => simp [intOf]; omega
    · go_wp2
      go_ret
      obtain rfl : k = n := by omega
      refine ⟨R, cc, rfl, hS, hR1, hW, hc, ?_⟩
      rw [List.take_of_length_le (by omega), List.take_of_length_le (by omega)] at hR3
      exact hR3

theorem mul_step {r P c x X y s c' r0 : Nat} (h : r + P * c = X * y + r0) (e : s + WB * c' = x * y + c) : r + P * s + P * WB * c' = (X + P * x) * y + r0 := by
  have : P * s + P * WB * c' = P * (x * y + c) := by rw [Nat.mul_assoc, ← Nat.mul_add, e]
  rw [Nat.mul_add] at this
  rw [Nat.add_mul, Nat.mul_assoc P x y]
  omega

set_option maxHeartbeats 400000 in
/-- z = x * y + r, with a carry. -/
theorem mulAddVWW_g_c (w : World) (bz oz n cz bx ox cx y r : Nat) (Cz X : List Nat) (hn : n < 1000000)
    (hz : Arr w bz Cz) (hzl : oz + n ≤ Cz.length) (hX : X.length = n) (WX : Wd X) (hwy : y < WB) (hwr : r < WB)
    (hx : Rd w bz oz n Cz bx ox X) :
    Calls Tryz.prog 209 #[.slice (some ⟨bz, oz, none⟩) n cz, .slice (some ⟨bx, ox, none⟩) n cx, .int .u64 y, .int .u64 r] w fun e w' =>
      ∃ R c, e = .returned (.int .u64 ((c : Nat) : Int)) ∧ Sub w w' bz (spl Cz oz R) ∧ R.length = n ∧ c < WB ∧ val R + WB ^ n * c = val X * y + r := by
  have hx := Lib.hid hx
  go_enter Tryz.func209, Tryz.ntmps209
  go_wp2
  go_loopw [8, 19] (fun c i wr => ∃ k cc : Nat, k ≤ n ∧ i = .int .i64 k ∧ c = .int .u64 cc ∧ ∃ R : List Nat, R.length = k ∧ cc < WB ∧ val R + WB ^ k * cc = val (X.take k) * y + r ∧ Sub w wr bz (spl Cz oz R)) (fun _ i _ => n - (intOf i).toNat)
  case atStart => exact ⟨0, r, Nat.zero_le _, rfl, rfl, [], rfl, hwr, by simp, by rw [spl_nil]; exact Sub.refl hz⟩
  case round =>
    obtain ⟨k, cc, hk, rfl, rfl, R, hR1, hc, hR3, hS⟩ := hrel
    by_cases hlt : k < n
    · have hx1 := hx.out wr R hS (by omega)
      rw [hR1] at hx1
      have hwx := WX.nth k
      have hz1 := hS.arr.cellN (i := oz + k) (by rw [spl_length (by omega)]; omega)
      have hz2 := hS.arr.frozen (oz + k)
      go_wp2_with (go_at_call 227; refine (mulAddWWW_g_c _ _ _ hwx hwy hc _).mono ?_; rintro e w' ⟨rfl, rfl⟩)
      go_roundw
      case rel =>
        refine ⟨k + 1, mac1 (nth X k) y cc, by omega, by go_num, rfl, R ++ [mac0 (nth X k) y cc], by simp [hR1], mac1_lt hwx hwy hc, ?_, ?_⟩
        · rw [val_snoc, hR1, val_take_succ (by omega)]
          exact mul_step hR3 (mac_eq _ _ _)
        · exact hS.next hR1 (by omega) _ (mac0_lt _ _ _)
      case measure => simp [intOf]; omega
    · go_wp2
      go_ret
      obtain rfl : k = n := by omega
      refine ⟨R, cc, rfl, hS, hR1, hc, ?_⟩
      rw [hR3, List.take_of_length_le (by omega)]

theorem macc_step {r P c x X y Y m s z1 z0 cc a : Nat} (h : r + P * c = X + Y * m + a) (e1 : z0 + WB * z1 = y * m + x) (e2 : s + WB * cc = z0 + c) :
    r + P * s + P * WB * (cc + z1) = X + P * x + (Y + P * y) * m + a := by
  have h1 : P * s + P * WB * cc = P * (z0 + c) := by rw [Nat.mul_assoc, ← Nat.mul_add, e2]
  have h2 : P * z0 + P * WB * z1 = P * (y * m + x) := by rw [Nat.mul_assoc, ← Nat.mul_add, e1]
  rw [Nat.mul_add] at h1 h2
  rw [Nat.mul_add, Nat.add_mul, Nat.mul_assoc P y m]
  omega

/-- The carry of a product with two sums. -/
theorem macc_lt {x y m c : Nat} (hx : x < WB) (hy : y < WB) (hm : m < WB) (hc : c < WB) : addc (mac0 y m x) c 0 + mac1 y m x < WB := by
  have b := mac_bound hy hm hx hc
  have e1 := mac_eq y m x
  have e2 := adds_addc (mac0 y m x) c 0
  have : WB * (addc (mac0 y m x) c 0 + mac1 y m x) < WB * WB := by rw [Nat.mul_add]; omega
  exact Nat.lt_of_mul_lt_mul_left this

set_option maxHeartbeats 800000 in
/-- z = x + y * m + a, with a carry. -/
theorem addMulVVWW_g_c (w : World) (bz oz n cz bx ox cx by_ oy cy m a : Nat) (Cz X Y : List Nat) (hn : n < 1000000)
    (hz : Arr w bz Cz) (hzl : oz + n ≤ Cz.length) (hX : X.length = n) (hY : Y.length = n) (WX : Wd X) (WY : Wd Y) (hwm : m < WB) (hwa : a < WB)
    (hx : Rd w bz oz n Cz bx ox X) (hy : Rd w bz oz n Cz by_ oy Y) :
    Calls Tryz.prog 207 #[.slice (some ⟨bz, oz, none⟩) n cz, .slice (some ⟨bx, ox, none⟩) n cx, .slice (some ⟨by_, oy, none⟩) n cy, .int .u64 m, .int .u64 a] w fun e w' =>
      ∃ R c, e = .returned (.int .u64 ((c : Nat) : Int)) ∧ Sub w w' bz (spl Cz oz R) ∧ R.length = n ∧ c < WB ∧ val R + WB ^ n * c = val X + val Y * m + a := by
  have hx := Lib.hid hx
  have hy := Lib.hid hy
  go_enter Tryz.func207, Tryz.ntmps207
  go_wp2
  go_loopw [10, 32] (fun c i wr => ∃ k cc : Nat, k ≤ n ∧ i = .int .i64 k ∧ c = .int .u64 cc ∧ ∃ R : List Nat, R.length = k ∧ cc < WB ∧ val R + WB ^ k * cc = val (X.take k) + val (Y.take k) * m + a ∧ Sub w wr bz (spl Cz oz R)) (fun _ i _ => n - (intOf i).toNat)
  case atStart => exact ⟨0, a, Nat.zero_le _, rfl, rfl, [], rfl, hwa, by simp, by rw [spl_nil]; exact Sub.refl hz⟩
  case round =>
    obtain ⟨k, cc, hk, rfl, rfl, R, hR1, hc, hR3, hS⟩ := hrel
    by_cases hlt : k < n
    · have hx1 := hx.out wr R hS (by omega)
      have hy1 := hy.out wr R hS (by omega)
      rw [hR1] at hx1 hy1
      have hwx := WX.nth k
      have hwy := WY.nth k
      have hz1 := hS.arr.cellN (i := oz + k) (by rw [spl_length (by omega)]; omega)
      have hz2 := hS.arr.frozen (oz + k)
      have hl := mac0_lt (nth Y k) m (nth X k)
      have hmc := Lib.hid (macc_lt hwx hwy hwm hc)
      have hR3 := Lib.hid hR3
      have hR1 := Lib.hid hR1
      go_wp2
      go_quiet ((go_at_call 227; exact Calls.quiet_of_same (mulAddWWW_g_c _ _ _ hwy hwm hwx _)))
      go_wp2_with (go_at_call 194; refine (bits_Add _ _ 0 hl hc (by omega) _).mono ?_; rintro e w' ⟨rfl, rfl⟩)
      go_roundw
      case rel =>
        refine ⟨k + 1, addc (mac0 (nth Y k) m (nth X k)) cc 0 + mac1 (nth Y k) m (nth X k), by omega, by go_num, ?_, R ++ [adds (mac0 (nth Y k) m (nth X k)) cc 0], by simp [hR1.out], hmc.out, ?_, ?_⟩
        · show Value.int .u64 (IntKind.u64.wrap _) = _
          rw [← Int.natCast_add, wrap_u64_nat _ hmc.out]
        · rw [val_snoc, hR1.out, val_take_succ (by omega), val_take_succ (by omega)]
          exact macc_step hR3.out (mac_eq _ _ _) (adds_addc _ _ _)
        · exact (hS.drewN nq).next hR1.out (by omega) _ (adds_lt _ _ _)
      case measure => simp [intOf]; omega
    · go_wp2
      go_ret
      obtain rfl : k = n := by omega
      refine ⟨R, cc, rfl, hS, hR1, hc, ?_⟩
      rw [hR3, List.take_of_length_le (by omega), List.take_of_length_le (by omega)]

end Go.Proofs.YtlnillnngckegaaGreatDoor
