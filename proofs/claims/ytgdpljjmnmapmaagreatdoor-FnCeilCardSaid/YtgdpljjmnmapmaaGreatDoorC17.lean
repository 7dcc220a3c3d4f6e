/- Rows of bytes; figures of a number, one by one. -/
import Derived.Laws.BytesArg
import Derived.Test.YtgdpljjmnmapmaaGreatDoorC09
import Derived.Test.YtgdpljjmnmapmaaGreatDoorC10
import Derived.Test.YtgdpljjmnmapmaaGreatDoorC11
import Derived.Test.YtgdpljjmnmapmaaGreatDoorC12
namespace Go.Proofs.YtgdpljjmnmapmaaGreatDoor
open Go Go.RowKit

/-- A byte as a value. -/
def yw (x : Nat) : Value := .int .u8 (x : Int)
structure ArrY (w : World) (b : Nat) (D : List Nat) : Prop where
  heap : w.heap[b]? = some (.cells (D.map yw).toArray 5 (0, 0))
  by_ : ∀ x, x ∈ D → x < 256
theorem ArrY.cell {w : World} {b : Nat} {D : List Nat} (h : ArrY w b D) {i : Nat} (hi : i < D.length) : w.cell? ⟨b, i, none⟩ = some (.int .u8 (nth D i : Int)) := by
  refine cellB h.heap ?_
  rw [List.getElem?_toArray, List.getElem?_map, get_nth hi]; rfl
theorem ArrY.frozen {w : World} {b : Nat} {D : List Nat} (h : ArrY w b D) (i : Nat) : w.frozen? ⟨b, i, none⟩ = false := frozenB h.heap i
theorem ArrY.lt {w : World} {b : Nat} {D : List Nat} (h : ArrY w b D) : b < w.heap.size := ltB h.heap
theorem ArrY.chg {w w' : World} {S : Nat → Prop} {b : Nat} {D : List Nat} (h : ArrY w b D) (hc : Chg w w' S) (hn : ¬ S b) : ArrY w' b D := ⟨hc.heapB h.heap hn, h.by_⟩
theorem ArrY.set {w : World} {b : Nat} {D : List Nat} (h : ArrY w b D) (i x : Nat) (hx : x < 256) : ArrY (w.setCell ⟨b, i, none⟩ (.int .u8 (x : Int))) b (D.set i x) := by
  refine ⟨?_, fun y hy => ?_⟩
  · have h1 := setB (i := i) (v := .int .u8 (x : Int)) h.heap
    rw [h1]
    congr 2
    apply Array.ext'
    simp [List.map_set, yw]
  · rcases List.mem_or_eq_of_mem_set hy with h' | h'
    · exact h.by_ y h'
    · omega
theorem ArrY.neArr {w : World} {b k : Nat} {D C : List Nat} (h : ArrY w b D) (hk : Arr w k C) : k ≠ b := hk.ne2 h.heap (by decide)
theorem nth_set {l : List Nat} {i x : Nat} (h : i < l.length) : nth (l.set i x) i = x := by unfold nth; simp [h]
theorem nth_set_ne {l : List Nat} {i j x : Nat} (h : i ≠ j) : nth (l.set i x) j = nth l j := by unfold nth; rw [List.getElem?_set_ne h]

/-- The figures of Q stand in D from i on. -/
def FigsFrom (D : List Nat) (Q n i : Nat) : Prop := D.length = n ∧ i ≤ n ∧ ∀ j, i ≤ j → j < n → nth D j = 48 + Q / 10 ^ (n - 1 - j) % 10
theorem FigsFrom.step {D : List Nat} {Q n i : Nat} (h : FigsFrom D Q n (i + 1)) : FigsFrom (D.set i (48 + Q / 10 ^ (n - 1 - i) % 10)) Q n i := by
  obtain ⟨h1, h2, h3⟩ := h
  refine ⟨by rw [List.length_set]; exact h1, by omega, fun j hj hn => ?_⟩
  by_cases e : i = j
  · subst e; exact nth_set (by omega)
  · rw [nth_set_ne e]; exact h3 j (by omega) hn
theorem mod_tens (a m : Nat) : a % 10 ^ (m + 1) / 10 = a / 10 % 10 ^ m := by
  rw [ten_succ, Nat.mod_mul_right_div_self]
theorem mod_ten (a m : Nat) : a % 10 ^ (m + 1) % 10 = a % 10 := by
  rw [ten_succ]; exact Nat.mod_mod_of_dvd _ (Nat.dvd_mul_right _ _)
theorem div_tens (a k : Nat) : a / 10 ^ k / 10 = a / 10 ^ (k + 1) := by rw [Nat.div_div_eq_div_mul, Nat.pow_succ]

theorem infoY : (Tryz.prog.info? 5).map (fun i => (i.zero, i.size, i.bytes)) = some (some (.int .u8 0), 1, 1) := by kernel_rfl
theorem run_makeY (w : World) {l : Int} {l' : Nat} (hl : l = l') (hcap : l' ≤ 1000000) :
    (Instr.makeSlice 85 (.int .i64 l) (.int .i64 l)).run Tryz.prog w = .ok (.slice (some ⟨w.heap.size, 0, none⟩) l' l') (w.alloc (.cells ((List.replicate l' 0).map yw).toArray 5 (0, 0))) := by
  have h := infoY
  cases hi : Tryz.prog.info? 5 with
  | none => rw [hi] at h; cases h
  | some i =>
    rw [hi] at h
    simp only [Option.map_some, Option.some.injEq, Prod.mk.injEq] at h
    obtain ⟨h1, h2, h3⟩ := h
    subst hl
    rw [run_make (P := Tryz.prog) w 85 5 i (.int .u8 0) Tryz.underlying85 hi h1 .i64 .i64 l' l' (by omega) (by omega) (by rw [h3]; omega) (by omega)]
    simp only [Int.toNat_natCast]
    have e : madeCells (Value.int .u8 0).cells (l' * i.size) = ((List.replicate l' 0).map yw).toArray := by
      rw [h2, Nat.mul_one]
      unfold madeCells
      apply Array.ext
      · simp
      · intro j h1 h2
        simp [Value.cells, yw]
        have : j % 1 = 0 := Nat.mod_one j
        simp [Nat.mod_one]
    rw [e]
theorem arrY_zero (w : World) (c : Nat) : ArrY (w.alloc (.cells ((List.replicate c 0).map yw).toArray 5 (0, 0))) w.heap.size (List.replicate c 0) :=
  ⟨allocB _ _, fun x hx => by rw [List.eq_of_mem_replicate hx]; omega⟩

theorem maxPow_c (w : World) : Calls Tryz.prog 241 #[.int .u64 10] w fun e w' => e = .returned (.tuple #[.int .u64 10000000000000000000, .int .i64 19]) ∧ w = w' := by
  go_enter Tryz.func241, Tryz.ntmps241
  go_wp2
  go_loop [2, 3] (fun p n => ∃ k : Nat, 1 ≤ k ∧ k ≤ 19 ∧ p = .int .u64 ((10 ^ k : Nat) : Int) ∧ n = .int .i64 (k : Int)) (fun _ n => 19 - (intOf n).toNat)
  case atStart => exact ⟨1, by omega, by omega, rfl, rfl⟩
  case round =>
    obtain ⟨k, h1, h2, rfl, rfl⟩ := hrel
    by_cases hk : k < 19
    · have hp : 10 ^ k ≤ 1000000000000000000 := by have := ten_le (show k ≤ 18 by omega); exact this
      have hs : 10 ^ (k + 1) = 10 * 10 ^ k := ten_succ k
      generalize 10 ^ k = p at *
      have hn : IntKind.u64.wrap ((p : Int) * 10) = ((10 * p : Nat) : Int) := by rw [show (p : Int) * 10 = ((10 * p : Nat) : Int) by omega]; exact IntWalk.u64_in _ (by omega)
      have hn2 : (p : Int) * 10 = ((10 * p : Nat) : Int) := by omega
      have hle : (p : Int) ≤ 1844674407370955161 := by omega
      replace hs := Lib.hid hs
      go_wp2
      go_round
      case rel => exact ⟨k + 1, by omega, by omega, by rw [hs.out]; congr 1, by go_num⟩
      case measure => simp [intOf]; omega
    · obtain rfl : k = 19 := by omega
      have hgt : ¬ ((10 ^ 19 : Nat) : Int) ≤ 1844674407370955161 := by decide
      have e : ((10 ^ 19 : Nat) : Int) = 10000000000000000000 := by decide
      rw [e] at hgt ⊢
      clear e
      go_wp2
      go_ret2
      exact ⟨rfl, rfl⟩
theorem divisors_c (w : World) (stk : Value) (hG : Glob w) (m : Nat) (n : Int) (hm : m ≤ 8) (b c : Int) : Calls Tryz.prog 242 #[stk, .int .i64 (m : Int), .int .u64 b, .int .i64 n, .int .u64 c] w fun e w' => e = .returned (.slice none 0 0) ∧ w = w' := by
  have g := hG.g6
  have hle : (m : Int) ≤ 8 := by omega
  go_enter Tryz.func242, Tryz.ntmps242
  go_wp2
  go_ret
  exact ⟨rfl, rfl⟩
end Go.Proofs.YtgdpljjmnmapmaaGreatDoor
