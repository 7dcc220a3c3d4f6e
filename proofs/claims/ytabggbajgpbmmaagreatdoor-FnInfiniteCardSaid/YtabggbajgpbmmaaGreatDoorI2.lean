/- Forms that are no number; conditions and their errors. -/
import Derived.Test.YtabggbajgpbmmaaGreatDoorI1
import Derived.Outline
import Derived.Laws.BitsAllLaws
import Derived.Deep.RegionHeld3
namespace Go.Proofs.YtabggbajgpbmmaaGreatDoor
open Go Go.RowKit

theorem shouldNaN_c (w : World) (c : Value) (x y : Nat) (fx fy : Int) (hx : w.cell? ⟨x, 0, none⟩ = some (.int .i8 fx)) (hy : w.cell? ⟨y, 0, none⟩ = some (.int .i8 fy)) (bx : 0 ≤ fx ∧ fx ≤ 3) (by_ : 0 ≤ fy ∧ fy ≤ 3) :
    Calls Tryz.prog 70 #[c, .pointer (some ⟨x, 0, none⟩), .pointer (some ⟨y, 0, none⟩)] w fun e w' => e = .returned (.bool (decide (2 ≤ fx ∨ 2 ≤ fy))) ∧ w = w' := by
  have h1 : fx = 0 ∨ fx = 1 ∨ fx = 2 ∨ fx = 3 := by omega
  have h2 : fy = 0 ∨ fy = 1 ∨ fy = 2 ∨ fy = 3 := by omega
  rcases h1 with rfl | rfl | rfl | rfl <;> rcases h2 with rfl | rfl | rfl | rfl <;>
  · clear bx by_
    go_enter Tryz.func70, Tryz.ntmps70
    go_wp2
    go_ret
    exact ⟨rfl, rfl⟩

theorem shouldNaN1_c (w : World) (c : Value) (x : Nat) (fx : Int) (hx : w.cell? ⟨x, 0, none⟩ = some (.int .i8 fx)) (bx : 0 ≤ fx ∧ fx ≤ 3) :
    Calls Tryz.prog 70 #[c, .pointer (some ⟨x, 0, none⟩), .pointer none] w fun e w' => e = .returned (.bool (decide (2 ≤ fx))) ∧ w = w' := by
  have h1 : fx = 0 ∨ fx = 1 ∨ fx = 2 ∨ fx = 3 := by omega
  rcases h1 with rfl | rfl | rfl | rfl <;>
  · clear bx
    go_enter Tryz.func70, Tryz.ntmps70
    go_wp2
    go_ret
    exact ⟨rfl, rfl⟩

/-- Bits of a condition. -/
theorem and3_all : (List.range 4096).all (fun r => decide (bits .and .u32 (r : Int) 3 = ((r % 4 : Nat) : Int)) && decide (bits .and .u32 (r : Int) 0 = 0)) = true := by kernel_rfl
theorem and3 (r : Nat) (h : r < 4096) : bits .and .u32 (r : Int) 3 = ((r % 4 : Nat) : Int) ∧ bits .and .u32 (r : Int) 0 = 0 := by
  have := List.all_eq_true.1 and3_all r (List.mem_range.2 h)
  simp only [Bool.and_eq_true, decide_eq_true_eq] at this
  exact this

/-- Without traps no condition is an error, but those of the system. -/
theorem GoError_c (w : World) (r : Nat) (h : r < 4096) (h4 : r % 4 = 0) :
    Calls Tryz.prog 84 #[.int .u32 (r : Int), .int .u32 0] w fun e w' => e = .returned (.tuple #[.int .u32 (r : Int), .nilIface]) ∧ w = w' := by
  obtain ⟨e1, e2⟩ := and3 r h
  rw [h4] at e1
  have e1' : bits .and .u32 (r : Int) 3 = 0 := e1
  clear e1
  go_enter Tryz.func84, Tryz.ntmps84
  go_wp2
  go_ret2
  exact ⟨rfl, rfl⟩

/-- A context: its block. -/
def Ctx (w : World) (c : Nat) (prec max min : Int) (mode : ByteArray) : Prop :=
  w.heap[c]? = some (.cells #[.int .u32 prec, .int .i32 max, .int .i32 min, .int .u32 0, .string mode] 74 (0, 0))
theorem Ctx.chg {w w' : World} {S : Nat → Prop} {c : Nat} {p a b : Int} {m : ByteArray} (h : Ctx w c p a b m) (hc : Chg w w' S) (hn : ¬ S c) : Ctx w' c p a b m := hc.heapB h hn
theorem Ctx.c0 {w : World} {c : Nat} {p a b : Int} {m : ByteArray} (h : Ctx w c p a b m) : w.cell? ⟨c, 0, none⟩ = some (.int .u32 p) := cellB h rfl
theorem Ctx.c1 {w : World} {c : Nat} {p a b : Int} {m : ByteArray} (h : Ctx w c p a b m) : w.cell? ⟨c, 1, none⟩ = some (.int .i32 a) := cellB h rfl
theorem Ctx.c2 {w : World} {c : Nat} {p a b : Int} {m : ByteArray} (h : Ctx w c p a b m) : w.cell? ⟨c, 2, none⟩ = some (.int .i32 b) := cellB h rfl
theorem Ctx.c3 {w : World} {c : Nat} {p a b : Int} {m : ByteArray} (h : Ctx w c p a b m) : w.cell? ⟨c, 3, none⟩ = some (.int .u32 0) := cellB h rfl
theorem Ctx.c4 {w : World} {c : Nat} {p a b : Int} {m : ByteArray} (h : Ctx w c p a b m) : w.cell? ⟨c, 4, none⟩ = some (.string m) := cellB h rfl

theorem goError_c (w : World) (c r : Nat) (p a b : Int) (m : ByteArray) (hc : Ctx w c p a b m) (h : r < 4096) (h4 : r % 4 = 0) :
    Calls Tryz.prog 35 #[.pointer (some ⟨c, 0, none⟩), .int .u32 (r : Int)] w fun e w' => e = .returned (.tuple #[.int .u32 (r : Int), .nilIface]) ∧ w = w' := by
  have c3 := hc.c3
  by_cases h0 : r = 0
  · subst h0
    go_enter Tryz.func35, Tryz.ntmps35
    go_wp2
    go_ret2
    exact ⟨rfl, rfl⟩
  · have e0 : ((r : Int) == 0) = false := by simp; omega
    have hg := GoError_c w r h h4
    clear h4 h0
    go_enter Tryz.func35, Tryz.ntmps35
    go_wp2_with fail
    refine hg.mono ?_
    rintro e w' ⟨rfl, hw⟩
    obtain rfl := hw
    go_wp2
    go_ret2
    exact ⟨rfl, rfl⟩

end Go.Proofs.YtabggbajgpbmmaaGreatDoor
