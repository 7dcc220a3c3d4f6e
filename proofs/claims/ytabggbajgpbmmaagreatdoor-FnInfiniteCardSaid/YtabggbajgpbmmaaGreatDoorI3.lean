/- The conditions by the thin package's numbers. -/
import Derived.Test.YtabggbajgpbmmaaGreatDoorI2
namespace Go.Proofs.YtabggbajgpbmmaaGreatDoor
open Go Go.RowKit

/-- A condition by the thin package's numbers. -/
def condN (r : Nat) : Nat := r / 4 + r % 4 * 1024
/-- What the first k of them give. -/
def condP (k r : Nat) : Nat := if k ≤ 10 then r / 4 % 2 ^ k else r / 4 % 1024 + (if k = 11 then r % 2 else r % 4) * 1024
def condC (k : Nat) : Nat := if k < 10 then 4 * 2 ^ k else 2 ^ (k - 10)
theorem cond_all : (List.range 12).all (fun k => (List.range 4096).all fun r =>
    decide ((if bits .and .u32 (r : Int) (condC k : Int) != 0 then bits .or .i64 (condP k r : Int) ((2 ^ k : Nat) : Int) else (condP k r : Int)) = (condP (k + 1) r : Int))) = true := by kernel_rfl
theorem cond_step (k r : Nat) (hk : k < 12) (hr : r < 4096) :
    (if bits .and .u32 (r : Int) (condC k : Int) != 0 then bits .or .i64 (condP k r : Int) ((2 ^ k : Nat) : Int) else (condP k r : Int)) = (condP (k + 1) r : Int) := by
  have := List.all_eq_true.1 (List.all_eq_true.1 cond_all k (List.mem_range.2 hk)) r (List.mem_range.2 hr)
  exact of_decide_eq_true this

theorem index_cond (k : Nat) (hk : k < 12) (w : World) : (Instr.index 95 (.agg #[.int .u32 4, .int .u32 8, .int .u32 16, .int .u32 32, .int .u32 64, .int .u32 128, .int .u32 256, .int .u32 512, .int .u32 1024, .int .u32 2048, .int .u32 1, .int .u32 2]) (.int .i64 (k : Int))).run Tryz.prog w = .ok (.int .u32 (condC k : Int)) w := by
  have h : k = 0 ∨ k = 1 ∨ k = 2 ∨ k = 3 ∨ k = 4 ∨ k = 5 ∨ k = 6 ∨ k = 7 ∨ k = 8 ∨ k = 9 ∨ k = 10 ∨ k = 11 := by omega
  rcases h with rfl | rfl | rfl | rfl | rfl | rfl | rfl | rfl | rfl | rfl | rfl | rfl
  all_goals (show _ = _; kernel_rfl)
end Go.Proofs.YtabggbajgpbmmaaGreatDoor
