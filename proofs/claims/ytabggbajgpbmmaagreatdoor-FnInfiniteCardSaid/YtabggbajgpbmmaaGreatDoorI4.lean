/- impl.conditions. -/
import Derived.Test.YtabggbajgpbmmaaGreatDoorI3
namespace Go.Proofs.YtabggbajgpbmmaaGreatDoor
open Go Go.RowKit

theorem wrap_pow (k : Nat) (h : k < 12) : wrap64 (2 ^ k) = ((2 ^ k : Nat) : Int) := by
  have h : k = 0 ∨ k = 1 ∨ k = 2 ∨ k = 3 ∨ k = 4 ∨ k = 5 ∨ k = 6 ∨ k = 7 ∨ k = 8 ∨ k = 9 ∨ k = 10 ∨ k = 11 := by omega
  rcases h with rfl | rfl | rfl | rfl | rfl | rfl | rfl | rfl | rfl | rfl | rfl | rfl <;> (show _ = _; kernel_rfl)

set_option maxHeartbeats 1000000 in
theorem conditions_c (w : World) (r : Nat) (hr : r < 4096) :
    Calls Tryz.prog 21 #[.int .u32 (r : Int)] w fun e w' => e = .returned (.int .i64 (condN r : Int)) ∧ w = w' := by
  go_enter Tryz.func21, Tryz.ntmps21
  go_wp2
  go_loop [3, 7] (fun out i => ∃ k : Nat, k ≤ 12 ∧ i = .int .i64 k ∧ out = .int .i64 (condP k r : Int)) (fun _ i => 12 - (intOf i).toNat)
  case atStart => exact ⟨0, Nat.zero_le _, rfl, by unfold condP; simp⟩
  case round =>
    obtain ⟨k, hk, rfl, rfl⟩ := hrel
    by_cases hlt : k < 12
    · have ix := fun w => index_cond k hlt w
      have st := cond_step k r hlt hr
      replace st := Lib.hid st
      cases hb : (bits .and .u32 (r : Int) (condC k : Int) != 0)
      · go_wp2
        have st := st.out
        rw [hb, if_neg (by decide)] at st
        exact ⟨⟨k + 1, by omega, by go_num, by rw [st]⟩, by simp [intOf]; omega⟩
      · go_wp2
        have st := st.out
        rw [hb, if_pos rfl] at st
        rw [wrap_pow k hlt, st]
        exact ⟨⟨k + 1, by omega, by go_num, rfl⟩, by simp [intOf]; omega⟩
    · obtain rfl : k = 12 := by omega
      go_wp2
      go_ret
      have hfin : condP 12 r = condN r := by unfold condP condN; simp; omega
      exact ⟨(by show Ending.returned (.int .i64 (condP 12 r : Int)) = _; rw [hfin]), rfl⟩
end Go.Proofs.YtabggbajgpbmmaaGreatDoor
