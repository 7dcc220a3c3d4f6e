/- spec.Sign. -/
import Derived.Test.YtgdpljjmnmapmaaGreatDoorC16
namespace Go.Proofs.YtgdpljjmnmapmaaGreatDoor
open Go Go.RowKit

theorem sign_c (w : World) (n : Bool) (p : Option Addr) (m cc : Nat) (e : Int) :
    Calls Tryz.prog 16 #[.agg #[.bool n, .slice p m cc, .int .i64 e]] w fun E w' => E = .returned (.int .i64 (if m = 0 then 0 else if n then -1 else 1)) ∧ Below w.heap.size w w' := by
  go_enter Tryz.func16, Tryz.ntmps16
  by_cases h : m = 0
  · subst h
    go_wp2
    go_ret
    exact ⟨rfl, (Below.refl _ _).alloc (Nat.le_refl _) _⟩
  · have e0 : ((m : Int) == 0) = false := by simp; omega
    cases n with
    | true =>
      go_wp2
      go_ret
      exact ⟨by simp, (Below.refl _ _).alloc (Nat.le_refl _) _⟩
    | false =>
      go_wp2
      go_ret
      exact ⟨by simp, (Below.refl _ _).alloc (Nat.le_refl _) _⟩
end Go.Proofs.YtgdpljjmnmapmaaGreatDoor
