/- Small things for quotients: two, nought, no number as new numbers; setExponent with one and with three summands; the sign of x beside d. -/
import Derived.Test.YtcoljeafgiemkaaGreatDoorC38
namespace Go.Proofs.YtcoljeafgiemkaaGreatDoor
open Go Go.RowKit

theorem decNaNH_c {w0 w : World} {σ : Sg} (h : Hold w0 w σ) : Calls Tryz.prog 77 #[] w fun E w' => ∃ k, E = .returned (.pointer (some ⟨k, 0, none⟩)) ∧ w.heap.size ≤ k ∧ Hold w0 w' (upd σ k (dec 3 false 0 false 0)) := by
  have h1 := h.newDec 3 0 false
  replace h1 := Lib.hid h1
  clear h
  go_enter Tryz.func77, Tryz.ntmps77
  go_wp2
  go_ret
  exact ⟨_, rfl, Nat.le_refl _, h1.out⟩
/-- The sign of x where d, that may be x, holds another number. -/
theorem Hold.c1of {w0 w : World} {σ : Sg} {d x : Nat} {f e f' e' f2 e2 : Int} {n n' g g' g2 : Bool} {N N' N2 : Nat} (hd : σ d = some (dec f' n' e' g' N')) (hx : σ x = some (dec f n e g N)) (h : Hold w0 w (upd σ d (dec f2 n' e2 g2 N2))) : w.cell? ⟨x, 1, none⟩ = some (.bool n) := by
  by_cases hxd : x = d
  · subst hxd
    rw [hd] at hx
    have hn : n' = n := by injection hx with hx; injection hx
    rw [← hn]
    exact h.c1 (upd_eq _ _ _)
  · exact h.c1 (by rw [upd_ne _ _ hxd]; exact hx)
/-- Three summands. -/
def three (u v x : Int) : Nat → Int := fun k => if k = 0 then u else if k = 1 then v else x
theorem sumN_three (u v x : Int) : sumN (three u v x) 3 = u + v + x := by simp [sumN, three]
end Go.Proofs.YtcoljeafgiemkaaGreatDoor
