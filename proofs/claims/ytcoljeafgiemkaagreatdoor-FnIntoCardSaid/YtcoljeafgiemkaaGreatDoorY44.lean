/- The boxes at impl.Into's start. -/
import Derived.Test.YtcoljeafgiemkaaGreatDoorC40
namespace Go.Proofs.YtcoljeafgiemkaaGreatDoor
open Go Go.RowKit

theorem layR {w : World} (hG : Glob w) (o1 o2 o3 o4 : Obj) : ∃ σ : Sg, Hold w ((((w.alloc o1).alloc o2).alloc o3).alloc o4) σ ∧
    σ w.heap.size = some (raw o1) ∧ σ (w.heap.size + 1) = some (raw o2) ∧ σ (w.heap.size + 2) = some (raw o3) ∧ σ (w.heap.size + 3) = some (raw o4) := by
  have h := ((((Hold.start hG).newRaw o1).newRaw o2).newRaw o3).newRaw o4
  refine ⟨_, h, ?_, ?_, ?_, ?_⟩
  all_goals simp only [World.size_alloc]
  · rw [upd_ne _ _ (by omega), upd_ne _ _ (by omega), upd_ne _ _ (by omega), upd_eq]
  · rw [upd_ne _ _ (by omega), upd_ne _ _ (by omega), upd_eq]
  · rw [upd_ne _ _ (by omega), upd_eq]
  · rw [upd_eq]
end Go.Proofs.YtcoljeafgiemkaaGreatDoor
