/- More: Small things for quotients: two, nought, no number as new numbers; setExponent with one and with three summands; the sign of x beside d. -/
import Derived.Test.YtcoljeafgiemkaaGreatDoorC38
import Derived.Test.YtcoljeafgiemkaaGreatDoorC47
import Derived.Test.YtcoljeafgiemkaaGreatDoorC15
import Derived.Test.YtcoljeafgiemkaaGreatDoorC17
import Derived.Test.YtcoljeafgiemkaaGreatDoorC26
import Derived.Test.YtcoljeafgiemkaaGreatDoorC51
namespace Go.Proofs.YtcoljeafgiemkaaGreatDoor
open Go Go.RowKit

theorem setExp3_c {w0 w : World} {σ : Sg} (h : Hold w0 w σ) {d c r : Nat} {f0 e p a b nd : Int} {n : Bool} {N : Nat} {m : ByteArray} (u v x : Int) (hd : σ d = some (dec f0 n e false N)) (hc : σ c = some (ctxO p a b m)) (hN : nbits N < 1200)
    (hnd : nd = -1 ∨ nd = (figs N : Int)) (hr : calm r) (hu : -10000 ≤ u ∧ u ≤ 10000) (hv : -10000 ≤ v ∧ v ≤ 10000) (hx : -10000 ≤ x ∧ x ≤ 10000) (ha : 50000 ≤ a ∧ a ≤ 2000000) (hb : -2000000 ≤ b ∧ b ≤ -50000) (n0 : Nat) :
    Calls Tryz.prog 98 #[.pointer (some ⟨d, 0, none⟩), .pointer (some ⟨c, 0, none⟩), .int .i64 nd, .int .u32 (r : Int), .slice (some ⟨w.heap.size, 0, none⟩) 3 3] ((w.alloc (.cells #[.int .i64 u, .int .i64 v, .int .i64 x] 2 (0, 0))).drewN n0) fun E w' => E = .returned (.int .u32 (r : Int)) ∧ Hold w0 w' (upd σ d (dec f0 n (u + v + x) false N)) := by
  have k := setExp_c (s := w.heap.size) (l := 3) (cap := 3) (h.keep (((Chg.refl w _).alloc (.cells #[.int .i64 u, .int .i64 v, .int .i64 x] 2 (0, 0))).drewN n0)) (three u v x) hd hc hN hnd hr (by omega) (fun k hk => by
    rcases (by omega : k = 0 ∨ k = 1 ∨ k = 2) with rfl | rfl | rfl
    · exact hu
    · exact hv
    · exact hx) (fun k hk => by
    rcases (by omega : k = 0 ∨ k = 1 ∨ k = 2) with rfl | rfl | rfl
    · exact cellB (w := (w.alloc (.cells #[.int .i64 u, .int .i64 v, .int .i64 x] 2 (0, 0))).drewN n0) (allocB w _) rfl
    · exact cellB (w := (w.alloc (.cells #[.int .i64 u, .int .i64 v, .int .i64 x] 2 (0, 0))).drewN n0) (allocB w _) rfl
    · exact cellB (w := (w.alloc (.cells #[.int .i64 u, .int .i64 v, .int .i64 x] 2 (0, 0))).drewN n0) (allocB w _) rfl) ha hb (by omega)
  rw [sumN_three] at k
  exact k
theorem setExp1_c {w0 w : World} {σ : Sg} (h : Hold w0 w σ) {d c r : Nat} {f0 e p a b nd : Int} {n : Bool} {N : Nat} {m : ByteArray} (u : Int) (hd : σ d = some (dec f0 n e false N)) (hc : σ c = some (ctxO p a b m)) (hN : nbits N < 1200)
    (hnd : nd = -1 ∨ nd = (figs N : Int)) (hr : calm r) (hu : -10000 ≤ u ∧ u ≤ 10000) (ha : 50000 ≤ a ∧ a ≤ 2000000) (hb : -2000000 ≤ b ∧ b ≤ -50000) (n0 : Nat) :
    Calls Tryz.prog 98 #[.pointer (some ⟨d, 0, none⟩), .pointer (some ⟨c, 0, none⟩), .int .i64 nd, .int .u32 (r : Int), .slice (some ⟨w.heap.size, 0, none⟩) 1 1] ((w.alloc (.cells #[.int .i64 u] 2 (0, 0))).drewN n0) fun E w' => E = .returned (.int .u32 (r : Int)) ∧ Hold w0 w' (upd σ d (dec f0 n u false N)) := by
  have k := setExp_c (s := w.heap.size) (l := 1) (cap := 1) (h.keep (((Chg.refl w _).alloc (.cells #[.int .i64 u] 2 (0, 0))).drewN n0)) (fun _ => u) hd hc hN hnd hr (by omega) (fun k hk => hu) (fun k hk => by
    obtain rfl : k = 0 := by omega
    exact cellB (w := (w.alloc (.cells #[.int .i64 u] 2 (0, 0))).drewN n0) (allocB w _) rfl) ha hb (by omega)
  rw [show sumN (fun _ => u) 1 = u by simp [sumN]] at k
  exact k
end Go.Proofs.YtcoljeafgiemkaaGreatDoor
