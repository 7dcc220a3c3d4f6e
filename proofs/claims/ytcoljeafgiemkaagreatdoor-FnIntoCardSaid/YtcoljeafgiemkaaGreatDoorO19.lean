/- laws.alike: two decimals as plain data that are the same. -/
import Derived.Test.YtcoljeafgiemkaaGreatDoorC21
namespace Go.Proofs.YtcoljeafgiemkaaGreatDoor
open Go Go.RowKit

set_option maxRecDepth 20000 in
set_option maxHeartbeats 4000000 in
theorem alikeF_c (w : World) (F : Int) (n : Bool) (A B : Option Addr) (l c s : Nat) (e : Int) (X : List Nat) (hX : RdW w A l c X) (hY : RdW w B l s X) :
    Calls Tryz.prog 31 #[.agg #[.int .i64 F, .bool n, .slice A l c, .int .i64 e], .agg #[.int .i64 F, .bool n, .slice B l s, .int .i64 e]] w fun E w' => E = .returned (.bool true) ∧ Below w.heap.size w w' := by
  have hlc := hX.cap
  have hcm := hX.max
  have hls := hY.cap
  have hsm := hY.max
  replace hX := Lib.hid hX
  replace hY := Lib.hid hY
  go_enter Tryz.func31, Tryz.ntmps31
  go_upto_region 1 with (fail)
  generalize hW : (w.alloc (.cells #[.int .i64 F, .bool n, .slice A l c, .int .i64 e] 24 (0, 0))).alloc (.cells #[.int .i64 F, .bool n, .slice B l s, .int .i64 e] 24 (0, 0)) = W
  have hb0 : Below w.heap.size w W := by rw [← hW]; exact ((Below.refl _ _).alloc (Nat.le_refl _) _).alloc (by simp) _
  have hP : W.heap[w.heap.size]? = some (.cells #[.int .i64 F, .bool n, .slice A l c, .int .i64 e] 24 (0, 0)) := by rw [← hW]; exact allocB_old (allocB _ _)
  have hQ : W.heap[w.heap.size + 1]? = some (.cells #[.int .i64 F, .bool n, .slice B l s, .int .i64 e] 24 (0, 0)) := by rw [← hW]; exact allocB_at _ _ (by simp)
  clear hW
  have hrX := hX.out.below hb0
  have hrY := hY.out.below hb0
  have x0 := cellB hP (i := 0) rfl
  have x1 := cellB hP (i := 1) rfl
  have x2 := cellB hP (i := 2) rfl
  have x3 := cellB hP (i := 3) rfl
  have y0 := cellB hQ (i := 0) rfl
  have y1 := cellB hQ (i := 1) rfl
  have y2 := cellB hQ (i := 2) rfl
  have y3 := cellB hQ (i := 3) rfl
  replace hP := Lib.hid hP
  replace hQ := Lib.hid hQ
  replace hb0 := Lib.hid hb0
  replace hrX := Lib.hid hrX
  replace hrY := Lib.hid hrY
  cases n
  all_goals
    go_wp2
    go_loopw [37] (fun i wr => ∃ (k nn : Nat), k ≤ l ∧ i = .int .i64 (k : Int) ∧ wr = W.drewN nn) (fun i _ => l - (intOf i).toNat)
    case atStart => exact ⟨0, 0, Nat.zero_le _, rfl, rfl⟩
    case round =>
      obtain ⟨k, nn, hk, rfl, rfl⟩ := hrel
      by_cases hlt : k < l
      · obtain ⟨ada, rfl, hca⟩ := hrX.out.cells (by omega)
        obtain ⟨adb, rfl, hcb⟩ := hrY.out.cells (by omega)
        have ca := hca k hlt
        have cb := hcb k hlt
        generalize nth X k = v at ca cb
        have ee : (((v : Nat) : Int) != ((v : Nat) : Int)) = false := by simp
        have ek : IntKind.i64.wrap ((k : Int) + 1) = ((k + 1 : Nat) : Int) := by rw [show (k : Int) + 1 = ((k + 1 : Nat) : Int) by omega]; exact IntWalk.i64_in _ (by omega)
        have hk1 : k < c := by omega
        have hk2 : k < s := by omega
        clear hca hcb
        go_upto_region 6 with (fail)
        go_quiet (fail)
        go_wp2
        go_roundw
        case rel => exact ⟨k + 1, _, by omega, rfl, rfl⟩
        case measure =>
          show l - (intOf (.int .i64 ((k + 1 : Nat) : Int))).toNat < l - (intOf (.int .i64 (k : Int))).toNat
          simp only [intOf]; omega
      · obtain rfl : k = l := by omega
        go_wp2
        go_ret
        exact ⟨rfl, Below.drwN hb0.out _⟩
theorem alike_c (w : World) (n : Bool) (A B : Option Addr) (l c s : Nat) (e : Int) (X : List Nat) (hX : RdW w A l c X) (hY : RdW w B l s X) :
    Calls Tryz.prog 31 #[.agg #[.int .i64 0, .bool n, .slice A l c, .int .i64 e], .agg #[.int .i64 0, .bool n, .slice B l s, .int .i64 e]] w fun E w' => E = .returned (.bool true) ∧ Below w.heap.size w w' := alikeF_c w 0 n A B l c s e X hX hY
end Go.Proofs.YtcoljeafgiemkaaGreatDoor
