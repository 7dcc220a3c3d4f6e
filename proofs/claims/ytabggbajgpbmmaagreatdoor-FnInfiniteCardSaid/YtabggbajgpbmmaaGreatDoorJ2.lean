/- laws.did: one of six operations. -/
import Derived.Test.YtabggbajgpbmmaaGreatDoorJ1
namespace Go.Proofs.YtabggbajgpbmmaaGreatDoor
open Go Go.RowKit

/-- A block that holds a decimal as plain data. -/
def DecBlk (w : World) (k : Nat) : Prop := ∃ cs, w.heap[k]? = some (.cells cs 24 (0, 0))
/-- What an operation of the thin package tells. -/
def Told (w : World) (Q : Int → Bool → Option Addr → Nat → Nat → Int → Int → Bool → World → Prop) (e : Ending) (w' : World) : Prop :=
  ∃ (f : Int) (n : Bool) (A : Option Addr) (l c : Nat) (ex cn : Int) (ok : Bool), e = .returned (.tuple #[.agg #[.int .i64 f, .bool n, .slice A l c, .int .i64 ex], .int .i64 cn, .bool ok]) ∧ Q f n A l c ex cn ok w' ∧ Chg w w' (fun _ => False)

set_option maxRecDepth 100000 in
set_option maxHeartbeats 2000000 in
theorem did0_c (w : World) (p a b m : Int) (fx ex fy ey : Int) (nx ny : Bool) (Ax Ay : Option Addr) (lx cx ly cy : Nat) (Q : Int → Bool → Option Addr → Nat → Nat → Int → Int → Bool → World → Prop)
    (hQ : ∀ f n A l c e cn ok w1 w2, Q f n A l c e cn ok w1 → Chg w1 w2 (DecBlk w1) → Q f n A l c e cn ok w2)
    (hop : ∀ w1, Chg w w1 (fun _ => False) → Calls Tryz.prog 27 #[.agg #[.int .u64 p, .int .i64 a, .int .i64 b, .int .i64 m], .agg #[.int .i64 fx, .bool nx, .slice Ax lx cx, .int .i64 ex], .agg #[.int .i64 fy, .bool ny, .slice Ay ly cy, .int .i64 ey]] w1 (Told w1 Q)) :
    Calls Tryz.prog 15 #[.int .i64 0, .agg #[.int .u64 p, .int .i64 a, .int .i64 b, .int .i64 m], .agg #[.int .i64 fx, .bool nx, .slice Ax lx cx, .int .i64 ex], .agg #[.int .i64 fy, .bool ny, .slice Ay ly cy, .int .i64 ey]] w (Told w Q) := by
  replace hop := Lib.hid hop
  replace hQ := Lib.hid hQ
  go_enter Tryz.func15, Tryz.ntmps15
  go_wp2_with fail
  generalize hW : ((((w.alloc (.cells #[.int .u64 p, .int .i64 a, .int .i64 b, .int .i64 m] 37 (0, 0))).alloc (.cells #[.int .i64 fx, .bool nx, .slice Ax lx cx, .int .i64 ex] 24 (0, 0))).alloc (.cells #[.int .i64 fy, .bool ny, .slice Ay ly cy, .int .i64 ey] 24 (0, 0))).alloc (.cells #[.int .i64 0, .bool false, .slice none 0 0, .int .i64 0] 24 (0, 0))) = W
  have hC0 : Chg w W (fun _ => False) := by rw [← hW]; exact ((((Chg.refl w (fun _ => False)).alloc _).alloc _).alloc _).alloc _
  have hsz : w.heap.size + 3 < W.heap.size := by rw [← hW]; simp
  have hRs : W.heap[w.heap.size + 3]? = some (.cells #[.int .i64 0, .bool false, .slice none 0 0, .int .i64 0] 24 (0, 0)) := by rw [← hW]; exact allocB_at _ _ (by simp)
  clear hW
  replace hRs := Lib.hid hRs
  refine (hop.out W hC0).mono ?_
  rintro e w5 ⟨f, n, A, l, c, exx, cn, ok, rfl, hq, hch⟩
  have hR5 := hch.heapB hRs.out (fun h => h)
  have hQ5 := hC0.trans (hch.mono (fun _ _ h => h.elim))
  have r0 := cellB hR5 (i := 0) rfl
  have r1 := cellB hR5 (i := 1) rfl
  have r2 := cellB hR5 (i := 2) rfl
  have r3 := cellB hR5 (i := 3) rfl
  have rz0 := frozenB hR5 0
  have rz1 := frozenB hR5 1
  have rz2 := frozenB hR5 2
  have rz3 := frozenB hR5 3
  have h3 : w.heap.size + 3 < w5.heap.size := Nat.lt_of_lt_of_le hsz hch.size
  replace hR5 := Lib.hid hR5
  replace hQ5 := Lib.hid hQ5
  replace hq := Lib.hid hq
  clear hch hC0
  go_wp2
  have hfin := setB (i := 3) (v := .int .i64 exx) (setB (i := 2) (v := .slice A l c) (setB (i := 1) (v := .bool n) (setB (i := 0) (v := .int .i64 f) hR5.out)))
  have hcf : Chg w _ (fun _ => False) := (((hQ5.out.trans ((chg_setB w5 (w.heap.size + 3) 0 (.int .i64 f)).mono (fun _ _ h => .inr (by omega)))).trans ((chg_setB _ (w.heap.size + 3) 1 (.bool n)).mono (fun _ _ h => .inr (by omega)))).trans ((chg_setB _ (w.heap.size + 3) 2 (.slice A l c)).mono (fun _ _ h => .inr (by omega)))).trans ((chg_setB _ (w.heap.size + 3) 3 (.int .i64 exx)).mono (fun _ _ h => .inr (by omega)))
  clear r0 r1 r2 r3 rz0 rz1 rz2 rz3
  have hq9 : Q f n A l c exx cn ok ((((w5.setCell ⟨w.heap.size + 3, 0, none⟩ (.int .i64 f)).setCell ⟨w.heap.size + 3, 1, none⟩ (.bool n)).setCell ⟨w.heap.size + 3, 2, none⟩ (.slice A l c)).setCell ⟨w.heap.size + 3, 3, none⟩ (.int .i64 exx)) := by
    refine hQ.out _ _ _ _ _ _ _ _ w5 _ hq.out ((((chg_setB w5 (w.heap.size + 3) 0 (.int .i64 f)).trans ((chg_setB _ (w.heap.size + 3) 1 (.bool n)).mono (fun _ _ h => .inl h))).trans ((chg_setB _ (w.heap.size + 3) 2 (.slice A l c)).mono (fun _ _ h => .inl h))).trans ((chg_setB _ (w.heap.size + 3) 3 (.int .i64 exx)).mono (fun _ _ h => .inl h)) |>.mono ?_)
    rintro k _ rfl
    exact ⟨_, hR5.out⟩
  generalize (((w5.setCell ⟨w.heap.size + 3, 0, none⟩ (.int .i64 f)).setCell ⟨w.heap.size + 3, 1, none⟩ (.bool n)).setCell ⟨w.heap.size + 3, 2, none⟩ (.slice A l c)).setCell ⟨w.heap.size + 3, 3, none⟩ (.int .i64 exx) = W9 at hfin hcf hq9 ⊢
  have c0 : W9.cell? ⟨w.heap.size + 1 + 1 + 1, 0, none⟩ = some (.int .i64 f) := cellB hfin rfl
  have c1 : W9.cell? ⟨w.heap.size + 1 + 1 + 1, 1, none⟩ = some (.bool n) := cellB hfin rfl
  have c2 : W9.cell? ⟨w.heap.size + 1 + 1 + 1, 2, none⟩ = some (.slice A l c) := cellB hfin rfl
  have c3 : W9.cell? ⟨w.heap.size + 1 + 1 + 1, 3, none⟩ = some (.int .i64 exx) := cellB hfin rfl
  exact bodyPost_ret (v := .tuple #[.agg #[.int .i64 f, .bool n, .slice A l c, .int .i64 exx], .int .i64 cn, .bool ok]) (by simp [results, Tryz.results15, go_sem, c0, c1, c2, c3]) rfl ⟨f, n, A, l, c, exx, cn, ok, rfl, hq9, hcf⟩

set_option maxRecDepth 100000 in
set_option maxHeartbeats 2000000 in
theorem did1_c (w : World) (p a b m : Int) (fx ex fy ey : Int) (nx ny : Bool) (Ax Ay : Option Addr) (lx cx ly cy : Nat) (Q : Int → Bool → Option Addr → Nat → Nat → Int → Int → Bool → World → Prop)
    (hQ : ∀ f n A l c e cn ok w1 w2, Q f n A l c e cn ok w1 → Chg w1 w2 (DecBlk w1) → Q f n A l c e cn ok w2)
    (hop : ∀ w1, Chg w w1 (fun _ => False) → Calls Tryz.prog 23 #[.agg #[.int .u64 p, .int .i64 a, .int .i64 b, .int .i64 m], .agg #[.int .i64 fx, .bool nx, .slice Ax lx cx, .int .i64 ex], .agg #[.int .i64 fy, .bool ny, .slice Ay ly cy, .int .i64 ey]] w1 (Told w1 Q)) :
    Calls Tryz.prog 15 #[.int .i64 1, .agg #[.int .u64 p, .int .i64 a, .int .i64 b, .int .i64 m], .agg #[.int .i64 fx, .bool nx, .slice Ax lx cx, .int .i64 ex], .agg #[.int .i64 fy, .bool ny, .slice Ay ly cy, .int .i64 ey]] w (Told w Q) := by
  replace hop := Lib.hid hop
  replace hQ := Lib.hid hQ
  go_enter Tryz.func15, Tryz.ntmps15
  go_wp2_with fail
  generalize hW : ((((w.alloc (.cells #[.int .u64 p, .int .i64 a, .int .i64 b, .int .i64 m] 37 (0, 0))).alloc (.cells #[.int .i64 fx, .bool nx, .slice Ax lx cx, .int .i64 ex] 24 (0, 0))).alloc (.cells #[.int .i64 fy, .bool ny, .slice Ay ly cy, .int .i64 ey] 24 (0, 0))).alloc (.cells #[.int .i64 0, .bool false, .slice none 0 0, .int .i64 0] 24 (0, 0))) = W
  have hC0 : Chg w W (fun _ => False) := by rw [← hW]; exact ((((Chg.refl w (fun _ => False)).alloc _).alloc _).alloc _).alloc _
  have hsz : w.heap.size + 3 < W.heap.size := by rw [← hW]; simp
  have hRs : W.heap[w.heap.size + 3]? = some (.cells #[.int .i64 0, .bool false, .slice none 0 0, .int .i64 0] 24 (0, 0)) := by rw [← hW]; exact allocB_at _ _ (by simp)
  clear hW
  replace hRs := Lib.hid hRs
  refine (hop.out W hC0).mono ?_
  rintro e w5 ⟨f, n, A, l, c, exx, cn, ok, rfl, hq, hch⟩
  have hR5 := hch.heapB hRs.out (fun h => h)
  have hQ5 := hC0.trans (hch.mono (fun _ _ h => h.elim))
  have r0 := cellB hR5 (i := 0) rfl
  have r1 := cellB hR5 (i := 1) rfl
  have r2 := cellB hR5 (i := 2) rfl
  have r3 := cellB hR5 (i := 3) rfl
  have rz0 := frozenB hR5 0
  have rz1 := frozenB hR5 1
  have rz2 := frozenB hR5 2
  have rz3 := frozenB hR5 3
  have h3 : w.heap.size + 3 < w5.heap.size := Nat.lt_of_lt_of_le hsz hch.size
  replace hR5 := Lib.hid hR5
  replace hQ5 := Lib.hid hQ5
  replace hq := Lib.hid hq
  clear hch hC0
  go_wp2
  have hfin := setB (i := 3) (v := .int .i64 exx) (setB (i := 2) (v := .slice A l c) (setB (i := 1) (v := .bool n) (setB (i := 0) (v := .int .i64 f) hR5.out)))
  have hcf : Chg w _ (fun _ => False) := (((hQ5.out.trans ((chg_setB w5 (w.heap.size + 3) 0 (.int .i64 f)).mono (fun _ _ h => .inr (by omega)))).trans ((chg_setB _ (w.heap.size + 3) 1 (.bool n)).mono (fun _ _ h => .inr (by omega)))).trans ((chg_setB _ (w.heap.size + 3) 2 (.slice A l c)).mono (fun _ _ h => .inr (by omega)))).trans ((chg_setB _ (w.heap.size + 3) 3 (.int .i64 exx)).mono (fun _ _ h => .inr (by omega)))
  clear r0 r1 r2 r3 rz0 rz1 rz2 rz3
  have hq9 : Q f n A l c exx cn ok ((((w5.setCell ⟨w.heap.size + 3, 0, none⟩ (.int .i64 f)).setCell ⟨w.heap.size + 3, 1, none⟩ (.bool n)).setCell ⟨w.heap.size + 3, 2, none⟩ (.slice A l c)).setCell ⟨w.heap.size + 3, 3, none⟩ (.int .i64 exx)) := by
    refine hQ.out _ _ _ _ _ _ _ _ w5 _ hq.out ((((chg_setB w5 (w.heap.size + 3) 0 (.int .i64 f)).trans ((chg_setB _ (w.heap.size + 3) 1 (.bool n)).mono (fun _ _ h => .inl h))).trans ((chg_setB _ (w.heap.size + 3) 2 (.slice A l c)).mono (fun _ _ h => .inl h))).trans ((chg_setB _ (w.heap.size + 3) 3 (.int .i64 exx)).mono (fun _ _ h => .inl h)) |>.mono ?_)
    rintro k _ rfl
    exact ⟨_, hR5.out⟩
  generalize (((w5.setCell ⟨w.heap.size + 3, 0, none⟩ (.int .i64 f)).setCell ⟨w.heap.size + 3, 1, none⟩ (.bool n)).setCell ⟨w.heap.size + 3, 2, none⟩ (.slice A l c)).setCell ⟨w.heap.size + 3, 3, none⟩ (.int .i64 exx) = W9 at hfin hcf hq9 ⊢
  have c0 : W9.cell? ⟨w.heap.size + 1 + 1 + 1, 0, none⟩ = some (.int .i64 f) := cellB hfin rfl
  have c1 : W9.cell? ⟨w.heap.size + 1 + 1 + 1, 1, none⟩ = some (.bool n) := cellB hfin rfl
  have c2 : W9.cell? ⟨w.heap.size + 1 + 1 + 1, 2, none⟩ = some (.slice A l c) := cellB hfin rfl
  have c3 : W9.cell? ⟨w.heap.size + 1 + 1 + 1, 3, none⟩ = some (.int .i64 exx) := cellB hfin rfl
  exact bodyPost_ret (v := .tuple #[.agg #[.int .i64 f, .bool n, .slice A l c, .int .i64 exx], .int .i64 cn, .bool ok]) (by simp [results, Tryz.results15, go_sem, c0, c1, c2, c3]) rfl ⟨f, n, A, l, c, exx, cn, ok, rfl, hq9, hcf⟩

set_option maxRecDepth 100000 in
set_option maxHeartbeats 2000000 in
theorem did2_c (w : World) (p a b m : Int) (fx ex fy ey : Int) (nx ny : Bool) (Ax Ay : Option Addr) (lx cx ly cy : Nat) (Q : Int → Bool → Option Addr → Nat → Nat → Int → Int → Bool → World → Prop)
    (hQ : ∀ f n A l c e cn ok w1 w2, Q f n A l c e cn ok w1 → Chg w1 w2 (DecBlk w1) → Q f n A l c e cn ok w2)
    (hop : ∀ w1, Chg w w1 (fun _ => False) → Calls Tryz.prog 24 #[.agg #[.int .u64 p, .int .i64 a, .int .i64 b, .int .i64 m], .agg #[.int .i64 fx, .bool nx, .slice Ax lx cx, .int .i64 ex], .agg #[.int .i64 fy, .bool ny, .slice Ay ly cy, .int .i64 ey]] w1 (Told w1 Q)) :
    Calls Tryz.prog 15 #[.int .i64 2, .agg #[.int .u64 p, .int .i64 a, .int .i64 b, .int .i64 m], .agg #[.int .i64 fx, .bool nx, .slice Ax lx cx, .int .i64 ex], .agg #[.int .i64 fy, .bool ny, .slice Ay ly cy, .int .i64 ey]] w (Told w Q) := by
  replace hop := Lib.hid hop
  replace hQ := Lib.hid hQ
  go_enter Tryz.func15, Tryz.ntmps15
  go_wp2_with fail
  generalize hW : ((((w.alloc (.cells #[.int .u64 p, .int .i64 a, .int .i64 b, .int .i64 m] 37 (0, 0))).alloc (.cells #[.int .i64 fx, .bool nx, .slice Ax lx cx, .int .i64 ex] 24 (0, 0))).alloc (.cells #[.int .i64 fy, .bool ny, .slice Ay ly cy, .int .i64 ey] 24 (0, 0))).alloc (.cells #[.int .i64 0, .bool false, .slice none 0 0, .int .i64 0] 24 (0, 0))) = W
  have hC0 : Chg w W (fun _ => False) := by rw [← hW]; exact ((((Chg.refl w (fun _ => False)).alloc _).alloc _).alloc _).alloc _
  have hsz : w.heap.size + 3 < W.heap.size := by rw [← hW]; simp
  have hRs : W.heap[w.heap.size + 3]? = some (.cells #[.int .i64 0, .bool false, .slice none 0 0, .int .i64 0] 24 (0, 0)) := by rw [← hW]; exact allocB_at _ _ (by simp)
  clear hW
  replace hRs := Lib.hid hRs
  refine (hop.out W hC0).mono ?_
  rintro e w5 ⟨f, n, A, l, c, exx, cn, ok, rfl, hq, hch⟩
  have hR5 := hch.heapB hRs.out (fun h => h)
  have hQ5 := hC0.trans (hch.mono (fun _ _ h => h.elim))
  have r0 := cellB hR5 (i := 0) rfl
  have r1 := cellB hR5 (i := 1) rfl
  have r2 := cellB hR5 (i := 2) rfl
  have r3 := cellB hR5 (i := 3) rfl
  have rz0 := frozenB hR5 0
  have rz1 := frozenB hR5 1
  have rz2 := frozenB hR5 2
  have rz3 := frozenB hR5 3
  have h3 : w.heap.size + 3 < w5.heap.size := Nat.lt_of_lt_of_le hsz hch.size
  replace hR5 := Lib.hid hR5
  replace hQ5 := Lib.hid hQ5
  replace hq := Lib.hid hq
  clear hch hC0
  go_wp2
  have hfin := setB (i := 3) (v := .int .i64 exx) (setB (i := 2) (v := .slice A l c) (setB (i := 1) (v := .bool n) (setB (i := 0) (v := .int .i64 f) hR5.out)))
  have hcf : Chg w _ (fun _ => False) := (((hQ5.out.trans ((chg_setB w5 (w.heap.size + 3) 0 (.int .i64 f)).mono (fun _ _ h => .inr (by omega)))).trans ((chg_setB _ (w.heap.size + 3) 1 (.bool n)).mono (fun _ _ h => .inr (by omega)))).trans ((chg_setB _ (w.heap.size + 3) 2 (.slice A l c)).mono (fun _ _ h => .inr (by omega)))).trans ((chg_setB _ (w.heap.size + 3) 3 (.int .i64 exx)).mono (fun _ _ h => .inr (by omega)))
  clear r0 r1 r2 r3 rz0 rz1 rz2 rz3
  have hq9 : Q f n A l c exx cn ok ((((w5.setCell ⟨w.heap.size + 3, 0, none⟩ (.int .i64 f)).setCell ⟨w.heap.size + 3, 1, none⟩ (.bool n)).setCell ⟨w.heap.size + 3, 2, none⟩ (.slice A l c)).setCell ⟨w.heap.size + 3, 3, none⟩ (.int .i64 exx)) := by
    refine hQ.out _ _ _ _ _ _ _ _ w5 _ hq.out ((((chg_setB w5 (w.heap.size + 3) 0 (.int .i64 f)).trans ((chg_setB _ (w.heap.size + 3) 1 (.bool n)).mono (fun _ _ h => .inl h))).trans ((chg_setB _ (w.heap.size + 3) 2 (.slice A l c)).mono (fun _ _ h => .inl h))).trans ((chg_setB _ (w.heap.size + 3) 3 (.int .i64 exx)).mono (fun _ _ h => .inl h)) |>.mono ?_)
    rintro k _ rfl
    exact ⟨_, hR5.out⟩
  generalize (((w5.setCell ⟨w.heap.size + 3, 0, none⟩ (.int .i64 f)).setCell ⟨w.heap.size + 3, 1, none⟩ (.bool n)).setCell ⟨w.heap.size + 3, 2, none⟩ (.slice A l c)).setCell ⟨w.heap.size + 3, 3, none⟩ (.int .i64 exx) = W9 at hfin hcf hq9 ⊢
  have c0 : W9.cell? ⟨w.heap.size + 1 + 1 + 1, 0, none⟩ = some (.int .i64 f) := cellB hfin rfl
  have c1 : W9.cell? ⟨w.heap.size + 1 + 1 + 1, 1, none⟩ = some (.bool n) := cellB hfin rfl
  have c2 : W9.cell? ⟨w.heap.size + 1 + 1 + 1, 2, none⟩ = some (.slice A l c) := cellB hfin rfl
  have c3 : W9.cell? ⟨w.heap.size + 1 + 1 + 1, 3, none⟩ = some (.int .i64 exx) := cellB hfin rfl
  exact bodyPost_ret (v := .tuple #[.agg #[.int .i64 f, .bool n, .slice A l c, .int .i64 exx], .int .i64 cn, .bool ok]) (by simp [results, Tryz.results15, go_sem, c0, c1, c2, c3]) rfl ⟨f, n, A, l, c, exx, cn, ok, rfl, hq9, hcf⟩

set_option maxRecDepth 100000 in
set_option maxHeartbeats 2000000 in
theorem did3_c (w : World) (p a b m : Int) (fx ex fy ey : Int) (nx ny : Bool) (Ax Ay : Option Addr) (lx cx ly cy : Nat) (Q : Int → Bool → Option Addr → Nat → Nat → Int → Int → Bool → World → Prop)
    (hQ : ∀ f n A l c e cn ok w1 w2, Q f n A l c e cn ok w1 → Chg w1 w2 (DecBlk w1) → Q f n A l c e cn ok w2)
    (hop : ∀ w1, Chg w w1 (fun _ => False) → Calls Tryz.prog 12 #[.agg #[.int .u64 p, .int .i64 a, .int .i64 b, .int .i64 m], .agg #[.int .i64 fx, .bool nx, .slice Ax lx cx, .int .i64 ex], .agg #[.int .i64 fy, .bool ny, .slice Ay ly cy, .int .i64 ey]] w1 (Told w1 Q)) :
    Calls Tryz.prog 15 #[.int .i64 3, .agg #[.int .u64 p, .int .i64 a, .int .i64 b, .int .i64 m], .agg #[.int .i64 fx, .bool nx, .slice Ax lx cx, .int .i64 ex], .agg #[.int .i64 fy, .bool ny, .slice Ay ly cy, .int .i64 ey]] w (Told w Q) := by
  replace hop := Lib.hid hop
  replace hQ := Lib.hid hQ
  go_enter Tryz.func15, Tryz.ntmps15
  go_wp2_with fail
  generalize hW : ((((w.alloc (.cells #[.int .u64 p, .int .i64 a, .int .i64 b, .int .i64 m] 37 (0, 0))).alloc (.cells #[.int .i64 fx, .bool nx, .slice Ax lx cx, .int .i64 ex] 24 (0, 0))).alloc (.cells #[.int .i64 fy, .bool ny, .slice Ay ly cy, .int .i64 ey] 24 (0, 0))).alloc (.cells #[.int .i64 0, .bool false, .slice none 0 0, .int .i64 0] 24 (0, 0))) = W
  have hC0 : Chg w W (fun _ => False) := by rw [← hW]; exact ((((Chg.refl w (fun _ => False)).alloc _).alloc _).alloc _).alloc _
  have hsz : w.heap.size + 3 < W.heap.size := by rw [← hW]; simp
  have hRs : W.heap[w.heap.size + 3]? = some (.cells #[.int .i64 0, .bool false, .slice none 0 0, .int .i64 0] 24 (0, 0)) := by rw [← hW]; exact allocB_at _ _ (by simp)
  clear hW
  replace hRs := Lib.hid hRs
  refine (hop.out W hC0).mono ?_
  rintro e w5 ⟨f, n, A, l, c, exx, cn, ok, rfl, hq, hch⟩
  have hR5 := hch.heapB hRs.out (fun h => h)
  have hQ5 := hC0.trans (hch.mono (fun _ _ h => h.elim))
  have r0 := cellB hR5 (i := 0) rfl
  have r1 := cellB hR5 (i := 1) rfl
  have r2 := cellB hR5 (i := 2) rfl
  have r3 := cellB hR5 (i := 3) rfl
  have rz0 := frozenB hR5 0
  have rz1 := frozenB hR5 1
  have rz2 := frozenB hR5 2
  have rz3 := frozenB hR5 3
  have h3 : w.heap.size + 3 < w5.heap.size := Nat.lt_of_lt_of_le hsz hch.size
  replace hR5 := Lib.hid hR5
  replace hQ5 := Lib.hid hQ5
  replace hq := Lib.hid hq
  clear hch hC0
  go_wp2
  have hfin := setB (i := 3) (v := .int .i64 exx) (setB (i := 2) (v := .slice A l c) (setB (i := 1) (v := .bool n) (setB (i := 0) (v := .int .i64 f) hR5.out)))
  have hcf : Chg w _ (fun _ => False) := (((hQ5.out.trans ((chg_setB w5 (w.heap.size + 3) 0 (.int .i64 f)).mono (fun _ _ h => .inr (by omega)))).trans ((chg_setB _ (w.heap.size + 3) 1 (.bool n)).mono (fun _ _ h => .inr (by omega)))).trans ((chg_setB _ (w.heap.size + 3) 2 (.slice A l c)).mono (fun _ _ h => .inr (by omega)))).trans ((chg_setB _ (w.heap.size + 3) 3 (.int .i64 exx)).mono (fun _ _ h => .inr (by omega)))
  clear r0 r1 r2 r3 rz0 rz1 rz2 rz3
  have hq9 : Q f n A l c exx cn ok ((((w5.setCell ⟨w.heap.size + 3, 0, none⟩ (.int .i64 f)).setCell ⟨w.heap.size + 3, 1, none⟩ (.bool n)).setCell ⟨w.heap.size + 3, 2, none⟩ (.slice A l c)).setCell ⟨w.heap.size + 3, 3, none⟩ (.int .i64 exx)) := by
    refine hQ.out _ _ _ _ _ _ _ _ w5 _ hq.out ((((chg_setB w5 (w.heap.size + 3) 0 (.int .i64 f)).trans ((chg_setB _ (w.heap.size + 3) 1 (.bool n)).mono (fun _ _ h => .inl h))).trans ((chg_setB _ (w.heap.size + 3) 2 (.slice A l c)).mono (fun _ _ h => .inl h))).trans ((chg_setB _ (w.heap.size + 3) 3 (.int .i64 exx)).mono (fun _ _ h => .inl h)) |>.mono ?_)
    rintro k _ rfl
    exact ⟨_, hR5.out⟩
  generalize (((w5.setCell ⟨w.heap.size + 3, 0, none⟩ (.int .i64 f)).setCell ⟨w.heap.size + 3, 1, none⟩ (.bool n)).setCell ⟨w.heap.size + 3, 2, none⟩ (.slice A l c)).setCell ⟨w.heap.size + 3, 3, none⟩ (.int .i64 exx) = W9 at hfin hcf hq9 ⊢
  have c0 : W9.cell? ⟨w.heap.size + 1 + 1 + 1, 0, none⟩ = some (.int .i64 f) := cellB hfin rfl
  have c1 : W9.cell? ⟨w.heap.size + 1 + 1 + 1, 1, none⟩ = some (.bool n) := cellB hfin rfl
  have c2 : W9.cell? ⟨w.heap.size + 1 + 1 + 1, 2, none⟩ = some (.slice A l c) := cellB hfin rfl
  have c3 : W9.cell? ⟨w.heap.size + 1 + 1 + 1, 3, none⟩ = some (.int .i64 exx) := cellB hfin rfl
  exact bodyPost_ret (v := .tuple #[.agg #[.int .i64 f, .bool n, .slice A l c, .int .i64 exx], .int .i64 cn, .bool ok]) (by simp [results, Tryz.results15, go_sem, c0, c1, c2, c3]) rfl ⟨f, n, A, l, c, exx, cn, ok, rfl, hq9, hcf⟩

set_option maxRecDepth 100000 in
set_option maxHeartbeats 2000000 in
theorem did4_c (w : World) (p a b m : Int) (fx ex fy ey : Int) (nx ny : Bool) (Ax Ay : Option Addr) (lx cx ly cy : Nat) (Q : Int → Bool → Option Addr → Nat → Nat → Int → Int → Bool → World → Prop)
    (hQ : ∀ f n A l c e cn ok w1 w2, Q f n A l c e cn ok w1 → Chg w1 w2 (DecBlk w1) → Q f n A l c e cn ok w2)
    (hop : ∀ w1, Chg w w1 (fun _ => False) → Calls Tryz.prog 25 #[.agg #[.int .u64 p, .int .i64 a, .int .i64 b, .int .i64 m], .agg #[.int .i64 fx, .bool nx, .slice Ax lx cx, .int .i64 ex], .agg #[.int .i64 fy, .bool ny, .slice Ay ly cy, .int .i64 ey]] w1 (Told w1 Q)) :
    Calls Tryz.prog 15 #[.int .i64 4, .agg #[.int .u64 p, .int .i64 a, .int .i64 b, .int .i64 m], .agg #[.int .i64 fx, .bool nx, .slice Ax lx cx, .int .i64 ex], .agg #[.int .i64 fy, .bool ny, .slice Ay ly cy, .int .i64 ey]] w (Told w Q) := by
  replace hop := Lib.hid hop
  replace hQ := Lib.hid hQ
  go_enter Tryz.func15, Tryz.ntmps15
  go_wp2_with fail
  generalize hW : ((((w.alloc (.cells #[.int .u64 p, .int .i64 a, .int .i64 b, .int .i64 m] 37 (0, 0))).alloc (.cells #[.int .i64 fx, .bool nx, .slice Ax lx cx, .int .i64 ex] 24 (0, 0))).alloc (.cells #[.int .i64 fy, .bool ny, .slice Ay ly cy, .int .i64 ey] 24 (0, 0))).alloc (.cells #[.int .i64 0, .bool false, .slice none 0 0, .int .i64 0] 24 (0, 0))) = W
  have hC0 : Chg w W (fun _ => False) := by rw [← hW]; exact ((((Chg.refl w (fun _ => False)).alloc _).alloc _).alloc _).alloc _
  have hsz : w.heap.size + 3 < W.heap.size := by rw [← hW]; simp
  have hRs : W.heap[w.heap.size + 3]? = some (.cells #[.int .i64 0, .bool false, .slice none 0 0, .int .i64 0] 24 (0, 0)) := by rw [← hW]; exact allocB_at _ _ (by simp)
  clear hW
  replace hRs := Lib.hid hRs
  refine (hop.out W hC0).mono ?_
  rintro e w5 ⟨f, n, A, l, c, exx, cn, ok, rfl, hq, hch⟩
  have hR5 := hch.heapB hRs.out (fun h => h)
  have hQ5 := hC0.trans (hch.mono (fun _ _ h => h.elim))
  have r0 := cellB hR5 (i := 0) rfl
  have r1 := cellB hR5 (i := 1) rfl
  have r2 := cellB hR5 (i := 2) rfl
  have r3 := cellB hR5 (i := 3) rfl
  have rz0 := frozenB hR5 0
  have rz1 := frozenB hR5 1
  have rz2 := frozenB hR5 2
  have rz3 := frozenB hR5 3
  have h3 : w.heap.size + 3 < w5.heap.size := Nat.lt_of_lt_of_le hsz hch.size
  replace hR5 := Lib.hid hR5
  replace hQ5 := Lib.hid hQ5
  replace hq := Lib.hid hq
  clear hch hC0
  go_wp2
  have hfin := setB (i := 3) (v := .int .i64 exx) (setB (i := 2) (v := .slice A l c) (setB (i := 1) (v := .bool n) (setB (i := 0) (v := .int .i64 f) hR5.out)))
  have hcf : Chg w _ (fun _ => False) := (((hQ5.out.trans ((chg_setB w5 (w.heap.size + 3) 0 (.int .i64 f)).mono (fun _ _ h => .inr (by omega)))).trans ((chg_setB _ (w.heap.size + 3) 1 (.bool n)).mono (fun _ _ h => .inr (by omega)))).trans ((chg_setB _ (w.heap.size + 3) 2 (.slice A l c)).mono (fun _ _ h => .inr (by omega)))).trans ((chg_setB _ (w.heap.size + 3) 3 (.int .i64 exx)).mono (fun _ _ h => .inr (by omega)))
  clear r0 r1 r2 r3 rz0 rz1 rz2 rz3
  have hq9 : Q f n A l c exx cn ok ((((w5.setCell ⟨w.heap.size + 3, 0, none⟩ (.int .i64 f)).setCell ⟨w.heap.size + 3, 1, none⟩ (.bool n)).setCell ⟨w.heap.size + 3, 2, none⟩ (.slice A l c)).setCell ⟨w.heap.size + 3, 3, none⟩ (.int .i64 exx)) := by
    refine hQ.out _ _ _ _ _ _ _ _ w5 _ hq.out ((((chg_setB w5 (w.heap.size + 3) 0 (.int .i64 f)).trans ((chg_setB _ (w.heap.size + 3) 1 (.bool n)).mono (fun _ _ h => .inl h))).trans ((chg_setB _ (w.heap.size + 3) 2 (.slice A l c)).mono (fun _ _ h => .inl h))).trans ((chg_setB _ (w.heap.size + 3) 3 (.int .i64 exx)).mono (fun _ _ h => .inl h)) |>.mono ?_)
    rintro k _ rfl
    exact ⟨_, hR5.out⟩
  generalize (((w5.setCell ⟨w.heap.size + 3, 0, none⟩ (.int .i64 f)).setCell ⟨w.heap.size + 3, 1, none⟩ (.bool n)).setCell ⟨w.heap.size + 3, 2, none⟩ (.slice A l c)).setCell ⟨w.heap.size + 3, 3, none⟩ (.int .i64 exx) = W9 at hfin hcf hq9 ⊢
  have c0 : W9.cell? ⟨w.heap.size + 1 + 1 + 1, 0, none⟩ = some (.int .i64 f) := cellB hfin rfl
  have c1 : W9.cell? ⟨w.heap.size + 1 + 1 + 1, 1, none⟩ = some (.bool n) := cellB hfin rfl
  have c2 : W9.cell? ⟨w.heap.size + 1 + 1 + 1, 2, none⟩ = some (.slice A l c) := cellB hfin rfl
  have c3 : W9.cell? ⟨w.heap.size + 1 + 1 + 1, 3, none⟩ = some (.int .i64 exx) := cellB hfin rfl
  exact bodyPost_ret (v := .tuple #[.agg #[.int .i64 f, .bool n, .slice A l c, .int .i64 exx], .int .i64 cn, .bool ok]) (by simp [results, Tryz.results15, go_sem, c0, c1, c2, c3]) rfl ⟨f, n, A, l, c, exx, cn, ok, rfl, hq9, hcf⟩

set_option maxRecDepth 100000 in
set_option maxHeartbeats 2000000 in
theorem did5_c (w : World) (p a b m : Int) (fx ex fy ey : Int) (nx ny : Bool) (Ax Ay : Option Addr) (lx cx ly cy : Nat) (Q : Int → Bool → Option Addr → Nat → Nat → Int → Int → Bool → World → Prop)
    (hQ : ∀ f n A l c e cn ok w1 w2, Q f n A l c e cn ok w1 → Chg w1 w2 (DecBlk w1) → Q f n A l c e cn ok w2)
    (hop : ∀ w1, Chg w w1 (fun _ => False) → Calls Tryz.prog 26 #[.agg #[.int .u64 p, .int .i64 a, .int .i64 b, .int .i64 m], .agg #[.int .i64 fx, .bool nx, .slice Ax lx cx, .int .i64 ex], .agg #[.int .i64 fy, .bool ny, .slice Ay ly cy, .int .i64 ey]] w1 (Told w1 Q)) :
    Calls Tryz.prog 15 #[.int .i64 5, .agg #[.int .u64 p, .int .i64 a, .int .i64 b, .int .i64 m], .agg #[.int .i64 fx, .bool nx, .slice Ax lx cx, .int .i64 ex], .agg #[.int .i64 fy, .bool ny, .slice Ay ly cy, .int .i64 ey]] w (Told w Q) := by
  replace hop := Lib.hid hop
  replace hQ := Lib.hid hQ
  go_enter Tryz.func15, Tryz.ntmps15
  go_wp2_with fail
  generalize hW : ((((w.alloc (.cells #[.int .u64 p, .int .i64 a, .int .i64 b, .int .i64 m] 37 (0, 0))).alloc (.cells #[.int .i64 fx, .bool nx, .slice Ax lx cx, .int .i64 ex] 24 (0, 0))).alloc (.cells #[.int .i64 fy, .bool ny, .slice Ay ly cy, .int .i64 ey] 24 (0, 0))).alloc (.cells #[.int .i64 0, .bool false, .slice none 0 0, .int .i64 0] 24 (0, 0))) = W
  have hC0 : Chg w W (fun _ => False) := by rw [← hW]; exact ((((Chg.refl w (fun _ => False)).alloc _).alloc _).alloc _).alloc _
  have hsz : w.heap.size + 3 < W.heap.size := by rw [← hW]; simp
  have hRs : W.heap[w.heap.size + 3]? = some (.cells #[.int .i64 0, .bool false, .slice none 0 0, .int .i64 0] 24 (0, 0)) := by rw [← hW]; exact allocB_at _ _ (by simp)
  clear hW
  replace hRs := Lib.hid hRs
  refine (hop.out W hC0).mono ?_
  rintro e w5 ⟨f, n, A, l, c, exx, cn, ok, rfl, hq, hch⟩
  have hR5 := hch.heapB hRs.out (fun h => h)
  have hQ5 := hC0.trans (hch.mono (fun _ _ h => h.elim))
  have r0 := cellB hR5 (i := 0) rfl
  have r1 := cellB hR5 (i := 1) rfl
  have r2 := cellB hR5 (i := 2) rfl
  have r3 := cellB hR5 (i := 3) rfl
  have rz0 := frozenB hR5 0
  have rz1 := frozenB hR5 1
  have rz2 := frozenB hR5 2
  have rz3 := frozenB hR5 3
  have h3 : w.heap.size + 3 < w5.heap.size := Nat.lt_of_lt_of_le hsz hch.size
  replace hR5 := Lib.hid hR5
  replace hQ5 := Lib.hid hQ5
  replace hq := Lib.hid hq
  clear hch hC0
  go_wp2
  have hfin := setB (i := 3) (v := .int .i64 exx) (setB (i := 2) (v := .slice A l c) (setB (i := 1) (v := .bool n) (setB (i := 0) (v := .int .i64 f) hR5.out)))
  have hcf : Chg w _ (fun _ => False) := (((hQ5.out.trans ((chg_setB w5 (w.heap.size + 3) 0 (.int .i64 f)).mono (fun _ _ h => .inr (by omega)))).trans ((chg_setB _ (w.heap.size + 3) 1 (.bool n)).mono (fun _ _ h => .inr (by omega)))).trans ((chg_setB _ (w.heap.size + 3) 2 (.slice A l c)).mono (fun _ _ h => .inr (by omega)))).trans ((chg_setB _ (w.heap.size + 3) 3 (.int .i64 exx)).mono (fun _ _ h => .inr (by omega)))
  clear r0 r1 r2 r3 rz0 rz1 rz2 rz3
  have hq9 : Q f n A l c exx cn ok ((((w5.setCell ⟨w.heap.size + 3, 0, none⟩ (.int .i64 f)).setCell ⟨w.heap.size + 3, 1, none⟩ (.bool n)).setCell ⟨w.heap.size + 3, 2, none⟩ (.slice A l c)).setCell ⟨w.heap.size + 3, 3, none⟩ (.int .i64 exx)) := by
    refine hQ.out _ _ _ _ _ _ _ _ w5 _ hq.out ((((chg_setB w5 (w.heap.size + 3) 0 (.int .i64 f)).trans ((chg_setB _ (w.heap.size + 3) 1 (.bool n)).mono (fun _ _ h => .inl h))).trans ((chg_setB _ (w.heap.size + 3) 2 (.slice A l c)).mono (fun _ _ h => .inl h))).trans ((chg_setB _ (w.heap.size + 3) 3 (.int .i64 exx)).mono (fun _ _ h => .inl h)) |>.mono ?_)
    rintro k _ rfl
    exact ⟨_, hR5.out⟩
  generalize (((w5.setCell ⟨w.heap.size + 3, 0, none⟩ (.int .i64 f)).setCell ⟨w.heap.size + 3, 1, none⟩ (.bool n)).setCell ⟨w.heap.size + 3, 2, none⟩ (.slice A l c)).setCell ⟨w.heap.size + 3, 3, none⟩ (.int .i64 exx) = W9 at hfin hcf hq9 ⊢
  have c0 : W9.cell? ⟨w.heap.size + 1 + 1 + 1, 0, none⟩ = some (.int .i64 f) := cellB hfin rfl
  have c1 : W9.cell? ⟨w.heap.size + 1 + 1 + 1, 1, none⟩ = some (.bool n) := cellB hfin rfl
  have c2 : W9.cell? ⟨w.heap.size + 1 + 1 + 1, 2, none⟩ = some (.slice A l c) := cellB hfin rfl
  have c3 : W9.cell? ⟨w.heap.size + 1 + 1 + 1, 3, none⟩ = some (.int .i64 exx) := cellB hfin rfl
  exact bodyPost_ret (v := .tuple #[.agg #[.int .i64 f, .bool n, .slice A l c, .int .i64 exx], .int .i64 cn, .bool ok]) (by simp [results, Tryz.results15, go_sem, c0, c1, c2, c3]) rfl ⟨f, n, A, l, c, exx, cn, ok, rfl, hq9, hcf⟩

end Go.Proofs.YtabggbajgpbmmaaGreatDoor
