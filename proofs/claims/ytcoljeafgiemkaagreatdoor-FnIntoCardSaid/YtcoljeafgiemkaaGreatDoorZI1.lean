/- laws.did: Add, whatever is told. laws.did: Sub, whatever is told. laws.did: Mul, whatever is told. laws.did: Quo, whatever is told. laws.did: QuoInteger, whatever is told. laws.did: Rem, whatever is told. -/
import Derived.Test.YtcoljeafgiemkaaGreatDoorZI3
namespace Go.Proofs.YtcoljeafgiemkaaGreatDoor
open Go Go.RowKit

set_option maxRecDepth 100000 in
set_option maxHeartbeats 2000000 in
theorem didFAdd_c (w : World) (p a b m : Int) (ex ey f E0 : Int) (nx ny nz : Bool) (Ax Ay : Option Addr) (lx cx ly cy R cn : Nat)
    (hop : ∀ w1, Chg w w1 (fun _ => False) → Calls Tryz.prog 67 #[.agg #[.int .u64 p, .int .i64 a, .int .i64 b, .int .i64 m], .agg #[.int .i64 0, .bool nx, .slice Ax lx cx, .int .i64 ex], .agg #[.int .i64 0, .bool ny, .slice Ay ly cy, .int .i64 ey]] w1 fun E w' => TellF w1 w' E f nz E0 R cn) :
    Calls Tryz.prog 30 #[.int .i64 0, .agg #[.int .u64 p, .int .i64 a, .int .i64 b, .int .i64 m], .agg #[.int .i64 0, .bool nx, .slice Ax lx cx, .int .i64 ex], .agg #[.int .i64 0, .bool ny, .slice Ay ly cy, .int .i64 ey]] w fun E w' => TellF w w' E f nz E0 R cn := by
  unfold TellF at *
  obtain ⟨l, hl⟩ : ∃ l, (digs R).length = l := ⟨_, rfl⟩
  simp only [hl] at hop ⊢
  replace hop := Lib.hid hop
  replace hl := Lib.hid hl
  go_enter Tryz.func30, Tryz.ntmps30
  go_wp2_with fail
  generalize hW : ((((w.alloc (.cells #[.int .u64 p, .int .i64 a, .int .i64 b, .int .i64 m] 35 (0, 0))).alloc (.cells #[.int .i64 0, .bool nx, .slice Ax lx cx, .int .i64 ex] 24 (0, 0))).alloc (.cells #[.int .i64 0, .bool ny, .slice Ay ly cy, .int .i64 ey] 24 (0, 0))).alloc (.cells #[.int .i64 0, .bool false, .slice none 0 0, .int .i64 0] 24 (0, 0))) = W
  have hC0 : Chg w W (fun _ => False) := by rw [← hW]; exact ((((Chg.refl w (fun _ => False)).alloc _).alloc _).alloc _).alloc _
  have hsz : W.heap.size = w.heap.size + 4 := by rw [← hW]; simp
  have hRs : W.heap[w.heap.size + 3]? = some (.cells #[.int .i64 0, .bool false, .slice none 0 0, .int .i64 0] 24 (0, 0)) := by rw [← hW]; exact allocB_at _ _ (by simp)
  clear hW
  replace hRs := Lib.hid hRs
  with_reducible refine (hop.out W hC0).mono ?_
  rintro e w5 ⟨q, cc, rfl, hq, hql, hch⟩
  have hR5 := hch.heapB hRs.out (fun h => h)
  have hQ5 := hC0.trans (hch.mono (fun _ _ h => h.elim))
  have r0 := cellB hR5 (i := 0) rfl
  have r1 := cellB hR5 (i := 1) rfl
  have r2 := cellB hR5 (i := 2) rfl
  have r3 := cellB hR5 (i := 3) rfl
  have rz0 := frozenB hR5 0
  have rz1 := frozenB hR5 1
  have rz2 := frozenB hR5 2
  have rz3 := frozenB hR5 3
  replace hR5 := Lib.hid hR5
  replace hQ5 := Lib.hid hQ5
  replace hq := Lib.hid hq
  replace hql := Lib.hid hql
  replace hsz := Lib.hid hsz
  clear hch hC0 hop hRs
  go_wp2
  have hfin := setB (i := 3) (v := .int .i64 E0) (setB (i := 2) (v := .slice q l cc) (setB (i := 1) (v := .bool nz) (setB (i := 0) (v := .int .i64 f) hR5.out)))
  have hc5 : Chg w5 _ (fun k => k = w.heap.size + 3) := ((((chg_setB w5 (w.heap.size + 3) 0 (.int .i64 f))).trans ((chg_setB _ (w.heap.size + 3) 1 (.bool nz)).mono (fun _ _ h => .inl h))).trans ((chg_setB _ (w.heap.size + 3) 2 (.slice q l cc)).mono (fun _ _ h => .inl h))).trans ((chg_setB _ (w.heap.size + 3) 3 (.int .i64 E0)).mono (fun _ _ h => .inl h))
  clear r0 r1 r2 r3 rz0 rz1 rz2 rz3
  generalize (((w5.setCell ⟨w.heap.size + 3, 0, none⟩ (.int .i64 f)).setCell ⟨w.heap.size + 3, 1, none⟩ (.bool nz)).setCell ⟨w.heap.size + 3, 2, none⟩ (.slice q l cc)).setCell ⟨w.heap.size + 3, 3, none⟩ (.int .i64 E0) = W9 at hfin hc5 ⊢
  have hcf : Chg w W9 (fun _ => False) := hQ5.out.trans (hc5.mono (fun k _ h => .inr (by omega)))
  have hq9 := hq.out.chgAt hc5 (fun ad ha h => by have h1 := hql.out ad ha; have h2 := hsz.out; omega)
  have hq0 : ∀ ad, q = some ad → w.heap.size ≤ ad.block := fun ad ha => by have h1 := hql.out ad ha; have h2 := hsz.out; omega
  have c0 : W9.cell? ⟨w.heap.size + 1 + 1 + 1, 0, none⟩ = some (.int .i64 f) := cellB hfin rfl
  have c1 : W9.cell? ⟨w.heap.size + 1 + 1 + 1, 1, none⟩ = some (.bool nz) := cellB hfin rfl
  have c2 : W9.cell? ⟨w.heap.size + 1 + 1 + 1, 2, none⟩ = some (.slice q l cc) := cellB hfin rfl
  have c3 : W9.cell? ⟨w.heap.size + 1 + 1 + 1, 3, none⟩ = some (.int .i64 E0) := cellB hfin rfl
  exact bodyPost_ret (v := .tuple #[.agg #[.int .i64 f, .bool nz, .slice q l cc, .int .i64 E0], .int .i64 (cn : Int), .bool true]) (by simp [results, Tryz.results30, go_sem, c0, c1, c2, c3]) rfl ⟨q, cc, rfl, hq9, hq0, hcf⟩
end Go.Proofs.YtcoljeafgiemkaaGreatDoor
namespace Go.Proofs.YtcoljeafgiemkaaGreatDoor
open Go Go.RowKit

set_option maxRecDepth 100000 in
set_option maxHeartbeats 2000000 in
theorem didFSub_c (w : World) (p a b m : Int) (ex ey f E0 : Int) (nx ny nz : Bool) (Ax Ay : Option Addr) (lx cx ly cy R cn : Nat)
    (hop : ∀ w1, Chg w w1 (fun _ => False) → Calls Tryz.prog 63 #[.agg #[.int .u64 p, .int .i64 a, .int .i64 b, .int .i64 m], .agg #[.int .i64 0, .bool nx, .slice Ax lx cx, .int .i64 ex], .agg #[.int .i64 0, .bool ny, .slice Ay ly cy, .int .i64 ey]] w1 fun E w' => TellF w1 w' E f nz E0 R cn) :
    Calls Tryz.prog 30 #[.int .i64 1, .agg #[.int .u64 p, .int .i64 a, .int .i64 b, .int .i64 m], .agg #[.int .i64 0, .bool nx, .slice Ax lx cx, .int .i64 ex], .agg #[.int .i64 0, .bool ny, .slice Ay ly cy, .int .i64 ey]] w fun E w' => TellF w w' E f nz E0 R cn := by
  unfold TellF at *
  obtain ⟨l, hl⟩ : ∃ l, (digs R).length = l := ⟨_, rfl⟩
  simp only [hl] at hop ⊢
  replace hop := Lib.hid hop
  replace hl := Lib.hid hl
  go_enter Tryz.func30, Tryz.ntmps30
  go_wp2_with fail
  generalize hW : ((((w.alloc (.cells #[.int .u64 p, .int .i64 a, .int .i64 b, .int .i64 m] 35 (0, 0))).alloc (.cells #[.int .i64 0, .bool nx, .slice Ax lx cx, .int .i64 ex] 24 (0, 0))).alloc (.cells #[.int .i64 0, .bool ny, .slice Ay ly cy, .int .i64 ey] 24 (0, 0))).alloc (.cells #[.int .i64 0, .bool false, .slice none 0 0, .int .i64 0] 24 (0, 0))) = W
  have hC0 : Chg w W (fun _ => False) := by rw [← hW]; exact ((((Chg.refl w (fun _ => False)).alloc _).alloc _).alloc _).alloc _
  have hsz : W.heap.size = w.heap.size + 4 := by rw [← hW]; simp
  have hRs : W.heap[w.heap.size + 3]? = some (.cells #[.int .i64 0, .bool false, .slice none 0 0, .int .i64 0] 24 (0, 0)) := by rw [← hW]; exact allocB_at _ _ (by simp)
  clear hW
  replace hRs := Lib.hid hRs
  with_reducible refine (hop.out W hC0).mono ?_
  rintro e w5 ⟨q, cc, rfl, hq, hql, hch⟩
  have hR5 := hch.heapB hRs.out (fun h => h)
  have hQ5 := hC0.trans (hch.mono (fun _ _ h => h.elim))
  have r0 := cellB hR5 (i := 0) rfl
  have r1 := cellB hR5 (i := 1) rfl
  have r2 := cellB hR5 (i := 2) rfl
  have r3 := cellB hR5 (i := 3) rfl
  have rz0 := frozenB hR5 0
  have rz1 := frozenB hR5 1
  have rz2 := frozenB hR5 2
  have rz3 := frozenB hR5 3
  replace hR5 := Lib.hid hR5
  replace hQ5 := Lib.hid hQ5
  replace hq := Lib.hid hq
  replace hql := Lib.hid hql
  replace hsz := Lib.hid hsz
  clear hch hC0 hop hRs
  go_wp2
  have hfin := setB (i := 3) (v := .int .i64 E0) (setB (i := 2) (v := .slice q l cc) (setB (i := 1) (v := .bool nz) (setB (i := 0) (v := .int .i64 f) hR5.out)))
  have hc5 : Chg w5 _ (fun k => k = w.heap.size + 3) := ((((chg_setB w5 (w.heap.size + 3) 0 (.int .i64 f))).trans ((chg_setB _ (w.heap.size + 3) 1 (.bool nz)).mono (fun _ _ h => .inl h))).trans ((chg_setB _ (w.heap.size + 3) 2 (.slice q l cc)).mono (fun _ _ h => .inl h))).trans ((chg_setB _ (w.heap.size + 3) 3 (.int .i64 E0)).mono (fun _ _ h => .inl h))
  clear r0 r1 r2 r3 rz0 rz1 rz2 rz3
  generalize (((w5.setCell ⟨w.heap.size + 3, 0, none⟩ (.int .i64 f)).setCell ⟨w.heap.size + 3, 1, none⟩ (.bool nz)).setCell ⟨w.heap.size + 3, 2, none⟩ (.slice q l cc)).setCell ⟨w.heap.size + 3, 3, none⟩ (.int .i64 E0) = W9 at hfin hc5 ⊢
  have hcf : Chg w W9 (fun _ => False) := hQ5.out.trans (hc5.mono (fun k _ h => .inr (by omega)))
  have hq9 := hq.out.chgAt hc5 (fun ad ha h => by have h1 := hql.out ad ha; have h2 := hsz.out; omega)
  have hq0 : ∀ ad, q = some ad → w.heap.size ≤ ad.block := fun ad ha => by have h1 := hql.out ad ha; have h2 := hsz.out; omega
  have c0 : W9.cell? ⟨w.heap.size + 1 + 1 + 1, 0, none⟩ = some (.int .i64 f) := cellB hfin rfl
  have c1 : W9.cell? ⟨w.heap.size + 1 + 1 + 1, 1, none⟩ = some (.bool nz) := cellB hfin rfl
  have c2 : W9.cell? ⟨w.heap.size + 1 + 1 + 1, 2, none⟩ = some (.slice q l cc) := cellB hfin rfl
  have c3 : W9.cell? ⟨w.heap.size + 1 + 1 + 1, 3, none⟩ = some (.int .i64 E0) := cellB hfin rfl
  exact bodyPost_ret (v := .tuple #[.agg #[.int .i64 f, .bool nz, .slice q l cc, .int .i64 E0], .int .i64 (cn : Int), .bool true]) (by simp [results, Tryz.results30, go_sem, c0, c1, c2, c3]) rfl ⟨q, cc, rfl, hq9, hq0, hcf⟩
end Go.Proofs.YtcoljeafgiemkaaGreatDoor
namespace Go.Proofs.YtcoljeafgiemkaaGreatDoor
open Go Go.RowKit

set_option maxRecDepth 100000 in
set_option maxHeartbeats 2000000 in
theorem didFMul_c (w : World) (p a b m : Int) (ex ey f E0 : Int) (nx ny nz : Bool) (Ax Ay : Option Addr) (lx cx ly cy R cn : Nat)
    (hop : ∀ w1, Chg w w1 (fun _ => False) → Calls Tryz.prog 39 #[.agg #[.int .u64 p, .int .i64 a, .int .i64 b, .int .i64 m], .agg #[.int .i64 0, .bool nx, .slice Ax lx cx, .int .i64 ex], .agg #[.int .i64 0, .bool ny, .slice Ay ly cy, .int .i64 ey]] w1 fun E w' => TellF w1 w' E f nz E0 R cn) :
    Calls Tryz.prog 30 #[.int .i64 2, .agg #[.int .u64 p, .int .i64 a, .int .i64 b, .int .i64 m], .agg #[.int .i64 0, .bool nx, .slice Ax lx cx, .int .i64 ex], .agg #[.int .i64 0, .bool ny, .slice Ay ly cy, .int .i64 ey]] w fun E w' => TellF w w' E f nz E0 R cn := by
  unfold TellF at *
  obtain ⟨l, hl⟩ : ∃ l, (digs R).length = l := ⟨_, rfl⟩
  simp only [hl] at hop ⊢
  replace hop := Lib.hid hop
  replace hl := Lib.hid hl
  go_enter Tryz.func30, Tryz.ntmps30
  go_wp2_with fail
  generalize hW : ((((w.alloc (.cells #[.int .u64 p, .int .i64 a, .int .i64 b, .int .i64 m] 35 (0, 0))).alloc (.cells #[.int .i64 0, .bool nx, .slice Ax lx cx, .int .i64 ex] 24 (0, 0))).alloc (.cells #[.int .i64 0, .bool ny, .slice Ay ly cy, .int .i64 ey] 24 (0, 0))).alloc (.cells #[.int .i64 0, .bool false, .slice none 0 0, .int .i64 0] 24 (0, 0))) = W
  have hC0 : Chg w W (fun _ => False) := by rw [← hW]; exact ((((Chg.refl w (fun _ => False)).alloc _).alloc _).alloc _).alloc _
  have hsz : W.heap.size = w.heap.size + 4 := by rw [← hW]; simp
  have hRs : W.heap[w.heap.size + 3]? = some (.cells #[.int .i64 0, .bool false, .slice none 0 0, .int .i64 0] 24 (0, 0)) := by rw [← hW]; exact allocB_at _ _ (by simp)
  clear hW
  replace hRs := Lib.hid hRs
  with_reducible refine (hop.out W hC0).mono ?_
  rintro e w5 ⟨q, cc, rfl, hq, hql, hch⟩
  have hR5 := hch.heapB hRs.out (fun h => h)
  have hQ5 := hC0.trans (hch.mono (fun _ _ h => h.elim))
  have r0 := cellB hR5 (i := 0) rfl
  have r1 := cellB hR5 (i := 1) rfl
  have r2 := cellB hR5 (i := 2) rfl
  have r3 := cellB hR5 (i := 3) rfl
  have rz0 := frozenB hR5 0
  have rz1 := frozenB hR5 1
  have rz2 := frozenB hR5 2
  have rz3 := frozenB hR5 3
  replace hR5 := Lib.hid hR5
  replace hQ5 := Lib.hid hQ5
  replace hq := Lib.hid hq
  replace hql := Lib.hid hql
  replace hsz := Lib.hid hsz
  clear hch hC0 hop hRs
  go_wp2
  have hfin := setB (i := 3) (v := .int .i64 E0) (setB (i := 2) (v := .slice q l cc) (setB (i := 1) (v := .bool nz) (setB (i := 0) (v := .int .i64 f) hR5.out)))
  have hc5 : Chg w5 _ (fun k => k = w.heap.size + 3) := ((((chg_setB w5 (w.heap.size + 3) 0 (.int .i64 f))).trans ((chg_setB _ (w.heap.size + 3) 1 (.bool nz)).mono (fun _ _ h => .inl h))).trans ((chg_setB _ (w.heap.size + 3) 2 (.slice q l cc)).mono (fun _ _ h => .inl h))).trans ((chg_setB _ (w.heap.size + 3) 3 (.int .i64 E0)).mono (fun _ _ h => .inl h))
  clear r0 r1 r2 r3 rz0 rz1 rz2 rz3
  generalize (((w5.setCell ⟨w.heap.size + 3, 0, none⟩ (.int .i64 f)).setCell ⟨w.heap.size + 3, 1, none⟩ (.bool nz)).setCell ⟨w.heap.size + 3, 2, none⟩ (.slice q l cc)).setCell ⟨w.heap.size + 3, 3, none⟩ (.int .i64 E0) = W9 at hfin hc5 ⊢
  have hcf : Chg w W9 (fun _ => False) := hQ5.out.trans (hc5.mono (fun k _ h => .inr (by omega)))
  have hq9 := hq.out.chgAt hc5 (fun ad ha h => by have h1 := hql.out ad ha; have h2 := hsz.out; omega)
  have hq0 : ∀ ad, q = some ad → w.heap.size ≤ ad.block := fun ad ha => by have h1 := hql.out ad ha; have h2 := hsz.out; omega
  have c0 : W9.cell? ⟨w.heap.size + 1 + 1 + 1, 0, none⟩ = some (.int .i64 f) := cellB hfin rfl
  have c1 : W9.cell? ⟨w.heap.size + 1 + 1 + 1, 1, none⟩ = some (.bool nz) := cellB hfin rfl
  have c2 : W9.cell? ⟨w.heap.size + 1 + 1 + 1, 2, none⟩ = some (.slice q l cc) := cellB hfin rfl
  have c3 : W9.cell? ⟨w.heap.size + 1 + 1 + 1, 3, none⟩ = some (.int .i64 E0) := cellB hfin rfl
  exact bodyPost_ret (v := .tuple #[.agg #[.int .i64 f, .bool nz, .slice q l cc, .int .i64 E0], .int .i64 (cn : Int), .bool true]) (by simp [results, Tryz.results30, go_sem, c0, c1, c2, c3]) rfl ⟨q, cc, rfl, hq9, hq0, hcf⟩
end Go.Proofs.YtcoljeafgiemkaaGreatDoor
namespace Go.Proofs.YtcoljeafgiemkaaGreatDoor
open Go Go.RowKit

set_option maxRecDepth 100000 in
set_option maxHeartbeats 2000000 in
theorem didFQuo_c (w : World) (p a b m : Int) (ex ey f E0 : Int) (nx ny nz : Bool) (Ax Ay : Option Addr) (lx cx ly cy R cn : Nat)
    (hop : ∀ w1, Chg w w1 (fun _ => False) → Calls Tryz.prog 64 #[.agg #[.int .u64 p, .int .i64 a, .int .i64 b, .int .i64 m], .agg #[.int .i64 0, .bool nx, .slice Ax lx cx, .int .i64 ex], .agg #[.int .i64 0, .bool ny, .slice Ay ly cy, .int .i64 ey]] w1 fun E w' => TellF w1 w' E f nz E0 R cn) :
    Calls Tryz.prog 30 #[.int .i64 3, .agg #[.int .u64 p, .int .i64 a, .int .i64 b, .int .i64 m], .agg #[.int .i64 0, .bool nx, .slice Ax lx cx, .int .i64 ex], .agg #[.int .i64 0, .bool ny, .slice Ay ly cy, .int .i64 ey]] w fun E w' => TellF w w' E f nz E0 R cn := by
  unfold TellF at *
  obtain ⟨l, hl⟩ : ∃ l, (digs R).length = l := ⟨_, rfl⟩
  simp only [hl] at hop ⊢
  replace hop := Lib.hid hop
  replace hl := Lib.hid hl
  go_enter Tryz.func30, Tryz.ntmps30
  go_wp2_with fail
  generalize hW : ((((w.alloc (.cells #[.int .u64 p, .int .i64 a, .int .i64 b, .int .i64 m] 35 (0, 0))).alloc (.cells #[.int .i64 0, .bool nx, .slice Ax lx cx, .int .i64 ex] 24 (0, 0))).alloc (.cells #[.int .i64 0, .bool ny, .slice Ay ly cy, .int .i64 ey] 24 (0, 0))).alloc (.cells #[.int .i64 0, .bool false, .slice none 0 0, .int .i64 0] 24 (0, 0))) = W
  have hC0 : Chg w W (fun _ => False) := by rw [← hW]; exact ((((Chg.refl w (fun _ => False)).alloc _).alloc _).alloc _).alloc _
  have hsz : W.heap.size = w.heap.size + 4 := by rw [← hW]; simp
  have hRs : W.heap[w.heap.size + 3]? = some (.cells #[.int .i64 0, .bool false, .slice none 0 0, .int .i64 0] 24 (0, 0)) := by rw [← hW]; exact allocB_at _ _ (by simp)
  clear hW
  replace hRs := Lib.hid hRs
  with_reducible refine (hop.out W hC0).mono ?_
  rintro e w5 ⟨q, cc, rfl, hq, hql, hch⟩
  have hR5 := hch.heapB hRs.out (fun h => h)
  have hQ5 := hC0.trans (hch.mono (fun _ _ h => h.elim))
  have r0 := cellB hR5 (i := 0) rfl
  have r1 := cellB hR5 (i := 1) rfl
  have r2 := cellB hR5 (i := 2) rfl
  have r3 := cellB hR5 (i := 3) rfl
  have rz0 := frozenB hR5 0
  have rz1 := frozenB hR5 1
  have rz2 := frozenB hR5 2
  have rz3 := frozenB hR5 3
  replace hR5 := Lib.hid hR5
  replace hQ5 := Lib.hid hQ5
  replace hq := Lib.hid hq
  replace hql := Lib.hid hql
  replace hsz := Lib.hid hsz
  clear hch hC0 hop hRs
  go_wp2
  have hfin := setB (i := 3) (v := .int .i64 E0) (setB (i := 2) (v := .slice q l cc) (setB (i := 1) (v := .bool nz) (setB (i := 0) (v := .int .i64 f) hR5.out)))
  have hc5 : Chg w5 _ (fun k => k = w.heap.size + 3) := ((((chg_setB w5 (w.heap.size + 3) 0 (.int .i64 f))).trans ((chg_setB _ (w.heap.size + 3) 1 (.bool nz)).mono (fun _ _ h => .inl h))).trans ((chg_setB _ (w.heap.size + 3) 2 (.slice q l cc)).mono (fun _ _ h => .inl h))).trans ((chg_setB _ (w.heap.size + 3) 3 (.int .i64 E0)).mono (fun _ _ h => .inl h))
  clear r0 r1 r2 r3 rz0 rz1 rz2 rz3
  generalize (((w5.setCell ⟨w.heap.size + 3, 0, none⟩ (.int .i64 f)).setCell ⟨w.heap.size + 3, 1, none⟩ (.bool nz)).setCell ⟨w.heap.size + 3, 2, none⟩ (.slice q l cc)).setCell ⟨w.heap.size + 3, 3, none⟩ (.int .i64 E0) = W9 at hfin hc5 ⊢
  have hcf : Chg w W9 (fun _ => False) := hQ5.out.trans (hc5.mono (fun k _ h => .inr (by omega)))
  have hq9 := hq.out.chgAt hc5 (fun ad ha h => by have h1 := hql.out ad ha; have h2 := hsz.out; omega)
  have hq0 : ∀ ad, q = some ad → w.heap.size ≤ ad.block := fun ad ha => by have h1 := hql.out ad ha; have h2 := hsz.out; omega
  have c0 : W9.cell? ⟨w.heap.size + 1 + 1 + 1, 0, none⟩ = some (.int .i64 f) := cellB hfin rfl
  have c1 : W9.cell? ⟨w.heap.size + 1 + 1 + 1, 1, none⟩ = some (.bool nz) := cellB hfin rfl
  have c2 : W9.cell? ⟨w.heap.size + 1 + 1 + 1, 2, none⟩ = some (.slice q l cc) := cellB hfin rfl
  have c3 : W9.cell? ⟨w.heap.size + 1 + 1 + 1, 3, none⟩ = some (.int .i64 E0) := cellB hfin rfl
  exact bodyPost_ret (v := .tuple #[.agg #[.int .i64 f, .bool nz, .slice q l cc, .int .i64 E0], .int .i64 (cn : Int), .bool true]) (by simp [results, Tryz.results30, go_sem, c0, c1, c2, c3]) rfl ⟨q, cc, rfl, hq9, hq0, hcf⟩
end Go.Proofs.YtcoljeafgiemkaaGreatDoor
namespace Go.Proofs.YtcoljeafgiemkaaGreatDoor
open Go Go.RowKit

set_option maxRecDepth 100000 in
set_option maxHeartbeats 2000000 in
theorem didFQuoInteger_c (w : World) (p a b m : Int) (ex ey f E0 : Int) (nx ny nz : Bool) (Ax Ay : Option Addr) (lx cx ly cy R cn : Nat)
    (hop : ∀ w1, Chg w w1 (fun _ => False) → Calls Tryz.prog 65 #[.agg #[.int .u64 p, .int .i64 a, .int .i64 b, .int .i64 m], .agg #[.int .i64 0, .bool nx, .slice Ax lx cx, .int .i64 ex], .agg #[.int .i64 0, .bool ny, .slice Ay ly cy, .int .i64 ey]] w1 fun E w' => TellF w1 w' E f nz E0 R cn) :
    Calls Tryz.prog 30 #[.int .i64 4, .agg #[.int .u64 p, .int .i64 a, .int .i64 b, .int .i64 m], .agg #[.int .i64 0, .bool nx, .slice Ax lx cx, .int .i64 ex], .agg #[.int .i64 0, .bool ny, .slice Ay ly cy, .int .i64 ey]] w fun E w' => TellF w w' E f nz E0 R cn := by
  unfold TellF at *
  obtain ⟨l, hl⟩ : ∃ l, (digs R).length = l := ⟨_, rfl⟩
  simp only [hl] at hop ⊢
  replace hop := Lib.hid hop
  replace hl := Lib.hid hl
  go_enter Tryz.func30, Tryz.ntmps30
  go_wp2_with fail
  generalize hW : ((((w.alloc (.cells #[.int .u64 p, .int .i64 a, .int .i64 b, .int .i64 m] 35 (0, 0))).alloc (.cells #[.int .i64 0, .bool nx, .slice Ax lx cx, .int .i64 ex] 24 (0, 0))).alloc (.cells #[.int .i64 0, .bool ny, .slice Ay ly cy, .int .i64 ey] 24 (0, 0))).alloc (.cells #[.int .i64 0, .bool false, .slice none 0 0, .int .i64 0] 24 (0, 0))) = W
  have hC0 : Chg w W (fun _ => False) := by rw [← hW]; exact ((((Chg.refl w (fun _ => False)).alloc _).alloc _).alloc _).alloc _
  have hsz : W.heap.size = w.heap.size + 4 := by rw [← hW]; simp
  have hRs : W.heap[w.heap.size + 3]? = some (.cells #[.int .i64 0, .bool false, .slice none 0 0, .int .i64 0] 24 (0, 0)) := by rw [← hW]; exact allocB_at _ _ (by simp)
  clear hW
  replace hRs := Lib.hid hRs
  with_reducible refine (hop.out W hC0).mono ?_
  rintro e w5 ⟨q, cc, rfl, hq, hql, hch⟩
  have hR5 := hch.heapB hRs.out (fun h => h)
  have hQ5 := hC0.trans (hch.mono (fun _ _ h => h.elim))
  have r0 := cellB hR5 (i := 0) rfl
  have r1 := cellB hR5 (i := 1) rfl
  have r2 := cellB hR5 (i := 2) rfl
  have r3 := cellB hR5 (i := 3) rfl
  have rz0 := frozenB hR5 0
  have rz1 := frozenB hR5 1
  have rz2 := frozenB hR5 2
  have rz3 := frozenB hR5 3
  replace hR5 := Lib.hid hR5
  replace hQ5 := Lib.hid hQ5
  replace hq := Lib.hid hq
  replace hql := Lib.hid hql
  replace hsz := Lib.hid hsz
  clear hch hC0 hop hRs
  go_wp2
  have hfin := setB (i := 3) (v := .int .i64 E0) (setB (i := 2) (v := .slice q l cc) (setB (i := 1) (v := .bool nz) (setB (i := 0) (v := .int .i64 f) hR5.out)))
  have hc5 : Chg w5 _ (fun k => k = w.heap.size + 3) := ((((chg_setB w5 (w.heap.size + 3) 0 (.int .i64 f))).trans ((chg_setB _ (w.heap.size + 3) 1 (.bool nz)).mono (fun _ _ h => .inl h))).trans ((chg_setB _ (w.heap.size + 3) 2 (.slice q l cc)).mono (fun _ _ h => .inl h))).trans ((chg_setB _ (w.heap.size + 3) 3 (.int .i64 E0)).mono (fun _ _ h => .inl h))
  clear r0 r1 r2 r3 rz0 rz1 rz2 rz3
  generalize (((w5.setCell ⟨w.heap.size + 3, 0, none⟩ (.int .i64 f)).setCell ⟨w.heap.size + 3, 1, none⟩ (.bool nz)).setCell ⟨w.heap.size + 3, 2, none⟩ (.slice q l cc)).setCell ⟨w.heap.size + 3, 3, none⟩ (.int .i64 E0) = W9 at hfin hc5 ⊢
  have hcf : Chg w W9 (fun _ => False) := hQ5.out.trans (hc5.mono (fun k _ h => .inr (by omega)))
  have hq9 := hq.out.chgAt hc5 (fun ad ha h => by have h1 := hql.out ad ha; have h2 := hsz.out; omega)
  have hq0 : ∀ ad, q = some ad → w.heap.size ≤ ad.block := fun ad ha => by have h1 := hql.out ad ha; have h2 := hsz.out; omega
  have c0 : W9.cell? ⟨w.heap.size + 1 + 1 + 1, 0, none⟩ = some (.int .i64 f) := cellB hfin rfl
  have c1 : W9.cell? ⟨w.heap.size + 1 + 1 + 1, 1, none⟩ = some (.bool nz) := cellB hfin rfl
  have c2 : W9.cell? ⟨w.heap.size + 1 + 1 + 1, 2, none⟩ = some (.slice q l cc) := cellB hfin rfl
  have c3 : W9.cell? ⟨w.heap.size + 1 + 1 + 1, 3, none⟩ = some (.int .i64 E0) := cellB hfin rfl
  exact bodyPost_ret (v := .tuple #[.agg #[.int .i64 f, .bool nz, .slice q l cc, .int .i64 E0], .int .i64 (cn : Int), .bool true]) (by simp [results, Tryz.results30, go_sem, c0, c1, c2, c3]) rfl ⟨q, cc, rfl, hq9, hq0, hcf⟩
end Go.Proofs.YtcoljeafgiemkaaGreatDoor
namespace Go.Proofs.YtcoljeafgiemkaaGreatDoor
open Go Go.RowKit

set_option maxRecDepth 100000 in
set_option maxHeartbeats 2000000 in
theorem didFRem_c (w : World) (p a b m : Int) (ex ey f E0 : Int) (nx ny nz : Bool) (Ax Ay : Option Addr) (lx cx ly cy R cn : Nat)
    (hop : ∀ w1, Chg w w1 (fun _ => False) → Calls Tryz.prog 66 #[.agg #[.int .u64 p, .int .i64 a, .int .i64 b, .int .i64 m], .agg #[.int .i64 0, .bool nx, .slice Ax lx cx, .int .i64 ex], .agg #[.int .i64 0, .bool ny, .slice Ay ly cy, .int .i64 ey]] w1 fun E w' => TellF w1 w' E f nz E0 R cn) :
    Calls Tryz.prog 30 #[.int .i64 5, .agg #[.int .u64 p, .int .i64 a, .int .i64 b, .int .i64 m], .agg #[.int .i64 0, .bool nx, .slice Ax lx cx, .int .i64 ex], .agg #[.int .i64 0, .bool ny, .slice Ay ly cy, .int .i64 ey]] w fun E w' => TellF w w' E f nz E0 R cn := by
  unfold TellF at *
  obtain ⟨l, hl⟩ : ∃ l, (digs R).length = l := ⟨_, rfl⟩
  simp only [hl] at hop ⊢
  replace hop := Lib.hid hop
  replace hl := Lib.hid hl
  go_enter Tryz.func30, Tryz.ntmps30
  go_wp2_with fail
  generalize hW : ((((w.alloc (.cells #[.int .u64 p, .int .i64 a, .int .i64 b, .int .i64 m] 35 (0, 0))).alloc (.cells #[.int .i64 0, .bool nx, .slice Ax lx cx, .int .i64 ex] 24 (0, 0))).alloc (.cells #[.int .i64 0, .bool ny, .slice Ay ly cy, .int .i64 ey] 24 (0, 0))).alloc (.cells #[.int .i64 0, .bool false, .slice none 0 0, .int .i64 0] 24 (0, 0))) = W
  have hC0 : Chg w W (fun _ => False) := by rw [← hW]; exact ((((Chg.refl w (fun _ => False)).alloc _).alloc _).alloc _).alloc _
  have hsz : W.heap.size = w.heap.size + 4 := by rw [← hW]; simp
  have hRs : W.heap[w.heap.size + 3]? = some (.cells #[.int .i64 0, .bool false, .slice none 0 0, .int .i64 0] 24 (0, 0)) := by rw [← hW]; exact allocB_at _ _ (by simp)
  clear hW
  replace hRs := Lib.hid hRs
  with_reducible refine (hop.out W hC0).mono ?_
  rintro e w5 ⟨q, cc, rfl, hq, hql, hch⟩
  have hR5 := hch.heapB hRs.out (fun h => h)
  have hQ5 := hC0.trans (hch.mono (fun _ _ h => h.elim))
  have r0 := cellB hR5 (i := 0) rfl
  have r1 := cellB hR5 (i := 1) rfl
  have r2 := cellB hR5 (i := 2) rfl
  have r3 := cellB hR5 (i := 3) rfl
  have rz0 := frozenB hR5 0
  have rz1 := frozenB hR5 1
  have rz2 := frozenB hR5 2
  have rz3 := frozenB hR5 3
  replace hR5 := Lib.hid hR5
  replace hQ5 := Lib.hid hQ5
  replace hq := Lib.hid hq
  replace hql := Lib.hid hql
  replace hsz := Lib.hid hsz
  clear hch hC0 hop hRs
  go_wp2
  have hfin := setB (i := 3) (v := .int .i64 E0) (setB (i := 2) (v := .slice q l cc) (setB (i := 1) (v := .bool nz) (setB (i := 0) (v := .int .i64 f) hR5.out)))
  have hc5 : Chg w5 _ (fun k => k = w.heap.size + 3) := ((((chg_setB w5 (w.heap.size + 3) 0 (.int .i64 f))).trans ((chg_setB _ (w.heap.size + 3) 1 (.bool nz)).mono (fun _ _ h => .inl h))).trans ((chg_setB _ (w.heap.size + 3) 2 (.slice q l cc)).mono (fun _ _ h => .inl h))).trans ((chg_setB _ (w.heap.size + 3) 3 (.int .i64 E0)).mono (fun _ _ h => .inl h))
  clear r0 r1 r2 r3 rz0 rz1 rz2 rz3
  generalize (((w5.setCell ⟨w.heap.size + 3, 0, none⟩ (.int .i64 f)).setCell ⟨w.heap.size + 3, 1, none⟩ (.bool nz)).setCell ⟨w.heap.size + 3, 2, none⟩ (.slice q l cc)).setCell ⟨w.heap.size + 3, 3, none⟩ (.int .i64 E0) = W9 at hfin hc5 ⊢
  have hcf : Chg w W9 (fun _ => False) := hQ5.out.trans (hc5.mono (fun k _ h => .inr (by omega)))
  have hq9 := hq.out.chgAt hc5 (fun ad ha h => by have h1 := hql.out ad ha; have h2 := hsz.out; omega)
  have hq0 : ∀ ad, q = some ad → w.heap.size ≤ ad.block := fun ad ha => by have h1 := hql.out ad ha; have h2 := hsz.out; omega
  have c0 : W9.cell? ⟨w.heap.size + 1 + 1 + 1, 0, none⟩ = some (.int .i64 f) := cellB hfin rfl
  have c1 : W9.cell? ⟨w.heap.size + 1 + 1 + 1, 1, none⟩ = some (.bool nz) := cellB hfin rfl
  have c2 : W9.cell? ⟨w.heap.size + 1 + 1 + 1, 2, none⟩ = some (.slice q l cc) := cellB hfin rfl
  have c3 : W9.cell? ⟨w.heap.size + 1 + 1 + 1, 3, none⟩ = some (.int .i64 E0) := cellB hfin rfl
  exact bodyPost_ret (v := .tuple #[.agg #[.int .i64 f, .bool nz, .slice q l cc, .int .i64 E0], .int .i64 (cn : Int), .bool true]) (by simp [results, Tryz.results30, go_sem, c0, c1, c2, c3]) rfl ⟨q, cc, rfl, hq9, hq0, hcf⟩
end Go.Proofs.YtcoljeafgiemkaaGreatDoor
