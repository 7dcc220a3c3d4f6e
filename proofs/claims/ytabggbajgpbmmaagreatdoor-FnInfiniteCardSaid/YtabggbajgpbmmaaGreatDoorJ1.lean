/- The thin package's operations where the answer is infinite or no number. -/
import Derived.Test.YtabggbajgpbmmaaGreatDoorI9
namespace Go.Proofs.YtabggbajgpbmmaaGreatDoor
open Go Go.RowKit

def Anyp (_ : World) : Prop := True
theorem anyp (w : World) : Anyp w := trivial
/-- The boxes of a context and of two decimals as plain data. -/
def Bx3 (s : Nat) (p a b : Int) (m : Nat) (fx ex fy ey : Int) (nx ny : Bool) (Ax Ay : Option Addr) (lx cx ly cy : Nat) (w : World) : Prop :=
  w.heap[s]? = some (.cells #[.int .u64 p, .int .i64 a, .int .i64 b, .int .i64 (m : Int)] 37 (0, 0)) ∧ w.heap[s + 1]? = some (.cells #[.int .i64 fx, .bool nx, .slice Ax lx cx, .int .i64 ex] 24 (0, 0)) ∧ w.heap[s + 2]? = some (.cells #[.int .i64 fy, .bool ny, .slice Ay ly cy, .int .i64 ey] 24 (0, 0))
theorem Bx3.chg {s : Nat} {p a b : Int} {m : Nat} {fx ex fy ey : Int} {nx ny : Bool} {Ax Ay : Option Addr} {lx cx ly cy : Nat} {w w' : World} (h : Bx3 s p a b m fx ex fy ey nx ny Ax Ay lx cx ly cy w) (hc : Chg w w' (fun _ => False)) : Bx3 s p a b m fx ex fy ey nx ny Ax Ay lx cx ly cy w' :=
  ⟨hc.heapB h.1 (fun h => h), hc.heapB h.2.1 (fun h => h), hc.heapB h.2.2 (fun h => h)⟩
theorem Bx3.chgS {s : Nat} {p a b : Int} {m : Nat} {fx ex fy ey : Int} {nx ny : Bool} {Ax Ay : Option Addr} {lx cx ly cy : Nat} {w w' : World} {S : Nat → Prop} (h : Bx3 s p a b m fx ex fy ey nx ny Ax Ay lx cx ly cy w) (hc : Chg w w' S) (h0 : ¬ S s) (h1 : ¬ S (s + 1)) (h2 : ¬ S (s + 2)) : Bx3 s p a b m fx ex fy ey nx ny Ax Ay lx cx ly cy w' :=
  ⟨hc.heapB h.1 h0, hc.heapB h.2.1 h1, hc.heapB h.2.2 h2⟩
theorem Bx3.cells {s : Nat} {p a b : Int} {m : Nat} {fx ex fy ey : Int} {nx ny : Bool} {Ax Ay : Option Addr} {lx cx ly cy : Nat} {w : World} (h : Bx3 s p a b m fx ex fy ey nx ny Ax Ay lx cx ly cy w) :
    w.cell? ⟨s, 0, none⟩ = some (.int .u64 p) ∧ w.cell? ⟨s, 1, none⟩ = some (.int .i64 a) ∧ w.cell? ⟨s, 2, none⟩ = some (.int .i64 b) ∧ w.cell? ⟨s, 3, none⟩ = some (.int .i64 (m : Int)) ∧
    w.cell? ⟨s + 1, 0, none⟩ = some (.int .i64 fx) ∧ w.cell? ⟨s + 1, 1, none⟩ = some (.bool nx) ∧ w.cell? ⟨s + 1, 2, none⟩ = some (.slice Ax lx cx) ∧ w.cell? ⟨s + 1, 3, none⟩ = some (.int .i64 ex) ∧
    w.cell? ⟨s + 2, 0, none⟩ = some (.int .i64 fy) ∧ w.cell? ⟨s + 2, 1, none⟩ = some (.bool ny) ∧ w.cell? ⟨s + 2, 2, none⟩ = some (.slice Ay ly cy) ∧ w.cell? ⟨s + 2, 3, none⟩ = some (.int .i64 ey) :=
  ⟨cellB h.1 rfl, cellB h.1 rfl, cellB h.1 rfl, cellB h.1 rfl, cellB h.2.1 rfl, cellB h.2.1 rfl, cellB h.2.1 rfl, cellB h.2.1 rfl, cellB h.2.2 rfl, cellB h.2.2 rfl, cellB h.2.2 rfl, cellB h.2.2 rfl⟩
theorem allocB_at (w : World) (o : Obj) {k : Nat} (h : k = w.heap.size) : (w.alloc o).heap[k]? = some o := by subst h; exact allocB w o
theorem allocB_lt (w : World) (o : Obj) {k : Nat} (h : k < w.heap.size) : (w.alloc o).heap[k]? = w.heap[k]? := Below.heap_alloc _ _ _ h

set_option maxRecDepth 100000 in
set_option maxHeartbeats 4000000 in
theorem implAdd_c (w : World) (p a b : Int) (m : Nat) (fx ex fy ey : Int) (nx ny : Bool) (Ax Ay : Option Addr) (lx cx ly cy : Nat) (Px Py : World → Nat → Prop) (r : Nat) (f : Int) (n : Bool)
    (hm : m < 8) (hp : 0 ≤ p ∧ p ≤ 4294967295) (ha : -2147483648 ≤ a ∧ a ≤ 2147483647) (hb : -2147483648 ≤ b ∧ b ≤ 2147483647) (hr : r < 4096) (hf : f = 1 ∨ f = 2 ∨ f = 3)
    (sx : ∀ w1 w2 k, Px w1 k → Chg w1 w2 (fun _ => False) → Px w2 k) (sy : ∀ w1 w2 k, Py w1 k → Chg w1 w2 (fun _ => False) → Py w2 k)
    (hx : ∀ w1, Chg w w1 (fun _ => False) → Calls Tryz.prog 19 #[.agg #[.int .i64 fx, .bool nx, .slice Ax lx cx, .int .i64 ex]] w1 fun e w2 => ∃ k, e = .returned (.pointer (some ⟨k, 0, none⟩)) ∧ w1.heap.size ≤ k ∧ k < w2.heap.size ∧ Px w2 k ∧ Chg w1 w2 (fun _ => False))
    (hy : ∀ w1, Chg w w1 (fun _ => False) → Calls Tryz.prog 19 #[.agg #[.int .i64 fy, .bool ny, .slice Ay ly cy, .int .i64 ey]] w1 fun e w2 => ∃ k, e = .returned (.pointer (some ⟨k, 0, none⟩)) ∧ w1.heap.size ≤ k ∧ k < w2.heap.size ∧ Py w2 k ∧ Chg w1 w2 (fun _ => False))
    (hop : ∀ w1 c d x y, Chg w w1 (fun _ => False) → Ctx w1 c p a b (modeS m) → DecZ w1 d 0 false 0 → Px w1 x → Py w1 y → d ≠ x → d ≠ y → d ≠ c → x ≠ y → Calls Tryz.prog 57 #[.pointer (some ⟨c, 0, none⟩), .pointer (some ⟨d, 0, none⟩), .pointer (some ⟨x, 0, none⟩), .pointer (some ⟨y, 0, none⟩)] w1 (SpR w1 d r f n)) :
    Calls Tryz.prog 27 #[.agg #[.int .u64 p, .int .i64 a, .int .i64 b, .int .i64 (m : Int)], .agg #[.int .i64 fx, .bool nx, .slice Ax lx cx, .int .i64 ex], .agg #[.int .i64 fy, .bool ny, .slice Ay ly cy, .int .i64 ey]] w fun e w' =>
      e = .returned (.tuple #[.agg #[.int .i64 f, .bool n, .slice none 0 0, .int .i64 0], .int .i64 (condN r : Int), .bool true]) ∧ Chg w w' (fun _ => False) := by
  have kc := fun w => context_c w p a b m hm hp ha hb
  have kt := fun w d ex n h => toldZ_c w d f ex n h hf
  have kq := fun w => conditions_c w r hr
  replace kc := Lib.hid kc
  replace kt := Lib.hid kt
  replace kq := Lib.hid kq
  replace hx := Lib.hid hx
  replace hy := Lib.hid hy
  replace hop := Lib.hid hop
  replace sx := Lib.hid sx
  replace sy := Lib.hid sy
  clear hm hp ha hb hr hf
  go_enter Tryz.func27, Tryz.ntmps27
  go_wp2
  generalize hW : (((((w.alloc (.cells #[.int .u64 p, .int .i64 a, .int .i64 b, .int .i64 (m : Int)] 37 (0, 0))).alloc (.cells #[.int .i64 fx, .bool nx, .slice Ax lx cx, .int .i64 ex] 24 (0, 0))).alloc (.cells #[.int .i64 fy, .bool ny, .slice Ay ly cy, .int .i64 ey] 24 (0, 0))).alloc (.cells #[.int .i64 0, .bool false, .slice none 0 0, .int .i64 0] 24 (0, 0))).alloc (.cells #[.int .i8 0, .bool false, .int .i32 0, .bool false, .slice none 0 0, .bool false] 58 (0, 0))) = W
  have hC0 : Chg w W (fun _ => False) := by rw [← hW]; exact (((((Chg.refl w (fun _ => False)).alloc _).alloc _).alloc _).alloc _).alloc _
  have hsz : W.heap.size = w.heap.size + 5 := by rw [← hW]; simp
  have hBx : Bx3 w.heap.size p a b m fx ex fy ey nx ny Ax Ay lx cx ly cy W := by
    rw [← hW]
    refine ⟨?_, ?_, ?_⟩
    · exact allocB_old (allocB_old (allocB_old (allocB_old (allocB _ _))))
    · exact allocB_old (allocB_old (allocB_old (allocB_at _ _ (by simp))))
    · exact allocB_old (allocB_old (allocB_at _ _ (by simp)))
  have hRs : W.heap[w.heap.size + 3]? = some (.cells #[.int .i64 0, .bool false, .slice none 0 0, .int .i64 0] 24 (0, 0)) := by rw [← hW]; exact allocB_old (allocB_at _ _ (by simp))
  have hD0 : DecZ W (w.heap.size + 4) 0 false 0 := by rw [← hW]; exact allocB_at _ _ (by simp)
  clear hW
  have hBd : Bx3 w.heap.size p a b m fx ex fy ey nx ny Ax Ay lx cx ly cy W.drew := hBx
  have hS0 := hBd.cells
  replace hsz := Lib.hid hsz
  replace hBx := Lib.hid hBx
  replace hBd := Lib.hid hBd
  replace hRs := Lib.hid hRs
  replace hD0 := Lib.hid hD0
  replace hC0 := Lib.hid hC0
  go_region_held3 (fun w' => w'.cell? ⟨w.heap.size, 0, none⟩ = some (.int .u64 p) ∧ w'.cell? ⟨w.heap.size, 1, none⟩ = some (.int .i64 a) ∧ w'.cell? ⟨w.heap.size, 2, none⟩ = some (.int .i64 b) ∧ w'.cell? ⟨w.heap.size, 3, none⟩ = some (.int .i64 (m : Int)) ∧
    w'.cell? ⟨w.heap.size + 1, 0, none⟩ = some (.int .i64 fx) ∧ w'.cell? ⟨w.heap.size + 1, 1, none⟩ = some (.bool nx) ∧ w'.cell? ⟨w.heap.size + 1, 2, none⟩ = some (.slice Ax lx cx) ∧ w'.cell? ⟨w.heap.size + 1, 3, none⟩ = some (.int .i64 ex) ∧
    w'.cell? ⟨w.heap.size + 2, 0, none⟩ = some (.int .i64 fy) ∧ w'.cell? ⟨w.heap.size + 2, 1, none⟩ = some (.bool ny) ∧ w'.cell? ⟨w.heap.size + 2, 2, none⟩ = some (.slice Ay ly cy) ∧ w'.cell? ⟨w.heap.size + 2, 3, none⟩ = some (.int .i64 ey)) (first | exact hS0 | exact hS1 | exact hS2 | exact hS3 | exact hS4) (first
    | (go_at_call 17
       refine (kc.out _).mono ?_
       rintro e w1 ⟨c, rfl, hcl, hc1, hch1⟩
       have hB1 := hBd.out.chg hch1
       have hS1 := hB1.cells
       replace hc1 := Lib.hid hc1
       replace hB1 := Lib.hid hB1
       replace hch1 := Lib.hid hch1
       replace hcl := Lib.hid hcl)
    | (go_at_call_of 19 nx
       refine (hx.out _ (hC0.out.drew.trans (hch1.out.mono (fun _ _ h => h.elim)))).mono ?_
       rintro e w2 ⟨x, rfl, hxl, hxl2, hpx, hch2⟩
       have hB2 := hB1.out.chg hch2
       have hS2 := hB2.cells
       replace hpx := Lib.hid hpx
       replace hB2 := Lib.hid hB2
       replace hch2 := Lib.hid hch2
       replace hxl := Lib.hid hxl
       replace hxl2 := Lib.hid hxl2)
    | (go_at_call_of 19 ny
       refine (hy.out _ ((hC0.out.drew.trans (hch1.out.mono (fun _ _ h => h.elim))).trans (hch2.out.mono (fun _ _ h => h.elim)))).mono ?_
       rintro e w3 ⟨y, rfl, hyl, hyl2, hpy, hch3⟩
       have hB3 := hB2.out.chg hch3
       have hS3 := hB3.cells
       replace hpy := Lib.hid hpy
       replace hB3 := Lib.hid hB3
       replace hch3 := Lib.hid hch3
       replace hyl := Lib.hid hyl
       replace hyl2 := Lib.hid hyl2)
    | (go_at_call 57
       have hQ1 := (hC0.out.drew.trans (hch1.out.mono (fun _ _ h => h.elim))).trans (hch2.out.mono (fun _ _ h => h.elim))
       have hQ3 := hQ1.trans (hch3.out.mono (fun _ _ h => h.elim))
       have hcs := hcl.out
       have hz0 : W.drew.heap.size = w.heap.size + 5 := hsz.out
       have hz1 := hch1.out.size
       have hz2 := hch2.out.size
       have hxs := hxl.out
       have hxs2 := hxl2.out
       have hys := hyl.out
       have hc3 := (hc1.out.chg hch2.out (fun h => h)).chg hch3.out (fun h => h)
       have hd3 := ((DecZ.chg (w := W.drew) hD0.out hch1.out (fun h => h)).chg hch2.out (fun h => h)).chg hch3.out (fun h => h)
       have hR3 := hch3.out.heapB (hch2.out.heapB (hch1.out.heapB (w := W.drew) hRs.out (fun h => h)) (fun h => h)) (fun h => h)
       have hpx3 := sx.out _ _ _ hpx.out hch3.out
       refine (hop.out _ c (w.heap.size + 4) x y hQ3 hc3 hd3 hpx3 hpy.out (by omega) (by omega) (by omega) (by omega)).mono ?_
       rintro e w4 ⟨rfl, ⟨exd, hd4⟩, hch4⟩
       have hB4 := hB3.out.chgS hch4 (by omega) (by omega) (by omega)
       have hS4 := hB4.cells
       have hR4 := hch4.heapB hR3 (by omega)
       have hQ4 : Chg w w4 (fun _ => False) := hQ3.trans (hch4.mono (fun k _ h => .inr (by omega)))
       clear hR3 hpx3 hd3 hc3 hQ3 hQ1 hcs hz0 hz1 hz2 hxs hxs2 hys hB4
       replace hd4 := Lib.hid hd4
       replace hR4 := Lib.hid hR4
       replace hQ4 := Lib.hid hQ4))
  go_wp2
  clear hS0 hS1 hS2 hS3 hS4
  go_region_held3 (fun w' => Anyp w') (exact anyp _) (first
    | (go_at_call 20
       refine (kt.out w4.drew (w.heap.size + 1 + 1 + 1 + 1) exd n hd4.out).mono ?_
       rintro e w5 ⟨rfl, hch5⟩
       have hR5 := hch5.heapB (show w4.drew.heap[w.heap.size + 3]? = _ from hR4.out) (fun h => h)
       have hQ5 := hQ4.out.drew.trans (hch5.mono (fun _ _ h => h.elim))
       have r0 := cellB hR5 (i := 0) rfl
       have r1 := cellB hR5 (i := 1) rfl
       have r2 := cellB hR5 (i := 2) rfl
       have r3 := cellB hR5 (i := 3) rfl
       have rz0 := frozenB hR5 0
       have rz1 := frozenB hR5 1
       have rz2 := frozenB hR5 2
       have rz3 := frozenB hR5 3
       replace hR5 := Lib.hid hR5
       replace hQ5 := Lib.hid hQ5)
    | (go_at_call 21
       refine (kq.out _).mono ?_
       rintro e w6 ⟨rfl, hw⟩
       obtain rfl := hw))
  go_wp2
  have hfin := setB (i := 3) (v := .int .i64 0) (setB (i := 2) (v := .slice none 0 0) (setB (i := 1) (v := .bool n) (setB (i := 0) (v := .int .i64 f) hR5.out)))
  have hcf : Chg w _ (fun _ => False) := (((hQ5.out.trans ((chg_setB w5 (w.heap.size + 3) 0 (.int .i64 f)).mono (fun _ _ h => .inr (by omega)))).trans ((chg_setB _ (w.heap.size + 3) 1 (.bool n)).mono (fun _ _ h => .inr (by omega)))).trans ((chg_setB _ (w.heap.size + 3) 2 (.slice none 0 0)).mono (fun _ _ h => .inr (by omega)))).trans ((chg_setB _ (w.heap.size + 3) 3 (.int .i64 0)).mono (fun _ _ h => .inr (by omega)))
  clear r0 r1 r2 r3 rz0 rz1 rz2 rz3
  generalize (((w5.setCell ⟨w.heap.size + 3, 0, none⟩ (.int .i64 f)).setCell ⟨w.heap.size + 3, 1, none⟩ (.bool n)).setCell ⟨w.heap.size + 3, 2, none⟩ (.slice none 0 0)).setCell ⟨w.heap.size + 3, 3, none⟩ (.int .i64 0) = W9 at hfin hcf ⊢
  have c0 : W9.cell? ⟨w.heap.size + 1 + 1 + 1, 0, none⟩ = some (.int .i64 f) := cellB hfin rfl
  have c1 : W9.cell? ⟨w.heap.size + 1 + 1 + 1, 1, none⟩ = some (.bool n) := cellB hfin rfl
  have c2 : W9.cell? ⟨w.heap.size + 1 + 1 + 1, 2, none⟩ = some (.slice none 0 0) := cellB hfin rfl
  have c3 : W9.cell? ⟨w.heap.size + 1 + 1 + 1, 3, none⟩ = some (.int .i64 0) := cellB hfin rfl
  exact bodyPost_ret (v := .tuple #[.agg #[.int .i64 f, .bool n, .slice none 0 0, .int .i64 0], .int .i64 (condN r : Int), .bool true]) (by simp [results, Tryz.results27, go_sem, c0, c1, c2, c3]) rfl ⟨rfl, hcf⟩

set_option maxRecDepth 100000 in
set_option maxHeartbeats 4000000 in
theorem implSub_c (w : World) (p a b : Int) (m : Nat) (fx ex fy ey : Int) (nx ny : Bool) (Ax Ay : Option Addr) (lx cx ly cy : Nat) (Px Py : World → Nat → Prop) (r : Nat) (f : Int) (n : Bool)
    (hm : m < 8) (hp : 0 ≤ p ∧ p ≤ 4294967295) (ha : -2147483648 ≤ a ∧ a ≤ 2147483647) (hb : -2147483648 ≤ b ∧ b ≤ 2147483647) (hr : r < 4096) (hf : f = 1 ∨ f = 2 ∨ f = 3)
    (sx : ∀ w1 w2 k, Px w1 k → Chg w1 w2 (fun _ => False) → Px w2 k) (sy : ∀ w1 w2 k, Py w1 k → Chg w1 w2 (fun _ => False) → Py w2 k)
    (hx : ∀ w1, Chg w w1 (fun _ => False) → Calls Tryz.prog 19 #[.agg #[.int .i64 fx, .bool nx, .slice Ax lx cx, .int .i64 ex]] w1 fun e w2 => ∃ k, e = .returned (.pointer (some ⟨k, 0, none⟩)) ∧ w1.heap.size ≤ k ∧ k < w2.heap.size ∧ Px w2 k ∧ Chg w1 w2 (fun _ => False))
    (hy : ∀ w1, Chg w w1 (fun _ => False) → Calls Tryz.prog 19 #[.agg #[.int .i64 fy, .bool ny, .slice Ay ly cy, .int .i64 ey]] w1 fun e w2 => ∃ k, e = .returned (.pointer (some ⟨k, 0, none⟩)) ∧ w1.heap.size ≤ k ∧ k < w2.heap.size ∧ Py w2 k ∧ Chg w1 w2 (fun _ => False))
    (hop : ∀ w1 c d x y, Chg w w1 (fun _ => False) → Ctx w1 c p a b (modeS m) → DecZ w1 d 0 false 0 → Px w1 x → Py w1 y → d ≠ x → d ≠ y → d ≠ c → x ≠ y → Calls Tryz.prog 53 #[.pointer (some ⟨c, 0, none⟩), .pointer (some ⟨d, 0, none⟩), .pointer (some ⟨x, 0, none⟩), .pointer (some ⟨y, 0, none⟩)] w1 (SpR w1 d r f n)) :
    Calls Tryz.prog 23 #[.agg #[.int .u64 p, .int .i64 a, .int .i64 b, .int .i64 (m : Int)], .agg #[.int .i64 fx, .bool nx, .slice Ax lx cx, .int .i64 ex], .agg #[.int .i64 fy, .bool ny, .slice Ay ly cy, .int .i64 ey]] w fun e w' =>
      e = .returned (.tuple #[.agg #[.int .i64 f, .bool n, .slice none 0 0, .int .i64 0], .int .i64 (condN r : Int), .bool true]) ∧ Chg w w' (fun _ => False) := by
  have kc := fun w => context_c w p a b m hm hp ha hb
  have kt := fun w d ex n h => toldZ_c w d f ex n h hf
  have kq := fun w => conditions_c w r hr
  replace kc := Lib.hid kc
  replace kt := Lib.hid kt
  replace kq := Lib.hid kq
  replace hx := Lib.hid hx
  replace hy := Lib.hid hy
  replace hop := Lib.hid hop
  replace sx := Lib.hid sx
  replace sy := Lib.hid sy
  clear hm hp ha hb hr hf
  go_enter Tryz.func23, Tryz.ntmps23
  go_wp2
  generalize hW : (((((w.alloc (.cells #[.int .u64 p, .int .i64 a, .int .i64 b, .int .i64 (m : Int)] 37 (0, 0))).alloc (.cells #[.int .i64 fx, .bool nx, .slice Ax lx cx, .int .i64 ex] 24 (0, 0))).alloc (.cells #[.int .i64 fy, .bool ny, .slice Ay ly cy, .int .i64 ey] 24 (0, 0))).alloc (.cells #[.int .i64 0, .bool false, .slice none 0 0, .int .i64 0] 24 (0, 0))).alloc (.cells #[.int .i8 0, .bool false, .int .i32 0, .bool false, .slice none 0 0, .bool false] 58 (0, 0))) = W
  have hC0 : Chg w W (fun _ => False) := by rw [← hW]; exact (((((Chg.refl w (fun _ => False)).alloc _).alloc _).alloc _).alloc _).alloc _
  have hsz : W.heap.size = w.heap.size + 5 := by rw [← hW]; simp
  have hBx : Bx3 w.heap.size p a b m fx ex fy ey nx ny Ax Ay lx cx ly cy W := by
    rw [← hW]
    refine ⟨?_, ?_, ?_⟩
    · exact allocB_old (allocB_old (allocB_old (allocB_old (allocB _ _))))
    · exact allocB_old (allocB_old (allocB_old (allocB_at _ _ (by simp))))
    · exact allocB_old (allocB_old (allocB_at _ _ (by simp)))
  have hRs : W.heap[w.heap.size + 3]? = some (.cells #[.int .i64 0, .bool false, .slice none 0 0, .int .i64 0] 24 (0, 0)) := by rw [← hW]; exact allocB_old (allocB_at _ _ (by simp))
  have hD0 : DecZ W (w.heap.size + 4) 0 false 0 := by rw [← hW]; exact allocB_at _ _ (by simp)
  clear hW
  have hBd : Bx3 w.heap.size p a b m fx ex fy ey nx ny Ax Ay lx cx ly cy W.drew := hBx
  have hS0 := hBd.cells
  replace hsz := Lib.hid hsz
  replace hBx := Lib.hid hBx
  replace hBd := Lib.hid hBd
  replace hRs := Lib.hid hRs
  replace hD0 := Lib.hid hD0
  replace hC0 := Lib.hid hC0
  go_region_held3 (fun w' => w'.cell? ⟨w.heap.size, 0, none⟩ = some (.int .u64 p) ∧ w'.cell? ⟨w.heap.size, 1, none⟩ = some (.int .i64 a) ∧ w'.cell? ⟨w.heap.size, 2, none⟩ = some (.int .i64 b) ∧ w'.cell? ⟨w.heap.size, 3, none⟩ = some (.int .i64 (m : Int)) ∧
    w'.cell? ⟨w.heap.size + 1, 0, none⟩ = some (.int .i64 fx) ∧ w'.cell? ⟨w.heap.size + 1, 1, none⟩ = some (.bool nx) ∧ w'.cell? ⟨w.heap.size + 1, 2, none⟩ = some (.slice Ax lx cx) ∧ w'.cell? ⟨w.heap.size + 1, 3, none⟩ = some (.int .i64 ex) ∧
    w'.cell? ⟨w.heap.size + 2, 0, none⟩ = some (.int .i64 fy) ∧ w'.cell? ⟨w.heap.size + 2, 1, none⟩ = some (.bool ny) ∧ w'.cell? ⟨w.heap.size + 2, 2, none⟩ = some (.slice Ay ly cy) ∧ w'.cell? ⟨w.heap.size + 2, 3, none⟩ = some (.int .i64 ey)) (first | exact hS0 | exact hS1 | exact hS2 | exact hS3 | exact hS4) (first
    | (go_at_call 17
       refine (kc.out _).mono ?_
       rintro e w1 ⟨c, rfl, hcl, hc1, hch1⟩
       have hB1 := hBd.out.chg hch1
       have hS1 := hB1.cells
       replace hc1 := Lib.hid hc1
       replace hB1 := Lib.hid hB1
       replace hch1 := Lib.hid hch1
       replace hcl := Lib.hid hcl)
    | (go_at_call_of 19 nx
       refine (hx.out _ (hC0.out.drew.trans (hch1.out.mono (fun _ _ h => h.elim)))).mono ?_
       rintro e w2 ⟨x, rfl, hxl, hxl2, hpx, hch2⟩
       have hB2 := hB1.out.chg hch2
       have hS2 := hB2.cells
       replace hpx := Lib.hid hpx
       replace hB2 := Lib.hid hB2
       replace hch2 := Lib.hid hch2
       replace hxl := Lib.hid hxl
       replace hxl2 := Lib.hid hxl2)
    | (go_at_call_of 19 ny
       refine (hy.out _ ((hC0.out.drew.trans (hch1.out.mono (fun _ _ h => h.elim))).trans (hch2.out.mono (fun _ _ h => h.elim)))).mono ?_
       rintro e w3 ⟨y, rfl, hyl, hyl2, hpy, hch3⟩
       have hB3 := hB2.out.chg hch3
       have hS3 := hB3.cells
       replace hpy := Lib.hid hpy
       replace hB3 := Lib.hid hB3
       replace hch3 := Lib.hid hch3
       replace hyl := Lib.hid hyl
       replace hyl2 := Lib.hid hyl2)
    | (go_at_call 53
       have hQ1 := (hC0.out.drew.trans (hch1.out.mono (fun _ _ h => h.elim))).trans (hch2.out.mono (fun _ _ h => h.elim))
       have hQ3 := hQ1.trans (hch3.out.mono (fun _ _ h => h.elim))
       have hcs := hcl.out
       have hz0 : W.drew.heap.size = w.heap.size + 5 := hsz.out
       have hz1 := hch1.out.size
       have hz2 := hch2.out.size
       have hxs := hxl.out
       have hxs2 := hxl2.out
       have hys := hyl.out
       have hc3 := (hc1.out.chg hch2.out (fun h => h)).chg hch3.out (fun h => h)
       have hd3 := ((DecZ.chg (w := W.drew) hD0.out hch1.out (fun h => h)).chg hch2.out (fun h => h)).chg hch3.out (fun h => h)
       have hR3 := hch3.out.heapB (hch2.out.heapB (hch1.out.heapB (w := W.drew) hRs.out (fun h => h)) (fun h => h)) (fun h => h)
       have hpx3 := sx.out _ _ _ hpx.out hch3.out
       refine (hop.out _ c (w.heap.size + 4) x y hQ3 hc3 hd3 hpx3 hpy.out (by omega) (by omega) (by omega) (by omega)).mono ?_
       rintro e w4 ⟨rfl, ⟨exd, hd4⟩, hch4⟩
       have hB4 := hB3.out.chgS hch4 (by omega) (by omega) (by omega)
       have hS4 := hB4.cells
       have hR4 := hch4.heapB hR3 (by omega)
       have hQ4 : Chg w w4 (fun _ => False) := hQ3.trans (hch4.mono (fun k _ h => .inr (by omega)))
       clear hR3 hpx3 hd3 hc3 hQ3 hQ1 hcs hz0 hz1 hz2 hxs hxs2 hys hB4
       replace hd4 := Lib.hid hd4
       replace hR4 := Lib.hid hR4
       replace hQ4 := Lib.hid hQ4))
  go_wp2
  clear hS0 hS1 hS2 hS3 hS4
  go_region_held3 (fun w' => Anyp w') (exact anyp _) (first
    | (go_at_call 20
       refine (kt.out w4.drew (w.heap.size + 1 + 1 + 1 + 1) exd n hd4.out).mono ?_
       rintro e w5 ⟨rfl, hch5⟩
       have hR5 := hch5.heapB (show w4.drew.heap[w.heap.size + 3]? = _ from hR4.out) (fun h => h)
       have hQ5 := hQ4.out.drew.trans (hch5.mono (fun _ _ h => h.elim))
       have r0 := cellB hR5 (i := 0) rfl
       have r1 := cellB hR5 (i := 1) rfl
       have r2 := cellB hR5 (i := 2) rfl
       have r3 := cellB hR5 (i := 3) rfl
       have rz0 := frozenB hR5 0
       have rz1 := frozenB hR5 1
       have rz2 := frozenB hR5 2
       have rz3 := frozenB hR5 3
       replace hR5 := Lib.hid hR5
       replace hQ5 := Lib.hid hQ5)
    | (go_at_call 21
       refine (kq.out _).mono ?_
       rintro e w6 ⟨rfl, hw⟩
       obtain rfl := hw))
  go_wp2
  have hfin := setB (i := 3) (v := .int .i64 0) (setB (i := 2) (v := .slice none 0 0) (setB (i := 1) (v := .bool n) (setB (i := 0) (v := .int .i64 f) hR5.out)))
  have hcf : Chg w _ (fun _ => False) := (((hQ5.out.trans ((chg_setB w5 (w.heap.size + 3) 0 (.int .i64 f)).mono (fun _ _ h => .inr (by omega)))).trans ((chg_setB _ (w.heap.size + 3) 1 (.bool n)).mono (fun _ _ h => .inr (by omega)))).trans ((chg_setB _ (w.heap.size + 3) 2 (.slice none 0 0)).mono (fun _ _ h => .inr (by omega)))).trans ((chg_setB _ (w.heap.size + 3) 3 (.int .i64 0)).mono (fun _ _ h => .inr (by omega)))
  clear r0 r1 r2 r3 rz0 rz1 rz2 rz3
  generalize (((w5.setCell ⟨w.heap.size + 3, 0, none⟩ (.int .i64 f)).setCell ⟨w.heap.size + 3, 1, none⟩ (.bool n)).setCell ⟨w.heap.size + 3, 2, none⟩ (.slice none 0 0)).setCell ⟨w.heap.size + 3, 3, none⟩ (.int .i64 0) = W9 at hfin hcf ⊢
  have c0 : W9.cell? ⟨w.heap.size + 1 + 1 + 1, 0, none⟩ = some (.int .i64 f) := cellB hfin rfl
  have c1 : W9.cell? ⟨w.heap.size + 1 + 1 + 1, 1, none⟩ = some (.bool n) := cellB hfin rfl
  have c2 : W9.cell? ⟨w.heap.size + 1 + 1 + 1, 2, none⟩ = some (.slice none 0 0) := cellB hfin rfl
  have c3 : W9.cell? ⟨w.heap.size + 1 + 1 + 1, 3, none⟩ = some (.int .i64 0) := cellB hfin rfl
  exact bodyPost_ret (v := .tuple #[.agg #[.int .i64 f, .bool n, .slice none 0 0, .int .i64 0], .int .i64 (condN r : Int), .bool true]) (by simp [results, Tryz.results23, go_sem, c0, c1, c2, c3]) rfl ⟨rfl, hcf⟩

set_option maxRecDepth 100000 in
set_option maxHeartbeats 4000000 in
theorem implMul_c (w : World) (p a b : Int) (m : Nat) (fx ex fy ey : Int) (nx ny : Bool) (Ax Ay : Option Addr) (lx cx ly cy : Nat) (Px Py : World → Nat → Prop) (r : Nat) (f : Int) (n : Bool)
    (hm : m < 8) (hp : 0 ≤ p ∧ p ≤ 4294967295) (ha : -2147483648 ≤ a ∧ a ≤ 2147483647) (hb : -2147483648 ≤ b ∧ b ≤ 2147483647) (hr : r < 4096) (hf : f = 1 ∨ f = 2 ∨ f = 3)
    (sx : ∀ w1 w2 k, Px w1 k → Chg w1 w2 (fun _ => False) → Px w2 k) (sy : ∀ w1 w2 k, Py w1 k → Chg w1 w2 (fun _ => False) → Py w2 k)
    (hx : ∀ w1, Chg w w1 (fun _ => False) → Calls Tryz.prog 19 #[.agg #[.int .i64 fx, .bool nx, .slice Ax lx cx, .int .i64 ex]] w1 fun e w2 => ∃ k, e = .returned (.pointer (some ⟨k, 0, none⟩)) ∧ w1.heap.size ≤ k ∧ k < w2.heap.size ∧ Px w2 k ∧ Chg w1 w2 (fun _ => False))
    (hy : ∀ w1, Chg w w1 (fun _ => False) → Calls Tryz.prog 19 #[.agg #[.int .i64 fy, .bool ny, .slice Ay ly cy, .int .i64 ey]] w1 fun e w2 => ∃ k, e = .returned (.pointer (some ⟨k, 0, none⟩)) ∧ w1.heap.size ≤ k ∧ k < w2.heap.size ∧ Py w2 k ∧ Chg w1 w2 (fun _ => False))
    (hop : ∀ w1 c d x y, Chg w w1 (fun _ => False) → Ctx w1 c p a b (modeS m) → DecZ w1 d 0 false 0 → Px w1 x → Py w1 y → d ≠ x → d ≠ y → d ≠ c → x ≠ y → Calls Tryz.prog 54 #[.pointer (some ⟨c, 0, none⟩), .pointer (some ⟨d, 0, none⟩), .pointer (some ⟨x, 0, none⟩), .pointer (some ⟨y, 0, none⟩)] w1 (SpR w1 d r f n)) :
    Calls Tryz.prog 24 #[.agg #[.int .u64 p, .int .i64 a, .int .i64 b, .int .i64 (m : Int)], .agg #[.int .i64 fx, .bool nx, .slice Ax lx cx, .int .i64 ex], .agg #[.int .i64 fy, .bool ny, .slice Ay ly cy, .int .i64 ey]] w fun e w' =>
      e = .returned (.tuple #[.agg #[.int .i64 f, .bool n, .slice none 0 0, .int .i64 0], .int .i64 (condN r : Int), .bool true]) ∧ Chg w w' (fun _ => False) := by
  have kc := fun w => context_c w p a b m hm hp ha hb
  have kt := fun w d ex n h => toldZ_c w d f ex n h hf
  have kq := fun w => conditions_c w r hr
  replace kc := Lib.hid kc
  replace kt := Lib.hid kt
  replace kq := Lib.hid kq
  replace hx := Lib.hid hx
  replace hy := Lib.hid hy
  replace hop := Lib.hid hop
  replace sx := Lib.hid sx
  replace sy := Lib.hid sy
  clear hm hp ha hb hr hf
  go_enter Tryz.func24, Tryz.ntmps24
  go_wp2
  generalize hW : (((((w.alloc (.cells #[.int .u64 p, .int .i64 a, .int .i64 b, .int .i64 (m : Int)] 37 (0, 0))).alloc (.cells #[.int .i64 fx, .bool nx, .slice Ax lx cx, .int .i64 ex] 24 (0, 0))).alloc (.cells #[.int .i64 fy, .bool ny, .slice Ay ly cy, .int .i64 ey] 24 (0, 0))).alloc (.cells #[.int .i64 0, .bool false, .slice none 0 0, .int .i64 0] 24 (0, 0))).alloc (.cells #[.int .i8 0, .bool false, .int .i32 0, .bool false, .slice none 0 0, .bool false] 58 (0, 0))) = W
  have hC0 : Chg w W (fun _ => False) := by rw [← hW]; exact (((((Chg.refl w (fun _ => False)).alloc _).alloc _).alloc _).alloc _).alloc _
  have hsz : W.heap.size = w.heap.size + 5 := by rw [← hW]; simp
  have hBx : Bx3 w.heap.size p a b m fx ex fy ey nx ny Ax Ay lx cx ly cy W := by
    rw [← hW]
    refine ⟨?_, ?_, ?_⟩
    · exact allocB_old (allocB_old (allocB_old (allocB_old (allocB _ _))))
    · exact allocB_old (allocB_old (allocB_old (allocB_at _ _ (by simp))))
    · exact allocB_old (allocB_old (allocB_at _ _ (by simp)))
  have hRs : W.heap[w.heap.size + 3]? = some (.cells #[.int .i64 0, .bool false, .slice none 0 0, .int .i64 0] 24 (0, 0)) := by rw [← hW]; exact allocB_old (allocB_at _ _ (by simp))
  have hD0 : DecZ W (w.heap.size + 4) 0 false 0 := by rw [← hW]; exact allocB_at _ _ (by simp)
  clear hW
  have hBd : Bx3 w.heap.size p a b m fx ex fy ey nx ny Ax Ay lx cx ly cy W.drew := hBx
  have hS0 := hBd.cells
  replace hsz := Lib.hid hsz
  replace hBx := Lib.hid hBx
  replace hBd := Lib.hid hBd
  replace hRs := Lib.hid hRs
  replace hD0 := Lib.hid hD0
  replace hC0 := Lib.hid hC0
  go_region_held3 (fun w' => w'.cell? ⟨w.heap.size, 0, none⟩ = some (.int .u64 p) ∧ w'.cell? ⟨w.heap.size, 1, none⟩ = some (.int .i64 a) ∧ w'.cell? ⟨w.heap.size, 2, none⟩ = some (.int .i64 b) ∧ w'.cell? ⟨w.heap.size, 3, none⟩ = some (.int .i64 (m : Int)) ∧
    w'.cell? ⟨w.heap.size + 1, 0, none⟩ = some (.int .i64 fx) ∧ w'.cell? ⟨w.heap.size + 1, 1, none⟩ = some (.bool nx) ∧ w'.cell? ⟨w.heap.size + 1, 2, none⟩ = some (.slice Ax lx cx) ∧ w'.cell? ⟨w.heap.size + 1, 3, none⟩ = some (.int .i64 ex) ∧
    w'.cell? ⟨w.heap.size + 2, 0, none⟩ = some (.int .i64 fy) ∧ w'.cell? ⟨w.heap.size + 2, 1, none⟩ = some (.bool ny) ∧ w'.cell? ⟨w.heap.size + 2, 2, none⟩ = some (.slice Ay ly cy) ∧ w'.cell? ⟨w.heap.size + 2, 3, none⟩ = some (.int .i64 ey)) (first | exact hS0 | exact hS1 | exact hS2 | exact hS3 | exact hS4) (first
    | (go_at_call 17
       refine (kc.out _).mono ?_
       rintro e w1 ⟨c, rfl, hcl, hc1, hch1⟩
       have hB1 := hBd.out.chg hch1
       have hS1 := hB1.cells
       replace hc1 := Lib.hid hc1
       replace hB1 := Lib.hid hB1
       replace hch1 := Lib.hid hch1
       replace hcl := Lib.hid hcl)
    | (go_at_call_of 19 nx
       refine (hx.out _ (hC0.out.drew.trans (hch1.out.mono (fun _ _ h => h.elim)))).mono ?_
       rintro e w2 ⟨x, rfl, hxl, hxl2, hpx, hch2⟩
       have hB2 := hB1.out.chg hch2
       have hS2 := hB2.cells
       replace hpx := Lib.hid hpx
       replace hB2 := Lib.hid hB2
       replace hch2 := Lib.hid hch2
       replace hxl := Lib.hid hxl
       replace hxl2 := Lib.hid hxl2)
    | (go_at_call_of 19 ny
       refine (hy.out _ ((hC0.out.drew.trans (hch1.out.mono (fun _ _ h => h.elim))).trans (hch2.out.mono (fun _ _ h => h.elim)))).mono ?_
       rintro e w3 ⟨y, rfl, hyl, hyl2, hpy, hch3⟩
       have hB3 := hB2.out.chg hch3
       have hS3 := hB3.cells
       replace hpy := Lib.hid hpy
       replace hB3 := Lib.hid hB3
       replace hch3 := Lib.hid hch3
       replace hyl := Lib.hid hyl
       replace hyl2 := Lib.hid hyl2)
    | (go_at_call 54
       have hQ1 := (hC0.out.drew.trans (hch1.out.mono (fun _ _ h => h.elim))).trans (hch2.out.mono (fun _ _ h => h.elim))
       have hQ3 := hQ1.trans (hch3.out.mono (fun _ _ h => h.elim))
       have hcs := hcl.out
       have hz0 : W.drew.heap.size = w.heap.size + 5 := hsz.out
       have hz1 := hch1.out.size
       have hz2 := hch2.out.size
       have hxs := hxl.out
       have hxs2 := hxl2.out
       have hys := hyl.out
       have hc3 := (hc1.out.chg hch2.out (fun h => h)).chg hch3.out (fun h => h)
       have hd3 := ((DecZ.chg (w := W.drew) hD0.out hch1.out (fun h => h)).chg hch2.out (fun h => h)).chg hch3.out (fun h => h)
       have hR3 := hch3.out.heapB (hch2.out.heapB (hch1.out.heapB (w := W.drew) hRs.out (fun h => h)) (fun h => h)) (fun h => h)
       have hpx3 := sx.out _ _ _ hpx.out hch3.out
       refine (hop.out _ c (w.heap.size + 4) x y hQ3 hc3 hd3 hpx3 hpy.out (by omega) (by omega) (by omega) (by omega)).mono ?_
       rintro e w4 ⟨rfl, ⟨exd, hd4⟩, hch4⟩
       have hB4 := hB3.out.chgS hch4 (by omega) (by omega) (by omega)
       have hS4 := hB4.cells
       have hR4 := hch4.heapB hR3 (by omega)
       have hQ4 : Chg w w4 (fun _ => False) := hQ3.trans (hch4.mono (fun k _ h => .inr (by omega)))
       clear hR3 hpx3 hd3 hc3 hQ3 hQ1 hcs hz0 hz1 hz2 hxs hxs2 hys hB4
       replace hd4 := Lib.hid hd4
       replace hR4 := Lib.hid hR4
       replace hQ4 := Lib.hid hQ4))
  go_wp2
  clear hS0 hS1 hS2 hS3 hS4
  go_region_held3 (fun w' => Anyp w') (exact anyp _) (first
    | (go_at_call 20
       refine (kt.out w4.drew (w.heap.size + 1 + 1 + 1 + 1) exd n hd4.out).mono ?_
       rintro e w5 ⟨rfl, hch5⟩
       have hR5 := hch5.heapB (show w4.drew.heap[w.heap.size + 3]? = _ from hR4.out) (fun h => h)
       have hQ5 := hQ4.out.drew.trans (hch5.mono (fun _ _ h => h.elim))
       have r0 := cellB hR5 (i := 0) rfl
       have r1 := cellB hR5 (i := 1) rfl
       have r2 := cellB hR5 (i := 2) rfl
       have r3 := cellB hR5 (i := 3) rfl
       have rz0 := frozenB hR5 0
       have rz1 := frozenB hR5 1
       have rz2 := frozenB hR5 2
       have rz3 := frozenB hR5 3
       replace hR5 := Lib.hid hR5
       replace hQ5 := Lib.hid hQ5)
    | (go_at_call 21
       refine (kq.out _).mono ?_
       rintro e w6 ⟨rfl, hw⟩
       obtain rfl := hw))
  go_wp2
  have hfin := setB (i := 3) (v := .int .i64 0) (setB (i := 2) (v := .slice none 0 0) (setB (i := 1) (v := .bool n) (setB (i := 0) (v := .int .i64 f) hR5.out)))
  have hcf : Chg w _ (fun _ => False) := (((hQ5.out.trans ((chg_setB w5 (w.heap.size + 3) 0 (.int .i64 f)).mono (fun _ _ h => .inr (by omega)))).trans ((chg_setB _ (w.heap.size + 3) 1 (.bool n)).mono (fun _ _ h => .inr (by omega)))).trans ((chg_setB _ (w.heap.size + 3) 2 (.slice none 0 0)).mono (fun _ _ h => .inr (by omega)))).trans ((chg_setB _ (w.heap.size + 3) 3 (.int .i64 0)).mono (fun _ _ h => .inr (by omega)))
  clear r0 r1 r2 r3 rz0 rz1 rz2 rz3
  generalize (((w5.setCell ⟨w.heap.size + 3, 0, none⟩ (.int .i64 f)).setCell ⟨w.heap.size + 3, 1, none⟩ (.bool n)).setCell ⟨w.heap.size + 3, 2, none⟩ (.slice none 0 0)).setCell ⟨w.heap.size + 3, 3, none⟩ (.int .i64 0) = W9 at hfin hcf ⊢
  have c0 : W9.cell? ⟨w.heap.size + 1 + 1 + 1, 0, none⟩ = some (.int .i64 f) := cellB hfin rfl
  have c1 : W9.cell? ⟨w.heap.size + 1 + 1 + 1, 1, none⟩ = some (.bool n) := cellB hfin rfl
  have c2 : W9.cell? ⟨w.heap.size + 1 + 1 + 1, 2, none⟩ = some (.slice none 0 0) := cellB hfin rfl
  have c3 : W9.cell? ⟨w.heap.size + 1 + 1 + 1, 3, none⟩ = some (.int .i64 0) := cellB hfin rfl
  exact bodyPost_ret (v := .tuple #[.agg #[.int .i64 f, .bool n, .slice none 0 0, .int .i64 0], .int .i64 (condN r : Int), .bool true]) (by simp [results, Tryz.results24, go_sem, c0, c1, c2, c3]) rfl ⟨rfl, hcf⟩

set_option maxRecDepth 100000 in
set_option maxHeartbeats 4000000 in
theorem implQuo_c (w : World) (p a b : Int) (m : Nat) (fx ex fy ey : Int) (nx ny : Bool) (Ax Ay : Option Addr) (lx cx ly cy : Nat) (Px Py : World → Nat → Prop) (r : Nat) (f : Int) (n : Bool)
    (hm : m < 8) (hp : 0 ≤ p ∧ p ≤ 4294967295) (ha : -2147483648 ≤ a ∧ a ≤ 2147483647) (hb : -2147483648 ≤ b ∧ b ≤ 2147483647) (hr : r < 4096) (hf : f = 1 ∨ f = 2 ∨ f = 3)
    (sx : ∀ w1 w2 k, Px w1 k → Chg w1 w2 (fun _ => False) → Px w2 k) (sy : ∀ w1 w2 k, Py w1 k → Chg w1 w2 (fun _ => False) → Py w2 k)
    (hx : ∀ w1, Chg w w1 (fun _ => False) → Calls Tryz.prog 19 #[.agg #[.int .i64 fx, .bool nx, .slice Ax lx cx, .int .i64 ex]] w1 fun e w2 => ∃ k, e = .returned (.pointer (some ⟨k, 0, none⟩)) ∧ w1.heap.size ≤ k ∧ k < w2.heap.size ∧ Px w2 k ∧ Chg w1 w2 (fun _ => False))
    (hy : ∀ w1, Chg w w1 (fun _ => False) → Calls Tryz.prog 19 #[.agg #[.int .i64 fy, .bool ny, .slice Ay ly cy, .int .i64 ey]] w1 fun e w2 => ∃ k, e = .returned (.pointer (some ⟨k, 0, none⟩)) ∧ w1.heap.size ≤ k ∧ k < w2.heap.size ∧ Py w2 k ∧ Chg w1 w2 (fun _ => False))
    (hop : ∀ w1 c d x y, Chg w w1 (fun _ => False) → Ctx w1 c p a b (modeS m) → DecZ w1 d 0 false 0 → Px w1 x → Py w1 y → d ≠ x → d ≠ y → d ≠ c → x ≠ y → Calls Tryz.prog 18 #[.pointer (some ⟨c, 0, none⟩), .pointer (some ⟨d, 0, none⟩), .pointer (some ⟨x, 0, none⟩), .pointer (some ⟨y, 0, none⟩)] w1 (SpR w1 d r f n)) :
    Calls Tryz.prog 12 #[.agg #[.int .u64 p, .int .i64 a, .int .i64 b, .int .i64 (m : Int)], .agg #[.int .i64 fx, .bool nx, .slice Ax lx cx, .int .i64 ex], .agg #[.int .i64 fy, .bool ny, .slice Ay ly cy, .int .i64 ey]] w fun e w' =>
      e = .returned (.tuple #[.agg #[.int .i64 f, .bool n, .slice none 0 0, .int .i64 0], .int .i64 (condN r : Int), .bool true]) ∧ Chg w w' (fun _ => False) := by
  have kc := fun w => context_c w p a b m hm hp ha hb
  have kt := fun w d ex n h => toldZ_c w d f ex n h hf
  have kq := fun w => conditions_c w r hr
  replace kc := Lib.hid kc
  replace kt := Lib.hid kt
  replace kq := Lib.hid kq
  replace hx := Lib.hid hx
  replace hy := Lib.hid hy
  replace hop := Lib.hid hop
  replace sx := Lib.hid sx
  replace sy := Lib.hid sy
  clear hm hp ha hb hr hf
  go_enter Tryz.func12, Tryz.ntmps12
  go_wp2
  generalize hW : (((((w.alloc (.cells #[.int .u64 p, .int .i64 a, .int .i64 b, .int .i64 (m : Int)] 37 (0, 0))).alloc (.cells #[.int .i64 fx, .bool nx, .slice Ax lx cx, .int .i64 ex] 24 (0, 0))).alloc (.cells #[.int .i64 fy, .bool ny, .slice Ay ly cy, .int .i64 ey] 24 (0, 0))).alloc (.cells #[.int .i64 0, .bool false, .slice none 0 0, .int .i64 0] 24 (0, 0))).alloc (.cells #[.int .i8 0, .bool false, .int .i32 0, .bool false, .slice none 0 0, .bool false] 58 (0, 0))) = W
  have hC0 : Chg w W (fun _ => False) := by rw [← hW]; exact (((((Chg.refl w (fun _ => False)).alloc _).alloc _).alloc _).alloc _).alloc _
  have hsz : W.heap.size = w.heap.size + 5 := by rw [← hW]; simp
  have hBx : Bx3 w.heap.size p a b m fx ex fy ey nx ny Ax Ay lx cx ly cy W := by
    rw [← hW]
    refine ⟨?_, ?_, ?_⟩
    · exact allocB_old (allocB_old (allocB_old (allocB_old (allocB _ _))))
    · exact allocB_old (allocB_old (allocB_old (allocB_at _ _ (by simp))))
    · exact allocB_old (allocB_old (allocB_at _ _ (by simp)))
  have hRs : W.heap[w.heap.size + 3]? = some (.cells #[.int .i64 0, .bool false, .slice none 0 0, .int .i64 0] 24 (0, 0)) := by rw [← hW]; exact allocB_old (allocB_at _ _ (by simp))
  have hD0 : DecZ W (w.heap.size + 4) 0 false 0 := by rw [← hW]; exact allocB_at _ _ (by simp)
  clear hW
  have hBd : Bx3 w.heap.size p a b m fx ex fy ey nx ny Ax Ay lx cx ly cy W.drew := hBx
  have hS0 := hBd.cells
  replace hsz := Lib.hid hsz
  replace hBx := Lib.hid hBx
  replace hBd := Lib.hid hBd
  replace hRs := Lib.hid hRs
  replace hD0 := Lib.hid hD0
  replace hC0 := Lib.hid hC0
  go_region_held3 (fun w' => w'.cell? ⟨w.heap.size, 0, none⟩ = some (.int .u64 p) ∧ w'.cell? ⟨w.heap.size, 1, none⟩ = some (.int .i64 a) ∧ w'.cell? ⟨w.heap.size, 2, none⟩ = some (.int .i64 b) ∧ w'.cell? ⟨w.heap.size, 3, none⟩ = some (.int .i64 (m : Int)) ∧
    w'.cell? ⟨w.heap.size + 1, 0, none⟩ = some (.int .i64 fx) ∧ w'.cell? ⟨w.heap.size + 1, 1, none⟩ = some (.bool nx) ∧ w'.cell? ⟨w.heap.size + 1, 2, none⟩ = some (.slice Ax lx cx) ∧ w'.cell? ⟨w.heap.size + 1, 3, none⟩ = some (.int .i64 ex) ∧
    w'.cell? ⟨w.heap.size + 2, 0, none⟩ = some (.int .i64 fy) ∧ w'.cell? ⟨w.heap.size + 2, 1, none⟩ = some (.bool ny) ∧ w'.cell? ⟨w.heap.size + 2, 2, none⟩ = some (.slice Ay ly cy) ∧ w'.cell? ⟨w.heap.size + 2, 3, none⟩ = some (.int .i64 ey)) (first | exact hS0 | exact hS1 | exact hS2 | exact hS3 | exact hS4) (first
    | (go_at_call 17
       refine (kc.out _).mono ?_
       rintro e w1 ⟨c, rfl, hcl, hc1, hch1⟩
       have hB1 := hBd.out.chg hch1
       have hS1 := hB1.cells
       replace hc1 := Lib.hid hc1
       replace hB1 := Lib.hid hB1
       replace hch1 := Lib.hid hch1
       replace hcl := Lib.hid hcl)
    | (go_at_call_of 19 nx
       refine (hx.out _ (hC0.out.drew.trans (hch1.out.mono (fun _ _ h => h.elim)))).mono ?_
       rintro e w2 ⟨x, rfl, hxl, hxl2, hpx, hch2⟩
       have hB2 := hB1.out.chg hch2
       have hS2 := hB2.cells
       replace hpx := Lib.hid hpx
       replace hB2 := Lib.hid hB2
       replace hch2 := Lib.hid hch2
       replace hxl := Lib.hid hxl
       replace hxl2 := Lib.hid hxl2)
    | (go_at_call_of 19 ny
       refine (hy.out _ ((hC0.out.drew.trans (hch1.out.mono (fun _ _ h => h.elim))).trans (hch2.out.mono (fun _ _ h => h.elim)))).mono ?_
       rintro e w3 ⟨y, rfl, hyl, hyl2, hpy, hch3⟩
       have hB3 := hB2.out.chg hch3
       have hS3 := hB3.cells
       replace hpy := Lib.hid hpy
       replace hB3 := Lib.hid hB3
       replace hch3 := Lib.hid hch3
       replace hyl := Lib.hid hyl
       replace hyl2 := Lib.hid hyl2)
    | (go_at_call 18
       have hQ1 := (hC0.out.drew.trans (hch1.out.mono (fun _ _ h => h.elim))).trans (hch2.out.mono (fun _ _ h => h.elim))
       have hQ3 := hQ1.trans (hch3.out.mono (fun _ _ h => h.elim))
       have hcs := hcl.out
       have hz0 : W.drew.heap.size = w.heap.size + 5 := hsz.out
       have hz1 := hch1.out.size
       have hz2 := hch2.out.size
       have hxs := hxl.out
       have hxs2 := hxl2.out
       have hys := hyl.out
       have hc3 := (hc1.out.chg hch2.out (fun h => h)).chg hch3.out (fun h => h)
       have hd3 := ((DecZ.chg (w := W.drew) hD0.out hch1.out (fun h => h)).chg hch2.out (fun h => h)).chg hch3.out (fun h => h)
       have hR3 := hch3.out.heapB (hch2.out.heapB (hch1.out.heapB (w := W.drew) hRs.out (fun h => h)) (fun h => h)) (fun h => h)
       have hpx3 := sx.out _ _ _ hpx.out hch3.out
       refine (hop.out _ c (w.heap.size + 4) x y hQ3 hc3 hd3 hpx3 hpy.out (by omega) (by omega) (by omega) (by omega)).mono ?_
       rintro e w4 ⟨rfl, ⟨exd, hd4⟩, hch4⟩
       have hB4 := hB3.out.chgS hch4 (by omega) (by omega) (by omega)
       have hS4 := hB4.cells
       have hR4 := hch4.heapB hR3 (by omega)
       have hQ4 : Chg w w4 (fun _ => False) := hQ3.trans (hch4.mono (fun k _ h => .inr (by omega)))
       clear hR3 hpx3 hd3 hc3 hQ3 hQ1 hcs hz0 hz1 hz2 hxs hxs2 hys hB4
       replace hd4 := Lib.hid hd4
       replace hR4 := Lib.hid hR4
       replace hQ4 := Lib.hid hQ4))
  go_wp2
  clear hS0 hS1 hS2 hS3 hS4
  go_region_held3 (fun w' => Anyp w') (exact anyp _) (first
    | (go_at_call 20
       refine (kt.out w4.drew (w.heap.size + 1 + 1 + 1 + 1) exd n hd4.out).mono ?_
       rintro e w5 ⟨rfl, hch5⟩
       have hR5 := hch5.heapB (show w4.drew.heap[w.heap.size + 3]? = _ from hR4.out) (fun h => h)
       have hQ5 := hQ4.out.drew.trans (hch5.mono (fun _ _ h => h.elim))
       have r0 := cellB hR5 (i := 0) rfl
       have r1 := cellB hR5 (i := 1) rfl
       have r2 := cellB hR5 (i := 2) rfl
       have r3 := cellB hR5 (i := 3) rfl
       have rz0 := frozenB hR5 0
       have rz1 := frozenB hR5 1
       have rz2 := frozenB hR5 2
       have rz3 := frozenB hR5 3
       replace hR5 := Lib.hid hR5
       replace hQ5 := Lib.hid hQ5)
    | (go_at_call 21
       refine (kq.out _).mono ?_
       rintro e w6 ⟨rfl, hw⟩
       obtain rfl := hw))
  go_wp2
  have hfin := setB (i := 3) (v := .int .i64 0) (setB (i := 2) (v := .slice none 0 0) (setB (i := 1) (v := .bool n) (setB (i := 0) (v := .int .i64 f) hR5.out)))
  have hcf : Chg w _ (fun _ => False) := (((hQ5.out.trans ((chg_setB w5 (w.heap.size + 3) 0 (.int .i64 f)).mono (fun _ _ h => .inr (by omega)))).trans ((chg_setB _ (w.heap.size + 3) 1 (.bool n)).mono (fun _ _ h => .inr (by omega)))).trans ((chg_setB _ (w.heap.size + 3) 2 (.slice none 0 0)).mono (fun _ _ h => .inr (by omega)))).trans ((chg_setB _ (w.heap.size + 3) 3 (.int .i64 0)).mono (fun _ _ h => .inr (by omega)))
  clear r0 r1 r2 r3 rz0 rz1 rz2 rz3
  generalize (((w5.setCell ⟨w.heap.size + 3, 0, none⟩ (.int .i64 f)).setCell ⟨w.heap.size + 3, 1, none⟩ (.bool n)).setCell ⟨w.heap.size + 3, 2, none⟩ (.slice none 0 0)).setCell ⟨w.heap.size + 3, 3, none⟩ (.int .i64 0) = W9 at hfin hcf ⊢
  have c0 : W9.cell? ⟨w.heap.size + 1 + 1 + 1, 0, none⟩ = some (.int .i64 f) := cellB hfin rfl
  have c1 : W9.cell? ⟨w.heap.size + 1 + 1 + 1, 1, none⟩ = some (.bool n) := cellB hfin rfl
  have c2 : W9.cell? ⟨w.heap.size + 1 + 1 + 1, 2, none⟩ = some (.slice none 0 0) := cellB hfin rfl
  have c3 : W9.cell? ⟨w.heap.size + 1 + 1 + 1, 3, none⟩ = some (.int .i64 0) := cellB hfin rfl
  exact bodyPost_ret (v := .tuple #[.agg #[.int .i64 f, .bool n, .slice none 0 0, .int .i64 0], .int .i64 (condN r : Int), .bool true]) (by simp [results, Tryz.results12, go_sem, c0, c1, c2, c3]) rfl ⟨rfl, hcf⟩

set_option maxRecDepth 100000 in
set_option maxHeartbeats 4000000 in
theorem implQuoInteger_c (w : World) (p a b : Int) (m : Nat) (fx ex fy ey : Int) (nx ny : Bool) (Ax Ay : Option Addr) (lx cx ly cy : Nat) (Px Py : World → Nat → Prop) (r : Nat) (f : Int) (n : Bool)
    (hm : m < 8) (hp : 0 ≤ p ∧ p ≤ 4294967295) (ha : -2147483648 ≤ a ∧ a ≤ 2147483647) (hb : -2147483648 ≤ b ∧ b ≤ 2147483647) (hr : r < 4096) (hf : f = 1 ∨ f = 2 ∨ f = 3)
    (sx : ∀ w1 w2 k, Px w1 k → Chg w1 w2 (fun _ => False) → Px w2 k) (sy : ∀ w1 w2 k, Py w1 k → Chg w1 w2 (fun _ => False) → Py w2 k)
    (hx : ∀ w1, Chg w w1 (fun _ => False) → Calls Tryz.prog 19 #[.agg #[.int .i64 fx, .bool nx, .slice Ax lx cx, .int .i64 ex]] w1 fun e w2 => ∃ k, e = .returned (.pointer (some ⟨k, 0, none⟩)) ∧ w1.heap.size ≤ k ∧ k < w2.heap.size ∧ Px w2 k ∧ Chg w1 w2 (fun _ => False))
    (hy : ∀ w1, Chg w w1 (fun _ => False) → Calls Tryz.prog 19 #[.agg #[.int .i64 fy, .bool ny, .slice Ay ly cy, .int .i64 ey]] w1 fun e w2 => ∃ k, e = .returned (.pointer (some ⟨k, 0, none⟩)) ∧ w1.heap.size ≤ k ∧ k < w2.heap.size ∧ Py w2 k ∧ Chg w1 w2 (fun _ => False))
    (hop : ∀ w1 c d x y, Chg w w1 (fun _ => False) → Ctx w1 c p a b (modeS m) → DecZ w1 d 0 false 0 → Px w1 x → Py w1 y → d ≠ x → d ≠ y → d ≠ c → x ≠ y → Calls Tryz.prog 55 #[.pointer (some ⟨c, 0, none⟩), .pointer (some ⟨d, 0, none⟩), .pointer (some ⟨x, 0, none⟩), .pointer (some ⟨y, 0, none⟩)] w1 (SpR w1 d r f n)) :
    Calls Tryz.prog 25 #[.agg #[.int .u64 p, .int .i64 a, .int .i64 b, .int .i64 (m : Int)], .agg #[.int .i64 fx, .bool nx, .slice Ax lx cx, .int .i64 ex], .agg #[.int .i64 fy, .bool ny, .slice Ay ly cy, .int .i64 ey]] w fun e w' =>
      e = .returned (.tuple #[.agg #[.int .i64 f, .bool n, .slice none 0 0, .int .i64 0], .int .i64 (condN r : Int), .bool true]) ∧ Chg w w' (fun _ => False) := by
  have kc := fun w => context_c w p a b m hm hp ha hb
  have kt := fun w d ex n h => toldZ_c w d f ex n h hf
  have kq := fun w => conditions_c w r hr
  replace kc := Lib.hid kc
  replace kt := Lib.hid kt
  replace kq := Lib.hid kq
  replace hx := Lib.hid hx
  replace hy := Lib.hid hy
  replace hop := Lib.hid hop
  replace sx := Lib.hid sx
  replace sy := Lib.hid sy
  clear hm hp ha hb hr hf
  go_enter Tryz.func25, Tryz.ntmps25
  go_wp2
  generalize hW : (((((w.alloc (.cells #[.int .u64 p, .int .i64 a, .int .i64 b, .int .i64 (m : Int)] 37 (0, 0))).alloc (.cells #[.int .i64 fx, .bool nx, .slice Ax lx cx, .int .i64 ex] 24 (0, 0))).alloc (.cells #[.int .i64 fy, .bool ny, .slice Ay ly cy, .int .i64 ey] 24 (0, 0))).alloc (.cells #[.int .i64 0, .bool false, .slice none 0 0, .int .i64 0] 24 (0, 0))).alloc (.cells #[.int .i8 0, .bool false, .int .i32 0, .bool false, .slice none 0 0, .bool false] 58 (0, 0))) = W
  have hC0 : Chg w W (fun _ => False) := by rw [← hW]; exact (((((Chg.refl w (fun _ => False)).alloc _).alloc _).alloc _).alloc _).alloc _
  have hsz : W.heap.size = w.heap.size + 5 := by rw [← hW]; simp
  have hBx : Bx3 w.heap.size p a b m fx ex fy ey nx ny Ax Ay lx cx ly cy W := by
    rw [← hW]
    refine ⟨?_, ?_, ?_⟩
    · exact allocB_old (allocB_old (allocB_old (allocB_old (allocB _ _))))
    · exact allocB_old (allocB_old (allocB_old (allocB_at _ _ (by simp))))
    · exact allocB_old (allocB_old (allocB_at _ _ (by simp)))
  have hRs : W.heap[w.heap.size + 3]? = some (.cells #[.int .i64 0, .bool false, .slice none 0 0, .int .i64 0] 24 (0, 0)) := by rw [← hW]; exact allocB_old (allocB_at _ _ (by simp))
  have hD0 : DecZ W (w.heap.size + 4) 0 false 0 := by rw [← hW]; exact allocB_at _ _ (by simp)
  clear hW
  have hBd : Bx3 w.heap.size p a b m fx ex fy ey nx ny Ax Ay lx cx ly cy W.drew := hBx
  have hS0 := hBd.cells
  replace hsz := Lib.hid hsz
  replace hBx := Lib.hid hBx
  replace hBd := Lib.hid hBd
  replace hRs := Lib.hid hRs
  replace hD0 := Lib.hid hD0
  replace hC0 := Lib.hid hC0
  go_region_held3 (fun w' => w'.cell? ⟨w.heap.size, 0, none⟩ = some (.int .u64 p) ∧ w'.cell? ⟨w.heap.size, 1, none⟩ = some (.int .i64 a) ∧ w'.cell? ⟨w.heap.size, 2, none⟩ = some (.int .i64 b) ∧ w'.cell? ⟨w.heap.size, 3, none⟩ = some (.int .i64 (m : Int)) ∧
    w'.cell? ⟨w.heap.size + 1, 0, none⟩ = some (.int .i64 fx) ∧ w'.cell? ⟨w.heap.size + 1, 1, none⟩ = some (.bool nx) ∧ w'.cell? ⟨w.heap.size + 1, 2, none⟩ = some (.slice Ax lx cx) ∧ w'.cell? ⟨w.heap.size + 1, 3, none⟩ = some (.int .i64 ex) ∧
    w'.cell? ⟨w.heap.size + 2, 0, none⟩ = some (.int .i64 fy) ∧ w'.cell? ⟨w.heap.size + 2, 1, none⟩ = some (.bool ny) ∧ w'.cell? ⟨w.heap.size + 2, 2, none⟩ = some (.slice Ay ly cy) ∧ w'.cell? ⟨w.heap.size + 2, 3, none⟩ = some (.int .i64 ey)) (first | exact hS0 | exact hS1 | exact hS2 | exact hS3 | exact hS4) (first
    | (go_at_call 17
       refine (kc.out _).mono ?_
       rintro e w1 ⟨c, rfl, hcl, hc1, hch1⟩
       have hB1 := hBd.out.chg hch1
       have hS1 := hB1.cells
       replace hc1 := Lib.hid hc1
       replace hB1 := Lib.hid hB1
       replace hch1 := Lib.hid hch1
       replace hcl := Lib.hid hcl)
    | (go_at_call_of 19 nx
       refine (hx.out _ (hC0.out.drew.trans (hch1.out.mono (fun _ _ h => h.elim)))).mono ?_
       rintro e w2 ⟨x, rfl, hxl, hxl2, hpx, hch2⟩
       have hB2 := hB1.out.chg hch2
       have hS2 := hB2.cells
       replace hpx := Lib.hid hpx
       replace hB2 := Lib.hid hB2
       replace hch2 := Lib.hid hch2
       replace hxl := Lib.hid hxl
       replace hxl2 := Lib.hid hxl2)
    | (go_at_call_of 19 ny
       refine (hy.out _ ((hC0.out.drew.trans (hch1.out.mono (fun _ _ h => h.elim))).trans (hch2.out.mono (fun _ _ h => h.elim)))).mono ?_
       rintro e w3 ⟨y, rfl, hyl, hyl2, hpy, hch3⟩
       have hB3 := hB2.out.chg hch3
       have hS3 := hB3.cells
       replace hpy := Lib.hid hpy
       replace hB3 := Lib.hid hB3
       replace hch3 := Lib.hid hch3
       replace hyl := Lib.hid hyl
       replace hyl2 := Lib.hid hyl2)
    | (go_at_call 55
       have hQ1 := (hC0.out.drew.trans (hch1.out.mono (fun _ _ h => h.elim))).trans (hch2.out.mono (fun _ _ h => h.elim))
       have hQ3 := hQ1.trans (hch3.out.mono (fun _ _ h => h.elim))
       have hcs := hcl.out
       have hz0 : W.drew.heap.size = w.heap.size + 5 := hsz.out
       have hz1 := hch1.out.size
       have hz2 := hch2.out.size
       have hxs := hxl.out
       have hxs2 := hxl2.out
       have hys := hyl.out
       have hc3 := (hc1.out.chg hch2.out (fun h => h)).chg hch3.out (fun h => h)
       have hd3 := ((DecZ.chg (w := W.drew) hD0.out hch1.out (fun h => h)).chg hch2.out (fun h => h)).chg hch3.out (fun h => h)
       have hR3 := hch3.out.heapB (hch2.out.heapB (hch1.out.heapB (w := W.drew) hRs.out (fun h => h)) (fun h => h)) (fun h => h)
       have hpx3 := sx.out _ _ _ hpx.out hch3.out
       refine (hop.out _ c (w.heap.size + 4) x y hQ3 hc3 hd3 hpx3 hpy.out (by omega) (by omega) (by omega) (by omega)).mono ?_
       rintro e w4 ⟨rfl, ⟨exd, hd4⟩, hch4⟩
       have hB4 := hB3.out.chgS hch4 (by omega) (by omega) (by omega)
       have hS4 := hB4.cells
       have hR4 := hch4.heapB hR3 (by omega)
       have hQ4 : Chg w w4 (fun _ => False) := hQ3.trans (hch4.mono (fun k _ h => .inr (by omega)))
       clear hR3 hpx3 hd3 hc3 hQ3 hQ1 hcs hz0 hz1 hz2 hxs hxs2 hys hB4
       replace hd4 := Lib.hid hd4
       replace hR4 := Lib.hid hR4
       replace hQ4 := Lib.hid hQ4))
  go_wp2
  clear hS0 hS1 hS2 hS3 hS4
  go_region_held3 (fun w' => Anyp w') (exact anyp _) (first
    | (go_at_call 20
       refine (kt.out w4.drew (w.heap.size + 1 + 1 + 1 + 1) exd n hd4.out).mono ?_
       rintro e w5 ⟨rfl, hch5⟩
       have hR5 := hch5.heapB (show w4.drew.heap[w.heap.size + 3]? = _ from hR4.out) (fun h => h)
       have hQ5 := hQ4.out.drew.trans (hch5.mono (fun _ _ h => h.elim))
       have r0 := cellB hR5 (i := 0) rfl
       have r1 := cellB hR5 (i := 1) rfl
       have r2 := cellB hR5 (i := 2) rfl
       have r3 := cellB hR5 (i := 3) rfl
       have rz0 := frozenB hR5 0
       have rz1 := frozenB hR5 1
       have rz2 := frozenB hR5 2
       have rz3 := frozenB hR5 3
       replace hR5 := Lib.hid hR5
       replace hQ5 := Lib.hid hQ5)
    | (go_at_call 21
       refine (kq.out _).mono ?_
       rintro e w6 ⟨rfl, hw⟩
       obtain rfl := hw))
  go_wp2
  have hfin := setB (i := 3) (v := .int .i64 0) (setB (i := 2) (v := .slice none 0 0) (setB (i := 1) (v := .bool n) (setB (i := 0) (v := .int .i64 f) hR5.out)))
  have hcf : Chg w _ (fun _ => False) := (((hQ5.out.trans ((chg_setB w5 (w.heap.size + 3) 0 (.int .i64 f)).mono (fun _ _ h => .inr (by omega)))).trans ((chg_setB _ (w.heap.size + 3) 1 (.bool n)).mono (fun _ _ h => .inr (by omega)))).trans ((chg_setB _ (w.heap.size + 3) 2 (.slice none 0 0)).mono (fun _ _ h => .inr (by omega)))).trans ((chg_setB _ (w.heap.size + 3) 3 (.int .i64 0)).mono (fun _ _ h => .inr (by omega)))
  clear r0 r1 r2 r3 rz0 rz1 rz2 rz3
  generalize (((w5.setCell ⟨w.heap.size + 3, 0, none⟩ (.int .i64 f)).setCell ⟨w.heap.size + 3, 1, none⟩ (.bool n)).setCell ⟨w.heap.size + 3, 2, none⟩ (.slice none 0 0)).setCell ⟨w.heap.size + 3, 3, none⟩ (.int .i64 0) = W9 at hfin hcf ⊢
  have c0 : W9.cell? ⟨w.heap.size + 1 + 1 + 1, 0, none⟩ = some (.int .i64 f) := cellB hfin rfl
  have c1 : W9.cell? ⟨w.heap.size + 1 + 1 + 1, 1, none⟩ = some (.bool n) := cellB hfin rfl
  have c2 : W9.cell? ⟨w.heap.size + 1 + 1 + 1, 2, none⟩ = some (.slice none 0 0) := cellB hfin rfl
  have c3 : W9.cell? ⟨w.heap.size + 1 + 1 + 1, 3, none⟩ = some (.int .i64 0) := cellB hfin rfl
  exact bodyPost_ret (v := .tuple #[.agg #[.int .i64 f, .bool n, .slice none 0 0, .int .i64 0], .int .i64 (condN r : Int), .bool true]) (by simp [results, Tryz.results25, go_sem, c0, c1, c2, c3]) rfl ⟨rfl, hcf⟩

set_option maxRecDepth 100000 in
set_option maxHeartbeats 4000000 in
theorem implRem_c (w : World) (p a b : Int) (m : Nat) (fx ex fy ey : Int) (nx ny : Bool) (Ax Ay : Option Addr) (lx cx ly cy : Nat) (Px Py : World → Nat → Prop) (r : Nat) (f : Int) (n : Bool)
    (hm : m < 8) (hp : 0 ≤ p ∧ p ≤ 4294967295) (ha : -2147483648 ≤ a ∧ a ≤ 2147483647) (hb : -2147483648 ≤ b ∧ b ≤ 2147483647) (hr : r < 4096) (hf : f = 1 ∨ f = 2 ∨ f = 3)
    (sx : ∀ w1 w2 k, Px w1 k → Chg w1 w2 (fun _ => False) → Px w2 k) (sy : ∀ w1 w2 k, Py w1 k → Chg w1 w2 (fun _ => False) → Py w2 k)
    (hx : ∀ w1, Chg w w1 (fun _ => False) → Calls Tryz.prog 19 #[.agg #[.int .i64 fx, .bool nx, .slice Ax lx cx, .int .i64 ex]] w1 fun e w2 => ∃ k, e = .returned (.pointer (some ⟨k, 0, none⟩)) ∧ w1.heap.size ≤ k ∧ k < w2.heap.size ∧ Px w2 k ∧ Chg w1 w2 (fun _ => False))
    (hy : ∀ w1, Chg w w1 (fun _ => False) → Calls Tryz.prog 19 #[.agg #[.int .i64 fy, .bool ny, .slice Ay ly cy, .int .i64 ey]] w1 fun e w2 => ∃ k, e = .returned (.pointer (some ⟨k, 0, none⟩)) ∧ w1.heap.size ≤ k ∧ k < w2.heap.size ∧ Py w2 k ∧ Chg w1 w2 (fun _ => False))
    (hop : ∀ w1 c d x y, Chg w w1 (fun _ => False) → Ctx w1 c p a b (modeS m) → DecZ w1 d 0 false 0 → Px w1 x → Py w1 y → d ≠ x → d ≠ y → d ≠ c → x ≠ y → Calls Tryz.prog 56 #[.pointer (some ⟨c, 0, none⟩), .pointer (some ⟨d, 0, none⟩), .pointer (some ⟨x, 0, none⟩), .pointer (some ⟨y, 0, none⟩)] w1 (SpR w1 d r f n)) :
    Calls Tryz.prog 26 #[.agg #[.int .u64 p, .int .i64 a, .int .i64 b, .int .i64 (m : Int)], .agg #[.int .i64 fx, .bool nx, .slice Ax lx cx, .int .i64 ex], .agg #[.int .i64 fy, .bool ny, .slice Ay ly cy, .int .i64 ey]] w fun e w' =>
      e = .returned (.tuple #[.agg #[.int .i64 f, .bool n, .slice none 0 0, .int .i64 0], .int .i64 (condN r : Int), .bool true]) ∧ Chg w w' (fun _ => False) := by
  have kc := fun w => context_c w p a b m hm hp ha hb
  have kt := fun w d ex n h => toldZ_c w d f ex n h hf
  have kq := fun w => conditions_c w r hr
  replace kc := Lib.hid kc
  replace kt := Lib.hid kt
  replace kq := Lib.hid kq
  replace hx := Lib.hid hx
  replace hy := Lib.hid hy
  replace hop := Lib.hid hop
  replace sx := Lib.hid sx
  replace sy := Lib.hid sy
  clear hm hp ha hb hr hf
  go_enter Tryz.func26, Tryz.ntmps26
  go_wp2
  generalize hW : (((((w.alloc (.cells #[.int .u64 p, .int .i64 a, .int .i64 b, .int .i64 (m : Int)] 37 (0, 0))).alloc (.cells #[.int .i64 fx, .bool nx, .slice Ax lx cx, .int .i64 ex] 24 (0, 0))).alloc (.cells #[.int .i64 fy, .bool ny, .slice Ay ly cy, .int .i64 ey] 24 (0, 0))).alloc (.cells #[.int .i64 0, .bool false, .slice none 0 0, .int .i64 0] 24 (0, 0))).alloc (.cells #[.int .i8 0, .bool false, .int .i32 0, .bool false, .slice none 0 0, .bool false] 58 (0, 0))) = W
  have hC0 : Chg w W (fun _ => False) := by rw [← hW]; exact (((((Chg.refl w (fun _ => False)).alloc _).alloc _).alloc _).alloc _).alloc _
  have hsz : W.heap.size = w.heap.size + 5 := by rw [← hW]; simp
  have hBx : Bx3 w.heap.size p a b m fx ex fy ey nx ny Ax Ay lx cx ly cy W := by
    rw [← hW]
    refine ⟨?_, ?_, ?_⟩
    · exact allocB_old (allocB_old (allocB_old (allocB_old (allocB _ _))))
    · exact allocB_old (allocB_old (allocB_old (allocB_at _ _ (by simp))))
    · exact allocB_old (allocB_old (allocB_at _ _ (by simp)))
  have hRs : W.heap[w.heap.size + 3]? = some (.cells #[.int .i64 0, .bool false, .slice none 0 0, .int .i64 0] 24 (0, 0)) := by rw [← hW]; exact allocB_old (allocB_at _ _ (by simp))
  have hD0 : DecZ W (w.heap.size + 4) 0 false 0 := by rw [← hW]; exact allocB_at _ _ (by simp)
  clear hW
  have hBd : Bx3 w.heap.size p a b m fx ex fy ey nx ny Ax Ay lx cx ly cy W.drew := hBx
  have hS0 := hBd.cells
  replace hsz := Lib.hid hsz
  replace hBx := Lib.hid hBx
  replace hBd := Lib.hid hBd
  replace hRs := Lib.hid hRs
  replace hD0 := Lib.hid hD0
  replace hC0 := Lib.hid hC0
  go_region_held3 (fun w' => w'.cell? ⟨w.heap.size, 0, none⟩ = some (.int .u64 p) ∧ w'.cell? ⟨w.heap.size, 1, none⟩ = some (.int .i64 a) ∧ w'.cell? ⟨w.heap.size, 2, none⟩ = some (.int .i64 b) ∧ w'.cell? ⟨w.heap.size, 3, none⟩ = some (.int .i64 (m : Int)) ∧
    w'.cell? ⟨w.heap.size + 1, 0, none⟩ = some (.int .i64 fx) ∧ w'.cell? ⟨w.heap.size + 1, 1, none⟩ = some (.bool nx) ∧ w'.cell? ⟨w.heap.size + 1, 2, none⟩ = some (.slice Ax lx cx) ∧ w'.cell? ⟨w.heap.size + 1, 3, none⟩ = some (.int .i64 ex) ∧
    w'.cell? ⟨w.heap.size + 2, 0, none⟩ = some (.int .i64 fy) ∧ w'.cell? ⟨w.heap.size + 2, 1, none⟩ = some (.bool ny) ∧ w'.cell? ⟨w.heap.size + 2, 2, none⟩ = some (.slice Ay ly cy) ∧ w'.cell? ⟨w.heap.size + 2, 3, none⟩ = some (.int .i64 ey)) (first | exact hS0 | exact hS1 | exact hS2 | exact hS3 | exact hS4) (first
    | (go_at_call 17
       refine (kc.out _).mono ?_
       rintro e w1 ⟨c, rfl, hcl, hc1, hch1⟩
       have hB1 := hBd.out.chg hch1
       have hS1 := hB1.cells
       replace hc1 := Lib.hid hc1
       replace hB1 := Lib.hid hB1
       replace hch1 := Lib.hid hch1
       replace hcl := Lib.hid hcl)
    | (go_at_call_of 19 nx
       refine (hx.out _ (hC0.out.drew.trans (hch1.out.mono (fun _ _ h => h.elim)))).mono ?_
       rintro e w2 ⟨x, rfl, hxl, hxl2, hpx, hch2⟩
       have hB2 := hB1.out.chg hch2
       have hS2 := hB2.cells
       replace hpx := Lib.hid hpx
       replace hB2 := Lib.hid hB2
       replace hch2 := Lib.hid hch2
       replace hxl := Lib.hid hxl
       replace hxl2 := Lib.hid hxl2)
    | (go_at_call_of 19 ny
       refine (hy.out _ ((hC0.out.drew.trans (hch1.out.mono (fun _ _ h => h.elim))).trans (hch2.out.mono (fun _ _ h => h.elim)))).mono ?_
       rintro e w3 ⟨y, rfl, hyl, hyl2, hpy, hch3⟩
       have hB3 := hB2.out.chg hch3
       have hS3 := hB3.cells
       replace hpy := Lib.hid hpy
       replace hB3 := Lib.hid hB3
       replace hch3 := Lib.hid hch3
       replace hyl := Lib.hid hyl
       replace hyl2 := Lib.hid hyl2)
    | (go_at_call 56
       have hQ1 := (hC0.out.drew.trans (hch1.out.mono (fun _ _ h => h.elim))).trans (hch2.out.mono (fun _ _ h => h.elim))
       have hQ3 := hQ1.trans (hch3.out.mono (fun _ _ h => h.elim))
       have hcs := hcl.out
       have hz0 : W.drew.heap.size = w.heap.size + 5 := hsz.out
       have hz1 := hch1.out.size
       have hz2 := hch2.out.size
       have hxs := hxl.out
       have hxs2 := hxl2.out
       have hys := hyl.out
       have hc3 := (hc1.out.chg hch2.out (fun h => h)).chg hch3.out (fun h => h)
       have hd3 := ((DecZ.chg (w := W.drew) hD0.out hch1.out (fun h => h)).chg hch2.out (fun h => h)).chg hch3.out (fun h => h)
       have hR3 := hch3.out.heapB (hch2.out.heapB (hch1.out.heapB (w := W.drew) hRs.out (fun h => h)) (fun h => h)) (fun h => h)
       have hpx3 := sx.out _ _ _ hpx.out hch3.out
       refine (hop.out _ c (w.heap.size + 4) x y hQ3 hc3 hd3 hpx3 hpy.out (by omega) (by omega) (by omega) (by omega)).mono ?_
       rintro e w4 ⟨rfl, ⟨exd, hd4⟩, hch4⟩
       have hB4 := hB3.out.chgS hch4 (by omega) (by omega) (by omega)
       have hS4 := hB4.cells
       have hR4 := hch4.heapB hR3 (by omega)
       have hQ4 : Chg w w4 (fun _ => False) := hQ3.trans (hch4.mono (fun k _ h => .inr (by omega)))
       clear hR3 hpx3 hd3 hc3 hQ3 hQ1 hcs hz0 hz1 hz2 hxs hxs2 hys hB4
       replace hd4 := Lib.hid hd4
       replace hR4 := Lib.hid hR4
       replace hQ4 := Lib.hid hQ4))
  go_wp2
  clear hS0 hS1 hS2 hS3 hS4
  go_region_held3 (fun w' => Anyp w') (exact anyp _) (first
    | (go_at_call 20
       refine (kt.out w4.drew (w.heap.size + 1 + 1 + 1 + 1) exd n hd4.out).mono ?_
       rintro e w5 ⟨rfl, hch5⟩
       have hR5 := hch5.heapB (show w4.drew.heap[w.heap.size + 3]? = _ from hR4.out) (fun h => h)
       have hQ5 := hQ4.out.drew.trans (hch5.mono (fun _ _ h => h.elim))
       have r0 := cellB hR5 (i := 0) rfl
       have r1 := cellB hR5 (i := 1) rfl
       have r2 := cellB hR5 (i := 2) rfl
       have r3 := cellB hR5 (i := 3) rfl
       have rz0 := frozenB hR5 0
       have rz1 := frozenB hR5 1
       have rz2 := frozenB hR5 2
       have rz3 := frozenB hR5 3
       replace hR5 := Lib.hid hR5
       replace hQ5 := Lib.hid hQ5)
    | (go_at_call 21
       refine (kq.out _).mono ?_
       rintro e w6 ⟨rfl, hw⟩
       obtain rfl := hw))
  go_wp2
  have hfin := setB (i := 3) (v := .int .i64 0) (setB (i := 2) (v := .slice none 0 0) (setB (i := 1) (v := .bool n) (setB (i := 0) (v := .int .i64 f) hR5.out)))
  have hcf : Chg w _ (fun _ => False) := (((hQ5.out.trans ((chg_setB w5 (w.heap.size + 3) 0 (.int .i64 f)).mono (fun _ _ h => .inr (by omega)))).trans ((chg_setB _ (w.heap.size + 3) 1 (.bool n)).mono (fun _ _ h => .inr (by omega)))).trans ((chg_setB _ (w.heap.size + 3) 2 (.slice none 0 0)).mono (fun _ _ h => .inr (by omega)))).trans ((chg_setB _ (w.heap.size + 3) 3 (.int .i64 0)).mono (fun _ _ h => .inr (by omega)))
  clear r0 r1 r2 r3 rz0 rz1 rz2 rz3
  generalize (((w5.setCell ⟨w.heap.size + 3, 0, none⟩ (.int .i64 f)).setCell ⟨w.heap.size + 3, 1, none⟩ (.bool n)).setCell ⟨w.heap.size + 3, 2, none⟩ (.slice none 0 0)).setCell ⟨w.heap.size + 3, 3, none⟩ (.int .i64 0) = W9 at hfin hcf ⊢
  have c0 : W9.cell? ⟨w.heap.size + 1 + 1 + 1, 0, none⟩ = some (.int .i64 f) := cellB hfin rfl
  have c1 : W9.cell? ⟨w.heap.size + 1 + 1 + 1, 1, none⟩ = some (.bool n) := cellB hfin rfl
  have c2 : W9.cell? ⟨w.heap.size + 1 + 1 + 1, 2, none⟩ = some (.slice none 0 0) := cellB hfin rfl
  have c3 : W9.cell? ⟨w.heap.size + 1 + 1 + 1, 3, none⟩ = some (.int .i64 0) := cellB hfin rfl
  exact bodyPost_ret (v := .tuple #[.agg #[.int .i64 f, .bool n, .slice none 0 0, .int .i64 0], .int .i64 (condN r : Int), .bool true]) (by simp [results, Tryz.results26, go_sem, c0, c1, c2, c3]) rfl ⟨rfl, hcf⟩

end Go.Proofs.YtabggbajgpbmmaaGreatDoor
