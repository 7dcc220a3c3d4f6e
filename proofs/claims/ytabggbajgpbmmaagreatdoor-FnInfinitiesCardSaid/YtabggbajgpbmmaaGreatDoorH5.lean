/- FnInfinities: the walk. -/
import Derived.Test.YtabggbajgpbmmaaGreatDoorH0
import Derived.Test.YtabggbajgpbmmaaGreatDoorN8
namespace Go.Proofs.YtabggbajgpbmmaaGreatDoor
open Go Go.RowKit

theorem didInf0t (w : World) (p a b : Int) (m : Nat) (one two : Bool) (hm : m < 8) (hp : 0 ≤ p ∧ p ≤ 4294967295) (ha : -2147483648 ≤ a ∧ a ≤ 2147483647) (hb : -2147483648 ≤ b ∧ b ≤ 2147483647) (he : one = (two != false)) :
    Calls Tryz.prog 15 #[.int .i64 0, .agg #[.int .u64 p, .int .i64 a, .int .i64 b, .int .i64 (m : Int)], .agg #[.int .i64 1, .bool one, .slice none 0 0, .int .i64 0], .agg #[.int .i64 1, .bool two, .slice none 0 0, .int .i64 0]] w (Told w (QSp 1 one (condN 0 : Int))) := by
  refine did0_c w p a b m 1 0 1 0 one two none none 0 0 0 0 _ QSp.st ?_
  intro w1 _
  refine told_of (implAdd_c w1 p a b m 1 0 1 0 one two none none 0 0 0 0 (fun w k => DecZ w k 1 one 0) (fun w k => DecZ w k 1 two 0) 0 1 one hm hp ha hb (by decide) (by omega) (stS _ _) (stS _ _)
    (fun w2 _ => madeS w2 1 one (.inl rfl) _ _ _ _) (fun w2 _ => madeS w2 1 two (.inl rfl) _ _ _ _) ?_)
  intro w2 c d x y _ hc hd hx hy hdx hdy hdc hxy
  have h := addInf2_c w2 c d x y p a b _ 0 0 0 0 false one two false hc hd hx hy hdx hdy hdc
  simp only [if_pos he] at h
  exact cAdd_of w2 c d x y _ SpR.ret h

theorem didInf0f (w : World) (p a b : Int) (m : Nat) (one two : Bool) (hm : m < 8) (hp : 0 ≤ p ∧ p ≤ 4294967295) (ha : -2147483648 ≤ a ∧ a ≤ 2147483647) (hb : -2147483648 ≤ b ∧ b ≤ 2147483647) (he : ¬ one = (two != false)) :
    Calls Tryz.prog 15 #[.int .i64 0, .agg #[.int .u64 p, .int .i64 a, .int .i64 b, .int .i64 (m : Int)], .agg #[.int .i64 1, .bool one, .slice none 0 0, .int .i64 0], .agg #[.int .i64 1, .bool two, .slice none 0 0, .int .i64 0]] w (Told w (QSp 3 false (condN 1024 : Int))) := by
  refine did0_c w p a b m 1 0 1 0 one two none none 0 0 0 0 _ QSp.st ?_
  intro w1 _
  refine told_of (implAdd_c w1 p a b m 1 0 1 0 one two none none 0 0 0 0 (fun w k => DecZ w k 1 one 0) (fun w k => DecZ w k 1 two 0) 1024 3 false hm hp ha hb (by decide) (by omega) (stS _ _) (stS _ _)
    (fun w2 _ => madeS w2 1 one (.inl rfl) _ _ _ _) (fun w2 _ => madeS w2 1 two (.inl rfl) _ _ _ _) ?_)
  intro w2 c d x y _ hc hd hx hy hdx hdy hdc hxy
  have h := addInf2_c w2 c d x y p a b _ 0 0 0 0 false one two false hc hd hx hy hdx hdy hdc
  simp only [if_neg he] at h
  exact cAdd_of w2 c d x y _ SpR.ret h

theorem didInf1t (w : World) (p a b : Int) (m : Nat) (one two : Bool) (hm : m < 8) (hp : 0 ≤ p ∧ p ≤ 4294967295) (ha : -2147483648 ≤ a ∧ a ≤ 2147483647) (hb : -2147483648 ≤ b ∧ b ≤ 2147483647) (he : one = (two != true)) :
    Calls Tryz.prog 15 #[.int .i64 1, .agg #[.int .u64 p, .int .i64 a, .int .i64 b, .int .i64 (m : Int)], .agg #[.int .i64 1, .bool one, .slice none 0 0, .int .i64 0], .agg #[.int .i64 1, .bool two, .slice none 0 0, .int .i64 0]] w (Told w (QSp 1 one (condN 0 : Int))) := by
  refine did1_c w p a b m 1 0 1 0 one two none none 0 0 0 0 _ QSp.st ?_
  intro w1 _
  refine told_of (implSub_c w1 p a b m 1 0 1 0 one two none none 0 0 0 0 (fun w k => DecZ w k 1 one 0) (fun w k => DecZ w k 1 two 0) 0 1 one hm hp ha hb (by decide) (by omega) (stS _ _) (stS _ _)
    (fun w2 _ => madeS w2 1 one (.inl rfl) _ _ _ _) (fun w2 _ => madeS w2 1 two (.inl rfl) _ _ _ _) ?_)
  intro w2 c d x y _ hc hd hx hy hdx hdy hdc hxy
  have h := addInf2_c w2 c d x y p a b _ 0 0 0 0 false one two true hc hd hx hy hdx hdy hdc
  simp only [if_pos he] at h
  exact cSub_of w2 c d x y _ SpR.ret h

theorem didInf1f (w : World) (p a b : Int) (m : Nat) (one two : Bool) (hm : m < 8) (hp : 0 ≤ p ∧ p ≤ 4294967295) (ha : -2147483648 ≤ a ∧ a ≤ 2147483647) (hb : -2147483648 ≤ b ∧ b ≤ 2147483647) (he : ¬ one = (two != true)) :
    Calls Tryz.prog 15 #[.int .i64 1, .agg #[.int .u64 p, .int .i64 a, .int .i64 b, .int .i64 (m : Int)], .agg #[.int .i64 1, .bool one, .slice none 0 0, .int .i64 0], .agg #[.int .i64 1, .bool two, .slice none 0 0, .int .i64 0]] w (Told w (QSp 3 false (condN 1024 : Int))) := by
  refine did1_c w p a b m 1 0 1 0 one two none none 0 0 0 0 _ QSp.st ?_
  intro w1 _
  refine told_of (implSub_c w1 p a b m 1 0 1 0 one two none none 0 0 0 0 (fun w k => DecZ w k 1 one 0) (fun w k => DecZ w k 1 two 0) 1024 3 false hm hp ha hb (by decide) (by omega) (stS _ _) (stS _ _)
    (fun w2 _ => madeS w2 1 one (.inl rfl) _ _ _ _) (fun w2 _ => madeS w2 1 two (.inl rfl) _ _ _ _) ?_)
  intro w2 c d x y _ hc hd hx hy hdx hdy hdc hxy
  have h := addInf2_c w2 c d x y p a b _ 0 0 0 0 false one two true hc hd hx hy hdx hdy hdc
  simp only [if_neg he] at h
  exact cSub_of w2 c d x y _ SpR.ret h

theorem didInf2 (w : World) (p a b : Int) (m : Nat) (one two : Bool) (hm : m < 8) (hp : 0 ≤ p ∧ p ≤ 4294967295) (ha : -2147483648 ≤ a ∧ a ≤ 2147483647) (hb : -2147483648 ≤ b ∧ b ≤ 2147483647) :
    Calls Tryz.prog 15 #[.int .i64 2, .agg #[.int .u64 p, .int .i64 a, .int .i64 b, .int .i64 (m : Int)], .agg #[.int .i64 1, .bool one, .slice none 0 0, .int .i64 0], .agg #[.int .i64 1, .bool two, .slice none 0 0, .int .i64 0]] w (Told w (QSp 1 (one != two) (condN 0 : Int))) := by
  refine did2_c w p a b m 1 0 1 0 one two none none 0 0 0 0 _ QSp.st ?_
  intro w1 _
  refine told_of (implMul_c w1 p a b m 1 0 1 0 one two none none 0 0 0 0 (fun w k => DecZ w k 1 one 0) (fun w k => DecZ w k 1 two 0) 0 1 (one != two) hm hp ha hb (by decide) (by omega) (stS _ _) (stS _ _)
    (fun w2 _ => madeS w2 1 one (.inl rfl) _ _ _ _) (fun w2 _ => madeS w2 1 two (.inl rfl) _ _ _ _) ?_)
  intro w2 c d x y _ hc hd hx hy hdx hdy hdc hxy
  exact mulInf_c w2 c d x y p a b _ 0 1 1 0 0 0 false one two 0 0 none none hc hd hx.toA hy.toA (.inl ⟨rfl, rfl⟩) hdc false (by simp)

theorem didInf3 (w : World) (p a b : Int) (m : Nat) (one two : Bool) (hm : m < 8) (hp : 0 ≤ p ∧ p ≤ 4294967295) (ha : -2147483648 ≤ a ∧ a ≤ 2147483647) (hb : -2147483648 ≤ b ∧ b ≤ 2147483647) :
    Calls Tryz.prog 15 #[.int .i64 3, .agg #[.int .u64 p, .int .i64 a, .int .i64 b, .int .i64 (m : Int)], .agg #[.int .i64 1, .bool one, .slice none 0 0, .int .i64 0], .agg #[.int .i64 1, .bool two, .slice none 0 0, .int .i64 0]] w (Told w (QSp 3 false (condN 1024 : Int))) := by
  refine did3_c w p a b m 1 0 1 0 one two none none 0 0 0 0 _ QSp.st ?_
  intro w1 _
  refine told_of (implQuo_c w1 p a b m 1 0 1 0 one two none none 0 0 0 0 (fun w k => DecZ w k 1 one 0) (fun w k => DecZ w k 1 two 0) 1024 3 false hm hp ha hb (by decide) (by omega) (stS _ _) (stS _ _)
    (fun w2 _ => madeS w2 1 one (.inl rfl) _ _ _ _) (fun w2 _ => madeS w2 1 two (.inl rfl) _ _ _ _) ?_)
  intro w2 c d x y _ hc hd hx hy hdx hdy hdc hxy
  exact quo_sp w2 c d x y _ _ _ (quoSpInf2_c w2 c d x y p a b _ 0 0 0 0 false one two true hc hd hx hy hdc)

/-- Boxes of two decimals as plain data. -/
def Bx2 (s : Nat) (fx ex fy ey : Int) (nx ny : Bool) (Ax Ay : Option Addr) (lx cx ly cy : Nat) (w : World) : Prop :=
  w.heap[s]? = some (.cells #[.int .i64 fx, .bool nx, .slice Ax lx cx, .int .i64 ex] 24 (0, 0)) ∧ w.heap[s + 1]? = some (.cells #[.int .i64 fy, .bool ny, .slice Ay ly cy, .int .i64 ey] 24 (0, 0))
theorem Bx2.chg {s : Nat} {fx ex fy ey : Int} {nx ny : Bool} {Ax Ay : Option Addr} {lx cx ly cy : Nat} {w w' : World} (h : Bx2 s fx ex fy ey nx ny Ax Ay lx cx ly cy w) (hc : Chg w w' (fun _ => False)) : Bx2 s fx ex fy ey nx ny Ax Ay lx cx ly cy w' :=
  ⟨hc.heapB h.1 (fun h => h), hc.heapB h.2 (fun h => h)⟩
theorem Bx2.cells {s : Nat} {fx ex fy ey : Int} {nx ny : Bool} {Ax Ay : Option Addr} {lx cx ly cy : Nat} {w : World} (h : Bx2 s fx ex fy ey nx ny Ax Ay lx cx ly cy w) :
    w.cell? ⟨s, 0, none⟩ = some (.int .i64 fx) ∧ w.cell? ⟨s, 1, none⟩ = some (.bool nx) ∧ w.cell? ⟨s, 2, none⟩ = some (.slice Ax lx cx) ∧ w.cell? ⟨s, 3, none⟩ = some (.int .i64 ex) ∧
    w.cell? ⟨s + 1, 0, none⟩ = some (.int .i64 fy) ∧ w.cell? ⟨s + 1, 1, none⟩ = some (.bool ny) ∧ w.cell? ⟨s + 1, 2, none⟩ = some (.slice Ay ly cy) ∧ w.cell? ⟨s + 1, 3, none⟩ = some (.int .i64 ey) :=
  ⟨cellB h.1 rfl, cellB h.1 rfl, cellB h.1 rfl, cellB h.1 rfl, cellB h.2 rfl, cellB h.2 rfl, cellB h.2 rfl, cellB h.2 rfl⟩
theorem Bx2.set4 {s : Nat} {fx ex fy ey : Int} {nx ny : Bool} {Ax Ay : Option Addr} {lx cx ly cy : Nat} {w : World} (h : Bx2 s fx ex fy ey nx ny Ax Ay lx cx ly cy w) (zb : Nat) (h0 : s ≠ zb) (h1 : s + 1 ≠ zb) (v0 v1 v2 v3 : Value) :
    Bx2 s fx ex fy ey nx ny Ax Ay lx cx ly cy ((((w.setCell ⟨zb, 0, none⟩ v0).setCell ⟨zb, 1, none⟩ v1).setCell ⟨zb, 2, none⟩ v2).setCell ⟨zb, 3, none⟩ v3) := by
  have c : ∀ {w' : World} (i : Nat) (v : Value), Bx2 s fx ex fy ey nx ny Ax Ay lx cx ly cy w' → Bx2 s fx ex fy ey nx ny Ax Ay lx cx ly cy (w'.setCell ⟨zb, i, none⟩ v) := fun i v h => ⟨(chg_setB _ zb i v).heapB h.1 h0, (chg_setB _ zb i v).heapB h.2 h1⟩
  exact c 3 _ (c 2 _ (c 1 _ (c 0 _ h)))
/-- A block that was laid before a call. -/
theorem laid1 {w w1 : World} {o : Obj} (h : Chg (w.alloc o).drew w1 (fun _ => False)) : w1.heap[w.heap.size]? = some o := h.heapB (show (w.alloc o).drew.heap[w.heap.size]? = some o from allocB w o) (fun h => h)
theorem laid2 {w w1 : World} {o : Obj} (h : Chg (w.alloc o) w1 (fun _ => False)) : w1.heap[w.heap.size]? = some o := h.heapB (allocB w o) (fun h => h)
theorem chg4 (w : World) (zb : Nat) (v0 v1 v2 v3 : Value) : Chg w ((((w.setCell ⟨zb, 0, none⟩ v0).setCell ⟨zb, 1, none⟩ v1).setCell ⟨zb, 2, none⟩ v2).setCell ⟨zb, 3, none⟩ v3) (fun k => k = zb) :=
  (((chg_setB w zb 0 v0).trans ((chg_setB _ zb 1 v1).mono (fun _ _ h => .inl h))).trans ((chg_setB _ zb 2 v2).mono (fun _ _ h => .inl h))).trans ((chg_setB _ zb 3 v3).mono (fun _ _ h => .inl h))
theorem Chg.below {w w' : World} (h : Chg w w' (fun _ => False)) : Below w.heap.size w w' := ⟨h.os, h.tape, h.output, h.size, fun k hk => h.block k hk (fun h => h)⟩

set_option maxRecDepth 100000 in
set_option maxHeartbeats 8000000 in
theorem infinities_of (w : World) (op prec mode k f cn : Int) (m : Nat) (hmm : mode % 8 = (m : Int)) (one two n : Bool) (hop : op % 4 = k) (h1 : 0 ≤ op ∧ op ≤ 255) (h2 : 0 ≤ prec ∧ prec ≤ 255) (h3 : 0 ≤ mode ∧ mode ≤ 255)
    (hd : ∀ w1, Calls Tryz.prog 15 #[.int .i64 k, .agg #[.int .u64 (1 + prec % 60), .int .i64 100000, .int .i64 (-100000), .int .i64 (m : Int)], .agg #[.int .i64 1, .bool one, .slice none 0 0, .int .i64 0], .agg #[.int .i64 1, .bool two, .slice none 0 0, .int .i64 0]] w1 (Told w1 (QSp f n cn)))
    (hk : (k = 0 ∧ one = two ∧ f = 1 ∧ cn = 0 ∧ n = one) ∨ (k = 0 ∧ one ≠ two ∧ f = 3 ∧ cn = 256) ∨ (k = 1 ∧ one ≠ two ∧ f = 1 ∧ cn = 0 ∧ n = one) ∨ (k = 1 ∧ one = two ∧ f = 3 ∧ cn = 256) ∨ (k = 2 ∧ f = 1 ∧ cn = 0 ∧ n = (one != two)) ∨ (k = 3 ∧ f = 3 ∧ cn = 256)) :
    Calls Tryz.prog 5 #[.int .u8 op, .bool one, .bool two, .int .u8 prec, .int .u8 mode] w fun e w' => e = .returned (.bool true) ∧ Below w.heap.size w w' := by
  obtain ⟨h1a, h1b⟩ := h1
  have kw := fun w => wide_c w prec mode m h2 h3 hmm
  replace kw := Lib.hid kw
  replace hd := Lib.hid hd
  clear h2 h3 hmm
  have hk2 : (k = 0 ∧ f = 1 ∧ cn = 0 ∧ (one = false ∧ two = false ∧ n = false ∨ one = true ∧ two = true ∧ n = true)) ∨ (k = 0 ∧ f = 3 ∧ cn = 256 ∧ (one = false ∧ two = true ∨ one = true ∧ two = false)) ∨ (k = 1 ∧ f = 1 ∧ cn = 0 ∧ (one = false ∧ two = true ∧ n = false ∨ one = true ∧ two = false ∧ n = true)) ∨
      (k = 1 ∧ f = 3 ∧ cn = 256 ∧ (one = false ∧ two = false ∨ one = true ∧ two = true)) ∨ (k = 2 ∧ f = 1 ∧ cn = 0 ∧ (one = false ∧ two = false ∧ n = false ∨ one = false ∧ two = true ∧ n = true ∨ one = true ∧ two = false ∧ n = true ∨ one = true ∧ two = true ∧ n = false)) ∨ (k = 3 ∧ f = 3 ∧ cn = 256) := by
    cases one <;> cases two <;> cases n <;> simp at hk ⊢ <;> omega
  clear hk
  replace hk2 := Lib.hid hk2
  go_enter Tryz.func5, Tryz.ntmps5
  go_wp2
  generalize hW : (w.alloc (.cells #[.int .i64 1, .bool one, .slice none 0 0, .int .i64 0] 24 (0, 0))).alloc (.cells #[.int .i64 1, .bool two, .slice none 0 0, .int .i64 0] 24 (0, 0)) = W
  have hC0 : Chg w W (fun _ => False) := by rw [← hW]; exact ((Chg.refl w (fun _ => False)).alloc _).alloc _
  have hBx : Bx2 w.heap.size 1 0 1 0 one two none none 0 0 0 0 W := by
    rw [← hW]
    exact ⟨allocB_old (allocB _ _), allocB_at _ _ (by simp)⟩
  have hWs : W.heap.size = w.heap.size + 2 := by rw [← hW]; simp
  clear hW
  have ne0 : w.heap.size ≠ W.heap.size := by omega
  have ne1 : w.heap.size + 1 ≠ W.heap.size := by omega
  replace hWs := Lib.hid hWs
  have hBd : Bx2 w.heap.size 1 0 1 0 one two none none 0 0 0 0 W.drew := hBx
  have hS0 := hBd.cells
  replace hBx := Lib.hid hBx
  replace hBd := Lib.hid hBd
  replace hC0 := Lib.hid hC0
  skip
  go_region_held3 (fun w' => w'.cell? ⟨w.heap.size, 0, none⟩ = some (.int .i64 1) ∧ w'.cell? ⟨w.heap.size, 1, none⟩ = some (.bool one) ∧ w'.cell? ⟨w.heap.size, 2, none⟩ = some (.slice none 0 0) ∧ w'.cell? ⟨w.heap.size, 3, none⟩ = some (.int .i64 0) ∧
    w'.cell? ⟨w.heap.size + 1, 0, none⟩ = some (.int .i64 1) ∧ w'.cell? ⟨w.heap.size + 1, 1, none⟩ = some (.bool two) ∧ w'.cell? ⟨w.heap.size + 1, 2, none⟩ = some (.slice none 0 0) ∧ w'.cell? ⟨w.heap.size + 1, 3, none⟩ = some (.int .i64 0)) (with_reducible (first | exact hS0 | exact hS1 | exact hS2 | exact (hBd.out.chg ((Chg.refl _ _).alloc _)).cells | exact (hBx.out.chg (((Chg.refl _ _).alloc _).drew)).cells | exact (hB1.out.chg ((Chg.refl _ _).alloc _)).cells | exact (hB2.out.chg ((Chg.refl _ _).alloc _)).cells | exact (hB2.out.set4 W.heap.size ne0 ne1 _ _ _ _).cells | exact (hB2.out.set4 w1.heap.size me0 me1 _ _ _ _).cells)) (first
    | (go_at_call 13
       with_reducible refine (kw.out _).mono ?_
       rintro e w1 ⟨rfl, hch1⟩
       have hB1 : Bx2 w.heap.size 1 0 1 0 one two none none 0 0 0 0 w1 := by with_reducible (first | exact hBd.out.chg hch1 | exact (hBd.out.chg ((Chg.refl _ _).alloc _)).chg hch1 | exact (hBx.out.chg (((Chg.refl _ _).alloc _).drew)).chg hch1)
       have hS1 := hB1.cells
       have me : w.heap.size + 1 < w1.heap.size := Nat.lt_of_lt_of_le (by have := hWs.out; show _ < W.heap.size; omega) (Nat.le_trans (by simp) hch1.size)
       have me0 : w.heap.size ≠ w1.heap.size := by omega
       have me1 : w.heap.size + 1 ≠ w1.heap.size := by omega
       clear me
       first
         | (have hZ := laid1 hch1
            replace hZ := Lib.hid hZ)
         | skip
       replace hB1 := Lib.hid hB1
       replace hch1 := Lib.hid hch1)
    | (go_at_call 15
       with_reducible refine (hd.out _).mono ?_
       rintro e w2 ⟨f', n', A', l', c', e', cn', ok', rfl, ⟨rfl, rfl, rfl, rfl⟩, hch2⟩
       have hB2 : Bx2 w.heap.size 1 0 1 0 one two none none 0 0 0 0 w2 := by with_reducible (first | exact hB1.out.chg hch2 | exact (hB1.out.chg ((Chg.refl _ _).alloc _)).chg hch2)
       have hS2 := hB2.cells
       first
         | (have hZ2 := hch2.heapB hZ.out (fun h => h)
            have z0 := cellB hZ2 (i := 0) rfl
            have z1 := cellB hZ2 (i := 1) rfl
            have z2 := cellB hZ2 (i := 2) rfl
            have z3 := cellB hZ2 (i := 3) rfl
            have y0 := frozenB hZ2 0
            have y1 := frozenB hZ2 1
            have y2 := frozenB hZ2 2
            have y3 := frozenB hZ2 3
            replace hZ2 := Lib.hid hZ2)
         | (have hZ2 := laid2 hch2
            have z0 := cellB hZ2 (i := 0) rfl
            have z1 := cellB hZ2 (i := 1) rfl
            have z2 := cellB hZ2 (i := 2) rfl
            have z3 := cellB hZ2 (i := 3) rfl
            have y0 := frozenB hZ2 0
            have y1 := frozenB hZ2 1
            have y2 := frozenB hZ2 2
            have y3 := frozenB hZ2 3
            replace hZ2 := Lib.hid hZ2)
         | skip
       replace hB2 := Lib.hid hB2
       replace hch2 := Lib.hid hch2))
  all_goals
    clear hS0 hS1 hS2 ne0 ne1 me0 me1 hd kw hop hBx hBd hB1 hB2
    rcases hk2.out with ⟨rfl, rfl, rfl, ⟨rfl, rfl, rfl⟩ | ⟨rfl, rfl, rfl⟩⟩ | ⟨rfl, rfl, rfl, ⟨rfl, rfl⟩ | ⟨rfl, rfl⟩⟩ | ⟨rfl, rfl, rfl, ⟨rfl, rfl, rfl⟩ | ⟨rfl, rfl, rfl⟩⟩ | ⟨rfl, rfl, rfl, ⟨rfl, rfl⟩ | ⟨rfl, rfl⟩⟩ | ⟨rfl, rfl, rfl, ⟨rfl, rfl, rfl⟩ | ⟨rfl, rfl, rfl⟩ | ⟨rfl, rfl, rfl⟩ | ⟨rfl, rfl, rfl⟩⟩ | ⟨rfl, rfl, rfl⟩
    all_goals
      clear hk2
      go_wp2
      go_ret
      refine ⟨rfl, Chg.below ?_⟩
      have hz := hWs.out
      have l1 := hch1.out.size
      have l1' : W.heap.size ≤ w1.heap.size := Nat.le_trans (by first | exact Nat.le_refl _ | (rw [World.size_alloc]; omega) | (show _ ≤ (W.alloc _).heap.size; rw [World.size_alloc]; omega)) l1
      with_reducible (first
        | exact ((hC0.out.drew.trans (hch1.out.mono (fun _ _ h => h.elim))).trans (hch2.out.mono (fun _ _ h => h.elim))).alloc _
        | exact (((hC0.out.drew.trans (hch1.out.mono (fun _ _ h => h.elim))).alloc _).trans (hch2.out.mono (fun _ _ h => h.elim))).trans ((chg4 _ w1.heap.size _ _ _ _).mono (fun k _ h => .inr (by omega)))
        | exact (((hC0.out.alloc _).drew.trans (hch1.out.mono (fun _ _ h => h.elim))).trans (hch2.out.mono (fun _ _ h => h.elim))).trans ((chg4 _ W.heap.size _ _ _ _).mono (fun k _ h => .inr (by omega))))
theorem FnInfinities_walk (op : Int) (one two : Bool) (prec mode : Int) (w : World) (h1 : 0 ≤ op ∧ op ≤ 255) (h2 : 0 ≤ prec ∧ prec ≤ 255) (h3 : 0 ≤ mode ∧ mode ≤ 255) :
    Calls Tryz.prog 5 #[.int .u8 op, .bool one, .bool two, .int .u8 prec, .int .u8 mode] w fun e w' => e = .returned (.bool true) ∧ Below w.heap.size w w' := by
  obtain ⟨m, hmm⟩ : ∃ m : Nat, mode % 8 = (m : Int) := ⟨(mode % 8).toNat, by omega⟩
  have hm : m < 8 := by omega
  have hp : 0 ≤ 1 + prec % 60 ∧ 1 + prec % 60 ≤ 4294967295 := by omega
  have hk : op % 4 = 0 ∨ op % 4 = 1 ∨ op % 4 = 2 ∨ op % 4 = 3 := by omega
  have c0 : (condN 0 : Int) = 0 := by decide
  have c1 : (condN 1024 : Int) = 256 := by decide
  rcases hk with hk | hk | hk | hk
  · by_cases he : one = (two != false)
    · have hd := fun w1 => didInf0t w1 _ 100000 (-100000) m one two hm hp (by omega) (by omega) he
      rw [c0] at hd
      exact infinities_of w op prec mode 0 1 0 m hmm one two one hk h1 h2 h3 hd (by have : one = two := by simpa using he
                                                                                    simp [this])
    · have hd := fun w1 => didInf0f w1 _ 100000 (-100000) m one two hm hp (by omega) (by omega) he
      rw [c1] at hd
      exact infinities_of w op prec mode 0 3 256 m hmm one two false hk h1 h2 h3 hd (by have : ¬ one = two := by simpa using he
                                                                                        simp [this])
  · by_cases he : one = (two != true)
    · have hd := fun w1 => didInf1t w1 _ 100000 (-100000) m one two hm hp (by omega) (by omega) he
      rw [c0] at hd
      exact infinities_of w op prec mode 1 1 0 m hmm one two one hk h1 h2 h3 hd (by cases one <;> cases two <;> first | exact absurd he (by decide) | decide)
    · have hd := fun w1 => didInf1f w1 _ 100000 (-100000) m one two hm hp (by omega) (by omega) he
      rw [c1] at hd
      exact infinities_of w op prec mode 1 3 256 m hmm one two false hk h1 h2 h3 hd (by cases one <;> cases two <;> first | exact absurd (by decide) he | decide)
  · have hd := fun w1 => didInf2 w1 _ 100000 (-100000) m one two hm hp (by omega) (by omega)
    rw [c0] at hd
    exact infinities_of w op prec mode 2 1 0 m hmm one two _ hk h1 h2 h3 hd (by simp)
  · have hd := fun w1 => didInf3 w1 _ 100000 (-100000) m one two hm hp (by omega) (by omega)
    rw [c1] at hd
    exact infinities_of w op prec mode 3 3 256 m hmm one two _ hk h1 h2 h3 hd (by simp)
end Go.Proofs.YtabggbajgpbmmaaGreatDoor
