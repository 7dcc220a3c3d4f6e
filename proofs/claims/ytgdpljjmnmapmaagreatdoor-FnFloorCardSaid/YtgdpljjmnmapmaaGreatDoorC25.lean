/- big.Int on what is held: Rem. The reference's order of two values that are the same. -/
import Derived.Test.YtgdpljjmnmapmaaGreatDoorC18
import Derived.Test.YtgdpljjmnmapmaaGreatDoorC20
import Derived.Test.YtgdpljjmnmapmaaGreatDoorC22
namespace Go.Proofs.YtgdpljjmnmapmaaGreatDoor
open Go Go.RowKit
set_option maxRecDepth 20000 in
set_option maxHeartbeats 2000000 in
theorem intRem_c {w0 w : World} {σ : Sg} (h : Hold w0 w σ) {bz oz bx ox yb yo : Nat} {gz : Bool} {Z X Y : Nat} (hz : Num σ bz oz gz Z) (hx : Num σ bx ox false X) (hy : Num σ yb yo false Y) (hY0 : Y ≠ 0) (hX : (digs X).length ≤ 250) (hY : (digs Y).length < 40) :
    Calls Tryz.prog 200 #[.pointer (some ⟨bz, oz, none⟩), .pointer (some ⟨bx, ox, none⟩), .pointer (some ⟨yb, yo, none⟩)] w fun e w' => e = .returned (.pointer (some ⟨bz, oz, none⟩)) ∧ Hold w0 w' (put σ bz oz false (X % Y)) := by
  obtain ⟨vz, sz, pz⟩ := h.op hz
  obtain ⟨vx, sx, px⟩ := h.op hx
  obtain ⟨vy, sy, py⟩ := h.op hy
  have hm := fun w2 (hc : Chg w w2 (fun _ => False)) => natDiv_c w2 (.slice none 0 0) vz vx vy X Y none sz sx sy (h.keep hc).glob (stor_none _) (pz.nat.stor.chg hc (fun _ _ h => h)) (px.nat.chg hc (fun _ _ h => h)) (py.nat.chg hc (fun _ _ h => h)) (fun _ h => by cases h) hY0 hY hX
  have z1 := pz.c1
  have x0 := px.c0
  have x1 := px.c1
  have y0 := py.c0
  have y1 := py.c1
  obtain ⟨pvx, pcx, rfl, _, _⟩ := px.nat.shape
  obtain ⟨pvy, pcy, rfl, _, _⟩ := py.nat.shape
  obtain ⟨pvz, pcz, rfl, _, _⟩ := pz.nat.shape
  replace h := Lib.hid h
  replace hz := Lib.hid hz
  replace hx := Lib.hid hx
  replace hy := Lib.hid hy
  replace pz := Lib.hid pz
  replace px := Lib.hid px
  replace py := Lib.hid py
  replace hm := Lib.hid hm
  clear hX hY hY0
  go_enter Tryz.func200, Tryz.ntmps200
  go_wp2
  go_cut [7] (fun _ wx => Hold w0 wx (put σ bz oz gz (X % Y)))
  case first =>
    go_region_with ((go_at_call 133; refine (hm.out _ (by exact ⟨rfl, rfl, rfl, Nat.le_refl _, fun _ _ _ => rfl⟩)).mono ?_; rintro e w1 ⟨rq, rr, rfl, hr, hch⟩; obtain ⟨g1, g3, hH, pr, cr, rfl⟩ := pz.out.stored hz.out (by exact ⟨rfl, rfl, rfl, Nat.le_refl _, fun _ _ _ => rfl⟩) (by rfl) (hr.rem hch); replace hH := Lib.hid hH))
    all_goals
      go_wp2_with fail
      go_meet
      exact hH.out
  case rest =>
    clear x0 y0 x1 y1 z1
    have x0 := hcut.signs hz.out hx.out
    have y0 := hcut.signs hz.out hy.out
    obtain ⟨p, c, z1, z0, fz, hfin⟩ := hcut.fin hz.out
    have hfin := hfin false
    replace hfin := Lib.hid hfin
    clear hcut pz px py h hm
    obtain ⟨L, hL⟩ : ∃ L, (digs (X % Y)).length = L := ⟨_, rfl⟩
    rw [hL] at z1
    replace hL := Lib.hid hL
    by_cases hL0 : L = 0
    · replace hL := Lib.hid (show True from trivial)
      subst hL0
      go_wp2
      all_goals
        go_wp2
        go_ret
        exact ⟨rfl, by first | exact hfin.out | exact hfin.out.drew⟩
    · have hLp : 0 < L := by omega
      go_wp2
      all_goals
        go_wp2
        go_ret
        exact ⟨rfl, by first | exact hfin.out | exact hfin.out.drew⟩
end Go.Proofs.YtgdpljjmnmapmaaGreatDoor

namespace Go.Proofs.YtgdpljjmnmapmaaGreatDoor
open Go Go.RowKit

set_option maxRecDepth 20000 in
set_option maxHeartbeats 4000000 in
theorem order0_c (w : World) (s t : Bool) (p q : Option Addr) (l c a b : Nat) (e f : Int) (N M : Nat) (g : Int) (i j A B : Nat) (hX : RdD w p l c (d16 N)) (hY : RdD w q a b (d16 M)) (hl : l ≤ 1000) (ha : a ≤ 1000) (he : -1000 ≤ e ∧ e ≤ 1000) (hf : -1000 ≤ f ∧ f ≤ 1000)
    (hg : min e f = g) (hi : e - g = (i : Int)) (hj : f - g = (j : Int)) (hA : A = N * 10 ^ i) (hB : B = M * 10 ^ j) (heq : (s = t ∧ A = B) ∨ (A = 0 ∧ B = 0)) :
    Calls Tryz.prog 34 #[.agg #[.bool s, .slice p l c, .int .i64 e], .agg #[.bool t, .slice q a b, .int .i64 f]] w fun E w' => E = .returned (.int .i64 0) ∧ Below w.heap.size w w' := by
  have hz : (if s = !t then A + B else if B ≤ A then A - B else B - A) = 0 := by
    rcases heq with ⟨rfl, rfl⟩ | ⟨rfl, rfl⟩
    · cases s <;> simp
    · cases s <;> cases t <;> simp
  have ks := fun W (hb : Below w.heap.size w W) => sumV_c W s (!t) p q l c a b e f N M g i j A B (hX.below hb) (hY.below hb) hl ha he hf hg hi hj hA hB
  simp only [hz] at ks
  obtain ⟨SG, hSG⟩ : ∃ SG, sumS s (!t) A B = SG := ⟨_, rfl⟩
  rw [hSG] at ks
  replace ks := Lib.hid ks
  replace hSG := Lib.hid hSG
  replace hX := Lib.hid hX
  replace hY := Lib.hid hY
  clear hz hA hB heq hg hi hj
  go_enter Tryz.func34, Tryz.ntmps34
  go_upto_region 1 with (fail)
  generalize hW : (w.alloc (.cells #[.bool s, .slice p l c, .int .i64 e] 29 (0, 0))).alloc (.cells #[.bool t, .slice q a b, .int .i64 f] 29 (0, 0)) = W
  have hB0 : Below w.heap.size w W := by rw [← hW]; exact ((Below.refl _ _).alloc (Nat.le_refl _) _).alloc (by simp) _
  have hBv : Bv2 w.heap.size s t p q l c a b e f W := by rw [← hW]; exact ⟨allocB_old (allocB _ _), allocB_at _ _ (by simp)⟩
  clear hW
  have ko := opp_c W.drew t q a b f M ((hY.out.below hB0).below (Below.drw (Below.refl _ _)))
  have hS0 := (show Bv2 w.heap.size s t p q l c a b e f W.drew from hBv).cells
  replace ko := Lib.hid ko
  replace hB0 := Lib.hid hB0
  replace hBv := Lib.hid hBv
  go_region_held3 (fun w' => w'.cell? ⟨w.heap.size, 0, none⟩ = some (.bool s) ∧ w'.cell? ⟨w.heap.size, 1, none⟩ = some (.slice p l c) ∧ w'.cell? ⟨w.heap.size, 2, none⟩ = some (.int .i64 e) ∧ w'.cell? ⟨w.heap.size + 1, 0, none⟩ = some (.bool t) ∧ w'.cell? ⟨w.heap.size + 1, 1, none⟩ = some (.slice q a b) ∧ w'.cell? ⟨w.heap.size + 1, 2, none⟩ = some (.int .i64 f)) (first | exact hS0 | exact hS1 | exact hS2 | exact hS3) (first
    | (go_at_call 58
       with_reducible refine ko.out.mono ?_
       rintro E w1 ⟨rfl, hbo⟩
       have hb1 := bundrew hbo
       have hS1 := (hBv.out.new hb1).cells
       replace hb1 := Lib.hid hb1
       clear hbo)
    | (go_at_call 57
       with_reducible refine (ks.out w1 (brise hB0.out hb1.out)).mono ?_
       rintro E w2 ⟨r, lr, cr, rfl, h2⟩
       have hl0 : lr = 0 := (d16_len0 h2.rd.len).2 rfl
       subst hl0
       have hb2 := brise hb1.out h2.bel
       have hS2 := (hBv.out.new hb2).cells
       replace hb2 := Lib.hid hb2
       clear h2)
    | (go_at_call 16
       with_reducible refine (sign_c w2 SG r 0 cr g).mono ?_
       rintro E w3 ⟨rfl, hb3'⟩
       have hb3 := brise hb2.out hb3'
       have hS3 := (hBv.out.new hb3).cells
       replace hb3 := Lib.hid hb3
       clear hb3'))
  go_wp2
  go_ret
  exact ⟨by simp, brise hB0.out hb3.out⟩
set_option maxRecDepth 20000 in
set_option maxHeartbeats 4000000 in
theorem same_c (w : World) (s t : Bool) (p q : Option Addr) (l c a b : Nat) (e f : Int) (N M : Nat) (g : Int) (i j : Nat) (hX : RdD w p l c (d16 N)) (hY : RdD w q a b (d16 M)) (hl : l ≤ 1000) (ha : a ≤ 1000) (he : -1000 ≤ e ∧ e ≤ 1000) (hf : -1000 ≤ f ∧ f ≤ 1000)
    (hg : min e f = g) (hi : e - g = (i : Int)) (hj : f - g = (j : Int)) (heq : (s = t ∨ N = 0) ∧ N * 10 ^ i = M * 10 ^ j) :
    Calls Tryz.prog 14 #[.agg #[.bool s, .slice p l c, .int .i64 e], .agg #[.bool t, .slice q a b, .int .i64 f]] w fun E w' => E = .returned (.bool true) ∧ Below w.heap.size w w' := by
  have ks := fun W (hb : Below w.heap.size w W) => order0_c W s t p q l c a b e f N M g i j _ _ (hX.below hb) (hY.below hb) hl ha he hf hg hi hj rfl rfl (by
    obtain ⟨h1, h2⟩ := heq
    rcases h1 with h1 | h1
    · exact .inl ⟨h1, h2⟩
    · refine .inr ⟨by rw [h1, Nat.zero_mul], ?_⟩
      rw [← h2, h1, Nat.zero_mul])
  replace ks := Lib.hid ks
  clear hX hY heq hg hi hj
  go_enter Tryz.func14, Tryz.ntmps14
  go_upto_region 1 with (fail)
  generalize hW : (w.alloc (.cells #[.bool s, .slice p l c, .int .i64 e] 29 (0, 0))).alloc (.cells #[.bool t, .slice q a b, .int .i64 f] 29 (0, 0)) = W
  have hB0 : Below w.heap.size w W := by rw [← hW]; exact ((Below.refl _ _).alloc (Nat.le_refl _) _).alloc (by simp) _
  have hBv : Bv2 w.heap.size s t p q l c a b e f W := by rw [← hW]; exact ⟨allocB_old (allocB _ _), allocB_at _ _ (by simp)⟩
  clear hW
  obtain ⟨c0, c1, c2, d0, d1, d2⟩ := hBv.cells
  replace hB0 := Lib.hid hB0
  clear hBv
  go_wp2_with fail
  with_reducible refine (ks.out _ hB0.out).mono ?_
  rintro E w1 ⟨rfl, hb⟩
  go_wp2
  go_ret
  exact ⟨rfl, brise hB0.out hb⟩
end Go.Proofs.YtgdpljjmnmapmaaGreatDoor
