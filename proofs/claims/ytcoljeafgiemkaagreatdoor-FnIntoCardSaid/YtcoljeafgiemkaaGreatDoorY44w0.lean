/- impl.Into, way 0. -/
import Derived.Test.YtcoljeafgiemkaaGreatDoorZI3
import Derived.Test.YtcoljeafgiemkaaGreatDoorY44
namespace Go.Proofs.YtcoljeafgiemkaaGreatDoor
open Go Go.RowKit

set_option maxRecDepth 100000 in
set_option maxHeartbeats 4000000 in
theorem into0_c (w : World) (hG : Glob w) {k : Int} {F : FuncId} (hkF : (k = 0 ∧ F = 57) ∨ (k = 1 ∧ F = 58) ∨ (k = 2 ∧ F = 59) ∨ (k = 3 ∧ F = 60) ∨ (k = 4 ∧ F = 61) ∨ (k = 5 ∧ F = 62)) (p m r : Nat) (ex ey : Int) (nx ny : Bool) (Ax Ay : Option Addr) (lx cx ly cy : Nat) (X Y : List Nat) (D : It) (Q : Int → Bool → Option Addr → Nat → Nat → Int → World → Prop)
    (hm : m < 8) (hp : p ≤ 4294967295) (hr : r < 4096) (hQ : StQ Q) (ht : ∀ w4 (τ : Sg) d, Hold w w4 τ → τ d = some D → ToldQ Q w w4 τ d)
    (hX : RdW w Ax lx cx X) (hlx : lx ≤ 900) (hex : -2147483648 ≤ ex ∧ ex ≤ 2147483647)
    (hY : RdW w Ay ly cy Y) (hly : ly ≤ 900) (hey : -2147483648 ≤ ey ∧ ey ≤ 2147483647)
    (hop : OpAt F p m nx ny ex ey (val X) (val Y) D r) :
    Calls Tryz.prog 29 #[.int .i64 k, .int .i64 0, .agg #[.int .u64 (p : Int), .int .i64 100000, .int .i64 (-100000), .int .i64 (m : Int)], .agg #[.int .i64 0, .bool nx, .slice Ax lx cx, .int .i64 ex], .agg #[.int .i64 0, .bool ny, .slice Ay ly cy, .int .i64 ey]] w fun E w' => ImplQ Q w w' E (condN r) := by
  have kc := fun w => context_c w (p : Int) 100000 (-100000) m hm (by omega) (by omega) (by omega)
  have kq := fun w => conditions_c w r hr
  have kx := fun w1 (hc : Chg w w1 (fun _ => False)) => madeF_c w1 nx Ax lx cx X ex (hX.chg hc (fun _ h => h.elim)) hlx hex
  have ky := fun w1 (hc : Chg w w1 (fun _ => False)) => madeF_c w1 ny Ay ly cy Y ey (hY.chg hc (fun _ h => h.elim)) hly hey
  unfold ImplQ
  unfold ToldQ at ht
  unfold OpAt at hop
  replace kc := Lib.hid kc
  replace kq := Lib.hid kq
  replace kx := Lib.hid kx
  replace ky := Lib.hid ky
  replace hop := Lib.hid hop
  replace ht := Lib.hid ht
  replace hQ := Lib.hid hQ
  replace hX := Lib.hid hX
  replace hY := Lib.hid hY
  replace hkF := Lib.hid hkF
  clear hm hp hr
  have hL := layR hG (.cells #[.int .u64 (p : Int), .int .i64 100000, .int .i64 (-100000), .int .i64 (m : Int)] 35 (0, 0)) (.cells #[.int .i64 0, .bool nx, .slice Ax lx cx, .int .i64 ex] 24 (0, 0)) (.cells #[.int .i64 0, .bool ny, .slice Ay ly cy, .int .i64 ey] 24 (0, 0)) (.cells #[.int .i64 0, .bool false, .slice none 0 0, .int .i64 0] 24 (0, 0))
  replace hL := Lib.hid hL
  replace hG := Lib.hid hG
  go_enter Tryz.func29, Tryz.ntmps29
  go_upto_region 1 with (fail)
  generalize hW : ((((w.alloc (.cells #[.int .u64 (p : Int), .int .i64 100000, .int .i64 (-100000), .int .i64 (m : Int)] 35 (0, 0))).alloc (.cells #[.int .i64 0, .bool nx, .slice Ax lx cx, .int .i64 ex] 24 (0, 0))).alloc (.cells #[.int .i64 0, .bool ny, .slice Ay ly cy, .int .i64 ey] 24 (0, 0))).alloc (.cells #[.int .i64 0, .bool false, .slice none 0 0, .int .i64 0] 24 (0, 0))) = W
  have hsz : W.heap.size = w.heap.size + 4 := by rw [← hW]; simp
  obtain ⟨σ, h0, b0, b1, b2, br⟩ := hL.out
  rw [hW] at h0
  clear hW hL
  have hBd : Bx3 w.heap.size (p : Int) 100000 (-100000) m 0 ex 0 ey nx ny Ax Ay lx cx ly cy W.drew := (show Bx3 w.heap.size (p : Int) 100000 (-100000) m 0 ex 0 ey nx ny Ax Ay lx cx ly cy W from ⟨h0.raw b0, h0.raw b1, h0.raw b2⟩)
  have hS0 := hBd.cells
  replace hsz := Lib.hid hsz
  replace h0 := Lib.hid h0
  replace b0 := Lib.hid b0
  replace b1 := Lib.hid b1
  replace b2 := Lib.hid b2
  replace br := Lib.hid br
  clear hBd
  go_region_held3 (fun w' => w'.cell? ⟨w.heap.size, 0, none⟩ = some (.int .u64 (p : Int)) ∧ w'.cell? ⟨w.heap.size, 1, none⟩ = some (.int .i64 100000) ∧ w'.cell? ⟨w.heap.size, 2, none⟩ = some (.int .i64 (-100000)) ∧ w'.cell? ⟨w.heap.size, 3, none⟩ = some (.int .i64 (m : Int)) ∧
    w'.cell? ⟨w.heap.size + 1, 0, none⟩ = some (.int .i64 0) ∧ w'.cell? ⟨w.heap.size + 1, 1, none⟩ = some (.bool nx) ∧ w'.cell? ⟨w.heap.size + 1, 2, none⟩ = some (.slice Ax lx cx) ∧ w'.cell? ⟨w.heap.size + 1, 3, none⟩ = some (.int .i64 ex) ∧
    w'.cell? ⟨w.heap.size + 2, 0, none⟩ = some (.int .i64 0) ∧ w'.cell? ⟨w.heap.size + 2, 1, none⟩ = some (.bool ny) ∧ w'.cell? ⟨w.heap.size + 2, 2, none⟩ = some (.slice Ay ly cy) ∧ w'.cell? ⟨w.heap.size + 2, 3, none⟩ = some (.int .i64 ey)) (first | exact hS0 | exact hS2 | exact hS3) (first
    | (go_at_call_of 42 nx
       refine (kx.out _ h0.out.drew.chg).mono ?_
       rintro E w2 hm2
       obtain ⟨x, τ2, rfl, hxl, h2, le2, hx⟩ := hm2.more h0.out.drew
       have hS2 := (show Bx3 w.heap.size (p : Int) 100000 (-100000) m 0 ex 0 ey nx ny Ax Ay lx cx ly cy w2 from ⟨h2.raw (le2 _ _ b0.out), h2.raw (le2 _ _ b1.out), h2.raw (le2 _ _ b2.out)⟩).cells
       replace h2 := Lib.hid h2
       replace le2 := Lib.hid le2
       replace hx := Lib.hid hx
       clear hm2 hxl)
    | (go_at_call_of 42 ny
       refine (ky.out _ h2.out.chg).mono ?_
       rintro E w3 hm3
       obtain ⟨y, τ3, rfl, hyl, h3, le3, hy⟩ := hm3.more h2.out
       have le03 := le2.out.trans le3
       have hS3 := (show Bx3 w.heap.size (p : Int) 100000 (-100000) m 0 ex 0 ey nx ny Ax Ay lx cx ly cy w3 from ⟨h3.raw (le03 _ _ b0.out), h3.raw (le03 _ _ b1.out), h3.raw (le03 _ _ b2.out)⟩).cells
       have hxy : x ≠ y := by have h4 := (h2.out.lt hx.out).2; omega
       replace h3 := Lib.hid h3
       replace le3 := Lib.hid le3
       replace le03 := Lib.hid le03
       replace hy := Lib.hid hy
       replace hxy := Lib.hid hxy
       clear hm3 hyl))
  clear hS0 hS2
  obtain ⟨u0, u1, u2, u3, -⟩ := hS3
  go_wp2_with fail
  with_reducible refine (kc.out _).mono ?_
  rintro E w5 ⟨c, rfl, hcl, hc1, hch1⟩
  obtain ⟨τ5, h5', le5, hc⟩ := h3.out.more hch1 hcl hc1
  have hx3 := le5 _ _ (le3.out _ _ hx.out)
  have hy5 := le5 _ _ hy.out
  have ko := hop.out w w5 τ5 c x x y _ _ _ _ h5' hc hx3 hx3 hy5 (fun e => absurd e hxy.out)
  have br5 := le5 _ _ (le03.out _ _ br.out)
  have hzr : x ≠ w.heap.size + 3 := by rintro e0; have e1 := hx3; rw [e0, br5] at e1; cases e1
  clear u0 u1 u2 u3
  replace ko := Lib.hid ko
  replace br5 := Lib.hid br5
  clear h5' hx3 hy5 hcl hc1 hch1
  rcases hkF.out with ⟨rfl, rfl⟩ | ⟨rfl, rfl⟩ | ⟨rfl, rfl⟩ | ⟨rfl, rfl⟩ | ⟨rfl, rfl⟩ | ⟨rfl, rfl⟩
  all_goals
    go_wp2_with fail
    with_reducible refine ko.out.mono ?_
    rintro E w4 ⟨rfl, h4⟩
    have hd4 := upd_eq τ5 x D
    have br4 : upd τ5 x D (w.heap.size + 3) = some (raw (.cells #[.int .i64 0, .bool false, .slice none 0 0, .int .i64 0] 24 (0, 0))) := by rw [upd_ne _ _ (Ne.symm hzr)]; exact br5.out
    generalize upd τ5 x D = τ4 at h4 hd4 br4
    replace h4 := Lib.hid h4
    replace hd4 := Lib.hid hd4
    replace br4 := Lib.hid br4
    have hrl := (h4.out.lt br4.out).2
    replace hrl := Lib.hid hrl
    go_upto_region 27 with (fail)
    go_region_held3 (fun w' => Anyp w') (exact anyp _) (first
      | (go_at_call 43
         refine (ht.out w4.drew _ _ h4.out.drew hd4.out).mono ?_
         rintro E w5 ⟨F, s, q, l, cc, e1, rfl, hq, hql, h5⟩
         have hR5 := h5.raw br4.out
         have r0 := cellB hR5 (i := 0) rfl
         have r1 := cellB hR5 (i := 1) rfl
         have r2 := cellB hR5 (i := 2) rfl
         have r3 := cellB hR5 (i := 3) rfl
         have rz0 := frozenB hR5 0
         have rz1 := frozenB hR5 1
         have rz2 := frozenB hR5 2
         have rz3 := frozenB hR5 3
         replace hR5 := Lib.hid hR5
         replace h5 := Lib.hid h5
         replace hq := Lib.hid hq
         replace hql := Lib.hid hql)
      | (go_at_call 44
         refine (kq.out _).mono ?_
         rintro E w6 ⟨rfl, hw⟩
         obtain rfl := hw))
    go_wp2
    have hfin := setB (i := 3) (v := .int .i64 e1) (setB (i := 2) (v := .slice q l cc) (setB (i := 1) (v := .bool s) (setB (i := 0) (v := .int .i64 F) hR5.out)))
    have hcf : Chg w5 _ (fun k => k = w.heap.size + 3) := ((((Chg.refl w5 (fun k => k = w.heap.size + 3)).trans ((chg_setB w5 (w.heap.size + 3) 0 (.int .i64 F)).mono (fun _ _ h => .inl h))).trans ((chg_setB _ (w.heap.size + 3) 1 (.bool s)).mono (fun _ _ h => .inl h))).trans ((chg_setB _ (w.heap.size + 3) 2 (.slice q l cc)).mono (fun _ _ h => .inl h))).trans ((chg_setB _ (w.heap.size + 3) 3 (.int .i64 e1)).mono (fun _ _ h => .inl h))
    clear r0 r1 r2 r3 rz0 rz1 rz2 rz3
    generalize (((w5.setCell ⟨w.heap.size + 3, 0, none⟩ (.int .i64 F)).setCell ⟨w.heap.size + 3, 1, none⟩ (.bool s)).setCell ⟨w.heap.size + 3, 2, none⟩ (.slice q l cc)).setCell ⟨w.heap.size + 3, 3, none⟩ (.int .i64 e1) = W9 at hfin hcf ⊢
    have c0 : W9.cell? ⟨w.heap.size + 1 + 1 + 1, 0, none⟩ = some (.int .i64 F) := cellB hfin rfl
    have c1 : W9.cell? ⟨w.heap.size + 1 + 1 + 1, 1, none⟩ = some (.bool s) := cellB hfin rfl
    have c2 : W9.cell? ⟨w.heap.size + 1 + 1 + 1, 2, none⟩ = some (.slice q l cc) := cellB hfin rfl
    have c3 : W9.cell? ⟨w.heap.size + 1 + 1 + 1, 3, none⟩ = some (.int .i64 e1) := cellB hfin rfl
    have hqf := hQ.out F s q l cc e1 _ _ _ hq.out (fun ad ha => by have h1 : w4.heap.size ≤ ad.block := hql.out ad ha; have h2 := hrl.out; omega) hcf
    have hwf : Chg w W9 (fun _ => False) := h5.out.chg.trans (hcf.mono (fun k _ e1 => .inr (by omega)))
    exact bodyPost_ret (v := .tuple #[.agg #[.int .i64 F, .bool s, .slice q l cc, .int .i64 e1], .int .i64 (condN r : Int), .bool true]) (by simp [results, Tryz.results29, go_sem, c0, c1, c2, c3]) rfl ⟨F, s, q, l, cc, e1, rfl, hqf, hwf⟩
end Go.Proofs.YtcoljeafgiemkaaGreatDoor
