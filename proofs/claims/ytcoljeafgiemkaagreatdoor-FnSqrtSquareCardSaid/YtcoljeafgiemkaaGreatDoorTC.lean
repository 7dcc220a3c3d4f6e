/- impl.QuoInteger, whatever the answer is. Context.Mul of a decimal by itself, into itself. impl.Rem, whatever the answer is. impl.Add, whatever the answer is. impl.Quo, whatever the answer is. impl.Mul, whatever the answer is. impl.Sub, whatever the answer is. -/
import Derived.Test.YtcoljeafgiemkaaGreatDoorC33
import Derived.Test.YtcoljeafgiemkaaGreatDoorC38
import Derived.Test.YtcoljeafgiemkaaGreatDoorC40
namespace Go.Proofs.YtcoljeafgiemkaaGreatDoor
open Go Go.RowKit

end Go.Proofs.YtcoljeafgiemkaaGreatDoor

namespace Go.Proofs.YtcoljeafgiemkaaGreatDoor
open Go Go.RowKit
end Go.Proofs.YtcoljeafgiemkaaGreatDoor

namespace Go.Proofs.YtcoljeafgiemkaaGreatDoor
open Go Go.RowKit

end Go.Proofs.YtcoljeafgiemkaaGreatDoor

namespace Go.Proofs.YtcoljeafgiemkaaGreatDoor
open Go Go.RowKit

end Go.Proofs.YtcoljeafgiemkaaGreatDoor

namespace Go.Proofs.YtcoljeafgiemkaaGreatDoor
open Go Go.RowKit

end Go.Proofs.YtcoljeafgiemkaaGreatDoor

namespace Go.Proofs.YtcoljeafgiemkaaGreatDoor
open Go Go.RowKit

set_option maxRecDepth 100000 in
set_option maxHeartbeats 4000000 in
theorem implMulG_c (w : World) (hG : Glob w) (p m r : Nat) (a b ex ey : Int) (nx ny : Bool) (Ax Ay : Option Addr) (lx cx ly cy : Nat) (X Y : List Nat) (D : It) (Q : Int → Bool → Option Addr → Nat → Nat → Int → World → Prop)
    (hm : m < 8) (hp : p ≤ 4294967295) (ha : -2147483648 ≤ a ∧ a ≤ 2147483647) (hb : -2147483648 ≤ b ∧ b ≤ 2147483647) (hr : r < 4096) (hQ : StQ Q) (ht : ∀ w4 (τ : Sg) d, Hold w w4 τ → τ d = some D → ToldQ Q w w4 τ d)
    (hX : RdW w Ax lx cx X) (hlx : lx ≤ 900) (hex : -2147483648 ≤ ex ∧ ex ≤ 2147483647)
    (hY : RdW w Ay ly cy Y) (hly : ly ≤ 900) (hey : -2147483648 ≤ ey ∧ ey ≤ 2147483647)
    (hop : ∀ w1 (σ : Sg) c d x y, Hold w w1 σ → σ c = some (ctxO p a b (modeS m)) → σ d = some (dec 0 false 0 false 0) → σ x = some (dec 0 nx ex false (val X)) → d ≠ x → σ y = some (dec 0 ny ey false (val Y)) → x ≠ y → d ≠ y → Calls Tryz.prog 59 #[.pointer (some ⟨c, 0, none⟩), .pointer (some ⟨d, 0, none⟩), .pointer (some ⟨x, 0, none⟩), .pointer (some ⟨y, 0, none⟩)] w1 (fun E w' => E = .returned (.tuple #[.int .u32 (r : Int), .nilIface]) ∧ Hold w w' (upd σ d D))) :
    Calls Tryz.prog 39 #[.agg #[.int .u64 (p : Int), .int .i64 a, .int .i64 b, .int .i64 (m : Int)], .agg #[.int .i64 0, .bool nx, .slice Ax lx cx, .int .i64 ex], .agg #[.int .i64 0, .bool ny, .slice Ay ly cy, .int .i64 ey]] w fun E w' => ImplQ Q w w' E (condN r) := by
  have kc := fun w => context_c w (p : Int) a b m hm (by omega) ha hb
  have kq := fun w => conditions_c w r hr
  have kx := fun w1 (hc : Chg w w1 (fun _ => False)) => madeF_c w1 nx Ax lx cx X ex (hX.chg hc (fun _ h => h.elim)) hlx hex
  have ky := fun w1 (hc : Chg w w1 (fun _ => False)) => madeF_c w1 ny Ay ly cy Y ey (hY.chg hc (fun _ h => h.elim)) hly hey
  unfold ImplQ
  unfold ToldQ at ht
  replace kc := Lib.hid kc
  replace kq := Lib.hid kq
  replace kx := Lib.hid kx
  replace ky := Lib.hid ky
  replace hop := Lib.hid hop
  replace ht := Lib.hid ht
  replace hQ := Lib.hid hQ
  replace hX := Lib.hid hX
  replace hY := Lib.hid hY
  clear hm hp ha hb hr
  have hL := lay5 hG (.cells #[.int .u64 (p : Int), .int .i64 a, .int .i64 b, .int .i64 (m : Int)] 35 (0, 0)) (.cells #[.int .i64 0, .bool nx, .slice Ax lx cx, .int .i64 ex] 24 (0, 0)) (.cells #[.int .i64 0, .bool ny, .slice Ay ly cy, .int .i64 ey] 24 (0, 0)) (.cells #[.int .i64 0, .bool false, .slice none 0 0, .int .i64 0] 24 (0, 0))
  replace hL := Lib.hid hL
  replace hG := Lib.hid hG
  go_enter Tryz.func39, Tryz.ntmps39
  go_wp2
  generalize hW : (((((w.alloc (.cells #[.int .u64 (p : Int), .int .i64 a, .int .i64 b, .int .i64 (m : Int)] 35 (0, 0))).alloc (.cells #[.int .i64 0, .bool nx, .slice Ax lx cx, .int .i64 ex] 24 (0, 0))).alloc (.cells #[.int .i64 0, .bool ny, .slice Ay ly cy, .int .i64 ey] 24 (0, 0))).alloc (.cells #[.int .i64 0, .bool false, .slice none 0 0, .int .i64 0] 24 (0, 0))).alloc (.cells #[.int .i8 0, .bool false, .int .i32 0, .bool false, .slice none 0 0, .bool false] 75 (0, 0))) = W
  have hsz : W.heap.size = w.heap.size + 5 := by rw [← hW]; simp
  obtain ⟨σ, h0, b0, b1, b2, br, bd⟩ := hL.out
  rw [hW] at h0
  clear hW hL
  have hBx : Bx3 w.heap.size (p : Int) a b m 0 ex 0 ey nx ny Ax Ay lx cx ly cy W := ⟨h0.raw b0, h0.raw b1, h0.raw b2⟩
  have hBd : Bx3 w.heap.size (p : Int) a b m 0 ex 0 ey nx ny Ax Ay lx cx ly cy W.drew := hBx
  have hS0 := hBd.cells
  replace hsz := Lib.hid hsz
  replace h0 := Lib.hid h0
  replace b0 := Lib.hid b0
  replace b1 := Lib.hid b1
  replace b2 := Lib.hid b2
  replace br := Lib.hid br
  replace bd := Lib.hid bd
  clear hBx hBd
  go_region_held3 (fun w' => w'.cell? ⟨w.heap.size, 0, none⟩ = some (.int .u64 (p : Int)) ∧ w'.cell? ⟨w.heap.size, 1, none⟩ = some (.int .i64 a) ∧ w'.cell? ⟨w.heap.size, 2, none⟩ = some (.int .i64 b) ∧ w'.cell? ⟨w.heap.size, 3, none⟩ = some (.int .i64 (m : Int)) ∧
    w'.cell? ⟨w.heap.size + 1, 0, none⟩ = some (.int .i64 0) ∧ w'.cell? ⟨w.heap.size + 1, 1, none⟩ = some (.bool nx) ∧ w'.cell? ⟨w.heap.size + 1, 2, none⟩ = some (.slice Ax lx cx) ∧ w'.cell? ⟨w.heap.size + 1, 3, none⟩ = some (.int .i64 ex) ∧
    w'.cell? ⟨w.heap.size + 2, 0, none⟩ = some (.int .i64 0) ∧ w'.cell? ⟨w.heap.size + 2, 1, none⟩ = some (.bool ny) ∧ w'.cell? ⟨w.heap.size + 2, 2, none⟩ = some (.slice Ay ly cy) ∧ w'.cell? ⟨w.heap.size + 2, 3, none⟩ = some (.int .i64 ey)) (first | exact hS0 | exact hS1 | exact hS2 | exact hS3 | exact hS4) (first
    | (go_at_call 40
       refine (kc.out _).mono ?_
       rintro E w1 ⟨c, rfl, hcl, hc1, hch1⟩
       obtain ⟨τ1, h1, le1, hc⟩ := h0.out.drew.more hch1 hcl hc1
       have hS1 := (show Bx3 w.heap.size (p : Int) a b m 0 ex 0 ey nx ny Ax Ay lx cx ly cy w1 from ⟨h1.raw (le1 _ _ b0.out), h1.raw (le1 _ _ b1.out), h1.raw (le1 _ _ b2.out)⟩).cells
       replace h1 := Lib.hid h1
       replace le1 := Lib.hid le1
       replace hc := Lib.hid hc
       clear hcl hc1 hch1)
    | (go_at_call_of 42 nx
       refine (kx.out _ h1.out.chg).mono ?_
       rintro E w2 hm2
       obtain ⟨x, τ2, rfl, hxl, h2, le2, hx⟩ := hm2.more h1.out
       have le02 := le1.out.trans le2
       have hS2 := (show Bx3 w.heap.size (p : Int) a b m 0 ex 0 ey nx ny Ax Ay lx cx ly cy w2 from ⟨h2.raw (le02 _ _ b0.out), h2.raw (le02 _ _ b1.out), h2.raw (le02 _ _ b2.out)⟩).cells
       have hdx : w.heap.size + 4 ≠ x := by have h3 := (h1.out.lt (le1.out _ _ bd.out)).2; omega
       replace h2 := Lib.hid h2
       replace le2 := Lib.hid le2
       replace le02 := Lib.hid le02
       replace hx := Lib.hid hx
       replace hdx := Lib.hid hdx
       clear hm2 hxl)
    | (go_at_call_of 42 ny
       refine (ky.out _ h2.out.chg).mono ?_
       rintro E w3 hm3
       obtain ⟨y, τ3, rfl, hyl, h3, le3, hy⟩ := hm3.more h2.out
       have le03 := le02.out.trans le3
       have hS3 := (show Bx3 w.heap.size (p : Int) a b m 0 ex 0 ey nx ny Ax Ay lx cx ly cy w3 from ⟨h3.raw (le03 _ _ b0.out), h3.raw (le03 _ _ b1.out), h3.raw (le03 _ _ b2.out)⟩).cells
       have hdy : w.heap.size + 4 ≠ y := by have h4 := (h2.out.lt (le02.out _ _ bd.out)).2; omega
       have hxy : x ≠ y := by have h4 := (h2.out.lt hx.out).2; omega
       replace h3 := Lib.hid h3
       replace le3 := Lib.hid le3
       replace le03 := Lib.hid le03
       replace hy := Lib.hid hy
       replace hdy := Lib.hid hdy
       replace hxy := Lib.hid hxy
       clear hm3 hyl)
    | (go_at_call 59
       refine (hop.out _ τ3 c (w.heap.size + 4) x y h3.out (le3.out _ _ (le2.out _ _ hc.out)) (le03.out _ _ bd.out) (le3.out _ _ hx.out) hdx.out hy.out hxy.out hdy.out).mono ?_
       rintro E w4 ⟨rfl, h4⟩
       have hd4 := upd_eq τ3 (w.heap.size + 4) D
       have br4 : upd τ3 (w.heap.size + 4) D (w.heap.size + 3) = some (raw (.cells #[.int .i64 0, .bool false, .slice none 0 0, .int .i64 0] 24 (0, 0))) := by rw [upd_ne _ _ (by omega)]; exact le03.out _ _ br.out
       have hS4 := (show Bx3 w.heap.size (p : Int) a b m 0 ex 0 ey nx ny Ax Ay lx cx ly cy w4 from ⟨h4.raw (by rw [upd_ne _ _ (by omega)]; exact le03.out _ _ b0.out), h4.raw (by rw [upd_ne _ _ (by omega)]; exact le03.out _ _ b1.out), h4.raw (by rw [upd_ne _ _ (by omega)]; exact le03.out _ _ b2.out)⟩).cells
       generalize upd τ3 (w.heap.size + 4) D = τ4 at h4 hd4 br4
       replace h4 := Lib.hid h4
       replace hd4 := Lib.hid hd4
       replace br4 := Lib.hid br4))
  go_wp2
  clear hS0 hS1 hS2 hS3 hS4
  have hrl := (h4.out.lt br4.out).2
  replace hrl := Lib.hid hrl
  go_region_held3 (fun w' => Anyp w') (exact anyp _) (first
    | (go_at_call 43
       refine (ht.out w4.drew _ _ h4.out.drew hd4.out).mono ?_
       rintro E w5 ⟨F, s, q, l, cc, e1, rfl, hq, hql, h5⟩
       have hR5 := h5.raw br4.out
       have r0 := cellB hR5 (i := 0) rfl
       have r1 := cellB hR5 (i := 1) rfl
       have r2 := cellB hR5 (i := 2) rfl
       have r3 := cellB hR5 (i := 3) rfl
       have rz0 := frozenB hR5 0
       have rz1 := frozenB hR5 1
       have rz2 := frozenB hR5 2
       have rz3 := frozenB hR5 3
       replace hR5 := Lib.hid hR5
       replace h5 := Lib.hid h5
       replace hq := Lib.hid hq
       replace hql := Lib.hid hql)
    | (go_at_call 44
       refine (kq.out _).mono ?_
       rintro E w6 ⟨rfl, hw⟩
       obtain rfl := hw))
  go_wp2
  have hfin := setB (i := 3) (v := .int .i64 e1) (setB (i := 2) (v := .slice q l cc) (setB (i := 1) (v := .bool s) (setB (i := 0) (v := .int .i64 F) hR5.out)))
  have hcf : Chg w5 _ (fun k => k = w.heap.size + 3) := ((((Chg.refl w5 (fun k => k = w.heap.size + 3)).trans ((chg_setB w5 (w.heap.size + 3) 0 (.int .i64 F)).mono (fun _ _ h => .inl h))).trans ((chg_setB _ (w.heap.size + 3) 1 (.bool s)).mono (fun _ _ h => .inl h))).trans ((chg_setB _ (w.heap.size + 3) 2 (.slice q l cc)).mono (fun _ _ h => .inl h))).trans ((chg_setB _ (w.heap.size + 3) 3 (.int .i64 e1)).mono (fun _ _ h => .inl h))
  clear r0 r1 r2 r3 rz0 rz1 rz2 rz3
  generalize (((w5.setCell ⟨w.heap.size + 3, 0, none⟩ (.int .i64 F)).setCell ⟨w.heap.size + 3, 1, none⟩ (.bool s)).setCell ⟨w.heap.size + 3, 2, none⟩ (.slice q l cc)).setCell ⟨w.heap.size + 3, 3, none⟩ (.int .i64 e1) = W9 at hfin hcf ⊢
  have c0 : W9.cell? ⟨w.heap.size + 1 + 1 + 1, 0, none⟩ = some (.int .i64 F) := cellB hfin rfl
  have c1 : W9.cell? ⟨w.heap.size + 1 + 1 + 1, 1, none⟩ = some (.bool s) := cellB hfin rfl
  have c2 : W9.cell? ⟨w.heap.size + 1 + 1 + 1, 2, none⟩ = some (.slice q l cc) := cellB hfin rfl
  have c3 : W9.cell? ⟨w.heap.size + 1 + 1 + 1, 3, none⟩ = some (.int .i64 e1) := cellB hfin rfl
  have hqf := hQ.out F s q l cc e1 _ _ _ hq.out (fun ad ha => by have h1 : w4.heap.size ≤ ad.block := hql.out ad ha; have h2 := hrl.out; omega) hcf
  have hwf : Chg w W9 (fun _ => False) := h5.out.chg.trans (hcf.mono (fun k _ e1 => .inr (by omega)))
  exact bodyPost_ret (v := .tuple #[.agg #[.int .i64 F, .bool s, .slice q l cc, .int .i64 e1], .int .i64 (condN r : Int), .bool true]) (by simp [results, Tryz.results39, go_sem, c0, c1, c2, c3]) rfl ⟨F, s, q, l, cc, e1, rfl, hqf, hwf⟩
end Go.Proofs.YtcoljeafgiemkaaGreatDoor

namespace Go.Proofs.YtcoljeafgiemkaaGreatDoor
open Go Go.RowKit

end Go.Proofs.YtcoljeafgiemkaaGreatDoor
