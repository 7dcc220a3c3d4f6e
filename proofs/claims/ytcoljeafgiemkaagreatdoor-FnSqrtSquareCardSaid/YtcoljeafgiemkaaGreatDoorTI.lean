/- impl.Sqrt, whatever the answer is. What impl.Sqrt tells of a decimal above 0, and the reference. -/
import Derived.Test.YtcoljeafgiemkaaGreatDoorC40
import Derived.Test.YtcoljeafgiemkaaGreatDoorTJ
import Derived.Test.YtcoljeafgiemkaaGreatDoorTF
import Derived.Test.YtcoljeafgiemkaaGreatDoorTD
namespace Go.Proofs.YtcoljeafgiemkaaGreatDoor
open Go Go.RowKit

set_option maxRecDepth 100000 in
set_option maxHeartbeats 4000000 in
theorem implSqrtG_c (w : World) (hG : Glob w) (p m r : Nat) (a b ex : Int) (nx : Bool) (Ax : Option Addr) (lx cx : Nat) (X : List Nat) (D : It) (Q : Int → Bool → Option Addr → Nat → Nat → Int → World → Prop)
    (hm : m < 8) (hp : p ≤ 4294967295) (ha : -2147483648 ≤ a ∧ a ≤ 2147483647) (hb : -2147483648 ≤ b ∧ b ≤ 2147483647) (hr : r < 4096) (hQ : StQ Q) (ht : ∀ w4 (τ : Sg) d, Hold w w4 τ → τ d = some D → ToldQ Q w w4 τ d)
    (hX : RdW w Ax lx cx X) (hlx : lx ≤ 900) (hex : -2147483648 ≤ ex ∧ ex ≤ 2147483647)
    (hop : ∀ w1 (σ : Sg) c d x, Hold w w1 σ → σ c = some (ctxO p a b (modeS m)) → σ d = some (dec 0 false 0 false 0) → σ x = some (dec 0 nx ex false (val X)) → d ≠ x → Calls Tryz.prog 68 #[.pointer (some ⟨c, 0, none⟩), .pointer (some ⟨d, 0, none⟩), .pointer (some ⟨x, 0, none⟩)] w1 (fun E w' => E = .returned (.tuple #[.int .u32 (r : Int), .nilIface]) ∧ Hold w w' (upd σ d D))) :
    Calls Tryz.prog 32 #[.agg #[.int .u64 (p : Int), .int .i64 a, .int .i64 b, .int .i64 (m : Int)], .agg #[.int .i64 0, .bool nx, .slice Ax lx cx, .int .i64 ex]] w fun E w' => ImplQ Q w w' E (condN r) := by
  have kc := fun w => context_c w (p : Int) a b m hm (by omega) ha hb
  have kq := fun w => conditions_c w r hr
  have kx := fun w1 (hc : Chg w w1 (fun _ => False)) => madeF_c w1 nx Ax lx cx X ex (hX.chg hc (fun _ h => h.elim)) hlx hex
  unfold ImplQ
  unfold ToldQ at ht
  replace kc := Lib.hid kc
  replace kq := Lib.hid kq
  replace kx := Lib.hid kx
  replace hop := Lib.hid hop
  replace ht := Lib.hid ht
  replace hQ := Lib.hid hQ
  replace hX := Lib.hid hX
  clear hm hp ha hb hr
  have hL := lay4 hG (.cells #[.int .u64 (p : Int), .int .i64 a, .int .i64 b, .int .i64 (m : Int)] 35 (0, 0)) (.cells #[.int .i64 0, .bool nx, .slice Ax lx cx, .int .i64 ex] 24 (0, 0)) (.cells #[.int .i64 0, .bool false, .slice none 0 0, .int .i64 0] 24 (0, 0))
  replace hL := Lib.hid hL
  replace hG := Lib.hid hG
  go_enter Tryz.func32, Tryz.ntmps32
  go_wp2
  generalize hW : ((((w.alloc (.cells #[.int .u64 (p : Int), .int .i64 a, .int .i64 b, .int .i64 (m : Int)] 35 (0, 0))).alloc (.cells #[.int .i64 0, .bool nx, .slice Ax lx cx, .int .i64 ex] 24 (0, 0))).alloc (.cells #[.int .i64 0, .bool false, .slice none 0 0, .int .i64 0] 24 (0, 0))).alloc (.cells #[.int .i8 0, .bool false, .int .i32 0, .bool false, .slice none 0 0, .bool false] 75 (0, 0))) = W
  have hsz : W.heap.size = w.heap.size + 4 := by rw [← hW]; simp
  obtain ⟨σ, h0, b0, b1, br, bd⟩ := hL.out
  rw [hW] at h0
  clear hW hL
  have hBx : Bd2 w.heap.size (p : Int) a b m 0 ex nx Ax lx cx W := ⟨h0.raw b0, h0.raw b1⟩
  have hBd : Bd2 w.heap.size (p : Int) a b m 0 ex nx Ax lx cx W.drew := hBx
  have hS0 := hBd.cells
  replace hsz := Lib.hid hsz
  replace h0 := Lib.hid h0
  replace b0 := Lib.hid b0
  replace b1 := Lib.hid b1
  replace br := Lib.hid br
  replace bd := Lib.hid bd
  clear hBx hBd
  go_region_held3 (fun w' => w'.cell? ⟨w.heap.size, 0, none⟩ = some (.int .u64 (p : Int)) ∧ w'.cell? ⟨w.heap.size, 1, none⟩ = some (.int .i64 a) ∧ w'.cell? ⟨w.heap.size, 2, none⟩ = some (.int .i64 b) ∧ w'.cell? ⟨w.heap.size, 3, none⟩ = some (.int .i64 (m : Int)) ∧
    w'.cell? ⟨w.heap.size + 1, 0, none⟩ = some (.int .i64 0) ∧ w'.cell? ⟨w.heap.size + 1, 1, none⟩ = some (.bool nx) ∧ w'.cell? ⟨w.heap.size + 1, 2, none⟩ = some (.slice Ax lx cx) ∧ w'.cell? ⟨w.heap.size + 1, 3, none⟩ = some (.int .i64 ex)) (first | exact hS0 | exact hS1 | exact hS2 | exact hS3 | exact hS4) (first
    | (go_at_call 40
       refine (kc.out _).mono ?_
       rintro E w1 ⟨c, rfl, hcl, hc1, hch1⟩
       obtain ⟨τ1, h1, le1, hc⟩ := h0.out.drew.more hch1 hcl hc1
       have hS1 := (show Bd2 w.heap.size (p : Int) a b m 0 ex nx Ax lx cx w1 from ⟨h1.raw (le1 _ _ b0.out), h1.raw (le1 _ _ b1.out)⟩).cells
       replace h1 := Lib.hid h1
       replace le1 := Lib.hid le1
       replace hc := Lib.hid hc
       clear hcl hc1 hch1)
    | (go_at_call 42
       refine (kx.out _ h1.out.chg).mono ?_
       rintro E w2 hm2
       obtain ⟨x, τ2, rfl, hxl, h2, le2, hx⟩ := hm2.more h1.out
       have le02 := le1.out.trans le2
       have hS2 := (show Bd2 w.heap.size (p : Int) a b m 0 ex nx Ax lx cx w2 from ⟨h2.raw (le02 _ _ b0.out), h2.raw (le02 _ _ b1.out)⟩).cells
       have hdx : w.heap.size + 3 ≠ x := by have h3 := (h1.out.lt (le1.out _ _ bd.out)).2; omega
       replace h2 := Lib.hid h2
       replace le2 := Lib.hid le2
       replace le02 := Lib.hid le02
       replace hx := Lib.hid hx
       replace hdx := Lib.hid hdx
       clear hm2 hxl)
    | (go_at_call 68
       refine (hop.out _ τ2 c (w.heap.size + 3) x h2.out (le2.out _ _ hc.out) (le02.out _ _ bd.out) hx.out hdx.out).mono ?_
       rintro E w4 ⟨rfl, h4⟩
       have hd4 := upd_eq τ2 (w.heap.size + 3) D
       have br4 : upd τ2 (w.heap.size + 3) D (w.heap.size + 2) = some (raw (.cells #[.int .i64 0, .bool false, .slice none 0 0, .int .i64 0] 24 (0, 0))) := by rw [upd_ne _ _ (by omega)]; exact le02.out _ _ br.out
       have hS4 := (show Bd2 w.heap.size (p : Int) a b m 0 ex nx Ax lx cx w4 from ⟨h4.raw (by rw [upd_ne _ _ (by omega)]; exact le02.out _ _ b0.out), h4.raw (by rw [upd_ne _ _ (by omega)]; exact le02.out _ _ b1.out)⟩).cells
       generalize upd τ2 (w.heap.size + 3) D = τ4 at h4 hd4 br4
       replace h4 := Lib.hid h4
       replace hd4 := Lib.hid hd4
       replace br4 := Lib.hid br4))
  go_wp2
  clear hS0 hS1 hS2 hS4
  have hrl := (h4.out.lt br4.out).2
  replace hrl := Lib.hid hrl
  go_region_held3 (fun w' => Anyp w') (exact anyp _) (first
    | (go_at_call 43
       refine (ht.out w4.drew _ _ h4.out.drew hd4.out).mono ?_
       rintro E w5 ⟨F, s, q, l, cc, e1, rfl, hq, hql, h5⟩
       have hR5 := h5.raw br4.out
       have r0 := cellB hR5 (i := 0) rfl
       have r1 := cellB hR5 (i := 1) rfl
       have r2 := cellB hR5 (i := 2) rfl
       have r3 := cellB hR5 (i := 3) rfl
       have rz0 := frozenB hR5 0
       have rz1 := frozenB hR5 1
       have rz2 := frozenB hR5 2
       have rz3 := frozenB hR5 3
       replace hR5 := Lib.hid hR5
       replace h5 := Lib.hid h5
       replace hq := Lib.hid hq
       replace hql := Lib.hid hql)
    | (go_at_call 44
       refine (kq.out _).mono ?_
       rintro E w6 ⟨rfl, hw⟩
       obtain rfl := hw))
  go_wp2
  have hfin := setB (i := 3) (v := .int .i64 e1) (setB (i := 2) (v := .slice q l cc) (setB (i := 1) (v := .bool s) (setB (i := 0) (v := .int .i64 F) hR5.out)))
  have hcf : Chg w5 _ (fun k => k = w.heap.size + 2) := ((((Chg.refl w5 (fun k => k = w.heap.size + 2)).trans ((chg_setB w5 (w.heap.size + 2) 0 (.int .i64 F)).mono (fun _ _ h => .inl h))).trans ((chg_setB _ (w.heap.size + 2) 1 (.bool s)).mono (fun _ _ h => .inl h))).trans ((chg_setB _ (w.heap.size + 2) 2 (.slice q l cc)).mono (fun _ _ h => .inl h))).trans ((chg_setB _ (w.heap.size + 2) 3 (.int .i64 e1)).mono (fun _ _ h => .inl h))
  clear r0 r1 r2 r3 rz0 rz1 rz2 rz3
  generalize (((w5.setCell ⟨w.heap.size + 2, 0, none⟩ (.int .i64 F)).setCell ⟨w.heap.size + 2, 1, none⟩ (.bool s)).setCell ⟨w.heap.size + 2, 2, none⟩ (.slice q l cc)).setCell ⟨w.heap.size + 2, 3, none⟩ (.int .i64 e1) = W9 at hfin hcf ⊢
  have c0 : W9.cell? ⟨w.heap.size + 1 + 1, 0, none⟩ = some (.int .i64 F) := cellB hfin rfl
  have c1 : W9.cell? ⟨w.heap.size + 1 + 1, 1, none⟩ = some (.bool s) := cellB hfin rfl
  have c2 : W9.cell? ⟨w.heap.size + 1 + 1, 2, none⟩ = some (.slice q l cc) := cellB hfin rfl
  have c3 : W9.cell? ⟨w.heap.size + 1 + 1, 3, none⟩ = some (.int .i64 e1) := cellB hfin rfl
  have hqf := hQ.out F s q l cc e1 _ _ _ hq.out (fun ad ha => by have h1 : w4.heap.size ≤ ad.block := hql.out ad ha; have h2 := hrl.out; omega) hcf
  have hwf : Chg w W9 (fun _ => False) := h5.out.chg.trans (hcf.mono (fun k _ e1 => .inr (by omega)))
  exact bodyPost_ret (v := .tuple #[.agg #[.int .i64 F, .bool s, .slice q l cc, .int .i64 e1], .int .i64 (condN r : Int), .bool true]) (by simp [results, Tryz.results32, go_sem, c0, c1, c2, c3]) rfl ⟨F, s, q, l, cc, e1, rfl, hqf, hwf⟩
end Go.Proofs.YtcoljeafgiemkaaGreatDoor
namespace Go.Proofs.YtcoljeafgiemkaaGreatDoor
open Go Go.RowKit

theorem bitsQ {r : Nat} (h : calm r) : bits .andNot .i64 (condN r : Int) 20 = 0 := by rcases h with rfl | rfl | rfl | rfl <;> kernel_rfl
theorem sqrtTold (w : World) (hG : Glob w) (p m : Nat) (hm : m < 8) (hp : 1 ≤ p ∧ p ≤ 60) (e : Int) (A : Option Addr) (l c : Nat) (X : List Nat) (hX : RdW w A l c X) (hl : l ≤ 900) (hXb : nbits (val X) ≤ 200) (he1 : -300 ≤ e) (he2 : e ≤ 300) (hX0 : val X ≠ 0) {CL : Nat} {eL : Int} (hR : sqR (val X) e p = (CL, eL)) :
    (∀ W, Below w.heap.size w W → Calls Tryz.prog 32 #[.agg #[.int .u64 (p : Int), .int .i64 100000, .int .i64 (-100000), .int .i64 (m : Int)], .agg #[.int .i64 0, .bool false, .slice A l c, .int .i64 e]] W fun E w' => TellN W w' E false (eL + sqE2 (val X) e / 2 + (rndK false CL p 2 : Int)) (rndN false CL p 2) (condN (rndC CL p) : Int)) ∧
      rndN false CL p 2 ≠ 0 ∧ figs (rndN false CL p 2) ≤ p ∧ (-250 ≤ eL + sqE2 (val X) e / 2 + (rndK false CL p 2 : Int) ∧ eL + sqE2 (val X) e / 2 + (rndK false CL p 2 : Int) ≤ 300) ∧ bits .andNot .i64 (condN (rndC CL p) : Int) 20 = 0 ∧ (digs (rndN false CL p 2)).length ≤ 900 ∧ (d16 (rndN false CL p 2)).length ≤ 60 := by
  have hf := figs_200 hXb
  obtain ⟨-, h1, h2, h3, h4⟩ := sq_end hX0 hf hp hR
  have hK := rndK_le false CL p 2
  have hx := sqE2_ex (val X) e
  have hef : -62 ≤ sqEF (val X) e ∧ sqEF (val X) e ≤ 0 := by
    have := figs_pos (val X)
    unfold sqEF; split <;> omega
  have hR1 := rndN_small false (N := CL) (m := 2) hp.1
  have hR2 := nb_ten hR1
  have hRl : (digs (rndN false CL p 2)).length ≤ 900 := Nat.le_trans (bits_w (k := 18) (by omega)) (by omega)
  refine ⟨fun W hb => ?_, rnd_ne hp.1 h2, rndN_figs hp.1, by omega, bitsQ (rndC_calm CL p), hRl, Nat.le_trans (d16_len_ten hR1) hp.2⟩
  refine (implSqrtG_c W (hG.bel hb) p m (rndC CL p) 100000 (-100000) e false A l c X (dec 0 false (eL + sqE2 (val X) e / 2 + (rndK false CL p 2 : Int)) false (rndN false CL p 2)) (QFin false (eL + sqE2 (val X) e / 2 + (rndK false CL p 2 : Int)) (rndN false CL p 2)) hm (by omega) (by omega) (by omega) (rndC_4096 CL p) (QFin.st _ _ _)
    (fun w4 τ d h4 hd => QFin.told h4 hd hRl (by omega)) (hX.below hb) (by omega) (by omega) (fun w1 σ c1 d1 x hh hc hd hx hdx => ?_)).mono (fun E w' h => tellN h)
  exact cSqrt_c hh hd hx hc hp hX0 hXb (by omega) hR
end Go.Proofs.YtcoljeafgiemkaaGreatDoor
