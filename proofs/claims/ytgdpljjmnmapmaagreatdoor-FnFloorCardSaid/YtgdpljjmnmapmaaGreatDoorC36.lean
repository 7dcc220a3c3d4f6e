/- impl.Add where the answer is a number. What the thin package tells: a number, or any answer. What the laws of rounded answers lean on: contexts, boxes, sizes. -/
import Derived.Test.YtgdpljjmnmapmaaGreatDoorC20
import Derived.Test.YtgdpljjmnmapmaaGreatDoorC21
import Derived.Test.YtgdpljjmnmapmaaGreatDoorC35
namespace Go.Proofs.YtgdpljjmnmapmaaGreatDoor
open Go Go.RowKit

set_option maxRecDepth 100000 in
set_option maxHeartbeats 4000000 in
theorem implAddF_c (w : World) (hG : Glob w) (p m : Nat) (a b ex ey e : Int) (nx ny n : Bool) (Ax Ay : Option Addr) (lx cx ly cy : Nat) (X Y : List Nat) (N : Nat)
    (hm : m < 8) (hp : p ≤ 4294967295) (ha : -2147483648 ≤ a ∧ a ≤ 2147483647) (hb : -2147483648 ≤ b ∧ b ≤ 2147483647) (hR : (digs (rndN n N p m)).length ≤ 900) (he : -100000 ≤ e + (rndK n N p m : Int) ∧ e + (rndK n N p m : Int) ≤ 100000)
    (hX : RdW w Ax lx cx X) (hlx : lx ≤ 900) (hex : -2147483648 ≤ ex ∧ ex ≤ 2147483647)
    (hY : RdW w Ay ly cy Y) (hly : ly ≤ 900) (hey : -2147483648 ≤ ey ∧ ey ≤ 2147483647)
    (hop : ∀ w1 (σ : Sg) c d x y, Hold w w1 σ → σ c = some (ctxO p a b (modeS m)) → σ d = some (dec 0 false 0 false 0) → σ x = some (dec 0 nx ex false (val X)) → d ≠ x → σ y = some (dec 0 ny ey false (val Y)) → x ≠ y → d ≠ y → Calls Tryz.prog 42 #[.pointer (some ⟨c, 0, none⟩), .pointer (some ⟨d, 0, none⟩), .pointer (some ⟨x, 0, none⟩), .pointer (some ⟨y, 0, none⟩)] w1 (CRes w σ d n e p m N)) :
    Calls Tryz.prog 24 #[.agg #[.int .u64 (p : Int), .int .i64 a, .int .i64 b, .int .i64 (m : Int)], .agg #[.int .i64 0, .bool nx, .slice Ax lx cx, .int .i64 ex], .agg #[.int .i64 0, .bool ny, .slice Ay ly cy, .int .i64 ey]] w fun E w' => ImplR w w' E n (e + (rndK n N p m : Int)) (rndN n N p m) (condN (rndC N p)) := by
  have kc := fun w => context_c w (p : Int) a b m hm (by omega) ha hb
  have kq := fun w => conditions_c w (rndC N p) (rndC_4096 N p)
  have kx := fun w1 (hc : Chg w w1 (fun _ => False)) => madeF_c w1 nx Ax lx cx X ex (hX.chg hc (fun _ h => h.elim)) hlx hex
  have ky := fun w1 (hc : Chg w w1 (fun _ => False)) => madeF_c w1 ny Ay ly cy Y ey (hY.chg hc (fun _ h => h.elim)) hly hey
  unfold CRes at hop
  unfold ImplR
  generalize rndC N p = r at hop kq ⊢
  generalize e + (rndK n N p m : Int) = E0 at hop he ⊢
  generalize rndN n N p m = R at hop hR ⊢
  replace kc := Lib.hid kc
  replace kq := Lib.hid kq
  replace kx := Lib.hid kx
  replace ky := Lib.hid ky
  replace hop := Lib.hid hop
  replace hR := Lib.hid hR
  replace he := Lib.hid he
  replace hX := Lib.hid hX
  replace hY := Lib.hid hY
  clear hm hp ha hb
  have hL := lay5 hG (.cells #[.int .u64 (p : Int), .int .i64 a, .int .i64 b, .int .i64 (m : Int)] 34 (0, 0)) (.cells #[.int .i64 0, .bool nx, .slice Ax lx cx, .int .i64 ex] 24 (0, 0)) (.cells #[.int .i64 0, .bool ny, .slice Ay ly cy, .int .i64 ey] 24 (0, 0)) (.cells #[.int .i64 0, .bool false, .slice none 0 0, .int .i64 0] 24 (0, 0))
  replace hL := Lib.hid hL
  replace hG := Lib.hid hG
  go_enter Tryz.func24, Tryz.ntmps24
  go_wp2
  generalize hW : (((((w.alloc (.cells #[.int .u64 (p : Int), .int .i64 a, .int .i64 b, .int .i64 (m : Int)] 34 (0, 0))).alloc (.cells #[.int .i64 0, .bool nx, .slice Ax lx cx, .int .i64 ex] 24 (0, 0))).alloc (.cells #[.int .i64 0, .bool ny, .slice Ay ly cy, .int .i64 ey] 24 (0, 0))).alloc (.cells #[.int .i64 0, .bool false, .slice none 0 0, .int .i64 0] 24 (0, 0))).alloc (.cells #[.int .i8 0, .bool false, .int .i32 0, .bool false, .slice none 0 0, .bool false] 64 (0, 0))) = W
  have hsz : W.heap.size = w.heap.size + 5 := by rw [← hW]; simp
  obtain ⟨σ, h0, b0, b1, b2, br, bd⟩ := hL.out
  rw [hW] at h0
  clear hW hL
  have hBx : Bx3 w.heap.size (p : Int) a b m 0 ex 0 ey nx ny Ax Ay lx cx ly cy W := ⟨h0.raw b0, h0.raw b1, h0.raw b2⟩
  have hBd : Bx3 w.heap.size (p : Int) a b m 0 ex 0 ey nx ny Ax Ay lx cx ly cy W.drew := hBx
  have hS0 := hBd.cells
  replace hsz := Lib.hid hsz
  replace h0 := Lib.hid h0
  replace b0 := Lib.hid b0
  replace b1 := Lib.hid b1
  replace b2 := Lib.hid b2
  replace br := Lib.hid br
  replace bd := Lib.hid bd
  clear hBx hBd
  go_region_held3 (fun w' => w'.cell? ⟨w.heap.size, 0, none⟩ = some (.int .u64 (p : Int)) ∧ w'.cell? ⟨w.heap.size, 1, none⟩ = some (.int .i64 a) ∧ w'.cell? ⟨w.heap.size, 2, none⟩ = some (.int .i64 b) ∧ w'.cell? ⟨w.heap.size, 3, none⟩ = some (.int .i64 (m : Int)) ∧
    w'.cell? ⟨w.heap.size + 1, 0, none⟩ = some (.int .i64 0) ∧ w'.cell? ⟨w.heap.size + 1, 1, none⟩ = some (.bool nx) ∧ w'.cell? ⟨w.heap.size + 1, 2, none⟩ = some (.slice Ax lx cx) ∧ w'.cell? ⟨w.heap.size + 1, 3, none⟩ = some (.int .i64 ex) ∧
    w'.cell? ⟨w.heap.size + 2, 0, none⟩ = some (.int .i64 0) ∧ w'.cell? ⟨w.heap.size + 2, 1, none⟩ = some (.bool ny) ∧ w'.cell? ⟨w.heap.size + 2, 2, none⟩ = some (.slice Ay ly cy) ∧ w'.cell? ⟨w.heap.size + 2, 3, none⟩ = some (.int .i64 ey)) (first | exact hS0 | exact hS1 | exact hS2 | exact hS3 | exact hS4) (first
    | (go_at_call 27
       refine (kc.out _).mono ?_
       rintro E w1 ⟨c, rfl, hcl, hc1, hch1⟩
       obtain ⟨τ1, h1, le1, hc⟩ := h0.out.drew.more hch1 hcl hc1
       have hS1 := (show Bx3 w.heap.size (p : Int) a b m 0 ex 0 ey nx ny Ax Ay lx cx ly cy w1 from ⟨h1.raw (le1 _ _ b0.out), h1.raw (le1 _ _ b1.out), h1.raw (le1 _ _ b2.out)⟩).cells
       replace h1 := Lib.hid h1
       replace le1 := Lib.hid le1
       replace hc := Lib.hid hc
       clear hcl hc1 hch1)
    | (go_at_call_of 29 nx
       refine (kx.out _ h1.out.chg).mono ?_
       rintro E w2 hm2
       obtain ⟨x, τ2, rfl, hxl, h2, le2, hx⟩ := hm2.more h1.out
       have le02 := le1.out.trans le2
       have hS2 := (show Bx3 w.heap.size (p : Int) a b m 0 ex 0 ey nx ny Ax Ay lx cx ly cy w2 from ⟨h2.raw (le02 _ _ b0.out), h2.raw (le02 _ _ b1.out), h2.raw (le02 _ _ b2.out)⟩).cells
       have hdx : w.heap.size + 4 ≠ x := by have h3 := (h1.out.lt (le1.out _ _ bd.out)).2; omega
       replace h2 := Lib.hid h2
       replace le2 := Lib.hid le2
       replace le02 := Lib.hid le02
       replace hx := Lib.hid hx
       replace hdx := Lib.hid hdx
       clear hm2 hxl)
    | (go_at_call_of 29 ny
       refine (ky.out _ h2.out.chg).mono ?_
       rintro E w3 hm3
       obtain ⟨y, τ3, rfl, hyl, h3, le3, hy⟩ := hm3.more h2.out
       have le03 := le02.out.trans le3
       have hS3 := (show Bx3 w.heap.size (p : Int) a b m 0 ex 0 ey nx ny Ax Ay lx cx ly cy w3 from ⟨h3.raw (le03 _ _ b0.out), h3.raw (le03 _ _ b1.out), h3.raw (le03 _ _ b2.out)⟩).cells
       have hdy : w.heap.size + 4 ≠ y := by have h4 := (h2.out.lt (le02.out _ _ bd.out)).2; omega
       have hxy : x ≠ y := by have h4 := (h2.out.lt hx.out).2; omega
       replace h3 := Lib.hid h3
       replace le3 := Lib.hid le3
       replace le03 := Lib.hid le03
       replace hy := Lib.hid hy
       replace hdy := Lib.hid hdy
       replace hxy := Lib.hid hxy
       clear hm3 hyl)
    | (go_at_call 42
       refine (hop.out _ τ3 c (w.heap.size + 4) x y h3.out (le3.out _ _ (le2.out _ _ hc.out)) (le03.out _ _ bd.out) (le3.out _ _ hx.out) hdx.out hy.out hxy.out hdy.out).mono ?_
       rintro E w4 ⟨rfl, h4⟩
       have hd4 := upd_eq τ3 (w.heap.size + 4) (dec 0 n E0 false R)
       have br4 : upd τ3 (w.heap.size + 4) (dec 0 n E0 false R) (w.heap.size + 3) = some (raw (.cells #[.int .i64 0, .bool false, .slice none 0 0, .int .i64 0] 24 (0, 0))) := by rw [upd_ne _ _ (by omega)]; exact le03.out _ _ br.out
       have hS4 := (show Bx3 w.heap.size (p : Int) a b m 0 ex 0 ey nx ny Ax Ay lx cx ly cy w4 from ⟨h4.raw (by rw [upd_ne _ _ (by omega)]; exact le03.out _ _ b0.out), h4.raw (by rw [upd_ne _ _ (by omega)]; exact le03.out _ _ b1.out), h4.raw (by rw [upd_ne _ _ (by omega)]; exact le03.out _ _ b2.out)⟩).cells
       generalize upd τ3 (w.heap.size + 4) (dec 0 n E0 false R) = τ4 at h4 hd4 br4
       replace h4 := Lib.hid h4
       replace hd4 := Lib.hid hd4
       replace br4 := Lib.hid br4))
  go_wp2
  clear hS0 hS1 hS2 hS3 hS4
  have hrl := (h4.out.lt br4.out).2
  replace hrl := Lib.hid hrl
  go_region_held3 (fun w' => Anyp w') (exact anyp _) (first
    | (go_at_call 30
       refine (toldF_c (w := w4.drew) h4.out.drew hd4.out hR.out he.out).mono ?_
       rintro E w5 ⟨q, cc, rfl, hq, hql, h5⟩
       have hR5 := h5.raw br4.out
       have r0 := cellB hR5 (i := 0) rfl
       have r1 := cellB hR5 (i := 1) rfl
       have r2 := cellB hR5 (i := 2) rfl
       have r3 := cellB hR5 (i := 3) rfl
       have rz0 := frozenB hR5 0
       have rz1 := frozenB hR5 1
       have rz2 := frozenB hR5 2
       have rz3 := frozenB hR5 3
       replace hR5 := Lib.hid hR5
       replace h5 := Lib.hid h5
       replace hq := Lib.hid hq
       replace hql := Lib.hid hql)
    | (go_at_call 31
       refine (kq.out _).mono ?_
       rintro E w6 ⟨rfl, hw⟩
       obtain rfl := hw))
  go_wp2
  have hfin := setB (i := 3) (v := .int .i64 E0) (setB (i := 2) (v := .slice q (digs R).length cc) (setB (i := 1) (v := .bool n) (setB (i := 0) (v := .int .i64 0) hR5.out)))
  have hcf : Chg w5 _ (fun k => k = w.heap.size + 3) := ((((Chg.refl w5 (fun k => k = w.heap.size + 3)).trans ((chg_setB w5 (w.heap.size + 3) 0 (.int .i64 0)).mono (fun _ _ h => .inl h))).trans ((chg_setB _ (w.heap.size + 3) 1 (.bool n)).mono (fun _ _ h => .inl h))).trans ((chg_setB _ (w.heap.size + 3) 2 (.slice q (digs R).length cc)).mono (fun _ _ h => .inl h))).trans ((chg_setB _ (w.heap.size + 3) 3 (.int .i64 E0)).mono (fun _ _ h => .inl h))
  clear r0 r1 r2 r3 rz0 rz1 rz2 rz3
  generalize (((w5.setCell ⟨w.heap.size + 3, 0, none⟩ (.int .i64 0)).setCell ⟨w.heap.size + 3, 1, none⟩ (.bool n)).setCell ⟨w.heap.size + 3, 2, none⟩ (.slice q (digs R).length cc)).setCell ⟨w.heap.size + 3, 3, none⟩ (.int .i64 E0) = W9 at hfin hcf ⊢
  have c0 : W9.cell? ⟨w.heap.size + 1 + 1 + 1, 0, none⟩ = some (.int .i64 0) := cellB hfin rfl
  have c1 : W9.cell? ⟨w.heap.size + 1 + 1 + 1, 1, none⟩ = some (.bool n) := cellB hfin rfl
  have c2 : W9.cell? ⟨w.heap.size + 1 + 1 + 1, 2, none⟩ = some (.slice q (digs R).length cc) := cellB hfin rfl
  have c3 : W9.cell? ⟨w.heap.size + 1 + 1 + 1, 3, none⟩ = some (.int .i64 E0) := cellB hfin rfl
  have hqf : RdW W9 q (digs R).length cc (digs R) := hq.out.chgAt hcf (fun ad ha e1 => by have h1 := hql.out ad ha; have h2 := hrl.out; have h3 : w4.heap.size ≤ ad.block := h1; omega)
  have hwf : Chg w W9 (fun _ => False) := h5.out.chg.trans (hcf.mono (fun k _ e1 => .inr (by omega)))
  have hqb : ∀ ad, q = some ad → w.heap.size ≤ ad.block := fun ad ha => by have h1 : w4.heap.size ≤ ad.block := hql.out ad ha; have h2 := hrl.out; omega
  exact bodyPost_ret (v := .tuple #[.agg #[.int .i64 0, .bool n, .slice q (digs R).length cc, .int .i64 E0], .int .i64 (condN r : Int), .bool true]) (by simp [results, Tryz.results24, go_sem, c0, c1, c2, c3]) rfl ⟨q, cc, rfl, hqf, hqb, hwf⟩
end Go.Proofs.YtgdpljjmnmapmaaGreatDoor

namespace Go.Proofs.YtgdpljjmnmapmaaGreatDoor
open Go Go.RowKit

/-- What is told, but for the answer. -/
def TellC (w w' : World) (E : Ending) (cn : Int) : Prop := ∃ F s q l cc e1, E = .returned (.tuple #[.agg #[.int .i64 F, .bool s, .slice q l cc, .int .i64 e1], .int .i64 cn, .bool true]) ∧ Chg w w' (fun _ => False)
/-- A number is told. -/
def TellN (w w' : World) (E : Ending) (n : Bool) (e : Int) (N : Nat) (cn : Int) : Prop := ∃ q cc, E = .returned (.tuple #[.agg #[.int .i64 0, .bool n, .slice q (digs N).length cc, .int .i64 e], .int .i64 cn, .bool true]) ∧ RdW w' q (digs N).length cc (digs N) ∧ Chg w w' (fun _ => False)
theorem tellN {w w' : World} {E : Ending} {n : Bool} {e : Int} {N cn : Nat} (h : ImplQ (QFin n e N) w w' E cn) : TellN w w' E n e N (cn : Int) := by
  obtain ⟨F, s, q, l, cc, e1, hE, ⟨rfl, rfl, rfl, rfl, hr⟩, hc⟩ := h
  exact ⟨q, cc, hE, hr, hc⟩
theorem TellN.c {w w' : World} {E : Ending} {n : Bool} {e : Int} {N : Nat} {cn : Int} (h : TellN w w' E n e N cn) : TellC w w' E cn := by
  obtain ⟨q, cc, hE, _, hc⟩ := h
  exact ⟨_, _, _, _, _, _, hE, hc⟩
theorem tellC {w w' : World} {E : Ending} {f : Int} {n : Bool} {cn : Nat} (h : ImplQ (QForm f n) w w' E cn) : TellC w w' E (cn : Int) := by
  obtain ⟨F, s, q, l, cc, e1, hE, _, hc⟩ := h
  exact ⟨_, _, _, _, _, _, hE, hc⟩
end Go.Proofs.YtgdpljjmnmapmaaGreatDoor

namespace Go.Proofs.YtgdpljjmnmapmaaGreatDoor
open Go Go.RowKit

theorem rnd_sign {s n : Bool} {N : Nat} (h : s = n ∨ N = 0) (p m : Nat) (hp : 1 ≤ p) : rndN s N p m = rndN n N p m ∧ rndK s N p m = rndK n N p m := by
  rcases h with rfl | rfl
  · exact ⟨rfl, rfl⟩
  · unfold rndN rndK; rw [figs_zero, if_pos hp, if_pos hp, if_pos hp, if_pos hp]; exact ⟨rfl, rfl⟩
theorem rndN_zero {n : Bool} {N p m : Nat} (hp : 1 ≤ p) (h : N = 0) : rndN n N p m = 0 := by
  subst h; unfold rndN; rw [figs_zero, if_pos hp]

/-- A context of a precision from 1 to 60 and a mode. -/
theorem wideC_c (w : World) (prec mode : Int) (p m : Nat) (hp : 0 ≤ prec ∧ prec ≤ 255) (hm : 0 ≤ mode ∧ mode ≤ 255) (hmm : mode % 8 = (m : Int)) (hpp : 1 + prec % 60 = (p : Int)) :
    Calls Tryz.prog 9 #[.int .u8 prec, .int .u8 mode] w fun e w' => e = .returned (.agg #[.int .u64 (p : Int), .int .i64 100000, .int .i64 (-100000), .int .i64 (m : Int)]) ∧ Below w.heap.size w w' := by
  obtain ⟨hp1, hp2⟩ := hp
  obtain ⟨hm1, hm2⟩ := hm
  have i1 : IntKind.u64.wrap (prec % 60) = prec % 60 := IntWalk.u64_in _ (by omega)
  have i2 : IntKind.u64.wrap (1 + prec % 60) = 1 + prec % 60 := IntWalk.u64_in _ (by omega)
  rw [← hmm, ← hpp]
  clear hmm hpp
  go_enter Tryz.func9, Tryz.ntmps9
  go_wp2
  exact bodyPost_ret (v := .agg #[.int .u64 (1 + prec % 60), .int .i64 100000, .int .i64 (-100000), .int .i64 (mode % 8)]) (by simp [results, Tryz.results9, go_sem]) rfl ⟨rfl, (Below.refl _ _).alloc (Nat.le_refl _) _⟩
theorem cbelow {w w' : World} (h : Chg w w' (fun _ => False)) : Below w.heap.size w w' := ⟨h.os, h.tape, h.output, h.size, fun k hk => h.block k hk (fun h => h)⟩
theorem Glob.bel {w w' : World} (h : Glob w) (hb : Below w.heap.size w w') : Glob w' := h.chg (Below.chg hb) (fun _ _ h => h)
/-- Three words. -/
theorem val3 {X : List Nat} (hw : Wd X) {l : Nat} (hX : X.length = l) (hl : l ≤ 3) : val X < 10 ^ 58 ∧ nbits (val X) ≤ 192 := by
  have h1 := val_lt hw
  have h2 : WB ^ X.length ≤ WB ^ 3 := Nat.pow_le_pow_right WB_pos (by omega)
  have h3 : WB ^ 3 = 2 ^ 192 := by rw [WB_bits]
  have h4 : 2 ^ 192 < 10 ^ 58 := by decide
  exact ⟨by omega, nbits_le_iff.2 (by omega)⟩
theorem nbits_wide {N i k : Nat} (h : nbits N ≤ k) : nbits (N * 10 ^ i) ≤ k + 4 * i := by
  rw [nbits_le_iff] at *
  rw [Nat.pow_add, Nat.pow_mul]
  exact Nat.lt_of_lt_of_le (Nat.mul_lt_mul_of_pos_right h (ten_pos i)) (Nat.mul_le_mul_left _ (Nat.pow_le_pow_left (by decide) i))
theorem d16_len_ten {N j : Nat} (h : N < 10 ^ j) : (d16 N).length ≤ j := (dB_len_le two16).2 (Nat.lt_of_lt_of_le h (Nat.pow_le_pow_left (by decide) j))
theorem figs_ten {N j : Nat} (h : N < 10 ^ j) : figs N ≤ j + 1 := (figs_le_iff (by omega)).2 (Nat.lt_of_lt_of_le h (ten_le (by omega)))
theorem rnd_small {n : Bool} {N p m : Nat} (hp : 1 ≤ p) (hp2 : p ≤ 60) : (digs (rndN n N p m)).length ≤ 4 := by
  have h1 := figs_lt (rndN n N p m)
  have h2 := ten_le (Nat.le_trans (rndN_figs (neg := n) (C := N) (p := p) (mode := m) hp) hp2)
  have h3 : 10 ^ 60 < WB ^ 4 := by rw [WB_bits]; decide
  exact digs_len_le.2 (by omega)
theorem rndK_le (n : Bool) (N p m : Nat) : rndK n N p m ≤ figs N + 1 := by
  unfold rndK; split
  · omega
  · split <;> omega
theorem sum_ten {A B j : Nat} (hA : A < 10 ^ j) (hB : B < 10 ^ j) (s t : Bool) : (if s = t then A + B else if B ≤ A then A - B else B - A) < 10 ^ (j + 1) := by
  rw [ten_succ]
  split
  · omega
  · split <;> omega
theorem wide_ten {N i j : Nat} (h : N < 10 ^ j) : N * 10 ^ i < 10 ^ (j + i) := by
  rw [Nat.pow_add]; exact Nat.mul_lt_mul_of_pos_right h (ten_pos i)
theorem ten_weak {N i j : Nat} (h : N < 10 ^ i) (hij : i ≤ j) : N < 10 ^ j := Nat.lt_of_lt_of_le h (ten_le hij)
/-- The boxes of what is told, of one value, and of a context. -/
def Bl1 (zb vb cb : Nat) (nz : Bool) (q : Option Addr) (lq cq : Nat) (ez : Int) (s : Bool) (p : Option Addr) (l c : Nat) (e : Int) (pr m : Nat) (w : World) : Prop :=
  w.heap[zb]? = some (.cells #[.int .i64 0, .bool nz, .slice q lq cq, .int .i64 ez] 24 (0, 0)) ∧ w.heap[vb]? = some (.cells #[.bool s, .slice p l c, .int .i64 e] 29 (0, 0)) ∧
    w.heap[cb]? = some (.cells #[.int .u64 (pr : Int), .int .i64 100000, .int .i64 (-100000), .int .i64 (m : Int)] 34 (0, 0))
theorem Bl1.cells {zb vb cb : Nat} {nz : Bool} {q : Option Addr} {lq cq : Nat} {ez : Int} {s : Bool} {p : Option Addr} {l c : Nat} {e : Int} {pr m : Nat} {w : World} (h : Bl1 zb vb cb nz q lq cq ez s p l c e pr m w) :
    w.cell? ⟨zb, 0, none⟩ = some (.int .i64 0) ∧ w.cell? ⟨zb, 1, none⟩ = some (.bool nz) ∧ w.cell? ⟨zb, 2, none⟩ = some (.slice q lq cq) ∧ w.cell? ⟨zb, 3, none⟩ = some (.int .i64 ez) ∧
    w.cell? ⟨vb, 0, none⟩ = some (.bool s) ∧ w.cell? ⟨vb, 1, none⟩ = some (.slice p l c) ∧ w.cell? ⟨vb, 2, none⟩ = some (.int .i64 e) ∧
    w.cell? ⟨cb, 0, none⟩ = some (.int .u64 (pr : Int)) ∧ w.cell? ⟨cb, 1, none⟩ = some (.int .i64 100000) ∧ w.cell? ⟨cb, 2, none⟩ = some (.int .i64 (-100000)) ∧ w.cell? ⟨cb, 3, none⟩ = some (.int .i64 (m : Int)) :=
  ⟨cellB h.1 rfl, cellB h.1 rfl, cellB h.1 rfl, cellB h.1 rfl, cellB h.2.1 rfl, cellB h.2.1 rfl, cellB h.2.1 rfl, cellB h.2.2 rfl, cellB h.2.2 rfl, cellB h.2.2 rfl, cellB h.2.2 rfl⟩
theorem Bl1.new {zb vb cb : Nat} {nz : Bool} {q : Option Addr} {lq cq : Nat} {ez : Int} {s : Bool} {p : Option Addr} {l c : Nat} {e : Int} {pr m : Nat} {w w' : World} (h : Bl1 zb vb cb nz q lq cq ez s p l c e pr m w) (hb : Below w.heap.size w w') : Bl1 zb vb cb nz q lq cq ez s p l c e pr m w' := ⟨bkeep hb h.1, bkeep hb h.2.1, bkeep hb h.2.2⟩
theorem addS_sum (s t : Bool) (A B : Nat) (fl : Bool) : addS s t A B fl = sumS s t A B ∨ addN s t A B = 0 := by
  unfold addS sumS addN
  by_cases h : s = t
  · rw [if_pos h, if_pos h]; exact .inl rfl
  · rw [if_neg h, if_neg h, if_neg h]
    rcases Nat.lt_trichotomy A B with h1 | h1 | h1
    · rw [if_neg (by omega), if_neg (by omega), if_neg (by omega)]
      refine .inl ?_
      cases s <;> cases t <;> simp_all
    · subst h1; rw [if_pos (Nat.le_refl _)]; exact .inr (by simp)
    · rw [if_neg (by omega), if_pos h1, if_pos (by omega)]; exact .inl rfl
end Go.Proofs.YtgdpljjmnmapmaaGreatDoor
