/- Context.Mul where the receiver is an operand. -/
import Derived.Test.YtonepclpllelfaaGreatDoorC34
namespace Go.Proofs.YtonepclpllelfaaGreatDoor
open Go Go.RowKit
set_option maxRecDepth 20000 in
set_option maxHeartbeats 2000000 in
theorem cMulX_c {w0 w : World} {σ : Sg} (h : Hold w0 w σ) {d y c p m : Nat} {ex ey a b : Int} {nx ny : Bool} {X Y : Nat} (hd : σ d = some (dec 0 nx ex false X)) (hy : σ y = some (dec 0 ny ey false Y)) (hdy : d ≠ y) (hc : σ c = some (ctxO p a b (modeS m)))
    (hp : 1 ≤ p ∧ p ≤ 1000) (ha : 50000 ≤ a ∧ a ≤ 2000000) (hb : -2000000 ≤ b ∧ b ≤ -50000) (hX : nbits X ≤ 512) (hY : nbits Y ≤ 512) (hm : m < 8) (hex : -1000 ≤ ex ∧ ex ≤ 1000) (hey : -1000 ≤ ey ∧ ey ≤ 1000) :
    Calls Tryz.prog 60 #[.pointer (some ⟨c, 0, none⟩), .pointer (some ⟨d, 0, none⟩), .pointer (some ⟨d, 0, none⟩), .pointer (some ⟨y, 0, none⟩)] w (CRes w0 σ d (nx != ny) (ex + ey) p m (X * Y)) := by
  have kn := shouldNaN_c w (.pointer (some ⟨c, 0, none⟩)) d y 0 0 (h.c0 hd) (h.c0 hy) (by omega) (by omega)
  rw [show decide ((2 : Int) ≤ 0 ∨ (2 : Int) ≤ 0) = false from rfl] at kn
  have x0 := h.c0 hd
  have y0 := h.c0 hy
  have x1 := h.c1 hd
  have y1 := h.c1 hy
  have hcd : c ≠ d := by rintro rfl; rw [hc] at hd; cases hd
  have hPb : nbits (X * Y) < 1100 := Nat.lt_of_le_of_lt (nbits_mul X Y) (by omega)
  have hX40 : (digs X).length < 40 := Nat.lt_of_le_of_lt (bits_w (k := 8) (by omega)) (by omega)
  have hY40 : (digs Y).length < 40 := Nat.lt_of_le_of_lt (bits_w (k := 8) (by omega)) (by omega)
  have km := fun w' (hc : Chg w w' (fun _ => False)) => bigMul_c (h.keep hc) (bnum_dec hd) (num_dec hd) (num_dec hy) (by intro e; injection e with e; exact hdy e) hX40 hY40
  rw [put_dec hd] at km
  have upy : ∀ it, upd σ d it y = some (dec 0 ny ey false Y) := fun it => by rw [upd_ne _ _ (Ne.symm hdy)]; exact hy
  have upc : ∀ it, upd σ d it c = some (ctxO p a b (modeS m)) := fun it => by rw [upd_ne _ _ hcd]; exact hc
  unfold CRes
  have hrc := rndC_calm (X * Y) p
  generalize X * Y = M at *
  obtain ⟨nn, hnn⟩ : ∃ nn, (nx != ny) = nn := ⟨_, rfl⟩
  rw [hnn]
  have hn2 : (!(nx == ny)) = nn := hnn
  clear hnn
  have kr := fun w1 (h1 : Hold w0 w1 (upd σ d (dec 0 nn (ex + ey) false M))) => round_c h1 (upd_eq _ _ _) (upd_eq _ _ _) (upc _) hp ha hb hPb hm (by omega)
  simp only [upd_upd] at kr
  have ke := fun w1 (h1 : Hold w0 w1 (upd σ d (dec 0 nn (ex + ey + (rndK nn M p m : Int)) false (rndN nn M p m)))) => errH_c h1 (upc _) hrc
  have hor := or0 hrc
  generalize rndC M p = r at *
  have ew1 : IntKind.i64.wrap ex = ex := IntWalk.i64_in _ (by omega)
  have ew2 : IntKind.i64.wrap ey = ey := IntWalk.i64_in _ (by omega)
  replace kn := Lib.hid kn
  replace km := Lib.hid km
  replace kr := Lib.hid kr
  replace ke := Lib.hid ke
  replace upy := Lib.hid upy
  replace upc := Lib.hid upc
  replace hrc := Lib.hid hrc
  clear h hd hy hc
  go_enter Tryz.func60, Tryz.ntmps60
  go_wp2_with fail
  with_reducible refine kn.out.mono ?_
  rintro E w' ⟨rfl, hw⟩
  obtain rfl := hw
  go_upto_region 3 with (fail)
  go_quiet (fail)
  go_upto_region 4 with (fail)
  go_quiet (fail)
  go_upto_region 12 with (fail)
  go_still_tail 9, (by kernel_rfl)
  change wpList _ _ _ _ _ (World.drew _)
  go_wp2_with fail
  with_reducible refine (km.out _ (by exact ⟨rfl, rfl, rfl, Nat.le_refl _, fun _ _ _ => rfl⟩)).mono ?_
  rintro E w1 ⟨rfl, h1⟩
  have d1 := h1.c1 (upd_eq _ _ _)
  have d0 := h1.c0 (upd_eq _ _ _)
  have f1 := h1.fz (upd_eq _ _ _) 1
  have f0 := h1.fz (upd_eq _ _ _) 0
  have h2 := h1.setSign (upd_eq _ _ _) nn
  rw [upd_upd] at h2
  have h3 := h2.setForm (upd_eq _ _ _) 0
  rw [upd_upd] at h3
  replace h3 := Lib.hid h3
  clear h1 h2 km x0 y0 x1 y1
  go_upto_region 15 with (fail)
  generalize (w1.setCell ⟨d, 1, none⟩ (.bool nn)).setCell ⟨d, 0, none⟩ (.int .i8 0) = W at h3 ⊢
  have x2 := h3.out.c2 (upd_eq _ _ _)
  have y2 := h3.out.c2 (upy.out _)
  have ks := setExp2_c h3.out ex ey (upd_eq _ _ _) (upc.out _) (by omega) (nd := -1) (.inl rfl) (r := 0) (.inl rfl) (by omega) (by omega) ha hb
  rw [upd_upd] at ks
  replace ks := Lib.hid ks
  clear d1 d0 f1 f0
  go_cut [13] (fun v wx => v = .int .u32 0 ∧ Hold w0 wx (upd σ d (dec 0 nn (ex + ey) false M)))
  case first =>
    go_region_with ((go_at_call 80; refine ks.out.mono ?_; rintro E w4 ⟨rfl, h4⟩; replace h4 := Lib.hid h4))
    all_goals
      go_wp2_with fail
      go_meet
      exact ⟨rfl, h4.out⟩
  case rest =>
    obtain ⟨rfl, h5⟩ := hcut
    have kr := kr.out _ h5
    replace kr := Lib.hid kr
    clear h5 h3 x2 y2 ks
    go_wp2_with fail
    with_reducible refine kr.out.mono ?_
    rintro E w6 ⟨rfl, h6⟩
    have ke := ke.out _ h6
    replace ke := Lib.hid ke
    replace h6 := Lib.hid h6
    go_wp2_with fail
    with_reducible refine ke.out.mono ?_
    rintro E w' ⟨rfl, hw⟩
    obtain rfl := hw
    go_wp2
    go_ret2
    exact ⟨rfl, h6.out⟩
end Go.Proofs.YtonepclpllelfaaGreatDoor
