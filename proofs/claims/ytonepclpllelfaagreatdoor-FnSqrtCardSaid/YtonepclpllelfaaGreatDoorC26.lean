/- big.Int on what is held: Add. big.Int on what is held: Sub. -/
import Derived.Test.YtonepclpllelfaaGreatDoorC20
namespace Go.Proofs.YtonepclpllelfaaGreatDoor
open Go Go.RowKit
set_option maxRecDepth 20000 in
set_option maxHeartbeats 2000000 in
theorem intAdd_c {w0 w : World} {σ : Sg} (h : Hold w0 w σ) {bz oz bx ox yb yo : Nat} {gz : Bool} {Z X Y : Nat} (hz : Num σ bz oz gz Z) (hx : Num σ bx ox false X) (hy : Num σ yb yo false Y) (hX : (digs X).length ≤ 900) (hY : (digs Y).length ≤ 900) :
    Calls Tryz.prog 124 #[.pointer (some ⟨bz, oz, none⟩), .pointer (some ⟨bx, ox, none⟩), .pointer (some ⟨yb, yo, none⟩)] w fun e w' => e = .returned (.pointer (some ⟨bz, oz, none⟩)) ∧ Hold w0 w' (put σ bz oz false (X + Y)) := by
  obtain ⟨vz, sz, pz⟩ := h.op hz
  obtain ⟨vx, sx, px⟩ := h.op hx
  obtain ⟨vy, sy, py⟩ := h.op hy
  have hm := fun w2 (hc : Chg w w2 (fun _ => False)) => natadd_c w2 vz vx vy X Y sz sx sy (pz.nat.stor.chg hc (fun _ _ h => h)) (px.nat.chg hc (fun _ _ h => h)) (py.nat.chg hc (fun _ _ h => h)) hX hY
  have z1 := pz.c1
  have x0 := px.c0
  have x1 := px.c1
  have y0 := py.c0
  have y1 := py.c1
  obtain ⟨pvx, pcx, rfl, _, _⟩ := px.nat.shape
  obtain ⟨pvy, pcy, rfl, _, _⟩ := py.nat.shape
  obtain ⟨pvz, pcz, rfl, _, _⟩ := pz.nat.shape
  replace h := Lib.hid h
  replace hz := Lib.hid hz
  replace hx := Lib.hid hx
  replace hy := Lib.hid hy
  replace pz := Lib.hid pz
  replace px := Lib.hid px
  replace py := Lib.hid py
  replace hm := Lib.hid hm
  clear hX hY
  go_enter Tryz.func124, Tryz.ntmps124
  go_upto_region 2 with (fail)
  go_quiet (fail)
  go_upto_region 3 with (fail)
  go_cut [34] (fun _ wx => Hold w0 wx (put σ bz oz gz (X + Y)))
  case first =>
    go_region_with ((go_at_call 141; refine (hm.out _ (by exact ⟨rfl, rfl, rfl, Nat.le_refl _, fun _ _ _ => rfl⟩)).mono ?_; rintro e w1 ⟨r, rfl, hr⟩; obtain ⟨g1, g3, hH, pr, cr, rfl⟩ := pz.out.stored hz.out (by exact ⟨rfl, rfl, rfl, Nat.le_refl _, fun _ _ _ => rfl⟩) (by rfl) hr; replace hH := Lib.hid hH))
    all_goals
      go_wp2_with fail
      go_meet
      exact hH.out
  case rest =>
    clear x0 y0 x1 y1 z1
    have x0 := hcut.signs hz.out hx.out
    have y0 := hcut.signs hz.out hy.out
    obtain ⟨p, c, z1, z0, fz, hfin⟩ := hcut.fin hz.out
    have hfin := hfin false
    replace hfin := Lib.hid hfin
    clear hcut pz px py h hm
    obtain ⟨L, hL⟩ : ∃ L, (digs (X + Y)).length = L := ⟨_, rfl⟩
    rw [hL] at z1
    replace hL := Lib.hid hL
    by_cases hL0 : L = 0
    · replace hL := Lib.hid (show True from trivial)
      subst hL0
      go_wp2
      all_goals
        go_wp2
        go_ret
        exact ⟨rfl, by first | exact hfin.out | exact hfin.out.drew⟩
    · have hLp : 0 < L := by omega
      go_wp2
      all_goals
        go_wp2
        go_ret
        exact ⟨rfl, by first | exact hfin.out | exact hfin.out.drew⟩
end Go.Proofs.YtonepclpllelfaaGreatDoor

namespace Go.Proofs.YtonepclpllelfaaGreatDoor
open Go Go.RowKit
set_option maxRecDepth 20000 in
set_option maxHeartbeats 2000000 in
theorem intSub_lt {w0 w : World} {σ : Sg} (h : Hold w0 w σ) {bz oz bx ox yb yo : Nat} {gz : Bool} {Z X Y : Nat} (hz : Num σ bz oz gz Z) (hx : Num σ bx ox false X) (hy : Num σ yb yo false Y) (hY : (digs Y).length ≤ 900) (hle : X < Y) :
    Calls Tryz.prog 136 #[.pointer (some ⟨bz, oz, none⟩), .pointer (some ⟨bx, ox, none⟩), .pointer (some ⟨yb, yo, none⟩)] w fun e w' => e = .returned (.pointer (some ⟨bz, oz, none⟩)) ∧ Hold w0 w' (put σ bz oz true (Y - X)) := by
  obtain ⟨vz, sz, pz⟩ := h.op hz
  obtain ⟨vx, sx, px⟩ := h.op hx
  obtain ⟨vy, sy, py⟩ := h.op hy
  have hm := fun w2 (hc : Chg w w2 (fun _ => False)) => natsub_c w2 vz vy vx Y X sz sy sx (pz.nat.stor.chg hc (fun _ _ h => h)) (py.nat.chg hc (fun _ _ h => h)) (px.nat.chg hc (fun _ _ h => h)) hY (Nat.le_of_lt hle)
  have kc := fun w2 (hc : Chg w w2 (fun _ => False)) => natcmp_c w2 vx vy X Y sx sy (px.nat.chg hc (fun _ _ h => h)) (py.nat.chg hc (fun _ _ h => h))
  have z1 := pz.c1
  have x0 := px.c0
  have x1 := px.c1
  have y0 := py.c0
  have y1 := py.c1
  obtain ⟨pvx, pcx, rfl, _, _⟩ := px.nat.shape
  obtain ⟨pvy, pcy, rfl, _, _⟩ := py.nat.shape
  obtain ⟨pvz, pcz, rfl, _, _⟩ := pz.nat.shape
  replace h := Lib.hid h
  replace hz := Lib.hid hz
  replace hx := Lib.hid hx
  replace hy := Lib.hid hy
  replace pz := Lib.hid pz
  replace px := Lib.hid px
  replace py := Lib.hid py
  have hr0 : ordN X Y < 0 := by unfold ordN; split <;> (try split) <;> omega
  have hMp : Y - X ≠ 0 := by omega
  replace hm := Lib.hid hm
  replace kc := Lib.hid kc
  clear hle hY
  generalize ordN X Y = r at hr0 kc
  go_enter Tryz.func136, Tryz.ntmps136
  go_upto_region 2 with (fail)
  go_quiet (fail)
  go_upto_region 4 with (fail)
  go_quiet ((go_at_call 133; exact quietAdd (kc.out _ (by exact ⟨rfl, rfl, rfl, Nat.le_refl _, fun _ _ _ => rfl⟩))))
  go_upto_region 7 with (fail)
  go_cut [78] (fun _ wx => Hold w0 wx (put σ bz oz gz (Y - X)))
  case first =>
    go_region_with ((go_at_call 142; refine (hm.out _ (by exact ⟨rfl, rfl, rfl, Nat.le_refl _, fun _ _ _ => rfl⟩)).mono ?_; rintro e w1 ⟨r2, rfl, hr⟩; obtain ⟨g1, g3, hH, pr, cr, rfl⟩ := pz.out.stored hz.out (by exact ⟨rfl, rfl, rfl, Nat.le_refl _, fun _ _ _ => rfl⟩) (by rfl) hr; replace hH := Lib.hid hH))
    all_goals
      go_wp2_with fail
      go_meet
      exact hH.out
  case rest =>
    clear x0 y0 x1 y1 z1
    have x0 := hcut.signs hz.out hx.out
    have y0 := hcut.signs hz.out hy.out
    obtain ⟨p, c, z1, z0, fz, hfin⟩ := hcut.fin hz.out
    have hfin := hfin true
    replace hfin := Lib.hid hfin
    clear hcut pz px py h hm
    obtain ⟨L, hL⟩ : ∃ L, (digs (Y - X)).length = L := ⟨_, rfl⟩
    rw [hL] at z1
    replace hL := Lib.hid hL
    by_cases hL0 : L = 0
    · exact absurd (digs_len_eq_zero.1 (hL.out.trans hL0)) hMp
    · have hLp : 0 < L := by omega
      go_wp2
      all_goals
        go_wp2
        go_ret
        exact ⟨rfl, by first | exact hfin.out | exact hfin.out.drew⟩
end Go.Proofs.YtonepclpllelfaaGreatDoor
