/- big.Int on what is held: Sub. big.Int on what is held: Set, SetInt64, Abs, Neg, Cmp. -/
import Derived.Test.YtonepclpllelfaaGreatDoorC20
namespace Go.Proofs.YtonepclpllelfaaGreatDoor
open Go Go.RowKit
set_option maxRecDepth 20000 in
set_option maxHeartbeats 2000000 in
theorem intSub_ge {w0 w : World} {σ : Sg} (h : Hold w0 w σ) {bz oz bx ox yb yo : Nat} {gz : Bool} {Z X Y : Nat} (hz : Num σ bz oz gz Z) (hx : Num σ bx ox false X) (hy : Num σ yb yo false Y) (hX : (digs X).length ≤ 900) (hle : Y ≤ X) :
    Calls Tryz.prog 136 #[.pointer (some ⟨bz, oz, none⟩), .pointer (some ⟨bx, ox, none⟩), .pointer (some ⟨yb, yo, none⟩)] w fun e w' => e = .returned (.pointer (some ⟨bz, oz, none⟩)) ∧ Hold w0 w' (put σ bz oz false (X - Y)) := by
  obtain ⟨vz, sz, pz⟩ := h.op hz
  obtain ⟨vx, sx, px⟩ := h.op hx
  obtain ⟨vy, sy, py⟩ := h.op hy
  have hm := fun w2 (hc : Chg w w2 (fun _ => False)) => natsub_c w2 vz vx vy X Y sz sx sy (pz.nat.stor.chg hc (fun _ _ h => h)) (px.nat.chg hc (fun _ _ h => h)) (py.nat.chg hc (fun _ _ h => h)) hX hle
  have kc := fun w2 (hc : Chg w w2 (fun _ => False)) => natcmp_c w2 vx vy X Y sx sy (px.nat.chg hc (fun _ _ h => h)) (py.nat.chg hc (fun _ _ h => h))
  have z1 := pz.c1
  have x0 := px.c0
  have x1 := px.c1
  have y0 := py.c0
  have y1 := py.c1
  obtain ⟨pvx, pcx, rfl, _, _⟩ := px.nat.shape
  obtain ⟨pvy, pcy, rfl, _, _⟩ := py.nat.shape
  obtain ⟨pvz, pcz, rfl, _, _⟩ := pz.nat.shape
  replace h := Lib.hid h
  replace hz := Lib.hid hz
  replace hx := Lib.hid hx
  replace hy := Lib.hid hy
  replace pz := Lib.hid pz
  replace px := Lib.hid px
  replace py := Lib.hid py
  have hr0 : 0 ≤ ordN X Y := by unfold ordN; split <;> (try split) <;> omega
  replace hm := Lib.hid hm
  replace kc := Lib.hid kc
  clear hle hX
  generalize ordN X Y = r at hr0 kc
  go_enter Tryz.func136, Tryz.ntmps136
  go_upto_region 2 with (fail)
  go_quiet (fail)
  go_upto_region 4 with (fail)
  go_quiet ((go_at_call 133; exact quietAdd (kc.out _ (by exact ⟨rfl, rfl, rfl, Nat.le_refl _, fun _ _ _ => rfl⟩))))
  go_upto_region 5 with (fail)
  go_cut [60] (fun _ wx => Hold w0 wx (put σ bz oz gz (X - Y)))
  case first =>
    go_region_with ((go_at_call 142; refine (hm.out _ (by exact ⟨rfl, rfl, rfl, Nat.le_refl _, fun _ _ _ => rfl⟩)).mono ?_; rintro e w1 ⟨r2, rfl, hr⟩; obtain ⟨g1, g3, hH, pr, cr, rfl⟩ := pz.out.stored hz.out (by exact ⟨rfl, rfl, rfl, Nat.le_refl _, fun _ _ _ => rfl⟩) (by rfl) hr; replace hH := Lib.hid hH))
    all_goals
      go_wp2_with fail
      go_meet
      exact hH.out
  case rest =>
    clear x0 y0 x1 y1 z1
    have x0 := hcut.signs hz.out hx.out
    have y0 := hcut.signs hz.out hy.out
    obtain ⟨p, c, z1, z0, fz, hfin⟩ := hcut.fin hz.out
    have hfin := hfin false
    replace hfin := Lib.hid hfin
    clear hcut pz px py h hm
    obtain ⟨L, hL⟩ : ∃ L, (digs (X - Y)).length = L := ⟨_, rfl⟩
    rw [hL] at z1
    replace hL := Lib.hid hL
    by_cases hL0 : L = 0
    · replace hL := Lib.hid (show True from trivial)
      subst hL0
      go_wp2
      all_goals
        go_wp2
        go_ret
        exact ⟨rfl, by first | exact hfin.out | exact hfin.out.drew⟩
    · have hLp : 0 < L := by omega
      go_wp2
      all_goals
        go_wp2
        go_ret
        exact ⟨rfl, by first | exact hfin.out | exact hfin.out.drew⟩
end Go.Proofs.YtonepclpllelfaaGreatDoor

namespace Go.Proofs.YtonepclpllelfaaGreatDoor
open Go Go.RowKit
set_option maxRecDepth 20000 in
set_option maxHeartbeats 2000000 in
theorem intSet2_c {w0 w : World} {σ : Sg} (h : Hold w0 w σ) {bz oz bx ox : Nat} {gz gx : Bool} {Z X : Nat} (hz : Num σ bz oz gz Z) (hx : Num σ bx ox gx X) (hne : (⟨bz, oz, none⟩ : Addr) ≠ ⟨bx, ox, none⟩) (hX : (digs X).length ≤ 1000) :
    Calls Tryz.prog 65 #[.pointer (some ⟨bz, oz, none⟩), .pointer (some ⟨bx, ox, none⟩)] w fun e w' => e = .returned (.pointer (some ⟨bz, oz, none⟩)) ∧ Hold w0 w' (put σ bz oz gx X) := by
  obtain ⟨vz, sz, pz⟩ := h.op hz
  obtain ⟨vx, sx, px⟩ := h.op hx
  obtain ⟨cx, tx, hbx, -⟩ := px.blk
  obtain ⟨cz, tz, hbz, -⟩ := pz.blk
  have q := neqInt hne hbz hbx
  clear hbx hbz cx tx cz tz hne
  have hm := fun w2 (hc : Chg w w2 (fun _ => False)) => set_c w2 vz vx X sz sx (pz.nat.stor.chg hc (fun _ _ h => h)) (px.nat.chg hc (fun _ _ h => h)) hX
  have z1 := pz.c1
  have x0 := px.c0
  have x1 := px.c1
  obtain ⟨pvx, pcx, rfl, _, _⟩ := px.nat.shape
  obtain ⟨pvz, pcz, rfl, _, _⟩ := pz.nat.shape
  replace h := Lib.hid h
  replace hz := Lib.hid hz
  replace hx := Lib.hid hx
  replace pz := Lib.hid pz
  replace px := Lib.hid px
  replace hm := Lib.hid hm
  clear hX
  go_enter Tryz.func65, Tryz.ntmps65
  go_upto_region 2 with (fail)
  go_cut [17] (fun _ wx => Hold w0 wx (put σ bz oz gz (X)))
  case first =>
    go_region_with ((go_at_call 93; refine (hm.out _ (by exact ⟨rfl, rfl, rfl, Nat.le_refl _, fun _ _ _ => rfl⟩)).mono ?_; rintro e w1 ⟨r, rfl, hr⟩; obtain ⟨g1, g3, hH, pr, cr, rfl⟩ := pz.out.stored hz.out (by exact ⟨rfl, rfl, rfl, Nat.le_refl _, fun _ _ _ => rfl⟩) (by rfl) hr; replace hH := Lib.hid hH))
    all_goals
      go_wp2_with fail
      go_meet
      exact hH.out
  case rest =>
    clear x0 x1 z1 q
    have x0 := hcut.signs hz.out hx.out
    obtain ⟨p, c, z1, z0, fz, hfin⟩ := hcut.fin hz.out
    have hfin := hfin gx
    replace hfin := Lib.hid hfin
    clear hcut pz px h hm
    go_wp2
    go_ret
    exact ⟨rfl, hfin.out⟩
theorem intSetSame_c {w0 w : World} {σ : Sg} (h : Hold w0 w σ) {bz oz : Nat} {gz : Bool} {Z : Nat} (hz : Num σ bz oz gz Z) :
    Calls Tryz.prog 65 #[.pointer (some ⟨bz, oz, none⟩), .pointer (some ⟨bz, oz, none⟩)] w fun e w' => e = .returned (.pointer (some ⟨bz, oz, none⟩)) ∧ Hold w0 w' (put σ bz oz gz Z) := by
  have q := neqIntSame (w := w) ⟨bz, oz, none⟩
  rw [put_self hz]
  replace h := Lib.hid h
  clear hz
  go_enter Tryz.func65, Tryz.ntmps65
  go_wp2
  go_ret
  exact ⟨rfl, h.out⟩
theorem intSetAny_c {w0 w : World} {σ : Sg} (h : Hold w0 w σ) {bz oz bx ox : Nat} {gz gx : Bool} {Z X : Nat} (hz : Num σ bz oz gz Z) (hx : Num σ bx ox gx X) (hX : (digs X).length ≤ 1000) :
    Calls Tryz.prog 65 #[.pointer (some ⟨bz, oz, none⟩), .pointer (some ⟨bx, ox, none⟩)] w fun e w' => e = .returned (.pointer (some ⟨bz, oz, none⟩)) ∧ Hold w0 w' (put σ bz oz gx X) := by
  by_cases e : (⟨bz, oz, none⟩ : Addr) = ⟨bx, ox, none⟩
  · injection e with e1 e2
    subst e1 e2
    obtain ⟨rfl, rfl⟩ := hz.uniq hx
    exact intSetSame_c h hz
  · exact intSet2_c h hz hx e hX
set_option maxRecDepth 20000 in
set_option maxHeartbeats 2000000 in
theorem intSetI_c {w0 w : World} {σ : Sg} (h : Hold w0 w σ) {bz oz : Nat} {gz : Bool} {Z : Nat} (hz : Num σ bz oz gz Z) (n : Nat) (hn : n ≤ 9223372036854775807) :
    Calls Tryz.prog 105 #[.pointer (some ⟨bz, oz, none⟩), .int .i64 (n : Int)] w fun e w' => e = .returned (.pointer (some ⟨bz, oz, none⟩)) ∧ Hold w0 w' (put σ bz oz false n) := by
  obtain ⟨vz, sz, pz⟩ := h.op hz
  have hnW : n < WB := by rw [WB_eq]; omega
  have hm := fun w2 (hc : Chg w w2 (fun _ => False)) => setUint64_c w2 vz n sz (pz.nat.stor.chg hc (fun _ _ h => h)) hnW
  have iw : IntKind.u64.wrap (n : Int) = (n : Int) := IntWalk.u64_in _ (by omega)
  have z1 := pz.c1
  obtain ⟨pvz, pcz, rfl, _, _⟩ := pz.nat.shape
  replace h := Lib.hid h
  replace hz := Lib.hid hz
  replace pz := Lib.hid pz
  replace hm := Lib.hid hm
  clear hnW
  go_enter Tryz.func105, Tryz.ntmps105
  go_wp2_with fail
  with_reducible refine (hm.out _ (by exact ⟨rfl, rfl, rfl, Nat.le_refl _, fun _ _ _ => rfl⟩)).mono ?_
  rintro e w1 ⟨r, rfl, hr⟩
  obtain ⟨g1, g3, hH, pr, cr, rfl⟩ := pz.out.stored hz.out (by exact ⟨rfl, rfl, rfl, Nat.le_refl _, fun _ _ _ => rfl⟩) (by rfl) hr
  obtain ⟨p, c, z1', z0', fz', hfin⟩ := hH.fin hz.out
  have hfin := hfin false
  replace hfin := Lib.hid hfin
  clear hH pz hz h hm hr
  go_wp2
  go_ret
  exact ⟨rfl, hfin.out⟩
theorem intAbs_c {w0 w : World} {σ : Sg} (h : Hold w0 w σ) {bz oz bx ox : Nat} {gz gx : Bool} {Z X : Nat} (hz : Num σ bz oz gz Z) (hx : Num σ bx ox gx X) (hX : (digs X).length ≤ 1000) :
    Calls Tryz.prog 104 #[.pointer (some ⟨bz, oz, none⟩), .pointer (some ⟨bx, ox, none⟩)] w fun e w' => e = .returned (.pointer (some ⟨bz, oz, none⟩)) ∧ Hold w0 w' (put σ bz oz false X) := by
  have key := intSetAny_c h hz hx hX
  replace key := Lib.hid key
  replace hz := Lib.hid hz
  clear h hx hX
  go_enter Tryz.func104, Tryz.ntmps104
  go_wp2_with fail
  with_reducible refine key.out.mono ?_
  rintro e w1 ⟨rfl, h1⟩
  obtain ⟨v, s, pz⟩ := h1.op (hz.out.put gx X)
  have z0 := pz.c0
  have fz := pz.f0
  have hfin := pz.neg false
  rw [put_put hz.out] at hfin
  replace hfin := Lib.hid hfin
  clear h1 pz
  go_wp2
  go_ret
  exact ⟨rfl, hfin.out⟩
theorem intNeg_c {w0 w : World} {σ : Sg} (h : Hold w0 w σ) {bz oz bx ox : Nat} {gz gx : Bool} {Z X : Nat} (hz : Num σ bz oz gz Z) (hx : Num σ bx ox gx X) (hX : (digs X).length ≤ 1000) (hX0 : X ≠ 0) :
    Calls Tryz.prog 132 #[.pointer (some ⟨bz, oz, none⟩), .pointer (some ⟨bx, ox, none⟩)] w fun e w' => e = .returned (.pointer (some ⟨bz, oz, none⟩)) ∧ Hold w0 w' (put σ bz oz (!gx) X) := by
  have key := intSetAny_c h hz hx hX
  have hp := digs_len_pos hX0
  replace key := Lib.hid key
  replace hz := Lib.hid hz
  clear h hx hX hX0
  go_enter Tryz.func132, Tryz.ntmps132
  go_wp2_with fail
  with_reducible refine key.out.mono ?_
  rintro e w1 ⟨rfl, h1⟩
  obtain ⟨v, s, pz⟩ := h1.op (hz.out.put gx X)
  have z0 := pz.c0
  have z1 := pz.c1
  obtain ⟨pvz, pcz, rfl, _, _⟩ := pz.nat.shape
  have fz := pz.f0
  have hfin := pz.neg (!gx)
  rw [put_put hz.out] at hfin
  replace hfin := Lib.hid hfin
  clear h1 pz
  generalize (digs X).length = L at *
  cases gx
  all_goals
    go_wp2
    go_ret
    exact ⟨rfl, hfin.out⟩
theorem intCmp_c {w0 w : World} {σ : Sg} (h : Hold w0 w σ) {bx ox yb yo : Nat} {X Y : Nat} (hx : Num σ bx ox false X) (hy : Num σ yb yo false Y) (hne : (⟨bx, ox, none⟩ : Addr) ≠ ⟨yb, yo, none⟩) :
    Calls Tryz.prog 102 #[.pointer (some ⟨bx, ox, none⟩), .pointer (some ⟨yb, yo, none⟩)] w fun e w' => e = .returned (.int .i64 (ordN X Y)) ∧ ∃ n, w' = w.drewN n := by
  obtain ⟨vx, sx, px⟩ := h.op hx
  obtain ⟨vy, sy, py⟩ := h.op hy
  obtain ⟨cx, tx, hbx, -⟩ := px.blk
  obtain ⟨cy, ty, hby, -⟩ := py.blk
  have q := eqlInt hne hbx hby
  clear hbx hby cx tx cy ty hne
  have kc := fun w2 (hc : Chg w w2 (fun _ => False)) => natcmp_c w2 vx vy X Y sx sy (px.nat.chg hc (fun _ _ h => h)) (py.nat.chg hc (fun _ _ h => h))
  have x0 := px.c0
  have x1 := px.c1
  have y0 := py.c0
  have y1 := py.c1
  obtain ⟨pvx, pcx, rfl, _, _⟩ := px.nat.shape
  obtain ⟨pvy, pcy, rfl, _, _⟩ := py.nat.shape
  replace kc := Lib.hid kc
  generalize ordN X Y = r at kc ⊢
  clear px py h hx hy
  go_enter Tryz.func102, Tryz.ntmps102
  go_upto_region 3 with (fail)
  go_quiet (fail)
  go_upto_region 4 with (fail)
  go_quiet ((go_at_call 133; exact quietAdd (kc.out _ (by exact ⟨rfl, rfl, rfl, Nat.le_refl _, fun _ _ _ => rfl⟩))))
  go_wp2
  go_ret
  exact ⟨rfl, by first | exact ⟨_, rfl⟩ | exact ⟨_, drewN_drewN _ _ _⟩ | exact ⟨_, (drewN_drewN _ _ _).symm⟩⟩
end Go.Proofs.YtonepclpllelfaaGreatDoor
