/- big.Int on what is held: Mul of a number by itself. -/
import Derived.Test.YtcoljeafgiemkaaGreatDoorC28
namespace Go.Proofs.YtcoljeafgiemkaaGreatDoor
open Go Go.RowKit
set_option maxRecDepth 20000 in
set_option maxHeartbeats 2000000 in
theorem intmulSelf_c {w0 w : World} {σ : Sg} (h : Hold w0 w σ) {bz oz bx ox : Nat} {gz : Bool} {Z X : Nat} (hz : Num σ bz oz gz Z) (hx : Num σ bx ox false X) (hX : (digs X).length < 12) :
    Calls Tryz.prog 178 #[.pointer (some ⟨bz, oz, none⟩), .pointer none, .pointer (some ⟨bx, ox, none⟩), .pointer (some ⟨bx, ox, none⟩)] w fun e w' => e = .returned (.tuple #[]) ∧ Hold w0 w' (put σ bz oz false (X * X)) := by
  obtain ⟨vz, sz, pz⟩ := h.op hz
  obtain ⟨vx, sx, px⟩ := h.op hx
  have hm := fun w2 (hc : Chg w w2 (fun _ => False)) => natsqr_c w2 vz (.pointer none) vx X sz sx (h.keep hc).glob (pz.nat.stor.chg hc (fun _ _ h => h)) (px.nat.chg hc (fun _ _ h => h)) hX
  have q := eqlIntSame (w := w) ⟨bx, ox, none⟩
  have z1 := pz.c1
  have x1 := px.c1
  obtain ⟨pvx, pcx, rfl, _, _⟩ := px.nat.shape
  obtain ⟨pvz, pcz, rfl, _, _⟩ := pz.nat.shape
  replace h := Lib.hid h
  replace hz := Lib.hid hz
  replace hx := Lib.hid hx
  replace pz := Lib.hid pz
  replace px := Lib.hid px
  replace hm := Lib.hid hm
  clear hX
  go_enter Tryz.func178, Tryz.ntmps178
  go_upto_region 1 with (fail)
  go_cut [21] (fun _ wx => Hold w0 wx (put σ bz oz gz (X * X)))
  case first =>
    go_region_with ((go_at_call 194; refine (hm.out _ (by exact ⟨rfl, rfl, rfl, Nat.le_refl _, fun _ _ _ => rfl⟩)).mono ?_; rintro e w1 ⟨r, rfl, hr⟩; obtain ⟨g1, g3, hH, pr, cr, rfl⟩ := pz.out.stored hz.out (by exact ⟨rfl, rfl, rfl, Nat.le_refl _, fun _ _ _ => rfl⟩) (by rfl) hr; replace hH := Lib.hid hH))
    all_goals
      go_wp2_with fail
      go_meet
      exact hH.out
  case rest =>
    clear x1 z1
    obtain ⟨p, c, z1, z0, fz, hfin⟩ := hcut.fin hz.out
    have hfin := hfin false
    replace hfin := Lib.hid hfin
    clear hcut pz px h hm q
    go_wp2
    refine bodyPost_ret (results_none rfl _ _ _) rfl ?_
    exact ⟨rfl, by first | exact hfin.out | exact hfin.out.drew⟩
theorem intMulSelf_c {w0 w : World} {σ : Sg} (h : Hold w0 w σ) {bz oz bx ox : Nat} {gz : Bool} {Z X : Nat} (hz : Num σ bz oz gz Z) (hx : Num σ bx ox false X) (hX : (digs X).length < 12) :
    Calls Tryz.prog 142 #[.pointer (some ⟨bz, oz, none⟩), .pointer (some ⟨bx, ox, none⟩), .pointer (some ⟨bx, ox, none⟩)] w fun e w' => e = .returned (.pointer (some ⟨bz, oz, none⟩)) ∧ Hold w0 w' (put σ bz oz false (X * X)) := by
  have key := intmulSelf_c h hz hx hX
  replace key := Lib.hid key
  clear h hz hx hX
  go_enter Tryz.func142, Tryz.ntmps142
  go_wp2_with fail
  with_reducible refine key.out.mono ?_
  rintro e w1 ⟨rfl, h1⟩
  replace h1 := Lib.hid h1
  go_wp2
  go_ret
  exact ⟨rfl, h1.out⟩
set_option maxRecDepth 20000 in
theorem bigMulSelf_c {w0 w : World} {σ : Sg} (h : Hold w0 w σ) {bz oz bx ox : Nat} {gz : Bool} {Z X : Nat} (hz : BNum σ bz oz gz Z) (hx : Num σ bx ox false X) (hX : (digs X).length < 12) :
    Calls Tryz.prog 97 #[.pointer (some ⟨bz, oz, none⟩), .pointer (some ⟨bx, ox, none⟩), .pointer (some ⟨bx, ox, none⟩)] w fun e w' => e = .returned (.pointer (some ⟨bz, oz, none⟩)) ∧ Hold w0 w' (put σ bz oz false (X * X)) := by
  obtain ⟨fm, cm, hm⟩ := h.bmin hz
  have key := fun w2 (hc : Chg (w.setCell ⟨bz, oz + 2, none⟩ (.bool false)) w2 (fun _ => False)) => intMulSelf_c (hm.keep hc) hz.num hx hX
  replace key := Lib.hid key
  clear hz hx h hm hX
  go_enter Tryz.func97, Tryz.ntmps97
  go_upto_region 2 with (fail)
  go_still_tail 9, (by kernel_rfl)
  change wpList _ _ _ _ _ (World.drew _)
  go_wp2_with fail
  with_reducible refine (key.out _ (by exact ⟨rfl, rfl, rfl, Nat.le_refl _, fun _ _ _ => rfl⟩)).mono ?_
  rintro e w1 ⟨rfl, h1⟩
  replace h1 := Lib.hid h1
  go_wp2
  go_ret
  exact ⟨rfl, h1.out⟩
end Go.Proofs.YtcoljeafgiemkaaGreatDoor
