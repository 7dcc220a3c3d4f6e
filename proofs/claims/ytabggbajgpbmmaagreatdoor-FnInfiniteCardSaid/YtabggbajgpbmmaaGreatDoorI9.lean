/- Quotients of infinities and by 0; roots of what is below 0. -/
import Derived.Test.YtabggbajgpbmmaaGreatDoorI8
namespace Go.Proofs.YtabggbajgpbmmaaGreatDoor
open Go Go.RowKit

/-- d is made a new constant. -/
theorem setConst (w : World) (d : Nat) (fd ed f : Int) (nd : Bool) (hd : DecZ w d fd nd ed) (F : FuncId) (kn : ∀ w, Calls Tryz.prog F #[] w fun e w' => e = .returned (.pointer (some ⟨w.heap.size, 0, none⟩)) ∧ DecZ w' w.heap.size f false 0 ∧ Chg w w' (fun _ => False)) :
    ∀ nq, Calls Tryz.prog F #[] (w.drewN nq) fun e w1 => e = .returned (.pointer (some ⟨w.heap.size, 0, none⟩)) ∧ Calls Tryz.prog 32 #[.pointer (some ⟨d, 0, none⟩), .pointer (some ⟨w.heap.size, 0, none⟩)] w1 fun e w2 => e = .returned (.pointer (some ⟨d, 0, none⟩)) ∧ DecZ w2 d f false 0 ∧ Chg w w2 (fun k => k = d) := by
  intro nq
  have hlt := ltB hd
  refine (kn (w.drewN nq)).mono ?_
  rintro e w1 ⟨rfl, hn1, hch1⟩
  have hd1 : DecZ w1 d fd nd ed := DecZ.chg (w := w.drewN nq) hd hch1 (fun h => h)
  have hdk : d ≠ w.heap.size := by omega
  refine ⟨rfl, (decSetZ w1 d w.heap.size fd ed f 0 nd false hd1 hn1 hdk).mono ?_⟩
  rintro e w2 ⟨rfl, hd2, hch2⟩
  exact ⟨rfl, hd2, (((Chg.refl w (fun k => k = d)).drewN nq).trans (hch1.mono (fun _ _ h => h.elim))).trans (hch2.mono (fun _ _ h => .inl h))⟩

set_option maxHeartbeats 1000000 in
/-- Infinity by infinity. -/
theorem quoSpInf2_c (w : World) (c d x y : Nat) (p a b : Int) (m : ByteArray) (fd ed ex ey : Int) (nd nx ny cl : Bool) (hc : Ctx w c p a b m) (hd : DecZ w d fd nd ed) (hx : DecZ w x 1 nx ex) (hy : DecZ w y 1 ny ey) (hdc : d ≠ c) :
    Calls Tryz.prog 30 #[.pointer (some ⟨c, 0, none⟩), .pointer (some ⟨d, 0, none⟩), .pointer (some ⟨x, 0, none⟩), .pointer (some ⟨y, 0, none⟩), .bool cl] w (SpQ w d 1024 3 false) := by
  have k1 := shouldNaN_c w (.pointer (some ⟨c, 0, none⟩)) x y 1 1 hx.c0 hy.c0 (by omega) (by omega)
  rw [show (decide ((2 : Int) ≤ 1 ∨ (2 : Int) ≤ 1)) = false by decide] at k1
  have x0 := hx.c0
  have x1 := hx.c1
  have y0 := hy.c0
  have y1 := hy.c1
  have fnn := setConst w d fd ed 3 nd hd _ decNaN_c
  have ge1 := fun w h => goError_c w c 1024 p a b m h (by decide) (by decide)
  replace ge1 := Lib.hid ge1
  replace fnn := Lib.hid fnn
  replace hc := Lib.hid hc
  clear hx hy hd
  go_enter Tryz.func30, Tryz.ntmps30
  go_wp2_with fail
  refine k1.mono ?_
  rintro e w' ⟨rfl, hw⟩
  obtain rfl := hw
  go_wp2
  go_quiet (fail)
  go_wp2
  go_quiet (fail)
  go_wp2_with fail
  refine (fnn.out _).mono ?_
  rintro e w1 ⟨rfl, kk⟩
  go_wp2_with fail
  refine kk.mono ?_
  rintro e w2 ⟨rfl, hd2, hch2⟩
  have hc2 := hc.out.chg hch2 (fun e => hdc e.symm)
  replace hc2 := Lib.hid hc2
  go_wp2_with fail
  refine (ge1.out _ hc2.out).mono ?_
  rintro e w3 ⟨rfl, hw⟩
  obtain rfl := hw
  go_wp2
  go_ret3
  exact ⟨rfl, ⟨_, hd2⟩, hch2⟩

set_option maxHeartbeats 2000000 in
/-- A finite decimal by 0. -/
theorem quoSpZero_c (w : World) (c d x y : Nat) (p a b : Int) (m : ByteArray) (fd ed ex ey : Int) (nd nx ny cl : Bool) (Nx : Nat) (ox oy : Option Nat) (hc : Ctx w c p a b m) (hd : DecZ w d fd nd ed) (hx : DecA w x 0 nx ex Nx ox) (hy : DecA w y 0 ny ey 0 oy) (hdc : d ≠ c) (z : Bool) (hz : z = decide (Nx = 0)) :
    Calls Tryz.prog 30 #[.pointer (some ⟨c, 0, none⟩), .pointer (some ⟨d, 0, none⟩), .pointer (some ⟨x, 0, none⟩), .pointer (some ⟨y, 0, none⟩), .bool cl] w
      (fun e w' => if z then SpQ w d 128 3 false e w' else SpQ w d 256 1 (nx != ny) e w') := by
  have k1 := shouldNaN_c w (.pointer (some ⟨c, 0, none⟩)) x y 0 0 hx.c0 hy.c0 (by omega) (by omega)
  rw [show (decide ((2 : Int) ≤ 0 ∨ (2 : Int) ≤ 0)) = false by decide] at k1
  have x0 := hx.c0
  have x1 := hx.c1
  have y0 := hy.c0
  have y1 := hy.c1
  have zx := fun n => isZero_c (w.drewN n) x 0 ex nx Nx ox (hx.drewN n) (by omega)
  have zy := fun n => isZero_c (w.drewN n) y 0 ey ny 0 oy (hy.drewN n) (by omega)
  have fnn := setConst w d fd ed 3 nd hd _ decNaN_c
  have fin := setConst w d fd ed 1 nd hd _ decInf_c
  have geU := fun w h => goError_c w c 128 p a b m h (by decide) (by decide)
  have geZ := fun w h => goError_c w c 256 p a b m h (by decide) (by decide)
  have e1 : decide ((0 : Int) = 0 ∧ (0 : Nat) = 0) = true := by decide
  have e2 : decide ((0 : Int) = 0 ∧ Nx = 0) = decide (Nx = 0) := by simp
  rw [e1] at zy
  rw [e2] at zx
  clear e1 e2
  generalize decide (Nx = 0) = bzx at zx hz
  replace geU := Lib.hid geU
  replace geZ := Lib.hid geZ
  replace fnn := Lib.hid fnn
  replace fin := Lib.hid fin
  replace zx := Lib.hid zx
  replace zy := Lib.hid zy
  replace hc := Lib.hid hc
  clear hx hy hd
  cases bzx <;> subst hz
  · show Calls _ _ _ _ (fun e w' => SpQ w d 256 1 (nx != ny) e w')
    go_enter Tryz.func30, Tryz.ntmps30
    go_wp2_with fail
    refine k1.mono ?_
    rintro e w' ⟨rfl, hw⟩
    obtain rfl := hw
    go_wp2
    go_quiet (fail)
    go_wp2
    go_quiet (fail)
    go_wp2_with fail
    refine (zy.out _).mono ?_
    rintro e w' ⟨rfl, hw⟩
    obtain rfl := hw.symm
    go_wp2_with fail
    refine (zx.out _).mono ?_
    rintro e w' ⟨rfl, hw⟩
    obtain rfl := hw.symm
    go_wp2_with fail
    refine (fin.out _).mono ?_
    rintro e w1 ⟨rfl, kk⟩
    go_wp2_with fail
    refine kk.mono ?_
    rintro e w2 ⟨rfl, hd2, hch2⟩
    have d1 := hd2.c1
    have df1 := hd2.fz 1
    have hfin := fun n => setB (i := 1) (v := .bool n) hd2
    have hcf := fun n => hch2.trans ((chg_setB w2 d 1 (.bool n)).mono (fun _ _ h => .inl h))
    have hc3 := fun n => hc.out.chg (hcf n) (fun e => hdc e.symm)
    replace hfin := Lib.hid hfin
    replace hcf := Lib.hid hcf
    replace hc3 := Lib.hid hc3
    clear hd2
    go_wp2_with fail
    refine (geZ.out _ (hc3.out _)).mono ?_
    rintro e w3 ⟨rfl, hw⟩
    obtain rfl := hw
    go_wp2
    go_ret3
    exact ⟨rfl, ⟨0, hfin.out _⟩, hcf.out _⟩
  · show Calls _ _ _ _ (fun e w' => SpQ w d 128 3 false e w')
    go_enter Tryz.func30, Tryz.ntmps30
    go_wp2_with fail
    refine k1.mono ?_
    rintro e w' ⟨rfl, hw⟩
    obtain rfl := hw
    go_wp2
    go_quiet (fail)
    go_wp2
    go_quiet (fail)
    go_wp2_with fail
    refine (zy.out _).mono ?_
    rintro e w' ⟨rfl, hw⟩
    obtain rfl := hw.symm
    go_wp2_with fail
    refine (zx.out _).mono ?_
    rintro e w' ⟨rfl, hw⟩
    obtain rfl := hw.symm
    go_wp2_with fail
    refine (fnn.out _).mono ?_
    rintro e w1 ⟨rfl, kk⟩
    go_wp2_with fail
    refine kk.mono ?_
    rintro e w2 ⟨rfl, hd2, hch2⟩
    have hc2 := hc.out.chg hch2 (fun e => hdc e.symm)
    replace hc2 := Lib.hid hc2
    go_wp2_with fail
    refine (geU.out _ hc2.out).mono ?_
    rintro e w3 ⟨rfl, hw⟩
    obtain rfl := hw
    go_wp2
    go_ret3
    exact ⟨rfl, ⟨_, hd2⟩, hch2⟩

set_option maxRecDepth 100000 in
/-- Where quoSpecials decides. -/
theorem quo_sp (w : World) (c d x y : Nat) (r : Nat) (f : Int) (n : Bool) (h : Calls Tryz.prog 30 #[.pointer (some ⟨c, 0, none⟩), .pointer (some ⟨d, 0, none⟩), .pointer (some ⟨x, 0, none⟩), .pointer (some ⟨y, 0, none⟩), .bool true] w (SpQ w d r f n)) :
    Calls Tryz.prog 18 #[.pointer (some ⟨c, 0, none⟩), .pointer (some ⟨d, 0, none⟩), .pointer (some ⟨x, 0, none⟩), .pointer (some ⟨y, 0, none⟩)] w (SpR w d r f n) := by
  replace h := Lib.hid h
  go_enter Tryz.func18, Tryz.ntmps18
  go_wp2_with fail
  refine h.out.mono ?_
  rintro e w' ⟨rfl, h1, h2⟩
  replace h1 := Lib.hid h1
  go_wp2
  go_ret2
  exact ⟨rfl, h1.out, h2⟩

set_option maxRecDepth 100000 in
/-- Where quoSpecials decides. -/
theorem quoInt_sp (w : World) (c d x y : Nat) (r : Nat) (f : Int) (n : Bool) (h : Calls Tryz.prog 30 #[.pointer (some ⟨c, 0, none⟩), .pointer (some ⟨d, 0, none⟩), .pointer (some ⟨x, 0, none⟩), .pointer (some ⟨y, 0, none⟩), .bool false] w (SpQ w d r f n)) :
    Calls Tryz.prog 55 #[.pointer (some ⟨c, 0, none⟩), .pointer (some ⟨d, 0, none⟩), .pointer (some ⟨x, 0, none⟩), .pointer (some ⟨y, 0, none⟩)] w (SpR w d r f n) := by
  replace h := Lib.hid h
  go_enter Tryz.func55, Tryz.ntmps55
  go_wp2_with fail
  refine h.out.mono ?_
  rintro e w' ⟨rfl, h1, h2⟩
  replace h1 := Lib.hid h1
  go_wp2
  go_ret2
  exact ⟨rfl, h1.out, h2⟩

theorem cAdd_of (w : World) (c d x y : Nat) (Q : Ending → World → Prop) (hQ : ∀ e w', Q e w' → ∃ r : Int, e = .returned (.tuple #[.int .u32 r, .nilIface])) (h : Calls Tryz.prog 110 #[.pointer (some ⟨c, 0, none⟩), .pointer (some ⟨d, 0, none⟩), .pointer (some ⟨x, 0, none⟩), .pointer (some ⟨y, 0, none⟩), .bool false] w Q) :
    Calls Tryz.prog 57 #[.pointer (some ⟨c, 0, none⟩), .pointer (some ⟨d, 0, none⟩), .pointer (some ⟨x, 0, none⟩), .pointer (some ⟨y, 0, none⟩)] w Q := by
  replace h := Lib.hid h
  replace hQ := Lib.hid hQ
  go_enter Tryz.func57, Tryz.ntmps57
  go_wp2_with fail
  refine h.out.mono ?_
  rintro e w' hq
  obtain ⟨r, rfl⟩ := hQ.out e w' hq
  replace hq := Lib.hid hq
  go_wp2
  exact hq.out

theorem cSub_of (w : World) (c d x y : Nat) (Q : Ending → World → Prop) (hQ : ∀ e w', Q e w' → ∃ r : Int, e = .returned (.tuple #[.int .u32 r, .nilIface])) (h : Calls Tryz.prog 110 #[.pointer (some ⟨c, 0, none⟩), .pointer (some ⟨d, 0, none⟩), .pointer (some ⟨x, 0, none⟩), .pointer (some ⟨y, 0, none⟩), .bool true] w Q) :
    Calls Tryz.prog 53 #[.pointer (some ⟨c, 0, none⟩), .pointer (some ⟨d, 0, none⟩), .pointer (some ⟨x, 0, none⟩), .pointer (some ⟨y, 0, none⟩)] w Q := by
  replace h := Lib.hid h
  replace hQ := Lib.hid hQ
  go_enter Tryz.func53, Tryz.ntmps53
  go_wp2_with fail
  refine h.out.mono ?_
  rintro e w' hq
  obtain ⟨r, rfl⟩ := hQ.out e w' hq
  replace hq := Lib.hid hq
  go_wp2
  exact hq.out

set_option maxHeartbeats 1000000 in
/-- There is no root of what is below 0. -/
theorem rootBelow_c (w : World) (c d x : Nat) (p a b : Int) (m : ByteArray) (fd ed ex : Int) (nd : Bool) (Nx : Nat) (ox : Option Nat) (hc : Ctx w c p a b m) (hd : DecZ w d fd nd ed) (hx : DecA w x 0 true ex Nx ox) (hN : Nx ≠ 0) (hdc : d ≠ c) :
    Calls Tryz.prog 58 #[.pointer (some ⟨c, 0, none⟩), .pointer (some ⟨d, 0, none⟩), .pointer (some ⟨x, 0, none⟩), .int .i32 2] w (SpQ w d 1024 3 false) := by
  have k1 := shouldNaN1_c w (.pointer (some ⟨c, 0, none⟩)) x 0 hx.c0 (by omega)
  rw [show (decide ((2 : Int) ≤ 0)) = false by decide] at k1
  have x0 := hx.c0
  have ks := decSign_c w x 0 ex true Nx ox hx (by omega)
  rw [show sgD 0 true Nx = -1 by simp [sgD, hN]] at ks
  have fnn := setConst w d fd ed 3 nd hd _ decNaN_c 0
  have ge1 := fun w h => goError_c w c 1024 p a b m h (by decide) (by decide)
  replace ge1 := Lib.hid ge1
  replace fnn := Lib.hid fnn
  replace hc := Lib.hid hc
  clear hx hd
  go_enter Tryz.func58, Tryz.ntmps58
  go_wp2_with fail
  refine k1.mono ?_
  rintro e w' ⟨rfl, hw⟩
  obtain rfl := hw
  go_wp2_with fail
  refine ks.mono ?_
  rintro e w' ⟨rfl, hw⟩
  obtain rfl := hw
  go_wp2_with fail
  refine fnn.out.mono ?_
  rintro e w1 ⟨rfl, kk⟩
  go_wp2_with fail
  refine kk.mono ?_
  rintro e w2 ⟨rfl, hd2, hch2⟩
  have hc2 := hc.out.chg hch2 (fun e => hdc e.symm)
  replace hc2 := Lib.hid hc2
  go_wp2_with fail
  refine (ge1.out _ hc2.out).mono ?_
  rintro e w3 ⟨rfl, hw⟩
  obtain rfl := hw
  go_wp2
  go_ret3
  exact ⟨rfl, ⟨_, hd2⟩, hch2⟩

set_option maxRecDepth 100000 in
theorem sqrtBelow_c (w : World) (c d x : Nat) (r : Nat) (f : Int) (n : Bool) (h : Calls Tryz.prog 58 #[.pointer (some ⟨c, 0, none⟩), .pointer (some ⟨d, 0, none⟩), .pointer (some ⟨x, 0, none⟩), .int .i32 2] w (SpQ w d r f n)) :
    Calls Tryz.prog 28 #[.pointer (some ⟨c, 0, none⟩), .pointer (some ⟨d, 0, none⟩), .pointer (some ⟨x, 0, none⟩)] w (SpR w d r f n) := by
  replace h := Lib.hid h
  go_enter Tryz.func28, Tryz.ntmps28
  go_wp2_with fail
  refine h.out.mono ?_
  rintro e w' ⟨rfl, h1, h2⟩
  replace h1 := Lib.hid h1
  go_wp2
  go_ret2
  exact ⟨rfl, h1.out, h2⟩
end Go.Proofs.YtabggbajgpbmmaaGreatDoor
