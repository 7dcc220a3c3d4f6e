/- Products, quotients, remainders and roots with an operand that is infinite, no number, or 0. -/
import Derived.Test.YtabggbajgpbmmaaGreatDoorI7
namespace Go.Proofs.YtabggbajgpbmmaaGreatDoor
open Go Go.RowKit

/-- What quoSpecials and rootSpecials hand back where they decide. -/
def SpQ (w : World) (d : Nat) (r : Nat) (f : Int) (n : Bool) (e : Ending) (w' : World) : Prop :=
  e = .returned (.tuple #[.bool true, .int .u32 (r : Int), .nilIface]) ∧ (∃ ex, DecZ w' d f n ex) ∧ Chg w w' (fun k => k = d)

theorem mulNaNx_c (w : World) (c d x y : Nat) (p a b : Int) (m : ByteArray) (fd fx fy ed ex : Int) (nd nx : Bool) (hc : Ctx w c p a b m) (hd : DecZ w d fd nd ed) (hx : DecZ w x fx nx ex) (hy : w.cell? ⟨y, 0, none⟩ = some (.int .i8 fy))
    (hfx : fx = 2 ∨ fx = 3) (hfy : fy = 0 ∨ fy = 1) (hdx : d ≠ x) (hdc : d ≠ c) :
    Calls Tryz.prog 54 #[.pointer (some ⟨c, 0, none⟩), .pointer (some ⟨d, 0, none⟩), .pointer (some ⟨x, 0, none⟩), .pointer (some ⟨y, 0, none⟩)] w (SpR w d (nanR fx) 3 nx) := by
  have k1 := shouldNaN_c w (.pointer (some ⟨c, 0, none⟩)) x y fx fy hx.c0 hy (by omega) (by omega)
  rw [show (decide (2 ≤ fx ∨ 2 ≤ fy)) = true by simp; omega] at k1
  have k2 := setNaNx_c w c d x y p a b m fd fx fy ed ex nd nx hc hd hx hy hfx hfy hdx hdc
  clear hc hd hx hy
  go_enter Tryz.func54, Tryz.ntmps54
  go_wp2_with fail
  refine k1.mono ?_
  rintro e w' ⟨rfl, hw⟩
  obtain rfl := hw
  go_wp2_with fail
  refine k2.mono ?_
  rintro e w' ⟨rfl, h1, h2⟩
  go_wp2
  go_ret2
  exact ⟨rfl, ⟨_, h1⟩, h2⟩

theorem mulNaNy_c (w : World) (c d x y : Nat) (p a b : Int) (m : ByteArray) (fd fx fy ed ey : Int) (nd ny : Bool) (hc : Ctx w c p a b m) (hd : DecZ w d fd nd ed) (hy : DecZ w y fy ny ey) (hx : w.cell? ⟨x, 0, none⟩ = some (.int .i8 fx))
    (hfy : fy = 2 ∨ fy = 3) (hfx : fx = 0 ∨ fx = 1) (hdy : d ≠ y) (hdc : d ≠ c) :
    Calls Tryz.prog 54 #[.pointer (some ⟨c, 0, none⟩), .pointer (some ⟨d, 0, none⟩), .pointer (some ⟨x, 0, none⟩), .pointer (some ⟨y, 0, none⟩)] w (SpR w d (nanR fy) 3 ny) := by
  have k1 := shouldNaN_c w (.pointer (some ⟨c, 0, none⟩)) x y fx fy hx hy.c0 (by omega) (by omega)
  rw [show (decide (2 ≤ fx ∨ 2 ≤ fy)) = true by simp; omega] at k1
  have k2 := setNaNy_c w c d x y p a b m fd fx fy ed ey nd ny hc hd hy hx hfy hfx hdy hdc
  clear hc hd hx hy
  go_enter Tryz.func54, Tryz.ntmps54
  go_wp2_with fail
  refine k1.mono ?_
  rintro e w' ⟨rfl, hw⟩
  obtain rfl := hw
  go_wp2_with fail
  refine k2.mono ?_
  rintro e w' ⟨rfl, h1, h2⟩
  go_wp2
  go_ret2
  exact ⟨rfl, ⟨_, h1⟩, h2⟩

theorem quoSpNaNx_c (w : World) (c d x y : Nat) (p a b : Int) (m : ByteArray) (fd fx fy ed ex : Int) (nd nx : Bool) (cl : Bool) (hc : Ctx w c p a b m) (hd : DecZ w d fd nd ed) (hx : DecZ w x fx nx ex) (hy : w.cell? ⟨y, 0, none⟩ = some (.int .i8 fy))
    (hfx : fx = 2 ∨ fx = 3) (hfy : fy = 0 ∨ fy = 1) (hdx : d ≠ x) (hdc : d ≠ c) :
    Calls Tryz.prog 30 #[.pointer (some ⟨c, 0, none⟩), .pointer (some ⟨d, 0, none⟩), .pointer (some ⟨x, 0, none⟩), .pointer (some ⟨y, 0, none⟩), .bool cl] w (SpQ w d (nanR fx) 3 nx) := by
  have k1 := shouldNaN_c w (.pointer (some ⟨c, 0, none⟩)) x y fx fy hx.c0 hy (by omega) (by omega)
  rw [show (decide (2 ≤ fx ∨ 2 ≤ fy)) = true by simp; omega] at k1
  have k2 := setNaNx_c w c d x y p a b m fd fx fy ed ex nd nx hc hd hx hy hfx hfy hdx hdc
  clear hc hd hx hy
  go_enter Tryz.func30, Tryz.ntmps30
  go_wp2_with fail
  refine k1.mono ?_
  rintro e w' ⟨rfl, hw⟩
  obtain rfl := hw
  go_wp2_with fail
  refine k2.mono ?_
  rintro e w' ⟨rfl, h1, h2⟩
  go_wp2
  go_ret3
  exact ⟨rfl, ⟨_, h1⟩, h2⟩

theorem quoSpNaNy_c (w : World) (c d x y : Nat) (p a b : Int) (m : ByteArray) (fd fx fy ed ey : Int) (nd ny : Bool) (cl : Bool) (hc : Ctx w c p a b m) (hd : DecZ w d fd nd ed) (hy : DecZ w y fy ny ey) (hx : w.cell? ⟨x, 0, none⟩ = some (.int .i8 fx))
    (hfy : fy = 2 ∨ fy = 3) (hfx : fx = 0 ∨ fx = 1) (hdy : d ≠ y) (hdc : d ≠ c) :
    Calls Tryz.prog 30 #[.pointer (some ⟨c, 0, none⟩), .pointer (some ⟨d, 0, none⟩), .pointer (some ⟨x, 0, none⟩), .pointer (some ⟨y, 0, none⟩), .bool cl] w (SpQ w d (nanR fy) 3 ny) := by
  have k1 := shouldNaN_c w (.pointer (some ⟨c, 0, none⟩)) x y fx fy hx hy.c0 (by omega) (by omega)
  rw [show (decide (2 ≤ fx ∨ 2 ≤ fy)) = true by simp; omega] at k1
  have k2 := setNaNy_c w c d x y p a b m fd fx fy ed ey nd ny hc hd hy hx hfy hfx hdy hdc
  clear hc hd hx hy
  go_enter Tryz.func30, Tryz.ntmps30
  go_wp2_with fail
  refine k1.mono ?_
  rintro e w' ⟨rfl, hw⟩
  obtain rfl := hw
  go_wp2_with fail
  refine k2.mono ?_
  rintro e w' ⟨rfl, h1, h2⟩
  go_wp2
  go_ret3
  exact ⟨rfl, ⟨_, h1⟩, h2⟩

theorem remNaNx_c (w : World) (c d x y : Nat) (p a b : Int) (m : ByteArray) (fd fx fy ed ex : Int) (nd nx : Bool) (hc : Ctx w c p a b m) (hd : DecZ w d fd nd ed) (hx : DecZ w x fx nx ex) (hy : w.cell? ⟨y, 0, none⟩ = some (.int .i8 fy))
    (hfx : fx = 2 ∨ fx = 3) (hfy : fy = 0 ∨ fy = 1) (hdx : d ≠ x) (hdc : d ≠ c) :
    Calls Tryz.prog 56 #[.pointer (some ⟨c, 0, none⟩), .pointer (some ⟨d, 0, none⟩), .pointer (some ⟨x, 0, none⟩), .pointer (some ⟨y, 0, none⟩)] w (SpR w d (nanR fx) 3 nx) := by
  have k1 := shouldNaN_c w (.pointer (some ⟨c, 0, none⟩)) x y fx fy hx.c0 hy (by omega) (by omega)
  rw [show (decide (2 ≤ fx ∨ 2 ≤ fy)) = true by simp; omega] at k1
  have k2 := setNaNx_c w c d x y p a b m fd fx fy ed ex nd nx hc hd hx hy hfx hfy hdx hdc
  clear hc hd hx hy
  go_enter Tryz.func56, Tryz.ntmps56
  go_wp2_with fail
  refine k1.mono ?_
  rintro e w' ⟨rfl, hw⟩
  obtain rfl := hw
  go_wp2_with fail
  refine k2.mono ?_
  rintro e w' ⟨rfl, h1, h2⟩
  go_wp2
  go_ret2
  exact ⟨rfl, ⟨_, h1⟩, h2⟩

theorem remNaNy_c (w : World) (c d x y : Nat) (p a b : Int) (m : ByteArray) (fd fx fy ed ey : Int) (nd ny : Bool) (hc : Ctx w c p a b m) (hd : DecZ w d fd nd ed) (hy : DecZ w y fy ny ey) (hx : w.cell? ⟨x, 0, none⟩ = some (.int .i8 fx))
    (hfy : fy = 2 ∨ fy = 3) (hfx : fx = 0 ∨ fx = 1) (hdy : d ≠ y) (hdc : d ≠ c) :
    Calls Tryz.prog 56 #[.pointer (some ⟨c, 0, none⟩), .pointer (some ⟨d, 0, none⟩), .pointer (some ⟨x, 0, none⟩), .pointer (some ⟨y, 0, none⟩)] w (SpR w d (nanR fy) 3 ny) := by
  have k1 := shouldNaN_c w (.pointer (some ⟨c, 0, none⟩)) x y fx fy hx hy.c0 (by omega) (by omega)
  rw [show (decide (2 ≤ fx ∨ 2 ≤ fy)) = true by simp; omega] at k1
  have k2 := setNaNy_c w c d x y p a b m fd fx fy ed ey nd ny hc hd hy hx hfy hfx hdy hdc
  clear hc hd hx hy
  go_enter Tryz.func56, Tryz.ntmps56
  go_wp2_with fail
  refine k1.mono ?_
  rintro e w' ⟨rfl, hw⟩
  obtain rfl := hw
  go_wp2_with fail
  refine k2.mono ?_
  rintro e w' ⟨rfl, h1, h2⟩
  go_wp2
  go_ret2
  exact ⟨rfl, ⟨_, h1⟩, h2⟩

set_option maxHeartbeats 4000000 in
/-- An infinite factor. -/
theorem mulInf_c (w : World) (c d x y : Nat) (p a b : Int) (m : ByteArray) (fd fx fy ed ex ey : Int) (nd nx ny : Bool) (Nx Ny : Nat) (ox oy : Option Nat) (hc : Ctx w c p a b m) (hd : DecZ w d fd nd ed) (hx : DecA w x fx nx ex Nx ox) (hy : DecA w y fy ny ey Ny oy)
    (hf : fx = 1 ∧ fy = 1 ∨ fx = 1 ∧ fy = 0 ∨ fx = 0 ∧ fy = 1) (hdc : d ≠ c) (z : Bool) (hz : z = (decide (fx = 0 ∧ Nx = 0) || decide (fy = 0 ∧ Ny = 0))) :
    Calls Tryz.prog 54 #[.pointer (some ⟨c, 0, none⟩), .pointer (some ⟨d, 0, none⟩), .pointer (some ⟨x, 0, none⟩), .pointer (some ⟨y, 0, none⟩)] w
      (fun e w' => if z then SpR w d 1024 3 false e w' else SpR w d 0 1 (nx != ny) e w') := by
  have bx : 0 ≤ fx ∧ fx ≤ 3 := by omega
  have by_ : 0 ≤ fy ∧ fy ≤ 3 := by omega
  have k1 := shouldNaN_c w (.pointer (some ⟨c, 0, none⟩)) x y fx fy hx.c0 hy.c0 bx by_
  rw [show (decide (2 ≤ fx ∨ 2 ≤ fy)) = false by simp; omega] at k1
  have x0 := hx.c0
  have x1 := hx.c1
  have y0 := hy.c0
  have y1 := hy.c1
  have zx := fun n => isZero_c (w.drewN n) x fx ex nx Nx ox (hx.drewN n) bx
  have zy := fun n => isZero_c (w.drewN n) y fy ey ny Ny oy (hy.drewN n) by_
  have hlt := ltB hd
  have kn := fun n => decNaN_c (w.drewN n)
  have ki := fun n => decInf_c (w.drewN n)
  have ge1 := fun w h => goError_c w c 1024 p a b m h (by decide) (by decide)
  generalize decide (fx = 0 ∧ Nx = 0) = bzx at zx hz
  generalize decide (fy = 0 ∧ Ny = 0) = bzy at zy hz
  replace ge1 := Lib.hid ge1
  replace hc := Lib.hid hc
  replace hd := Lib.hid hd
  replace kn := Lib.hid kn
  replace ki := Lib.hid ki
  replace zx := Lib.hid zx
  replace zy := Lib.hid zy
  clear hx hy bx by_
  have fin : ∀ nq, Calls Tryz.prog 73 #[] (w.drewN nq) fun e w1 => e = .returned (.pointer (some ⟨w.heap.size, 0, none⟩)) ∧ Calls Tryz.prog 32 #[.pointer (some ⟨d, 0, none⟩), .pointer (some ⟨w.heap.size, 0, none⟩)] w1 fun e w2 => e = .returned (.pointer (some ⟨d, 0, none⟩)) ∧ DecZ w2 d 1 false 0 ∧ Chg w w2 (fun k => k = d) := by
    intro nq
    refine (ki.out nq).mono ?_
    rintro e w1 ⟨rfl, hn1, hch1⟩
    have hd1 : DecZ w1 d fd nd ed := DecZ.chg (w := w.drewN nq) hd.out hch1 (fun h => h)
    have hdk : d ≠ w.heap.size := by omega
    refine ⟨rfl, (decSetZ w1 d w.heap.size fd ed 1 0 nd false hd1 hn1 hdk).mono ?_⟩
    rintro e w2 ⟨rfl, hd2, hch2⟩
    exact ⟨rfl, hd2, (((Chg.refl w (fun k => k = d)).drewN nq).trans (hch1.mono (fun _ _ h => h.elim))).trans (hch2.mono (fun _ _ h => .inl h))⟩
  have fnn : ∀ nq, Calls Tryz.prog 72 #[] (w.drewN nq) fun e w1 => e = .returned (.pointer (some ⟨w.heap.size, 0, none⟩)) ∧ Calls Tryz.prog 32 #[.pointer (some ⟨d, 0, none⟩), .pointer (some ⟨w.heap.size, 0, none⟩)] w1 fun e w2 => e = .returned (.pointer (some ⟨d, 0, none⟩)) ∧ DecZ w2 d 3 false 0 ∧ Chg w w2 (fun k => k = d) := by
    intro nq
    refine (kn.out nq).mono ?_
    rintro e w1 ⟨rfl, hn1, hch1⟩
    have hd1 : DecZ w1 d fd nd ed := DecZ.chg (w := w.drewN nq) hd.out hch1 (fun h => h)
    have hdk : d ≠ w.heap.size := by omega
    refine ⟨rfl, (decSetZ w1 d w.heap.size fd ed 3 0 nd false hd1 hn1 hdk).mono ?_⟩
    rintro e w2 ⟨rfl, hd2, hch2⟩
    exact ⟨rfl, hd2, (((Chg.refl w (fun k => k = d)).drewN nq).trans (hch1.mono (fun _ _ h => h.elim))).trans (hch2.mono (fun _ _ h => .inl h))⟩
  replace fin := Lib.hid fin
  replace fnn := Lib.hid fnn
  clear kn ki
  rcases hf with ⟨rfl, rfl⟩ | ⟨rfl, rfl⟩ | ⟨rfl, rfl⟩
  · cases bzx <;> cases bzy <;> subst hz
    · show Calls _ _ _ _ (fun e w' => SpR w d 0 1 (nx != ny) e w')
      all_goals
        go_enter Tryz.func54, Tryz.ntmps54
        go_wp2_with fail
        refine k1.mono ?_
        rintro e w' ⟨rfl, hw⟩
        obtain rfl := hw
        go_wp2
        go_quiet (fail)
        go_wp2
        go_quiet (fail)
        go_wp2_with fail
        refine (zx.out _).mono ?_
        rintro e w' ⟨rfl, hw⟩
        obtain rfl := hw.symm
        go_wp2_with fail
        refine (zy.out _).mono ?_
        rintro e w' ⟨rfl, hw⟩
        obtain rfl := hw.symm
        go_wp2_with fail
        refine (fin.out _).mono ?_
        rintro e w1 ⟨rfl, kk⟩
        go_wp2_with fail
        refine kk.mono ?_
        rintro e w2 ⟨rfl, hd2, hch2⟩
        have d1 := hd2.c1
        have df1 := hd2.fz 1
        have hfin := fun n => setB (i := 1) (v := .bool n) hd2
        have hcf := fun n => hch2.trans ((chg_setB w2 d 1 (.bool n)).mono (fun _ _ h => .inl h))
        replace hfin := Lib.hid hfin
        replace hcf := Lib.hid hcf
        clear hd2
        go_wp2
        go_ret2
        exact ⟨rfl, ⟨0, hfin.out _⟩, hcf.out _⟩
    · show Calls _ _ _ _ (fun e w' => SpR w d 1024 3 false e w')
      all_goals
        go_enter Tryz.func54, Tryz.ntmps54
        go_wp2_with fail
        refine k1.mono ?_
        rintro e w' ⟨rfl, hw⟩
        obtain rfl := hw
        go_wp2
        go_quiet (fail)
        go_wp2
        go_quiet (fail)
        go_wp2_with fail
        refine (zx.out _).mono ?_
        rintro e w' ⟨rfl, hw⟩
        obtain rfl := hw.symm
        go_wp2_with fail
        refine (zy.out _).mono ?_
        rintro e w' ⟨rfl, hw⟩
        obtain rfl := hw.symm
        go_wp2_with fail
        refine (fnn.out _).mono ?_
        rintro e w1 ⟨rfl, kk⟩
        go_wp2_with fail
        refine kk.mono ?_
        rintro e w2 ⟨rfl, hd2, hch2⟩
        have hc2 := hc.out.chg hch2 (fun e => hdc e.symm)
        replace hc2 := Lib.hid hc2
        go_wp2_with fail
        refine (ge1.out _ hc2.out).mono ?_
        rintro e w3 ⟨rfl, hw⟩
        obtain rfl := hw
        go_wp2
        go_ret2
        exact ⟨rfl, ⟨_, hd2⟩, hch2⟩
    · show Calls _ _ _ _ (fun e w' => SpR w d 1024 3 false e w')
      all_goals
        go_enter Tryz.func54, Tryz.ntmps54
        go_wp2_with fail
        refine k1.mono ?_
        rintro e w' ⟨rfl, hw⟩
        obtain rfl := hw
        go_wp2
        go_quiet (fail)
        go_wp2
        go_quiet (fail)
        go_wp2_with fail
        refine (zx.out _).mono ?_
        rintro e w' ⟨rfl, hw⟩
        obtain rfl := hw.symm
        go_wp2_with fail
        refine (fnn.out _).mono ?_
        rintro e w1 ⟨rfl, kk⟩
        go_wp2_with fail
        refine kk.mono ?_
        rintro e w2 ⟨rfl, hd2, hch2⟩
        have hc2 := hc.out.chg hch2 (fun e => hdc e.symm)
        replace hc2 := Lib.hid hc2
        go_wp2_with fail
        refine (ge1.out _ hc2.out).mono ?_
        rintro e w3 ⟨rfl, hw⟩
        obtain rfl := hw
        go_wp2
        go_ret2
        exact ⟨rfl, ⟨_, hd2⟩, hch2⟩
    · show Calls _ _ _ _ (fun e w' => SpR w d 1024 3 false e w')
      all_goals
        go_enter Tryz.func54, Tryz.ntmps54
        go_wp2_with fail
        refine k1.mono ?_
        rintro e w' ⟨rfl, hw⟩
        obtain rfl := hw
        go_wp2
        go_quiet (fail)
        go_wp2
        go_quiet (fail)
        go_wp2_with fail
        refine (zx.out _).mono ?_
        rintro e w' ⟨rfl, hw⟩
        obtain rfl := hw.symm
        go_wp2_with fail
        refine (fnn.out _).mono ?_
        rintro e w1 ⟨rfl, kk⟩
        go_wp2_with fail
        refine kk.mono ?_
        rintro e w2 ⟨rfl, hd2, hch2⟩
        have hc2 := hc.out.chg hch2 (fun e => hdc e.symm)
        replace hc2 := Lib.hid hc2
        go_wp2_with fail
        refine (ge1.out _ hc2.out).mono ?_
        rintro e w3 ⟨rfl, hw⟩
        obtain rfl := hw
        go_wp2
        go_ret2
        exact ⟨rfl, ⟨_, hd2⟩, hch2⟩
  · cases bzx <;> cases bzy <;> subst hz
    · show Calls _ _ _ _ (fun e w' => SpR w d 0 1 (nx != ny) e w')
      all_goals
        go_enter Tryz.func54, Tryz.ntmps54
        go_wp2_with fail
        refine k1.mono ?_
        rintro e w' ⟨rfl, hw⟩
        obtain rfl := hw
        go_wp2
        go_quiet (fail)
        go_wp2
        go_quiet (fail)
        go_wp2_with fail
        refine (zx.out _).mono ?_
        rintro e w' ⟨rfl, hw⟩
        obtain rfl := hw.symm
        go_wp2_with fail
        refine (zy.out _).mono ?_
        rintro e w' ⟨rfl, hw⟩
        obtain rfl := hw.symm
        go_wp2_with fail
        refine (fin.out _).mono ?_
        rintro e w1 ⟨rfl, kk⟩
        go_wp2_with fail
        refine kk.mono ?_
        rintro e w2 ⟨rfl, hd2, hch2⟩
        have d1 := hd2.c1
        have df1 := hd2.fz 1
        have hfin := fun n => setB (i := 1) (v := .bool n) hd2
        have hcf := fun n => hch2.trans ((chg_setB w2 d 1 (.bool n)).mono (fun _ _ h => .inl h))
        replace hfin := Lib.hid hfin
        replace hcf := Lib.hid hcf
        clear hd2
        go_wp2
        go_ret2
        exact ⟨rfl, ⟨0, hfin.out _⟩, hcf.out _⟩
    · show Calls _ _ _ _ (fun e w' => SpR w d 1024 3 false e w')
      all_goals
        go_enter Tryz.func54, Tryz.ntmps54
        go_wp2_with fail
        refine k1.mono ?_
        rintro e w' ⟨rfl, hw⟩
        obtain rfl := hw
        go_wp2
        go_quiet (fail)
        go_wp2
        go_quiet (fail)
        go_wp2_with fail
        refine (zx.out _).mono ?_
        rintro e w' ⟨rfl, hw⟩
        obtain rfl := hw.symm
        go_wp2_with fail
        refine (zy.out _).mono ?_
        rintro e w' ⟨rfl, hw⟩
        obtain rfl := hw.symm
        go_wp2_with fail
        refine (fnn.out _).mono ?_
        rintro e w1 ⟨rfl, kk⟩
        go_wp2_with fail
        refine kk.mono ?_
        rintro e w2 ⟨rfl, hd2, hch2⟩
        have hc2 := hc.out.chg hch2 (fun e => hdc e.symm)
        replace hc2 := Lib.hid hc2
        go_wp2_with fail
        refine (ge1.out _ hc2.out).mono ?_
        rintro e w3 ⟨rfl, hw⟩
        obtain rfl := hw
        go_wp2
        go_ret2
        exact ⟨rfl, ⟨_, hd2⟩, hch2⟩
    · show Calls _ _ _ _ (fun e w' => SpR w d 1024 3 false e w')
      all_goals
        go_enter Tryz.func54, Tryz.ntmps54
        go_wp2_with fail
        refine k1.mono ?_
        rintro e w' ⟨rfl, hw⟩
        obtain rfl := hw
        go_wp2
        go_quiet (fail)
        go_wp2
        go_quiet (fail)
        go_wp2_with fail
        refine (zx.out _).mono ?_
        rintro e w' ⟨rfl, hw⟩
        obtain rfl := hw.symm
        go_wp2_with fail
        refine (fnn.out _).mono ?_
        rintro e w1 ⟨rfl, kk⟩
        go_wp2_with fail
        refine kk.mono ?_
        rintro e w2 ⟨rfl, hd2, hch2⟩
        have hc2 := hc.out.chg hch2 (fun e => hdc e.symm)
        replace hc2 := Lib.hid hc2
        go_wp2_with fail
        refine (ge1.out _ hc2.out).mono ?_
        rintro e w3 ⟨rfl, hw⟩
        obtain rfl := hw
        go_wp2
        go_ret2
        exact ⟨rfl, ⟨_, hd2⟩, hch2⟩
    · show Calls _ _ _ _ (fun e w' => SpR w d 1024 3 false e w')
      all_goals
        go_enter Tryz.func54, Tryz.ntmps54
        go_wp2_with fail
        refine k1.mono ?_
        rintro e w' ⟨rfl, hw⟩
        obtain rfl := hw
        go_wp2
        go_quiet (fail)
        go_wp2
        go_quiet (fail)
        go_wp2_with fail
        refine (zx.out _).mono ?_
        rintro e w' ⟨rfl, hw⟩
        obtain rfl := hw.symm
        go_wp2_with fail
        refine (fnn.out _).mono ?_
        rintro e w1 ⟨rfl, kk⟩
        go_wp2_with fail
        refine kk.mono ?_
        rintro e w2 ⟨rfl, hd2, hch2⟩
        have hc2 := hc.out.chg hch2 (fun e => hdc e.symm)
        replace hc2 := Lib.hid hc2
        go_wp2_with fail
        refine (ge1.out _ hc2.out).mono ?_
        rintro e w3 ⟨rfl, hw⟩
        obtain rfl := hw
        go_wp2
        go_ret2
        exact ⟨rfl, ⟨_, hd2⟩, hch2⟩
  · cases bzx <;> cases bzy <;> subst hz
    · show Calls _ _ _ _ (fun e w' => SpR w d 0 1 (nx != ny) e w')
      all_goals
        go_enter Tryz.func54, Tryz.ntmps54
        go_wp2_with fail
        refine k1.mono ?_
        rintro e w' ⟨rfl, hw⟩
        obtain rfl := hw
        go_wp2
        go_quiet (fail)
        go_wp2
        go_quiet (fail)
        go_wp2_with fail
        refine (zx.out _).mono ?_
        rintro e w' ⟨rfl, hw⟩
        obtain rfl := hw.symm
        go_wp2_with fail
        refine (zy.out _).mono ?_
        rintro e w' ⟨rfl, hw⟩
        obtain rfl := hw.symm
        go_wp2_with fail
        refine (fin.out _).mono ?_
        rintro e w1 ⟨rfl, kk⟩
        go_wp2_with fail
        refine kk.mono ?_
        rintro e w2 ⟨rfl, hd2, hch2⟩
        have d1 := hd2.c1
        have df1 := hd2.fz 1
        have hfin := fun n => setB (i := 1) (v := .bool n) hd2
        have hcf := fun n => hch2.trans ((chg_setB w2 d 1 (.bool n)).mono (fun _ _ h => .inl h))
        replace hfin := Lib.hid hfin
        replace hcf := Lib.hid hcf
        clear hd2
        go_wp2
        go_ret2
        exact ⟨rfl, ⟨0, hfin.out _⟩, hcf.out _⟩
    · show Calls _ _ _ _ (fun e w' => SpR w d 1024 3 false e w')
      all_goals
        go_enter Tryz.func54, Tryz.ntmps54
        go_wp2_with fail
        refine k1.mono ?_
        rintro e w' ⟨rfl, hw⟩
        obtain rfl := hw
        go_wp2
        go_quiet (fail)
        go_wp2
        go_quiet (fail)
        go_wp2_with fail
        refine (zx.out _).mono ?_
        rintro e w' ⟨rfl, hw⟩
        obtain rfl := hw.symm
        go_wp2_with fail
        refine (zy.out _).mono ?_
        rintro e w' ⟨rfl, hw⟩
        obtain rfl := hw.symm
        go_wp2_with fail
        refine (fnn.out _).mono ?_
        rintro e w1 ⟨rfl, kk⟩
        go_wp2_with fail
        refine kk.mono ?_
        rintro e w2 ⟨rfl, hd2, hch2⟩
        have hc2 := hc.out.chg hch2 (fun e => hdc e.symm)
        replace hc2 := Lib.hid hc2
        go_wp2_with fail
        refine (ge1.out _ hc2.out).mono ?_
        rintro e w3 ⟨rfl, hw⟩
        obtain rfl := hw
        go_wp2
        go_ret2
        exact ⟨rfl, ⟨_, hd2⟩, hch2⟩
    · show Calls _ _ _ _ (fun e w' => SpR w d 1024 3 false e w')
      all_goals
        go_enter Tryz.func54, Tryz.ntmps54
        go_wp2_with fail
        refine k1.mono ?_
        rintro e w' ⟨rfl, hw⟩
        obtain rfl := hw
        go_wp2
        go_quiet (fail)
        go_wp2
        go_quiet (fail)
        go_wp2_with fail
        refine (zx.out _).mono ?_
        rintro e w' ⟨rfl, hw⟩
        obtain rfl := hw.symm
        go_wp2_with fail
        refine (fnn.out _).mono ?_
        rintro e w1 ⟨rfl, kk⟩
        go_wp2_with fail
        refine kk.mono ?_
        rintro e w2 ⟨rfl, hd2, hch2⟩
        have hc2 := hc.out.chg hch2 (fun e => hdc e.symm)
        replace hc2 := Lib.hid hc2
        go_wp2_with fail
        refine (ge1.out _ hc2.out).mono ?_
        rintro e w3 ⟨rfl, hw⟩
        obtain rfl := hw
        go_wp2
        go_ret2
        exact ⟨rfl, ⟨_, hd2⟩, hch2⟩
    · show Calls _ _ _ _ (fun e w' => SpR w d 1024 3 false e w')
      all_goals
        go_enter Tryz.func54, Tryz.ntmps54
        go_wp2_with fail
        refine k1.mono ?_
        rintro e w' ⟨rfl, hw⟩
        obtain rfl := hw
        go_wp2
        go_quiet (fail)
        go_wp2
        go_quiet (fail)
        go_wp2_with fail
        refine (zx.out _).mono ?_
        rintro e w' ⟨rfl, hw⟩
        obtain rfl := hw.symm
        go_wp2_with fail
        refine (fnn.out _).mono ?_
        rintro e w1 ⟨rfl, kk⟩
        go_wp2_with fail
        refine kk.mono ?_
        rintro e w2 ⟨rfl, hd2, hch2⟩
        have hc2 := hc.out.chg hch2 (fun e => hdc e.symm)
        replace hc2 := Lib.hid hc2
        go_wp2_with fail
        refine (ge1.out _ hc2.out).mono ?_
        rintro e w3 ⟨rfl, hw⟩
        obtain rfl := hw
        go_wp2
        go_ret2
        exact ⟨rfl, ⟨_, hd2⟩, hch2⟩
end Go.Proofs.YtabggbajgpbmmaaGreatDoor
