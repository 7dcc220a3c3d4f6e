/- Sums with an infinite operand, or one that is no number. -/
import Derived.Test.YtabggbajgpbmmaaGreatDoorI6
namespace Go.Proofs.YtabggbajgpbmmaaGreatDoor
open Go Go.RowKit

/-- What an operation with such an operand hands back: a condition, and a form with its sign. -/
def SpR (w : World) (d : Nat) (r : Nat) (f : Int) (n : Bool) (e : Ending) (w' : World) : Prop :=
  e = .returned (.tuple #[.int .u32 (r : Int), .nilIface]) ∧ (∃ ex, DecZ w' d f n ex) ∧ Chg w w' (fun k => k = d)

/-- No number in, no number out. -/
theorem addNaNx_c (w : World) (c d x y : Nat) (p a b : Int) (m : ByteArray) (fd fx fy ed ex : Int) (nd nx : Bool) (sub : Bool) (hc : Ctx w c p a b m) (hd : DecZ w d fd nd ed) (hx : DecZ w x fx nx ex) (hy : w.cell? ⟨y, 0, none⟩ = some (.int .i8 fy))
    (hfx : fx = 2 ∨ fx = 3) (hfy : fy = 0 ∨ fy = 1) (hdx : d ≠ x) (hdc : d ≠ c) :
    Calls Tryz.prog 110 #[.pointer (some ⟨c, 0, none⟩), .pointer (some ⟨d, 0, none⟩), .pointer (some ⟨x, 0, none⟩), .pointer (some ⟨y, 0, none⟩), .bool sub] w (SpR w d (nanR fx) 3 nx) := by
  have k1 := shouldNaN_c w (.pointer (some ⟨c, 0, none⟩)) x y fx fy hx.c0 hy (by omega) (by omega)
  rw [show (decide (2 ≤ fx ∨ 2 ≤ fy)) = true by simp; omega] at k1
  have k2 := setNaNx_c w c d x y p a b m fd fx fy ed ex nd nx hc hd hx hy hfx hfy hdx hdc
  clear hc hd hx hy
  go_enter Tryz.func110, Tryz.ntmps110
  go_wp2_with fail
  refine k1.mono ?_
  rintro e w' ⟨rfl, hw⟩
  obtain rfl := hw
  go_wp2_with fail
  refine k2.mono ?_
  rintro e w' ⟨rfl, h1, h2⟩
  go_wp2
  go_ret2
  exact ⟨rfl, ⟨_, h1⟩, h2⟩
theorem addNaNy_c (w : World) (c d x y : Nat) (p a b : Int) (m : ByteArray) (fd fx fy ed ey : Int) (nd ny : Bool) (sub : Bool) (hc : Ctx w c p a b m) (hd : DecZ w d fd nd ed) (hy : DecZ w y fy ny ey) (hx : w.cell? ⟨x, 0, none⟩ = some (.int .i8 fx))
    (hfy : fy = 2 ∨ fy = 3) (hfx : fx = 0 ∨ fx = 1) (hdy : d ≠ y) (hdc : d ≠ c) :
    Calls Tryz.prog 110 #[.pointer (some ⟨c, 0, none⟩), .pointer (some ⟨d, 0, none⟩), .pointer (some ⟨x, 0, none⟩), .pointer (some ⟨y, 0, none⟩), .bool sub] w (SpR w d (nanR fy) 3 ny) := by
  have k1 := shouldNaN_c w (.pointer (some ⟨c, 0, none⟩)) x y fx fy hx hy.c0 (by omega) (by omega)
  rw [show (decide (2 ≤ fx ∨ 2 ≤ fy)) = true by simp; omega] at k1
  have k2 := setNaNy_c w c d x y p a b m fd fx fy ed ey nd ny hc hd hy hx hfy hfx hdy hdc
  clear hc hd hx hy
  go_enter Tryz.func110, Tryz.ntmps110
  go_wp2_with fail
  refine k1.mono ?_
  rintro e w' ⟨rfl, hw⟩
  obtain rfl := hw
  go_wp2_with fail
  refine k2.mono ?_
  rintro e w' ⟨rfl, h1, h2⟩
  go_wp2
  go_ret2
  exact ⟨rfl, ⟨_, h1⟩, h2⟩

set_option maxHeartbeats 1000000 in
/-- Two infinities. -/
theorem addInf2_c (w : World) (c d x y : Nat) (p a b : Int) (m : ByteArray) (fd ed ex ey : Int) (nd nx ny : Bool) (sub : Bool) (hc : Ctx w c p a b m) (hd : DecZ w d fd nd ed) (hx : DecZ w x 1 nx ex) (hy : DecZ w y 1 ny ey)
    (hdx : d ≠ x) (_hdy : d ≠ y) (hdc : d ≠ c) :
    Calls Tryz.prog 110 #[.pointer (some ⟨c, 0, none⟩), .pointer (some ⟨d, 0, none⟩), .pointer (some ⟨x, 0, none⟩), .pointer (some ⟨y, 0, none⟩), .bool sub] w
      (fun e w' => if nx = (ny != sub) then SpR w d 0 1 nx e w' else SpR w d 1024 3 false e w') := by
  have k1 := shouldNaN_c w (.pointer (some ⟨c, 0, none⟩)) x y 1 1 hx.c0 hy.c0 (by omega) (by omega)
  rw [show (decide ((2 : Int) ≤ 1 ∨ (2 : Int) ≤ 1)) = false by decide] at k1
  have x0 := hx.c0
  have x1 := hx.c1
  have y0 := hy.c0
  have y1 := hy.c1
  have ge1 := fun w h => goError_c w c 1024 p a b m h (by decide) (by decide)
  replace ge1 := Lib.hid ge1
  have hlt := ltB hd
  have kx := fun n => decSetZ (w.drewN n) d x fd ed 1 ex nd nx hd hx hdx
  have kn := fun n => decNaN_c (w.drewN n)
  by_cases he : nx = (ny != sub)
  · simp only [he, if_true]
    simp only [← he]
    replace hc := Lib.hid hc
    clear hx hy hd ge1 kn
    cases nx <;> cases ny <;> cases sub <;> first
      | exact absurd he (by decide)
      | (clear he
         go_enter Tryz.func110, Tryz.ntmps110
         go_wp2_with fail
         refine k1.mono ?_
         rintro e w' ⟨rfl, hw⟩
         obtain rfl := hw
         go_wp2
         go_quiet (fail)
         go_wp2_with fail
         refine (kx _).mono ?_
         rintro e w' ⟨rfl, h1, h2⟩
         go_wp2
         go_ret2
         exact ⟨rfl, ⟨_, h1⟩, ((Chg.refl w (fun k => k = d)).drewN _).trans (h2.mono (fun _ _ h => .inl h))⟩)
  · simp only [he, if_false]
    replace hc := Lib.hid hc
    replace hd := Lib.hid hd
    clear hx hy kx
    cases nx <;> cases ny <;> cases sub <;> first
      | exact absurd (by decide) he
      | (clear he
         go_enter Tryz.func110, Tryz.ntmps110
         go_wp2_with fail
         refine k1.mono ?_
         rintro e w' ⟨rfl, hw⟩
         obtain rfl := hw
         go_wp2
         go_quiet (fail)
         go_wp2_with fail
         refine (kn _).mono ?_
         rintro e w1 ⟨rfl, hn1, hch1⟩
         have hd1 : DecZ w1 d fd nd ed := DecZ.chg (w := w.drewN nq) hd.out hch1 (fun h => h)
         have hc1 : Ctx w1 c p a b m := Ctx.chg (w := w.drewN nq) hc.out hch1 (fun h => h)
         have hdk : d ≠ w.heap.size := by omega
         have kk := decSetZ w1 d w.heap.size fd ed 3 0 nd false hd1 hn1 hdk
         replace hc1 := Lib.hid hc1
         go_wp2_with fail
         refine kk.mono ?_
         rintro e w2 ⟨rfl, hd2, hch2⟩
         have hc2 := hc1.out.chg hch2 (fun e => hdc e.symm)
         go_wp2_with fail
         refine (ge1.out _ hc2).mono ?_
         rintro e w3 ⟨rfl, hw⟩
         obtain rfl := hw
         go_wp2
         go_ret2
         exact ⟨rfl, ⟨_, hd2⟩, (((Chg.refl w (fun k => k = d)).drewN _).trans (hch1.mono (fun _ _ h => h.elim))).trans (hch2.mono (fun _ _ h => .inl h))⟩)

set_option maxHeartbeats 1000000 in
/-- The first one infinite, the second one finite. -/
theorem addInfx_c (w : World) (c d x y : Nat) (fd ed ex : Int) (nd nx ny : Bool) (sub : Bool) (hd : DecZ w d fd nd ed) (hx : DecZ w x 1 nx ex) (y0 : w.cell? ⟨y, 0, none⟩ = some (.int .i8 0)) (y1 : w.cell? ⟨y, 1, none⟩ = some (.bool ny))
    (hdx : d ≠ x) :
    Calls Tryz.prog 110 #[.pointer (some ⟨c, 0, none⟩), .pointer (some ⟨d, 0, none⟩), .pointer (some ⟨x, 0, none⟩), .pointer (some ⟨y, 0, none⟩), .bool sub] w (SpR w d 0 1 nx) := by
  have k1 := shouldNaN_c w (.pointer (some ⟨c, 0, none⟩)) x y 1 0 hx.c0 y0 (by omega) (by omega)
  rw [show (decide ((2 : Int) ≤ 1 ∨ (2 : Int) ≤ 0)) = false by decide] at k1
  have x0 := hx.c0
  have x1 := hx.c1
  have kx := fun n => decSetZ (w.drewN n) d x fd ed 1 ex nd nx hd hx hdx
  clear hx hd
  go_enter Tryz.func110, Tryz.ntmps110
  go_wp2_with fail
  refine k1.mono ?_
  rintro e w' ⟨rfl, hw⟩
  obtain rfl := hw
  go_wp2
  go_quiet (fail)
  go_wp2_with fail
  refine (kx _).mono ?_
  rintro e w' ⟨rfl, h1, h2⟩
  go_wp2
  go_ret2
  exact ⟨rfl, ⟨_, h1⟩, ((Chg.refl w (fun k => k = d)).drewN _).trans (h2.mono (fun _ _ h => .inl h))⟩

set_option maxHeartbeats 1000000 in
/-- The second one infinite, the first one finite. -/
theorem addInfy_c (w : World) (c d x y : Nat) (fd ed ey : Int) (nd nx ny : Bool) (sub : Bool) (hd : DecZ w d fd nd ed) (hy : DecZ w y 1 ny ey) (x0 : w.cell? ⟨x, 0, none⟩ = some (.int .i8 0)) (x1 : w.cell? ⟨x, 1, none⟩ = some (.bool nx)) :
    Calls Tryz.prog 110 #[.pointer (some ⟨c, 0, none⟩), .pointer (some ⟨d, 0, none⟩), .pointer (some ⟨x, 0, none⟩), .pointer (some ⟨y, 0, none⟩), .bool sub] w (SpR w d 0 1 (ny != sub)) := by
  have k1 := shouldNaN_c w (.pointer (some ⟨c, 0, none⟩)) x y 0 1 x0 hy.c0 (by omega) (by omega)
  rw [show (decide ((2 : Int) ≤ 0 ∨ (2 : Int) ≤ 1)) = false by decide] at k1
  have y0 := hy.c0
  have y1 := hy.c1
  have hlt := ltB hd
  have kn := fun n => decInf_c (w.drewN n)
  clear hy
  replace hd := Lib.hid hd
  cases ny <;> cases sub
  all_goals
    go_enter Tryz.func110, Tryz.ntmps110
    go_wp2_with fail
    refine k1.mono ?_
    rintro e w' ⟨rfl, hw⟩
    obtain rfl := hw
    go_wp2
    go_quiet (fail)
    go_wp2_with fail
    refine (kn _).mono ?_
    rintro e w1 ⟨rfl, hn1, hch1⟩
    have hd1 : DecZ w1 d fd nd ed := DecZ.chg (w := w.drewN nq) hd.out hch1 (fun h => h)
    have hdk : d ≠ w.heap.size := by omega
    have kk := decSetZ w1 d w.heap.size fd ed 1 0 nd false hd1 hn1 hdk
    go_wp2_with fail
    refine kk.mono ?_
    rintro e w2 ⟨rfl, hd2, hch2⟩
    have d1 := hd2.c1
    have df1 := hd2.fz 1
    have hfin := fun n => setB (i := 1) (v := .bool n) hd2
    have hcf := fun n => (((((Chg.refl w (fun k => k = d)).drewN nq).trans (hch1.mono (fun _ _ h => h.elim))).trans (hch2.mono (fun _ _ h => .inl h))).trans ((chg_setB w2 d 1 (.bool n)).mono (fun _ _ h => .inl h)))
    replace hfin := Lib.hid hfin
    replace hcf := Lib.hid hcf
    clear hd2 hn1 hd1
    go_wp2
    go_ret2
    exact ⟨rfl, ⟨0, hfin.out _⟩, hcf.out _⟩
end Go.Proofs.YtabggbajgpbmmaaGreatDoor
