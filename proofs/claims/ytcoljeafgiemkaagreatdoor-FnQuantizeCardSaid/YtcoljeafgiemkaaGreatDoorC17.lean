/- More: Contexts; what is told of a decimal that is no finite number; one that is made. More: Decimals with the coefficient of a new one: Set. -/
import Derived.Test.YtcoljeafgiemkaaGreatDoorC10
import Derived.Test.YtcoljeafgiemkaaGreatDoorC12
namespace Go.Proofs.YtcoljeafgiemkaaGreatDoor
open Go Go.RowKit

set_option maxHeartbeats 400000 in
theorem intSetZ (w : World) (d x : Nat) (f ex f' ex' : Int) (n n' : Bool) (hd : DecZ w d f n ex) (hx : DecZ w x f' n' ex') (hne : d ≠ x) :
    Calls Tryz.prog 129 #[.pointer (some ⟨d, 3, none⟩), .pointer (some ⟨x, 3, none⟩)] w fun e w' => e = .returned (.pointer (some ⟨d, 3, none⟩)) ∧ DecZ w' d f n ex ∧ Chg w w' (fun k => k = d) := by
  have hq := neqInt (oa := 3) (ob := 3) (fun e => hne (congrArg Addr.block e)) hd hx
  have d3 := hd.c3
  have d4 := hd.c4
  have df3 := hd.fz 3
  have df4 := hd.fz 4
  have x3 := hx.c3
  have x4 := hx.c4
  go_enter Tryz.func129, Tryz.ntmps129
  go_wp2
  go_region_with ((go_at_call 171; refine (set_nil _).mono ?_; rintro e w' ⟨rfl, rfl⟩))
  all_goals
    go_wp2
    go_ret
    refine ⟨rfl, setB (i := 3) (v := .bool false) (setB (i := 4) (v := .slice none 0 0) hd), ?_⟩
    exact ((chg_setB w d 4 _).trans ((chg_setB _ d 3 _).mono (fun _ _ h => .inl h))).drew

set_option maxHeartbeats 400000 in
theorem bigSetZ (w : World) (d x : Nat) (f ex f' ex' : Int) (n n' : Bool) (hd : DecZ w d f n ex) (hx : DecZ w x f' n' ex') (hne : d ≠ x) :
    Calls Tryz.prog 84 #[.pointer (some ⟨d, 3, none⟩), .pointer (some ⟨x, 3, none⟩)] w fun e w' => e = .returned (.pointer (some ⟨d, 3, none⟩)) ∧ DecZ w' d f n ex ∧ Chg w w' (fun k => k = d) := by
  have d5 := hd.c5
  have df5 := hd.fz 5
  have x5 := hx.c5
  have hch : Chg w (w.setCell ⟨d, 5, none⟩ (.bool false)) (fun k => k = d) := chg_setB w d 5 _
  have hd' : DecZ (w.setCell ⟨d, 5, none⟩ (.bool false)) d f n ex := setB (i := 5) (v := .bool false) hd
  have hx' : DecZ (w.setCell ⟨d, 5, none⟩ (.bool false)) x f' n' ex' := hx.chg hch (fun e => hne e.symm)
  have key := fun w'' h1 h2 => intSetZ w'' d x f ex f' ex' n n' h1 h2 hne
  replace hch := Lib.hid hch
  replace key := Lib.hid key
  replace hd' := Lib.hid hd'
  replace hx' := Lib.hid hx'
  go_enter Tryz.func84, Tryz.ntmps84
  go_wp2_with fail
  generalize w.setCell ⟨d, 5, none⟩ (.bool false) = w1 at hd' hx' hch ⊢
  go_region_with ((go_at_call 129; refine (key.out _ (by exact hd'.out) (by exact hx'.out)).mono ?_; rintro e w2 ⟨rfl, hd2, hc2⟩))
  all_goals
    go_wp2
    go_ret
    exact ⟨rfl, hd2, hch.out.drew.trans (hc2.mono (fun _ _ h => .inl h))⟩

/-- d is made x: form, sign, exponent. -/
theorem setSlowZ (w : World) (d x : Nat) (f ex f' ex' : Int) (n n' : Bool) (hd : DecZ w d f n ex) (hx : DecZ w x f' n' ex') (hne : d ≠ x) :
    Calls Tryz.prog 125 #[.pointer (some ⟨d, 0, none⟩), .pointer (some ⟨x, 0, none⟩)] w fun e w' => e = .returned (.pointer (some ⟨d, 0, none⟩)) ∧ DecZ w' d f' n' ex' ∧ Chg w w' (fun k => k = d) := by
  have d0 := hd.c0
  have df0 := hd.fz 0
  have d1 := hd.c1
  have df1 := hd.fz 1
  have d2 := hd.c2
  have df2 := hd.fz 2
  have x0 := hx.c0
  have x1 := hx.c1
  have x2 := hx.c2
  have h1 := setB (i := 0) (v := .int .i8 f') hd
  have h2 := setB (i := 1) (v := .bool n') h1
  have h3 : DecZ _ d f' n' ex' := setB (i := 2) (v := .int .i32 ex') h2
  have hch : Chg w _ (fun k => k = d) := ((chg_setB w d 0 (.int .i8 f')).trans ((chg_setB _ d 1 (.bool n')).mono (fun _ _ h => .inl h))).trans ((chg_setB _ d 2 (.int .i32 ex')).mono (fun _ _ h => .inl h))
  have hx3 : DecZ _ x f' n' ex' := hx.chg hch (fun e => hne e.symm)
  have key := fun w'' h1 h2 => bigSetZ w'' d x f' ex' f' ex' n' n' h1 h2 hne
  clear h1 h2
  replace hch := Lib.hid hch
  replace key := Lib.hid key
  replace h3 := Lib.hid h3
  replace hx3 := Lib.hid hx3
  go_enter Tryz.func125, Tryz.ntmps125
  go_wp2_with fail
  generalize ((w.setCell ⟨d, 0, none⟩ (.int .i8 f')).setCell ⟨d, 1, none⟩ (.bool n')).setCell ⟨d, 2, none⟩ (.int .i32 ex') = w1 at h3 hx3 hch ⊢
  go_region_with ((go_at_call 84; refine (key.out _ (by exact h3.out) (by exact hx3.out)).mono ?_; rintro e w2 ⟨rfl, hd2, hc2⟩))
  all_goals
    go_wp2
    go_ret
    exact ⟨rfl, hd2, hch.out.drew.trans (hc2.mono (fun _ _ h => .inl h))⟩

theorem decSetZ (w : World) (d x : Nat) (f ex f' ex' : Int) (n n' : Bool) (hd : DecZ w d f n ex) (hx : DecZ w x f' n' ex') (hne : d ≠ x) :
    Calls Tryz.prog 76 #[.pointer (some ⟨d, 0, none⟩), .pointer (some ⟨x, 0, none⟩)] w fun e w' => e = .returned (.pointer (some ⟨d, 0, none⟩)) ∧ DecZ w' d f' n' ex' ∧ Chg w w' (fun k => k = d) := by
  have hq := eqlDec hne hd hx
  have key := setSlowZ w d x f ex f' ex' n n' hd hx hne
  go_enter Tryz.func76, Tryz.ntmps76
  go_wp2_with fail
  refine key.mono ?_
  rintro e w' ⟨rfl, h1, h2⟩
  go_wp2
  go_ret
  exact ⟨rfl, h1, h2⟩

theorem decNaN_c (w : World) : Calls Tryz.prog 77 #[] w fun e w' => e = .returned (.pointer (some ⟨w.heap.size, 0, none⟩)) ∧ DecZ w' w.heap.size 3 false 0 ∧ Chg w w' (fun _ => False) := by
  go_enter Tryz.func77, Tryz.ntmps77
  go_wp2
  go_ret
  exact ⟨rfl, allocB _ _, (Chg.refl w _).alloc _⟩
theorem decInf_c (w : World) : Calls Tryz.prog 96 #[] w fun e w' => e = .returned (.pointer (some ⟨w.heap.size, 0, none⟩)) ∧ DecZ w' w.heap.size 1 false 0 ∧ Chg w w' (fun _ => False) := by
  go_enter Tryz.func96, Tryz.ntmps96
  go_wp2
  go_ret
  exact ⟨rfl, allocB _ _, (Chg.refl w _).alloc _⟩
end Go.Proofs.YtcoljeafgiemkaaGreatDoor
namespace Go.Proofs.YtcoljeafgiemkaaGreatDoor
open Go Go.RowKit

/-- A special form is told by its form and its sign. -/
theorem toldZ_c (w : World) (d : Nat) (f ex : Int) (n : Bool) (hd : DecZ w d f n ex) (hf : f = 1 ∨ f = 2 ∨ f = 3) :
    Calls Tryz.prog 43 #[.pointer (some ⟨d, 0, none⟩)] w fun e w' => e = .returned (.agg #[.int .i64 f, .bool n, .slice none 0 0, .int .i64 0]) ∧ Chg w w' (fun _ => False) := by
  have d0 := hd.c0
  have d1 := hd.c1
  have hlt := ltB hd
  rcases hf with rfl | rfl | rfl
  · go_enter Tryz.func43, Tryz.ntmps43
    go_wp2
    exact bodyPost_ret (v := .agg #[.int .i64 1, .bool n, .slice none 0 0, .int .i64 0]) (by simp [results, Tryz.results43, go_sem]) rfl ⟨rfl, ((Chg.refl w _).alloc _).alloc _⟩
  · go_enter Tryz.func43, Tryz.ntmps43
    go_wp2
    exact bodyPost_ret (v := .agg #[.int .i64 2, .bool n, .slice none 0 0, .int .i64 0]) (by simp [results, Tryz.results43, go_sem]) rfl ⟨rfl, ((Chg.refl w _).alloc _).alloc _⟩
  · go_enter Tryz.func43, Tryz.ntmps43
    go_wp2
    exact bodyPost_ret (v := .agg #[.int .i64 3, .bool n, .slice none 0 0, .int .i64 0]) (by simp [results, Tryz.results43, go_sem]) rfl ⟨rfl, ((Chg.refl w _).alloc _).alloc _⟩

/-- A special form is made. -/
theorem madeZ_c (w : World) (f : Int) (n : Bool) (hf : f = 1 ∨ f = 2 ∨ f = 3) (A : Option Addr) (l c : Nat) (ex : Int) :
    Calls Tryz.prog 42 #[.agg #[.int .i64 f, .bool n, .slice A l c, .int .i64 ex]] w fun e w' => ∃ d, e = .returned (.pointer (some ⟨d, 0, none⟩)) ∧ w.heap.size ≤ d ∧ DecZ w' d f n 0 ∧ Chg w w' (fun _ => False) := by
  have fin : ∀ o o', o' = .cells #[.int .i8 f, .bool n, .int .i32 0, .bool false, .slice none 0 0, .bool false] 75 (0, 0) → DecZ ((w.alloc o).alloc o') (w.heap.size + 1) f n 0 := by
    rintro o o' rfl
    have h := allocB (w.alloc o) (.cells #[.int .i8 f, .bool n, .int .i32 0, .bool false, .slice none 0 0, .bool false] 75 (0, 0))
    rw [World.size_alloc] at h
    exact h
  rcases hf with rfl | rfl | rfl <;>
  · replace fin := Lib.hid fin
    go_enter Tryz.func42, Tryz.ntmps42
    go_wp2
    go_ret
    exact ⟨w.heap.size + 1, rfl, by omega, fin.out _ _ rfl, ((Chg.refl w _).alloc _).alloc _⟩

/-- The signaling form, or the quiet one, among the operands: the first one. -/
theorem setNaNx_c (w : World) (c d x y : Nat) (p a b : Int) (m : ByteArray) (fd fx fy ed ex : Int) (nd nx : Bool) (hc : Ctx w c p a b m) (hd : DecZ w d fd nd ed) (hx : DecZ w x fx nx ex) (hy : w.cell? ⟨y, 0, none⟩ = some (.int .i8 fy))
    (hfx : fx = 2 ∨ fx = 3) (hfy : fy = 0 ∨ fy = 1) (hdx : d ≠ x) (hdc : d ≠ c) :
    Calls Tryz.prog 74 #[.pointer (some ⟨c, 0, none⟩), .pointer (some ⟨d, 0, none⟩), .pointer (some ⟨x, 0, none⟩), .pointer (some ⟨y, 0, none⟩)] w fun e w' =>
      e = .returned (.tuple #[.int .u32 (nanR fx : Int), .nilIface]) ∧ DecZ w' d 3 nx ex ∧ Chg w w' (fun k => k = d) := by
  have x0 := hx.c0
  have key := decSetZ w d x fd ed fx ex nd nx hd hx hdx
  have ge0 := fun w h => goError_c w c 0 p a b m h (by decide) (by decide)
  have ge1 := fun w h => goError_c w c 1024 p a b m h (by decide) (by decide)
  replace ge0 := Lib.hid ge0
  replace ge1 := Lib.hid ge1
  rcases hfx with rfl | rfl
  · rcases hfy with rfl | rfl <;>
    · replace hc := Lib.hid hc
      go_enter Tryz.func74, Tryz.ntmps74
      go_wp2_with fail
      refine key.mono ?_
      rintro e w1 ⟨rfl, hd1, hch⟩
      have hx1 := (hx.chg hch (fun e => hdx e.symm)).c0
      have d0 := hd1.c0
      have df0 := hd1.fz 0
      have h2 : DecZ _ d 3 nx ex := setB (i := 0) (v := .int .i8 3) hd1
      have hch2 := hch.trans ((chg_setB w1 d 0 (.int .i8 3)).mono (fun _ _ h => .inl h))
      have hc2 := hc.out.chg hch2 (fun e => hdc e.symm)
      replace hc2 := Lib.hid hc2
      replace h2 := Lib.hid h2
      replace hch2 := Lib.hid hch2
      go_wp2_with fail
      refine (ge1.out _ hc2.out).mono ?_
      rintro e w2 ⟨rfl, hw⟩
      obtain rfl := hw
      go_wp2
      go_ret2
      exact ⟨by kernel_rfl, h2.out, hch2.out⟩
  · rcases hfy with rfl | rfl <;>
    · replace hc := Lib.hid hc
      go_enter Tryz.func74, Tryz.ntmps74
      go_wp2_with fail
      refine key.mono ?_
      rintro e w1 ⟨rfl, hd1, hch⟩
      have hx1 := (hx.chg hch (fun e => hdx e.symm)).c0
      have hc2 := hc.out.chg hch (fun e => hdc e.symm)
      replace hc2 := Lib.hid hc2
      go_wp2_with fail
      refine (ge0.out _ hc2.out).mono ?_
      rintro e w2 ⟨rfl, hw⟩
      obtain rfl := hw
      go_wp2
      go_ret2
      exact ⟨by kernel_rfl, hd1, hch⟩

/-- The second one. -/
theorem setNaNy_c (w : World) (c d x y : Nat) (p a b : Int) (m : ByteArray) (fd fx fy ed ey : Int) (nd ny : Bool) (hc : Ctx w c p a b m) (hd : DecZ w d fd nd ed) (hy : DecZ w y fy ny ey) (hx : w.cell? ⟨x, 0, none⟩ = some (.int .i8 fx))
    (hfy : fy = 2 ∨ fy = 3) (hfx : fx = 0 ∨ fx = 1) (hdy : d ≠ y) (hdc : d ≠ c) :
    Calls Tryz.prog 74 #[.pointer (some ⟨c, 0, none⟩), .pointer (some ⟨d, 0, none⟩), .pointer (some ⟨x, 0, none⟩), .pointer (some ⟨y, 0, none⟩)] w fun e w' =>
      e = .returned (.tuple #[.int .u32 (nanR fy : Int), .nilIface]) ∧ DecZ w' d 3 ny ey ∧ Chg w w' (fun k => k = d) := by
  have y0 := hy.c0
  have key := decSetZ w d y fd ed fy ey nd ny hd hy hdy
  have ge0 := fun w h => goError_c w c 0 p a b m h (by decide) (by decide)
  have ge1 := fun w h => goError_c w c 1024 p a b m h (by decide) (by decide)
  replace ge0 := Lib.hid ge0
  replace ge1 := Lib.hid ge1
  rcases hfy with rfl | rfl
  · rcases hfx with rfl | rfl <;>
    · replace hc := Lib.hid hc
      go_enter Tryz.func74, Tryz.ntmps74
      go_wp2_with fail
      refine key.mono ?_
      rintro e w1 ⟨rfl, hd1, hch⟩
      have hy1 := (hy.chg hch (fun e => hdy e.symm)).c0
      have d0 := hd1.c0
      have df0 := hd1.fz 0
      have h2 : DecZ _ d 3 ny ey := setB (i := 0) (v := .int .i8 3) hd1
      have hch2 := hch.trans ((chg_setB w1 d 0 (.int .i8 3)).mono (fun _ _ h => .inl h))
      have hc2 := hc.out.chg hch2 (fun e => hdc e.symm)
      replace hc2 := Lib.hid hc2
      replace h2 := Lib.hid h2
      replace hch2 := Lib.hid hch2
      go_wp2_with fail
      refine (ge1.out _ hc2.out).mono ?_
      rintro e w2 ⟨rfl, hw⟩
      obtain rfl := hw
      go_wp2
      go_ret2
      exact ⟨by kernel_rfl, h2.out, hch2.out⟩
  · rcases hfx with rfl | rfl <;>
    · replace hc := Lib.hid hc
      go_enter Tryz.func74, Tryz.ntmps74
      go_wp2_with fail
      refine key.mono ?_
      rintro e w1 ⟨rfl, hd1, hch⟩
      have hy1 := (hy.chg hch (fun e => hdy e.symm)).c0
      have hc2 := hc.out.chg hch (fun e => hdc e.symm)
      replace hc2 := Lib.hid hc2
      go_wp2_with fail
      refine (ge0.out _ hc2.out).mono ?_
      rintro e w2 ⟨rfl, hw⟩
      obtain rfl := hw
      go_wp2
      go_ret2
      exact ⟨by kernel_rfl, hd1, hch⟩
end Go.Proofs.YtcoljeafgiemkaaGreatDoor
