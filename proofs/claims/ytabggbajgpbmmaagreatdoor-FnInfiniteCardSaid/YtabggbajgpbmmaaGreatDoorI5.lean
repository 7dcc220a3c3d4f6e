/- Contexts; what is told of a decimal that is no finite number; one that is made. -/
import Derived.Test.YtabggbajgpbmmaaGreatDoorI4
namespace Go.Proofs.YtabggbajgpbmmaaGreatDoor
open Go Go.RowKit

/-- How a number of a mode rounds. -/
def modeS (m : Nat) : ByteArray := match m with
  | 0 => "down".toByteArray
  | 2 => "half_even".toByteArray
  | 3 => "ceiling".toByteArray
  | 4 => "floor".toByteArray
  | 5 => "half_down".toByteArray
  | 6 => "up".toByteArray
  | 7 => "05up".toByteArray
  | _ => "half_up".toByteArray

theorem rounder_c (w : World) (m : Nat) (hm : m < 8) : Calls Tryz.prog 29 #[.int .i64 (m : Int)] w fun e w' => e = .returned (.string (modeS m)) ∧ w = w' := by
  have h : m = 0 ∨ m = 1 ∨ m = 2 ∨ m = 3 ∨ m = 4 ∨ m = 5 ∨ m = 6 ∨ m = 7 := by omega
  rcases h with rfl | rfl | rfl | rfl | rfl | rfl | rfl | rfl <;>
  · go_enter Tryz.func29, Tryz.ntmps29
    go_wp2
    go_ret
    exact ⟨by kernel_rfl, rfl⟩

/-- A context out of plain data: a precision that fits, exponents that fit. -/
theorem context_c (w : World) (p a b : Int) (m : Nat) (hm : m < 8) (hp : 0 ≤ p ∧ p ≤ 4294967295) (ha : -2147483648 ≤ a ∧ a ≤ 2147483647) (hb : -2147483648 ≤ b ∧ b ≤ 2147483647) :
    Calls Tryz.prog 17 #[.agg #[.int .u64 p, .int .i64 a, .int .i64 b, .int .i64 (m : Int)]] w fun e w' => ∃ c, e = .returned (.pointer (some ⟨c, 0, none⟩)) ∧ w.heap.size ≤ c ∧ Ctx w' c p a b (modeS m) ∧ Chg w w' (fun _ => False) := by
  have hr := fun w => rounder_c w m hm
  obtain ⟨hp1, hp2⟩ := hp
  obtain ⟨ha1, ha2⟩ := ha
  obtain ⟨hb1, hb2⟩ := hb
  go_enter Tryz.func17, Tryz.ntmps17
  go_wp2
  go_region_held3 (fun w' => w'.cell? ⟨w.heap.size, 0, none⟩ = some (.int .u64 p) ∧ w'.cell? ⟨w.heap.size, 1, none⟩ = some (.int .i64 a) ∧ w'.cell? ⟨w.heap.size, 2, none⟩ = some (.int .i64 b) ∧ w'.cell? ⟨w.heap.size, 3, none⟩ = some (.int .i64 (m : Int))) (go_keep) (first
    | (go_at_call 29; refine (hr _).mono ?_; rintro e w' ⟨rfl, hw⟩; obtain rfl := hw))
  go_wp2
  go_ret
  rw [IntWalk.u32_in _ (by omega), IntWalk.i32_in _ (by omega), IntWalk.i32_in _ (by omega)]
  refine ⟨w.heap.size + 1, rfl, by omega, ?_, (((Chg.refl w _).alloc _).alloc _).drew⟩
  have h := allocB (w.alloc (.cells #[.int .u64 p, .int .i64 a, .int .i64 b, .int .i64 (m : Int)] 37 (0, 0))) (.cells #[.int .u32 p, .int .i32 a, .int .i32 b, .int .u32 0, .string (modeS m)] 74 (0, 0))
  rw [World.size_alloc] at h
  exact h

/-- A special form is told by its form and its sign. -/
theorem toldZ_c (w : World) (d : Nat) (f ex : Int) (n : Bool) (hd : DecZ w d f n ex) (hf : f = 1 ∨ f = 2 ∨ f = 3) :
    Calls Tryz.prog 20 #[.pointer (some ⟨d, 0, none⟩)] w fun e w' => e = .returned (.agg #[.int .i64 f, .bool n, .slice none 0 0, .int .i64 0]) ∧ Chg w w' (fun _ => False) := by
  have d0 := hd.c0
  have d1 := hd.c1
  have hlt := ltB hd
  rcases hf with rfl | rfl | rfl
  · go_enter Tryz.func20, Tryz.ntmps20
    go_wp2
    exact bodyPost_ret (v := .agg #[.int .i64 1, .bool n, .slice none 0 0, .int .i64 0]) (by simp [results, Tryz.results20, go_sem]) rfl ⟨rfl, ((Chg.refl w _).alloc _).alloc _⟩
  · go_enter Tryz.func20, Tryz.ntmps20
    go_wp2
    exact bodyPost_ret (v := .agg #[.int .i64 2, .bool n, .slice none 0 0, .int .i64 0]) (by simp [results, Tryz.results20, go_sem]) rfl ⟨rfl, ((Chg.refl w _).alloc _).alloc _⟩
  · go_enter Tryz.func20, Tryz.ntmps20
    go_wp2
    exact bodyPost_ret (v := .agg #[.int .i64 3, .bool n, .slice none 0 0, .int .i64 0]) (by simp [results, Tryz.results20, go_sem]) rfl ⟨rfl, ((Chg.refl w _).alloc _).alloc _⟩

/-- A special form is made. -/
theorem madeZ_c (w : World) (f : Int) (n : Bool) (hf : f = 1 ∨ f = 2 ∨ f = 3) (A : Option Addr) (l c : Nat) (ex : Int) :
    Calls Tryz.prog 19 #[.agg #[.int .i64 f, .bool n, .slice A l c, .int .i64 ex]] w fun e w' => ∃ d, e = .returned (.pointer (some ⟨d, 0, none⟩)) ∧ w.heap.size ≤ d ∧ DecZ w' d f n 0 ∧ Chg w w' (fun _ => False) := by
  have fin : ∀ o o', o' = .cells #[.int .i8 f, .bool n, .int .i32 0, .bool false, .slice none 0 0, .bool false] 58 (0, 0) → DecZ ((w.alloc o).alloc o') (w.heap.size + 1) f n 0 := by
    rintro o o' rfl
    have h := allocB (w.alloc o) (.cells #[.int .i8 f, .bool n, .int .i32 0, .bool false, .slice none 0 0, .bool false] 58 (0, 0))
    rw [World.size_alloc] at h
    exact h
  rcases hf with rfl | rfl | rfl <;>
  · replace fin := Lib.hid fin
    go_enter Tryz.func19, Tryz.ntmps19
    go_wp2
    go_ret
    exact ⟨w.heap.size + 1, rfl, by omega, fin.out _ _ rfl, ((Chg.refl w _).alloc _).alloc _⟩

/-- The signaling form is a condition. -/
def nanR (f : Int) : Nat := if f = 2 then 1024 else 0
/-- The signaling form, or the quiet one, among the operands: the first one. -/
theorem setNaNx_c (w : World) (c d x y : Nat) (p a b : Int) (m : ByteArray) (fd fx fy ed ex : Int) (nd nx : Bool) (hc : Ctx w c p a b m) (hd : DecZ w d fd nd ed) (hx : DecZ w x fx nx ex) (hy : w.cell? ⟨y, 0, none⟩ = some (.int .i8 fy))
    (hfx : fx = 2 ∨ fx = 3) (hfy : fy = 0 ∨ fy = 1) (hdx : d ≠ x) (hdc : d ≠ c) :
    Calls Tryz.prog 71 #[.pointer (some ⟨c, 0, none⟩), .pointer (some ⟨d, 0, none⟩), .pointer (some ⟨x, 0, none⟩), .pointer (some ⟨y, 0, none⟩)] w fun e w' =>
      e = .returned (.tuple #[.int .u32 (nanR fx : Int), .nilIface]) ∧ DecZ w' d 3 nx ex ∧ Chg w w' (fun k => k = d) := by
  have x0 := hx.c0
  have key := decSetZ w d x fd ed fx ex nd nx hd hx hdx
  have ge0 := fun w h => goError_c w c 0 p a b m h (by decide) (by decide)
  have ge1 := fun w h => goError_c w c 1024 p a b m h (by decide) (by decide)
  replace ge0 := Lib.hid ge0
  replace ge1 := Lib.hid ge1
  rcases hfx with rfl | rfl
  · rcases hfy with rfl | rfl <;>
    · replace hc := Lib.hid hc
      go_enter Tryz.func71, Tryz.ntmps71
      go_wp2_with fail
      refine key.mono ?_
      rintro e w1 ⟨rfl, hd1, hch⟩
      have hx1 := (hx.chg hch (fun e => hdx e.symm)).c0
      have d0 := hd1.c0
      have df0 := hd1.fz 0
      have h2 : DecZ _ d 3 nx ex := setB (i := 0) (v := .int .i8 3) hd1
      have hch2 := hch.trans ((chg_setB w1 d 0 (.int .i8 3)).mono (fun _ _ h => .inl h))
      have hc2 := hc.out.chg hch2 (fun e => hdc e.symm)
      replace hc2 := Lib.hid hc2
      replace h2 := Lib.hid h2
      replace hch2 := Lib.hid hch2
      go_wp2_with fail
      refine (ge1.out _ hc2.out).mono ?_
      rintro e w2 ⟨rfl, hw⟩
      obtain rfl := hw
      go_wp2
      go_ret2
      exact ⟨by kernel_rfl, h2.out, hch2.out⟩
  · rcases hfy with rfl | rfl <;>
    · replace hc := Lib.hid hc
      go_enter Tryz.func71, Tryz.ntmps71
      go_wp2_with fail
      refine key.mono ?_
      rintro e w1 ⟨rfl, hd1, hch⟩
      have hx1 := (hx.chg hch (fun e => hdx e.symm)).c0
      have hc2 := hc.out.chg hch (fun e => hdc e.symm)
      replace hc2 := Lib.hid hc2
      go_wp2_with fail
      refine (ge0.out _ hc2.out).mono ?_
      rintro e w2 ⟨rfl, hw⟩
      obtain rfl := hw
      go_wp2
      go_ret2
      exact ⟨by kernel_rfl, hd1, hch⟩

/-- The second one. -/
theorem setNaNy_c (w : World) (c d x y : Nat) (p a b : Int) (m : ByteArray) (fd fx fy ed ey : Int) (nd ny : Bool) (hc : Ctx w c p a b m) (hd : DecZ w d fd nd ed) (hy : DecZ w y fy ny ey) (hx : w.cell? ⟨x, 0, none⟩ = some (.int .i8 fx))
    (hfy : fy = 2 ∨ fy = 3) (hfx : fx = 0 ∨ fx = 1) (hdy : d ≠ y) (hdc : d ≠ c) :
    Calls Tryz.prog 71 #[.pointer (some ⟨c, 0, none⟩), .pointer (some ⟨d, 0, none⟩), .pointer (some ⟨x, 0, none⟩), .pointer (some ⟨y, 0, none⟩)] w fun e w' =>
      e = .returned (.tuple #[.int .u32 (nanR fy : Int), .nilIface]) ∧ DecZ w' d 3 ny ey ∧ Chg w w' (fun k => k = d) := by
  have y0 := hy.c0
  have key := decSetZ w d y fd ed fy ey nd ny hd hy hdy
  have ge0 := fun w h => goError_c w c 0 p a b m h (by decide) (by decide)
  have ge1 := fun w h => goError_c w c 1024 p a b m h (by decide) (by decide)
  replace ge0 := Lib.hid ge0
  replace ge1 := Lib.hid ge1
  rcases hfy with rfl | rfl
  · rcases hfx with rfl | rfl <;>
    · replace hc := Lib.hid hc
      go_enter Tryz.func71, Tryz.ntmps71
      go_wp2_with fail
      refine key.mono ?_
      rintro e w1 ⟨rfl, hd1, hch⟩
      have hy1 := (hy.chg hch (fun e => hdy e.symm)).c0
      have d0 := hd1.c0
      have df0 := hd1.fz 0
      have h2 : DecZ _ d 3 ny ey := setB (i := 0) (v := .int .i8 3) hd1
      have hch2 := hch.trans ((chg_setB w1 d 0 (.int .i8 3)).mono (fun _ _ h => .inl h))
      have hc2 := hc.out.chg hch2 (fun e => hdc e.symm)
      replace hc2 := Lib.hid hc2
      replace h2 := Lib.hid h2
      replace hch2 := Lib.hid hch2
      go_wp2_with fail
      refine (ge1.out _ hc2.out).mono ?_
      rintro e w2 ⟨rfl, hw⟩
      obtain rfl := hw
      go_wp2
      go_ret2
      exact ⟨by kernel_rfl, h2.out, hch2.out⟩
  · rcases hfx with rfl | rfl <;>
    · replace hc := Lib.hid hc
      go_enter Tryz.func71, Tryz.ntmps71
      go_wp2_with fail
      refine key.mono ?_
      rintro e w1 ⟨rfl, hd1, hch⟩
      have hy1 := (hy.chg hch (fun e => hdy e.symm)).c0
      have hc2 := hc.out.chg hch (fun e => hdc e.symm)
      replace hc2 := Lib.hid hc2
      go_wp2_with fail
      refine (ge0.out _ hc2.out).mono ?_
      rintro e w2 ⟨rfl, hw⟩
      obtain rfl := hw
      go_wp2
      go_ret2
      exact ⟨by kernel_rfl, hd1, hch⟩
end Go.Proofs.YtabggbajgpbmmaaGreatDoor
