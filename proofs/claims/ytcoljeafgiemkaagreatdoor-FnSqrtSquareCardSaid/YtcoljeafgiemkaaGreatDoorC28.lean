/- apd.BigInt on what is held. apd.BigInt on what is held: Set, SetInt64, Abs, Neg, Cmp; small numbers. apd: powers of 10, new decimals, on what is held. -/
import Derived.StillTailTactics
import Derived.Test.YtcoljeafgiemkaaGreatDoorC11
import Derived.Test.YtcoljeafgiemkaaGreatDoorC20
import Derived.Test.YtcoljeafgiemkaaGreatDoorC23
import Derived.Test.YtcoljeafgiemkaaGreatDoorC24
namespace Go.Proofs.YtcoljeafgiemkaaGreatDoor
open Go Go.RowKit
set_option maxRecDepth 20000 in
theorem bigMul_c {w0 w : World} {σ : Sg} (h : Hold w0 w σ) {bz oz bx ox yb yo : Nat} {gz : Bool} {Z X Y : Nat} (hz : BNum σ bz oz gz Z) (hx : Num σ bx ox false X) (hy : Num σ yb yo false Y) (hne : (⟨bx, ox, none⟩ : Addr) ≠ ⟨yb, yo, none⟩) (hX : (digs X).length < 40) (hY : (digs Y).length < 40) :
    Calls Tryz.prog 97 #[.pointer (some ⟨bz, oz, none⟩), .pointer (some ⟨bx, ox, none⟩), .pointer (some ⟨yb, yo, none⟩)] w fun e w' => e = .returned (.pointer (some ⟨bz, oz, none⟩)) ∧ Hold w0 w' (put σ bz oz false (X * Y)) := by
  obtain ⟨fm, cm, hm⟩ := h.bmin hz
  have key := fun w2 (hc : Chg (w.setCell ⟨bz, oz + 2, none⟩ (.bool false)) w2 (fun _ => False)) => intMul_c (hm.keep hc) hz.num hx hy hne hX hY
  replace key := Lib.hid key
  clear hz hx hy h hm hne hX hY
  go_enter Tryz.func97, Tryz.ntmps97
  go_upto_region 2 with (fail)
  go_still_tail 9, (by kernel_rfl)
  change wpList _ _ _ _ _ (World.drew _)
  go_wp2_with fail
  with_reducible refine (key.out _ (by exact ⟨rfl, rfl, rfl, Nat.le_refl _, fun _ _ _ => rfl⟩)).mono ?_
  rintro e w1 ⟨rfl, h1⟩
  replace h1 := Lib.hid h1
  go_wp2
  go_ret
  exact ⟨rfl, h1.out⟩
set_option maxRecDepth 20000 in
theorem bigQuo_c {w0 w : World} {σ : Sg} (h : Hold w0 w σ) {bz oz bx ox yb yo : Nat} {gz : Bool} {Z X Y : Nat} (hz : BNum σ bz oz gz Z) (hx : Num σ bx ox false X) (hy : Num σ yb yo false Y) (hY0 : Y ≠ 0) (hX : (digs X).length ≤ 250) (hY : (digs Y).length < 40) :
    Calls Tryz.prog 114 #[.pointer (some ⟨bz, oz, none⟩), .pointer (some ⟨bx, ox, none⟩), .pointer (some ⟨yb, yo, none⟩)] w fun e w' => e = .returned (.pointer (some ⟨bz, oz, none⟩)) ∧ Hold w0 w' (put σ bz oz false (X / Y)) := by
  obtain ⟨fm, cm, hm⟩ := h.bmin hz
  have key := fun w2 (hc : Chg (w.setCell ⟨bz, oz + 2, none⟩ (.bool false)) w2 (fun _ => False)) => intQuo_c (hm.keep hc) hz.num hx hy hY0 hX hY
  replace key := Lib.hid key
  clear hz hx hy h hm hY0 hX hY
  go_enter Tryz.func114, Tryz.ntmps114
  go_upto_region 2 with (fail)
  go_still_tail 9, (by kernel_rfl)
  change wpList _ _ _ _ _ (World.drew _)
  go_wp2_with fail
  with_reducible refine (key.out _ (by exact ⟨rfl, rfl, rfl, Nat.le_refl _, fun _ _ _ => rfl⟩)).mono ?_
  rintro e w1 ⟨rfl, h1⟩
  replace h1 := Lib.hid h1
  go_wp2
  go_ret
  exact ⟨rfl, h1.out⟩
set_option maxRecDepth 20000 in
theorem bigRem_c {w0 w : World} {σ : Sg} (h : Hold w0 w σ) {bz oz bx ox yb yo : Nat} {gz : Bool} {Z X Y : Nat} (hz : BNum σ bz oz gz Z) (hx : Num σ bx ox false X) (hy : Num σ yb yo false Y) (hY0 : Y ≠ 0) (hX : (digs X).length ≤ 250) (hY : (digs Y).length < 40) :
    Calls Tryz.prog 186 #[.pointer (some ⟨bz, oz, none⟩), .pointer (some ⟨bx, ox, none⟩), .pointer (some ⟨yb, yo, none⟩)] w fun e w' => e = .returned (.pointer (some ⟨bz, oz, none⟩)) ∧ Hold w0 w' (put σ bz oz false (X % Y)) := by
  obtain ⟨fm, cm, hm⟩ := h.bmin hz
  have key := fun w2 (hc : Chg (w.setCell ⟨bz, oz + 2, none⟩ (.bool false)) w2 (fun _ => False)) => intRem_c (hm.keep hc) hz.num hx hy hY0 hX hY
  replace key := Lib.hid key
  clear hz hx hy h hm hY0 hX hY
  go_enter Tryz.func186, Tryz.ntmps186
  go_upto_region 2 with (fail)
  go_still_tail 9, (by kernel_rfl)
  change wpList _ _ _ _ _ (World.drew _)
  go_wp2_with fail
  with_reducible refine (key.out _ (by exact ⟨rfl, rfl, rfl, Nat.le_refl _, fun _ _ _ => rfl⟩)).mono ?_
  rintro e w1 ⟨rfl, h1⟩
  replace h1 := Lib.hid h1
  go_wp2
  go_ret
  exact ⟨rfl, h1.out⟩
set_option maxRecDepth 20000 in
theorem bigAdd_c {w0 w : World} {σ : Sg} (h : Hold w0 w σ) {bz oz bx ox yb yo : Nat} {gz : Bool} {Z X Y : Nat} (hz : BNum σ bz oz gz Z) (hx : Num σ bx ox false X) (hy : Num σ yb yo false Y) (hX : (digs X).length ≤ 900) (hY : (digs Y).length ≤ 900) :
    Calls Tryz.prog 110 #[.pointer (some ⟨bz, oz, none⟩), .pointer (some ⟨bx, ox, none⟩), .pointer (some ⟨yb, yo, none⟩)] w fun e w' => e = .returned (.pointer (some ⟨bz, oz, none⟩)) ∧ Hold w0 w' (put σ bz oz false (X + Y)) := by
  obtain ⟨fm, cm, hm⟩ := h.bmin hz
  have key := fun w2 (hc : Chg (w.setCell ⟨bz, oz + 2, none⟩ (.bool false)) w2 (fun _ => False)) => intAdd_c (hm.keep hc) hz.num hx hy hX hY
  replace key := Lib.hid key
  clear hz hx hy h hm hX hY
  go_enter Tryz.func110, Tryz.ntmps110
  go_upto_region 2 with (fail)
  go_still_tail 9, (by kernel_rfl)
  change wpList _ _ _ _ _ (World.drew _)
  go_wp2_with fail
  with_reducible refine (key.out _ (by exact ⟨rfl, rfl, rfl, Nat.le_refl _, fun _ _ _ => rfl⟩)).mono ?_
  rintro e w1 ⟨rfl, h1⟩
  replace h1 := Lib.hid h1
  go_wp2
  go_ret
  exact ⟨rfl, h1.out⟩
set_option maxRecDepth 20000 in
theorem bigSub_ge {w0 w : World} {σ : Sg} (h : Hold w0 w σ) {bz oz bx ox yb yo : Nat} {gz : Bool} {Z X Y : Nat} (hz : BNum σ bz oz gz Z) (hx : Num σ bx ox false X) (hy : Num σ yb yo false Y) (hX : (digs X).length ≤ 900) (hle : Y ≤ X) :
    Calls Tryz.prog 140 #[.pointer (some ⟨bz, oz, none⟩), .pointer (some ⟨bx, ox, none⟩), .pointer (some ⟨yb, yo, none⟩)] w fun e w' => e = .returned (.pointer (some ⟨bz, oz, none⟩)) ∧ Hold w0 w' (put σ bz oz false (X - Y)) := by
  obtain ⟨fm, cm, hm⟩ := h.bmin hz
  have key := fun w2 (hc : Chg (w.setCell ⟨bz, oz + 2, none⟩ (.bool false)) w2 (fun _ => False)) => intSub_ge (hm.keep hc) hz.num hx hy hX hle
  replace key := Lib.hid key
  clear hz hx hy h hm hX hle
  go_enter Tryz.func140, Tryz.ntmps140
  go_upto_region 2 with (fail)
  go_still_tail 9, (by kernel_rfl)
  change wpList _ _ _ _ _ (World.drew _)
  go_wp2_with fail
  with_reducible refine (key.out _ (by exact ⟨rfl, rfl, rfl, Nat.le_refl _, fun _ _ _ => rfl⟩)).mono ?_
  rintro e w1 ⟨rfl, h1⟩
  replace h1 := Lib.hid h1
  go_wp2
  go_ret
  exact ⟨rfl, h1.out⟩
set_option maxRecDepth 20000 in
theorem bigSub_lt {w0 w : World} {σ : Sg} (h : Hold w0 w σ) {bz oz bx ox yb yo : Nat} {gz : Bool} {Z X Y : Nat} (hz : BNum σ bz oz gz Z) (hx : Num σ bx ox false X) (hy : Num σ yb yo false Y) (hY : (digs Y).length ≤ 900) (hle : X < Y) :
    Calls Tryz.prog 140 #[.pointer (some ⟨bz, oz, none⟩), .pointer (some ⟨bx, ox, none⟩), .pointer (some ⟨yb, yo, none⟩)] w fun e w' => e = .returned (.pointer (some ⟨bz, oz, none⟩)) ∧ Hold w0 w' (put σ bz oz true (Y - X)) := by
  obtain ⟨fm, cm, hm⟩ := h.bmin hz
  have key := fun w2 (hc : Chg (w.setCell ⟨bz, oz + 2, none⟩ (.bool false)) w2 (fun _ => False)) => intSub_lt (hm.keep hc) hz.num hx hy hY hle
  replace key := Lib.hid key
  clear hz hx hy h hm hY hle
  go_enter Tryz.func140, Tryz.ntmps140
  go_upto_region 2 with (fail)
  go_still_tail 9, (by kernel_rfl)
  change wpList _ _ _ _ _ (World.drew _)
  go_wp2_with fail
  with_reducible refine (key.out _ (by exact ⟨rfl, rfl, rfl, Nat.le_refl _, fun _ _ _ => rfl⟩)).mono ?_
  rintro e w1 ⟨rfl, h1⟩
  replace h1 := Lib.hid h1
  go_wp2
  go_ret
  exact ⟨rfl, h1.out⟩
set_option maxRecDepth 20000 in
theorem bigExp_c {w0 w : World} {σ : Sg} (h : Hold w0 w σ) {bz oz bx ox yb yo : Nat} {gz : Bool} {Z X Y : Nat} (hz : BNum σ bz oz gz Z) (hx : Num σ bx ox false X) (hy : Num σ yb yo false Y) (hX2 : 2 ≤ X) (hXW : X < WB) (hYW : Y < WB) (hXY : X ^ Y < WB ^ 22) :
    Calls Tryz.prog 182 #[.pointer (some ⟨bz, oz, none⟩), .pointer (some ⟨bx, ox, none⟩), .pointer (some ⟨yb, yo, none⟩)] w fun e w' => e = .returned (.pointer (some ⟨bz, oz, none⟩)) ∧ Hold w0 w' (put σ bz oz false (X ^ Y)) := by
  obtain ⟨fm, cm, hm⟩ := h.bmin hz
  have key := fun w2 (hc : Chg (w.setCell ⟨bz, oz + 2, none⟩ (.bool false)) w2 (fun _ => False)) => intExp_c (hm.keep hc) hz.num hx hy hX2 hXW hYW hXY
  replace key := Lib.hid key
  clear hz hx hy h hm hX2 hXW hYW hXY
  go_enter Tryz.func182, Tryz.ntmps182
  go_upto_region 2 with (fail)
  go_still_tail 9, (by kernel_rfl)
  change wpList _ _ _ _ _ (World.drew _)
  go_wp2_with fail
  with_reducible refine (key.out _ (by exact ⟨rfl, rfl, rfl, Nat.le_refl _, fun _ _ _ => rfl⟩)).mono ?_
  rintro e w1 ⟨rfl, h1⟩
  replace h1 := Lib.hid h1
  go_wp2
  go_ret
  exact ⟨rfl, h1.out⟩
end Go.Proofs.YtcoljeafgiemkaaGreatDoor

namespace Go.Proofs.YtcoljeafgiemkaaGreatDoor
open Go Go.RowKit
set_option maxRecDepth 20000 in
theorem bigSetH_c {w0 w : World} {σ : Sg} (h : Hold w0 w σ) {bz oz bx ox : Nat} {gz gx : Bool} {Z X : Nat} (hz : BNum σ bz oz gz Z) (hx : BNum σ bx ox gx X) (hX : (digs X).length ≤ 1000) :
    Calls Tryz.prog 84 #[.pointer (some ⟨bz, oz, none⟩), .pointer (some ⟨bx, ox, none⟩)] w fun e w' => e = .returned (.pointer (some ⟨bz, oz, none⟩)) ∧ Hold w0 w' (put σ bz oz gx X) := by
  obtain ⟨fm, cm, hm⟩ := h.bmin hz
  obtain ⟨_, cmx, _⟩ := h.bmin hx
  have key := fun w2 (hc : Chg (w.setCell ⟨bz, oz + 2, none⟩ (.bool false)) w2 (fun _ => False)) => intSetAny_c (hm.keep hc) hz.num hx.num hX
  replace key := Lib.hid key
  clear hz hx h hm hX
  go_enter Tryz.func84, Tryz.ntmps84
  go_upto_region 2 with (fail)
  go_still_tail 6, (by kernel_rfl)
  change wpList _ _ _ _ _ (World.drew _)
  go_wp2_with fail
  with_reducible refine (key.out _ (by exact ⟨rfl, rfl, rfl, Nat.le_refl _, fun _ _ _ => rfl⟩)).mono ?_
  rintro e w1 ⟨rfl, h1⟩
  replace h1 := Lib.hid h1
  go_wp2
  go_ret
  exact ⟨rfl, h1.out⟩
set_option maxRecDepth 20000 in
theorem bigAbs_c {w0 w : World} {σ : Sg} (h : Hold w0 w σ) {bz oz bx ox : Nat} {gz gx : Bool} {Z X : Nat} (hz : BNum σ bz oz gz Z) (hx : Num σ bx ox gx X) (hX : (digs X).length ≤ 1000) :
    Calls Tryz.prog 101 #[.pointer (some ⟨bz, oz, none⟩), .pointer (some ⟨bx, ox, none⟩)] w fun e w' => e = .returned (.pointer (some ⟨bz, oz, none⟩)) ∧ Hold w0 w' (put σ bz oz false X) := by
  obtain ⟨fm, cm, hm⟩ := h.bmin hz
  have key := fun w2 (hc : Chg (w.setCell ⟨bz, oz + 2, none⟩ (.bool false)) w2 (fun _ => False)) => intAbs_c (hm.keep hc) hz.num hx hX
  replace key := Lib.hid key
  clear hz hx h hm hX
  go_enter Tryz.func101, Tryz.ntmps101
  go_upto_region 2 with (fail)
  go_still_tail 6, (by kernel_rfl)
  change wpList _ _ _ _ _ (World.drew _)
  go_wp2_with fail
  with_reducible refine (key.out _ (by exact ⟨rfl, rfl, rfl, Nat.le_refl _, fun _ _ _ => rfl⟩)).mono ?_
  rintro e w1 ⟨rfl, h1⟩
  replace h1 := Lib.hid h1
  go_wp2
  go_ret
  exact ⟨rfl, h1.out⟩
theorem intSignH_c {w0 w : World} {σ : Sg} (h : Hold w0 w σ) {bx ox : Nat} {gx : Bool} {X : Nat} (hx : Num σ bx ox gx X) : Calls Tryz.prog 152 #[.pointer (some ⟨bx, ox, none⟩)] w fun e w' => e = .returned (.int .i64 (sgN gx X)) ∧ w = w' := by
  obtain ⟨v, s, p⟩ := h.op hx
  exact intSign_c w bx ox gx X v s p.c0 p.c1 p.nat
theorem bigSignH_c {w0 w : World} {σ : Sg} (h : Hold w0 w σ) {bx ox : Nat} {gx : Bool} {X : Nat} (hx : BNum σ bx ox gx X) : Calls Tryz.prog 107 #[.pointer (some ⟨bx, ox, none⟩)] w fun e w' => e = .returned (.int .i64 (sgN gx X)) ∧ w = w' := by
  obtain ⟨_, cm, _⟩ := h.bmin hx
  obtain ⟨v, s, p⟩ := h.op hx.num
  exact bigSign_c w bx ox gx X v s p.c0 p.c1 cm p.nat
set_option maxRecDepth 20000 in
theorem bigNeg_c {w0 w : World} {σ : Sg} (h : Hold w0 w σ) {bz oz bx ox : Nat} {gz gx : Bool} {Z X : Nat} (hz : BNum σ bz oz gz Z) (hx : BNum σ bx ox gx X) (hX : (digs X).length ≤ 1000) (hX0 : X ≠ 0) :
    Calls Tryz.prog 141 #[.pointer (some ⟨bz, oz, none⟩), .pointer (some ⟨bx, ox, none⟩)] w fun e w' => e = .returned (.pointer (some ⟨bz, oz, none⟩)) ∧ Hold w0 w' (put σ bz oz (!gx) X) := by
  obtain ⟨fm, cm, hm⟩ := h.bmin hz
  obtain ⟨_, cmx, _⟩ := h.bmin hx
  have ksg := intSignH_c h hx.num
  have hsg : ((sgN gx X) == 0) = false := by unfold sgN; rw [if_neg hX0]; cases gx <;> rfl
  have key := fun w2 (hc : Chg (w.setCell ⟨bz, oz + 2, none⟩ (.bool false)) w2 (fun _ => False)) => intNeg_c (hm.keep hc) hz.num hx.num hX hX0
  generalize sgN gx X = sg at hsg ksg
  replace key := Lib.hid key
  replace ksg := Lib.hid ksg
  clear hz hx h hm hX hX0
  go_enter Tryz.func141, Tryz.ntmps141
  go_wp2_with fail
  with_reducible refine ksg.out.mono ?_
  rintro e w' ⟨rfl, hw⟩
  obtain rfl := hw
  go_upto_region 2 with (fail)
  go_still_tail 6, (by kernel_rfl)
  change wpList _ _ _ _ _ (World.drew _)
  go_wp2_with fail
  with_reducible refine (key.out _ (by exact ⟨rfl, rfl, rfl, Nat.le_refl _, fun _ _ _ => rfl⟩)).mono ?_
  rintro e w1 ⟨rfl, h1⟩
  replace h1 := Lib.hid h1
  go_wp2
  go_ret
  exact ⟨rfl, h1.out⟩
theorem bigSetI_c {w0 w : World} {σ : Sg} (h : Hold w0 w σ) {bz oz : Nat} {gz : Bool} {Z : Nat} (hz : BNum σ bz oz gz Z) (n : Nat) (hn : n ≤ 9223372036854775807) :
    Calls Tryz.prog 127 #[.pointer (some ⟨bz, oz, none⟩), .int .i64 (n : Int)] w fun e w' => e = .returned (.pointer (some ⟨bz, oz, none⟩)) ∧ Hold w0 w' (put σ bz oz false n) := by
  obtain ⟨fm, cm, hm⟩ := h.bmin hz
  have key := intSetI_c hm hz.num n hn
  replace key := Lib.hid key
  clear hz h hm
  go_enter Tryz.func127, Tryz.ntmps127
  go_wp2_with fail
  with_reducible refine key.out.mono ?_
  rintro e w1 ⟨rfl, h1⟩
  replace h1 := Lib.hid h1
  go_wp2
  go_ret
  exact ⟨rfl, h1.out⟩
set_option maxRecDepth 20000 in
theorem bigCmpH_c {w0 w : World} {σ : Sg} (h : Hold w0 w σ) {bx ox yb yo : Nat} {X Y : Nat} (hx : BNum σ bx ox false X) (hy : BNum σ yb yo false Y) (hne : (⟨bx, ox, none⟩ : Addr) ≠ ⟨yb, yo, none⟩) :
    Calls Tryz.prog 104 #[.pointer (some ⟨bx, ox, none⟩), .pointer (some ⟨yb, yo, none⟩)] w fun e w' => e = .returned (.int .i64 (ordN X Y)) ∧ ∃ n, w' = w.drewN n := by
  obtain ⟨_, cmx, _⟩ := h.bmin hx
  obtain ⟨_, cmy, _⟩ := h.bmin hy
  have key := fun w2 (hc : Chg w w2 (fun _ => False)) => intCmp_c (h.keep hc) hx.num hy.num hne
  replace key := Lib.hid key
  generalize ordN X Y = r at key ⊢
  clear h hx hy hne
  go_enter Tryz.func104, Tryz.ntmps104
  go_upto_region 1 with (fail)
  go_quiet (fail)
  go_upto_region 5 with (fail)
  go_quiet ((go_at_call 153; exact quietAdd (key.out _ (by exact ⟨rfl, rfl, rfl, Nat.le_refl _, fun _ _ _ => rfl⟩))))
  go_wp2
  go_ret
  exact ⟨rfl, by first | exact ⟨_, rfl⟩ | exact ⟨_, drewN_drewN _ _ _⟩ | exact ⟨_, (drewN_drewN _ _ _).symm⟩⟩
theorem newBig_c {w0 w : World} {σ : Sg} (h : Hold w0 w σ) (n : Nat) (hn : n ≤ 9223372036854775807) : Calls Tryz.prog 154 #[.int .i64 (n : Int)] w fun e w' => ∃ k, e = .returned (.pointer (some ⟨k, 0, none⟩)) ∧ w.heap.size ≤ k ∧ Hold w0 w' (upd σ k (big false n)) := by
  have h1 := h.newBig
  have key := intSetI_c h1 (num_big (upd_eq _ _ _)) n hn
  rw [put_big (upd_eq _ _ _), upd_upd] at key
  replace key := Lib.hid key
  clear h h1
  go_enter Tryz.func154, Tryz.ntmps154
  go_wp2_with fail
  with_reducible refine key.out.mono ?_
  rintro e w1 ⟨rfl, h1⟩
  replace h1 := Lib.hid h1
  go_wp2
  go_ret
  exact ⟨_, rfl, Nat.le_refl _, h1.out⟩
theorem bigOne_c {w0 w : World} {σ : Sg} (h : Hold w0 w σ) : Calls Tryz.prog 111 #[] w fun e w' => ∃ k, e = .returned (.pointer (some ⟨k, 0, none⟩)) ∧ w.heap.size ≤ k ∧ Hold w0 w' (upd σ k (big false 1)) := by
  have key : Calls Tryz.prog 154 #[.int .i64 1] w _ := newBig_c h 1 (by omega)
  replace key := Lib.hid key
  clear h
  go_enter Tryz.func111, Tryz.ntmps111
  go_wp2_with fail
  with_reducible refine key.out.mono ?_
  rintro e w1 ⟨k, rfl, hk, h1⟩
  replace h1 := Lib.hid h1
  go_wp2
  go_ret
  exact ⟨k, rfl, hk, h1.out⟩
theorem bigTen_c {w0 w : World} {σ : Sg} (h : Hold w0 w σ) : Calls Tryz.prog 105 #[] w fun e w' => ∃ k, e = .returned (.pointer (some ⟨k, 0, none⟩)) ∧ w.heap.size ≤ k ∧ Hold w0 w' (upd σ k (big false 10)) := by
  have key : Calls Tryz.prog 154 #[.int .i64 10] w _ := newBig_c h 10 (by omega)
  replace key := Lib.hid key
  clear h
  go_enter Tryz.func105, Tryz.ntmps105
  go_wp2_with fail
  with_reducible refine key.out.mono ?_
  rintro e w1 ⟨k, rfl, hk, h1⟩
  replace h1 := Lib.hid h1
  go_wp2
  go_ret
  exact ⟨k, rfl, hk, h1.out⟩
theorem bigFive_c {w0 w : World} {σ : Sg} (h : Hold w0 w σ) : Calls Tryz.prog 187 #[] w fun e w' => ∃ k, e = .returned (.pointer (some ⟨k, 0, none⟩)) ∧ w.heap.size ≤ k ∧ Hold w0 w' (upd σ k (big false 5)) := by
  have key : Calls Tryz.prog 154 #[.int .i64 5] w _ := newBig_c h 5 (by omega)
  replace key := Lib.hid key
  clear h
  go_enter Tryz.func187, Tryz.ntmps187
  go_wp2_with fail
  with_reducible refine key.out.mono ?_
  rintro e w1 ⟨k, rfl, hk, h1⟩
  replace h1 := Lib.hid h1
  go_wp2
  go_ret
  exact ⟨k, rfl, hk, h1.out⟩
end Go.Proofs.YtcoljeafgiemkaaGreatDoor

namespace Go.Proofs.YtcoljeafgiemkaaGreatDoor
open Go Go.RowKit

theorem ten_WB {n : Nat} (h : n ≤ 400) : 10 ^ n < WB ^ 22 := by
  refine Nat.lt_of_le_of_lt (ten_le h) ?_
  rw [WB_eq]
  decide +kernel
theorem n_WB {n : Nat} (h : n ≤ 9223372036854775807) : n < WB := by rw [WB_eq]; omega
theorem BNum.lt {w0 w : World} {σ : Sg} (h : Hold w0 w σ) {b o : Nat} {g : Bool} {N : Nat} (hn : BNum σ b o g N) : b < w.heap.size := by
  obtain ⟨it, h1, _⟩ := hn
  exact (h.lt h1).2
theorem Num.upd {σ : Sg} {b o k : Nat} {g : Bool} {N : Nat} {it : It} (hn : Num σ b o g N) (hk : σ k = none) : Num (upd σ k it) b o g N := by
  obtain ⟨jt, h1, h2⟩ := hn
  exact ⟨jt, by rw [upd_ne _ _ (by rintro rfl; rw [hk] at h1; cases h1)]; exact h1, h2⟩
theorem BNum.upd {σ : Sg} {b o k : Nat} {g : Bool} {N : Nat} {it : It} (hn : BNum σ b o g N) (hk : σ k = none) : BNum (upd σ k it) b o g N := by
  obtain ⟨jt, h1, h2, h3⟩ := hn
  exact ⟨jt, by rw [upd_ne _ _ (by rintro rfl; rw [hk] at h1; cases h1)]; exact h1, h2, h3⟩

theorem setPow_c {w0 w : World} {σ : Sg} (h : Hold w0 w σ) {bz oz : Nat} {gz : Bool} {Z : Nat} (hz : BNum σ bz oz gz Z) (n : Nat) (hn : n ≤ 400) :
    Calls Tryz.prog 151 #[.pointer (some ⟨bz, oz, none⟩), .int .i64 (n : Int)] w fun e w' => e = .returned (.tuple #[]) ∧ Hold w0 w' (put σ bz oz false (10 ^ n)) := by
  have hf := h.fresh (k := w.heap.size) (Nat.le_refl _)
  have h1 := h.newBig
  have k1 := bigSetI_c h1 (bnum_big (upd_eq _ _ _)) n (by omega)
  rw [put_big (upd_eq _ _ _), upd_upd] at k1
  have hs := World.size_alloc w (.cells #[.bool false, .slice none 0 0, .bool false] 73 (0, 0))
  replace k1 := Lib.hid k1
  replace h := Lib.hid h
  replace hz := Lib.hid hz
  replace hf := Lib.hid hf
  clear h1 hs
  go_enter Tryz.func151, Tryz.ntmps151
  go_wp2_with fail
  with_reducible refine k1.out.mono ?_
  rintro e w1 ⟨rfl, h1⟩
  have k2 := bigTen_c h1
  replace k2 := Lib.hid k2
  replace h1 := Lib.hid h1
  go_wp2_with fail
  with_reducible refine k2.out.mono ?_
  rintro e w2 ⟨k, rfl, hk, h2⟩
  have hf2 := h1.out.fresh hk
  have hlt : w.heap.size < w1.heap.size := (h1.out.lt (upd_eq _ _ _)).2
  have hne : k ≠ w.heap.size := by omega
  have hfk := hf2
  rw [upd_ne _ _ hne] at hfk
  have k3 := bigExp_c h2 ((hz.out.upd hf.out).upd hf2) (num_big (upd_eq _ _ _)) (num_big (by rw [upd_ne _ _ hne.symm]; exact upd_eq _ _ _)) (by omega : 2 ≤ 10) (n_WB (by omega)) (n_WB (by omega)) (ten_WB hn)
  replace k3 := Lib.hid k3
  replace h2 := Lib.hid h2
  clear hf2 hlt hne
  go_wp2_with fail
  with_reducible refine k3.out.mono ?_
  rintro e w3 ⟨rfl, h3⟩
  have hfin := h3.le (((Le.refl σ).skip hf.out).skip hfk |>.put bz oz false (10 ^ n) (hz.out.choose_spec.1))
  replace hfin := Lib.hid hfin
  clear h3
  go_wp2
  go_end0
  exact ⟨rfl, hfin.out⟩
theorem tableExp_c {w0 w : World} {σ : Sg} (h : Hold w0 w σ) {bz oz : Nat} {gz : Bool} {Z : Nat} (hz : BNum σ bz oz gz Z) (n : Nat) (hn : n ≤ 400) :
    Calls Tryz.prog 103 #[.int .i64 (n : Int), .pointer (some ⟨bz, oz, none⟩)] w fun e w' => e = .returned (.pointer (some ⟨bz, oz, none⟩)) ∧ Hold w0 w' (put σ bz oz false (10 ^ n)) := by
  have key := setPow_c h hz n hn
  replace key := Lib.hid key
  clear h hz
  go_enter Tryz.func103, Tryz.ntmps103
  go_wp2_with fail
  with_reducible refine key.out.mono ?_
  rintro e w1 ⟨rfl, h1⟩
  replace h1 := Lib.hid h1
  go_wp2
  go_ret
  exact ⟨rfl, h1.out⟩

set_option maxRecDepth 20000 in
theorem setCoef_c {w0 w : World} {σ : Sg} (h : Hold w0 w σ) {d : Nat} {f e : Int} {n g : Bool} {N : Nat} (hd : σ d = some (dec f n e g N)) (m : Nat) (hm : m ≤ 9223372036854775807) :
    Calls Tryz.prog 166 #[.pointer (some ⟨d, 0, none⟩), .int .i64 (m : Int)] w fun E w' => E = .returned (.tuple #[]) ∧ Hold w0 w' (upd σ d (dec 0 false e false m)) := by
  have d1 := h.c1 hd
  have f1 := h.fz hd 1
  have h1 := h.setSign hd false
  have k1 := bigSetI_c h1 (bnum_dec (upd_eq _ _ _)) m hm
  rw [put_dec (upd_eq _ _ _), upd_upd] at k1
  have e0 : decide ((m : Int) < 0) = false := by simp
  have hlm : (digs m).length ≤ 1000 := Nat.le_trans (digs_len_le.2 (show m < WB ^ 1 by rw [Nat.pow_one]; exact n_WB hm)) (by omega)
  replace k1 := Lib.hid k1
  clear h h1
  go_enter Tryz.func166, Tryz.ntmps166
  go_wp2_with fail
  with_reducible refine k1.out.mono ?_
  rintro E w1 ⟨rfl, h2⟩
  have k2 := fun w2 (hc : Chg w1 w2 (fun _ => False)) => bigAbs_c (h2.keep hc) (bnum_dec (upd_eq _ _ _)) (num_dec (upd_eq _ _ _)) hlm
  rw [put_dec (upd_eq _ _ _), upd_upd] at k2
  replace k2 := Lib.hid k2
  clear h2 d1 f1
  go_upto_region 2 with (fail)
  go_still_tail 6, (by kernel_rfl)
  change wpList _ _ _ _ _ (World.drew _)
  go_wp2_with fail
  with_reducible refine (k2.out _ (by exact ⟨rfl, rfl, rfl, Nat.le_refl _, fun _ _ _ => rfl⟩)).mono ?_
  rintro E w3 ⟨rfl, h3⟩
  have c0 := h3.c0 (upd_eq _ _ _)
  have f0 := h3.fz (upd_eq _ _ _) 0
  have hfin := h3.setForm (upd_eq _ _ _) 0
  rw [upd_upd] at hfin
  replace hfin := Lib.hid hfin
  clear h3
  go_wp2
  go_end0
  exact ⟨rfl, hfin.out⟩
theorem setFin_c {w0 w : World} {σ : Sg} (h : Hold w0 w σ) {d : Nat} {f e : Int} {n g : Bool} {N : Nat} (hd : σ d = some (dec f n e g N)) (m : Nat) (hm : m ≤ 9223372036854775807) (e' : Int) :
    Calls Tryz.prog 118 #[.pointer (some ⟨d, 0, none⟩), .int .i64 (m : Int), .int .i32 e'] w fun E w' => E = .returned (.pointer (some ⟨d, 0, none⟩)) ∧ Hold w0 w' (upd σ d (dec 0 false e' false m)) := by
  have k1 := setCoef_c h hd m hm
  replace k1 := Lib.hid k1
  clear h hd
  go_enter Tryz.func118, Tryz.ntmps118
  go_wp2_with fail
  with_reducible refine k1.out.mono ?_
  rintro E w1 ⟨rfl, h2⟩
  have c2 := h2.c2 (upd_eq _ _ _)
  have f2 := h2.fz (upd_eq _ _ _) 2
  have hfin := h2.setExp (upd_eq _ _ _) e'
  rw [upd_upd] at hfin
  replace hfin := Lib.hid hfin
  clear h2
  go_wp2
  go_ret
  exact ⟨rfl, hfin.out⟩
theorem newDec_c {w0 w : World} {σ : Sg} (h : Hold w0 w σ) (m : Nat) (hm : m ≤ 9223372036854775807) (e' : Int) :
    Calls Tryz.prog 121 #[.int .i64 (m : Int), .int .i32 e'] w fun E w' => ∃ k, E = .returned (.pointer (some ⟨k, 0, none⟩)) ∧ w.heap.size ≤ k ∧ Hold w0 w' (upd σ k (dec 0 false e' false m)) := by
  have h1 := h.newDec 0 0 false
  have k1 := setFin_c h1 (upd_eq _ _ _) m hm e'
  rw [upd_upd] at k1
  replace k1 := Lib.hid k1
  clear h h1
  go_enter Tryz.func121, Tryz.ntmps121
  go_wp2_with fail
  with_reducible refine k1.out.mono ?_
  rintro E w1 ⟨rfl, h2⟩
  replace h2 := Lib.hid h2
  go_wp2
  go_ret
  exact ⟨_, rfl, Nat.le_refl _, h2.out⟩
theorem decHalf_c {w0 w : World} {σ : Sg} (h : Hold w0 w σ) : Calls Tryz.prog 123 #[] w fun E w' => ∃ k, E = .returned (.pointer (some ⟨k, 0, none⟩)) ∧ w.heap.size ≤ k ∧ Hold w0 w' (upd σ k (dec 0 false (-1) false 5)) := by
  have key : Calls Tryz.prog 121 #[.int .i64 5, .int .i32 (-1)] w _ := newDec_c h 5 (by omega) (-1)
  replace key := Lib.hid key
  clear h
  go_enter Tryz.func123, Tryz.ntmps123
  go_wp2_with fail
  with_reducible refine key.out.mono ?_
  rintro e w1 ⟨k, rfl, hk, h1⟩
  replace h1 := Lib.hid h1
  go_wp2
  go_ret
  exact ⟨k, rfl, hk, h1.out⟩
end Go.Proofs.YtcoljeafgiemkaaGreatDoor
