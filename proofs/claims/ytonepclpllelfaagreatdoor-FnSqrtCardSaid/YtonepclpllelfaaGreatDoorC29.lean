/- apd.BigInt on what is held. apd.BigInt on what is held: Set, SetInt64, Abs, Neg, Cmp; small numbers. apd: powers of 10, new decimals, on what is held. Int.Text, String; Lsh; rows of the table of digits; NumDigits. Lsh of 1; a row of the table of digits. -/
import Derived.StillTailTactics
import Derived.Test.YtonepclpllelfaaGreatDoorC09
import Derived.Test.YtonepclpllelfaaGreatDoorC12
import Derived.Test.YtonepclpllelfaaGreatDoorC20
import Derived.Test.YtonepclpllelfaaGreatDoorC24
import Derived.Test.YtonepclpllelfaaGreatDoorC25
import Derived.Test.YtonepclpllelfaaGreatDoorC26
import Derived.Test.YtonepclpllelfaaGreatDoorC28
namespace Go.Proofs.YtonepclpllelfaaGreatDoor
open Go Go.RowKit
set_option maxRecDepth 20000 in
theorem bigMul_c {w0 w : World} {σ : Sg} (h : Hold w0 w σ) {bz oz bx ox yb yo : Nat} {gz : Bool} {Z X Y : Nat} (hz : BNum σ bz oz gz Z) (hx : Num σ bx ox false X) (hy : Num σ yb yo false Y) (hne : (⟨bx, ox, none⟩ : Addr) ≠ ⟨yb, yo, none⟩) (hX : (digs X).length < 40) (hY : (digs Y).length < 40) :
    Calls Tryz.prog 79 #[.pointer (some ⟨bz, oz, none⟩), .pointer (some ⟨bx, ox, none⟩), .pointer (some ⟨yb, yo, none⟩)] w fun e w' => e = .returned (.pointer (some ⟨bz, oz, none⟩)) ∧ Hold w0 w' (put σ bz oz false (X * Y)) := by
  obtain ⟨fm, cm, hm⟩ := h.bmin hz
  have key := fun w2 (hc : Chg (w.setCell ⟨bz, oz + 2, none⟩ (.bool false)) w2 (fun _ => False)) => intMul_c (hm.keep hc) hz.num hx hy hne hX hY
  replace key := Lib.hid key
  clear hz hx hy h hm hne hX hY
  go_enter Tryz.func79, Tryz.ntmps79
  go_upto_region 2 with (fail)
  go_still_tail 9, (by kernel_rfl)
  change wpList _ _ _ _ _ (World.drew _)
  go_wp2_with fail
  with_reducible refine (key.out _ (by exact ⟨rfl, rfl, rfl, Nat.le_refl _, fun _ _ _ => rfl⟩)).mono ?_
  rintro e w1 ⟨rfl, h1⟩
  replace h1 := Lib.hid h1
  go_wp2
  go_ret
  exact ⟨rfl, h1.out⟩
set_option maxRecDepth 20000 in
theorem bigQuo_c {w0 w : World} {σ : Sg} (h : Hold w0 w σ) {bz oz bx ox yb yo : Nat} {gz : Bool} {Z X Y : Nat} (hz : BNum σ bz oz gz Z) (hx : Num σ bx ox false X) (hy : Num σ yb yo false Y) (hY0 : Y ≠ 0) (hX : (digs X).length ≤ 250) (hY : (digs Y).length < 40) :
    Calls Tryz.prog 125 #[.pointer (some ⟨bz, oz, none⟩), .pointer (some ⟨bx, ox, none⟩), .pointer (some ⟨yb, yo, none⟩)] w fun e w' => e = .returned (.pointer (some ⟨bz, oz, none⟩)) ∧ Hold w0 w' (put σ bz oz false (X / Y)) := by
  obtain ⟨fm, cm, hm⟩ := h.bmin hz
  have key := fun w2 (hc : Chg (w.setCell ⟨bz, oz + 2, none⟩ (.bool false)) w2 (fun _ => False)) => intQuo_c (hm.keep hc) hz.num hx hy hY0 hX hY
  replace key := Lib.hid key
  clear hz hx hy h hm hY0 hX hY
  go_enter Tryz.func125, Tryz.ntmps125
  go_upto_region 2 with (fail)
  go_still_tail 9, (by kernel_rfl)
  change wpList _ _ _ _ _ (World.drew _)
  go_wp2_with fail
  with_reducible refine (key.out _ (by exact ⟨rfl, rfl, rfl, Nat.le_refl _, fun _ _ _ => rfl⟩)).mono ?_
  rintro e w1 ⟨rfl, h1⟩
  replace h1 := Lib.hid h1
  go_wp2
  go_ret
  exact ⟨rfl, h1.out⟩
set_option maxRecDepth 20000 in
theorem bigRem_c {w0 w : World} {σ : Sg} (h : Hold w0 w σ) {bz oz bx ox yb yo : Nat} {gz : Bool} {Z X Y : Nat} (hz : BNum σ bz oz gz Z) (hx : Num σ bx ox false X) (hy : Num σ yb yo false Y) (hY0 : Y ≠ 0) (hX : (digs X).length ≤ 250) (hY : (digs Y).length < 40) :
    Calls Tryz.prog 139 #[.pointer (some ⟨bz, oz, none⟩), .pointer (some ⟨bx, ox, none⟩), .pointer (some ⟨yb, yo, none⟩)] w fun e w' => e = .returned (.pointer (some ⟨bz, oz, none⟩)) ∧ Hold w0 w' (put σ bz oz false (X % Y)) := by
  obtain ⟨fm, cm, hm⟩ := h.bmin hz
  have key := fun w2 (hc : Chg (w.setCell ⟨bz, oz + 2, none⟩ (.bool false)) w2 (fun _ => False)) => intRem_c (hm.keep hc) hz.num hx hy hY0 hX hY
  replace key := Lib.hid key
  clear hz hx hy h hm hY0 hX hY
  go_enter Tryz.func139, Tryz.ntmps139
  go_upto_region 2 with (fail)
  go_still_tail 9, (by kernel_rfl)
  change wpList _ _ _ _ _ (World.drew _)
  go_wp2_with fail
  with_reducible refine (key.out _ (by exact ⟨rfl, rfl, rfl, Nat.le_refl _, fun _ _ _ => rfl⟩)).mono ?_
  rintro e w1 ⟨rfl, h1⟩
  replace h1 := Lib.hid h1
  go_wp2
  go_ret
  exact ⟨rfl, h1.out⟩
set_option maxRecDepth 20000 in
theorem bigAdd_c {w0 w : World} {σ : Sg} (h : Hold w0 w σ) {bz oz bx ox yb yo : Nat} {gz : Bool} {Z X Y : Nat} (hz : BNum σ bz oz gz Z) (hx : Num σ bx ox false X) (hy : Num σ yb yo false Y) (hX : (digs X).length ≤ 900) (hY : (digs Y).length ≤ 900) :
    Calls Tryz.prog 88 #[.pointer (some ⟨bz, oz, none⟩), .pointer (some ⟨bx, ox, none⟩), .pointer (some ⟨yb, yo, none⟩)] w fun e w' => e = .returned (.pointer (some ⟨bz, oz, none⟩)) ∧ Hold w0 w' (put σ bz oz false (X + Y)) := by
  obtain ⟨fm, cm, hm⟩ := h.bmin hz
  have key := fun w2 (hc : Chg (w.setCell ⟨bz, oz + 2, none⟩ (.bool false)) w2 (fun _ => False)) => intAdd_c (hm.keep hc) hz.num hx hy hX hY
  replace key := Lib.hid key
  clear hz hx hy h hm hX hY
  go_enter Tryz.func88, Tryz.ntmps88
  go_upto_region 2 with (fail)
  go_still_tail 9, (by kernel_rfl)
  change wpList _ _ _ _ _ (World.drew _)
  go_wp2_with fail
  with_reducible refine (key.out _ (by exact ⟨rfl, rfl, rfl, Nat.le_refl _, fun _ _ _ => rfl⟩)).mono ?_
  rintro e w1 ⟨rfl, h1⟩
  replace h1 := Lib.hid h1
  go_wp2
  go_ret
  exact ⟨rfl, h1.out⟩
set_option maxRecDepth 20000 in
theorem bigSub_ge {w0 w : World} {σ : Sg} (h : Hold w0 w σ) {bz oz bx ox yb yo : Nat} {gz : Bool} {Z X Y : Nat} (hz : BNum σ bz oz gz Z) (hx : Num σ bx ox false X) (hy : Num σ yb yo false Y) (hX : (digs X).length ≤ 900) (hle : Y ≤ X) :
    Calls Tryz.prog 112 #[.pointer (some ⟨bz, oz, none⟩), .pointer (some ⟨bx, ox, none⟩), .pointer (some ⟨yb, yo, none⟩)] w fun e w' => e = .returned (.pointer (some ⟨bz, oz, none⟩)) ∧ Hold w0 w' (put σ bz oz false (X - Y)) := by
  obtain ⟨fm, cm, hm⟩ := h.bmin hz
  have key := fun w2 (hc : Chg (w.setCell ⟨bz, oz + 2, none⟩ (.bool false)) w2 (fun _ => False)) => intSub_ge (hm.keep hc) hz.num hx hy hX hle
  replace key := Lib.hid key
  clear hz hx hy h hm hX hle
  go_enter Tryz.func112, Tryz.ntmps112
  go_upto_region 2 with (fail)
  go_still_tail 9, (by kernel_rfl)
  change wpList _ _ _ _ _ (World.drew _)
  go_wp2_with fail
  with_reducible refine (key.out _ (by exact ⟨rfl, rfl, rfl, Nat.le_refl _, fun _ _ _ => rfl⟩)).mono ?_
  rintro e w1 ⟨rfl, h1⟩
  replace h1 := Lib.hid h1
  go_wp2
  go_ret
  exact ⟨rfl, h1.out⟩
set_option maxRecDepth 20000 in
theorem bigSub_lt {w0 w : World} {σ : Sg} (h : Hold w0 w σ) {bz oz bx ox yb yo : Nat} {gz : Bool} {Z X Y : Nat} (hz : BNum σ bz oz gz Z) (hx : Num σ bx ox false X) (hy : Num σ yb yo false Y) (hY : (digs Y).length ≤ 900) (hle : X < Y) :
    Calls Tryz.prog 112 #[.pointer (some ⟨bz, oz, none⟩), .pointer (some ⟨bx, ox, none⟩), .pointer (some ⟨yb, yo, none⟩)] w fun e w' => e = .returned (.pointer (some ⟨bz, oz, none⟩)) ∧ Hold w0 w' (put σ bz oz true (Y - X)) := by
  obtain ⟨fm, cm, hm⟩ := h.bmin hz
  have key := fun w2 (hc : Chg (w.setCell ⟨bz, oz + 2, none⟩ (.bool false)) w2 (fun _ => False)) => intSub_lt (hm.keep hc) hz.num hx hy hY hle
  replace key := Lib.hid key
  clear hz hx hy h hm hY hle
  go_enter Tryz.func112, Tryz.ntmps112
  go_upto_region 2 with (fail)
  go_still_tail 9, (by kernel_rfl)
  change wpList _ _ _ _ _ (World.drew _)
  go_wp2_with fail
  with_reducible refine (key.out _ (by exact ⟨rfl, rfl, rfl, Nat.le_refl _, fun _ _ _ => rfl⟩)).mono ?_
  rintro e w1 ⟨rfl, h1⟩
  replace h1 := Lib.hid h1
  go_wp2
  go_ret
  exact ⟨rfl, h1.out⟩
set_option maxRecDepth 20000 in
theorem bigExp_c {w0 w : World} {σ : Sg} (h : Hold w0 w σ) {bz oz bx ox yb yo : Nat} {gz : Bool} {Z X Y : Nat} (hz : BNum σ bz oz gz Z) (hx : Num σ bx ox false X) (hy : Num σ yb yo false Y) (hX2 : 2 ≤ X) (hXW : X < WB) (hYW : Y < WB) (hXY : X ^ Y < WB ^ 22) :
    Calls Tryz.prog 100 #[.pointer (some ⟨bz, oz, none⟩), .pointer (some ⟨bx, ox, none⟩), .pointer (some ⟨yb, yo, none⟩)] w fun e w' => e = .returned (.pointer (some ⟨bz, oz, none⟩)) ∧ Hold w0 w' (put σ bz oz false (X ^ Y)) := by
  obtain ⟨fm, cm, hm⟩ := h.bmin hz
  have key := fun w2 (hc : Chg (w.setCell ⟨bz, oz + 2, none⟩ (.bool false)) w2 (fun _ => False)) => intExp_c (hm.keep hc) hz.num hx hy hX2 hXW hYW hXY
  replace key := Lib.hid key
  clear hz hx hy h hm hX2 hXW hYW hXY
  go_enter Tryz.func100, Tryz.ntmps100
  go_upto_region 2 with (fail)
  go_still_tail 9, (by kernel_rfl)
  change wpList _ _ _ _ _ (World.drew _)
  go_wp2_with fail
  with_reducible refine (key.out _ (by exact ⟨rfl, rfl, rfl, Nat.le_refl _, fun _ _ _ => rfl⟩)).mono ?_
  rintro e w1 ⟨rfl, h1⟩
  replace h1 := Lib.hid h1
  go_wp2
  go_ret
  exact ⟨rfl, h1.out⟩
end Go.Proofs.YtonepclpllelfaaGreatDoor

namespace Go.Proofs.YtonepclpllelfaaGreatDoor
open Go Go.RowKit
set_option maxRecDepth 20000 in
theorem bigSetH_c {w0 w : World} {σ : Sg} (h : Hold w0 w σ) {bz oz bx ox : Nat} {gz gx : Bool} {Z X : Nat} (hz : BNum σ bz oz gz Z) (hx : BNum σ bx ox gx X) (hX : (digs X).length ≤ 1000) :
    Calls Tryz.prog 44 #[.pointer (some ⟨bz, oz, none⟩), .pointer (some ⟨bx, ox, none⟩)] w fun e w' => e = .returned (.pointer (some ⟨bz, oz, none⟩)) ∧ Hold w0 w' (put σ bz oz gx X) := by
  obtain ⟨fm, cm, hm⟩ := h.bmin hz
  obtain ⟨_, cmx, _⟩ := h.bmin hx
  have key := fun w2 (hc : Chg (w.setCell ⟨bz, oz + 2, none⟩ (.bool false)) w2 (fun _ => False)) => intSetAny_c (hm.keep hc) hz.num hx.num hX
  replace key := Lib.hid key
  clear hz hx h hm hX
  go_enter Tryz.func44, Tryz.ntmps44
  go_upto_region 2 with (fail)
  go_still_tail 6, (by kernel_rfl)
  change wpList _ _ _ _ _ (World.drew _)
  go_wp2_with fail
  with_reducible refine (key.out _ (by exact ⟨rfl, rfl, rfl, Nat.le_refl _, fun _ _ _ => rfl⟩)).mono ?_
  rintro e w1 ⟨rfl, h1⟩
  replace h1 := Lib.hid h1
  go_wp2
  go_ret
  exact ⟨rfl, h1.out⟩
set_option maxRecDepth 20000 in
theorem bigAbs_c {w0 w : World} {σ : Sg} (h : Hold w0 w σ) {bz oz bx ox : Nat} {gz gx : Bool} {Z X : Nat} (hz : BNum σ bz oz gz Z) (hx : Num σ bx ox gx X) (hX : (digs X).length ≤ 1000) :
    Calls Tryz.prog 76 #[.pointer (some ⟨bz, oz, none⟩), .pointer (some ⟨bx, ox, none⟩)] w fun e w' => e = .returned (.pointer (some ⟨bz, oz, none⟩)) ∧ Hold w0 w' (put σ bz oz false X) := by
  obtain ⟨fm, cm, hm⟩ := h.bmin hz
  have key := fun w2 (hc : Chg (w.setCell ⟨bz, oz + 2, none⟩ (.bool false)) w2 (fun _ => False)) => intAbs_c (hm.keep hc) hz.num hx hX
  replace key := Lib.hid key
  clear hz hx h hm hX
  go_enter Tryz.func76, Tryz.ntmps76
  go_upto_region 2 with (fail)
  go_still_tail 6, (by kernel_rfl)
  change wpList _ _ _ _ _ (World.drew _)
  go_wp2_with fail
  with_reducible refine (key.out _ (by exact ⟨rfl, rfl, rfl, Nat.le_refl _, fun _ _ _ => rfl⟩)).mono ?_
  rintro e w1 ⟨rfl, h1⟩
  replace h1 := Lib.hid h1
  go_wp2
  go_ret
  exact ⟨rfl, h1.out⟩
theorem intSignH_c {w0 w : World} {σ : Sg} (h : Hold w0 w σ) {bx ox : Nat} {gx : Bool} {X : Nat} (hx : Num σ bx ox gx X) : Calls Tryz.prog 95 #[.pointer (some ⟨bx, ox, none⟩)] w fun e w' => e = .returned (.int .i64 (sgN gx X)) ∧ w = w' := by
  obtain ⟨v, s, p⟩ := h.op hx
  exact intSign_c w bx ox gx X v s p.c0 p.c1 p.nat
theorem bigSignH_c {w0 w : World} {σ : Sg} (h : Hold w0 w σ) {bx ox : Nat} {gx : Bool} {X : Nat} (hx : BNum σ bx ox gx X) : Calls Tryz.prog 71 #[.pointer (some ⟨bx, ox, none⟩)] w fun e w' => e = .returned (.int .i64 (sgN gx X)) ∧ w = w' := by
  obtain ⟨_, cm, _⟩ := h.bmin hx
  obtain ⟨v, s, p⟩ := h.op hx.num
  exact bigSign_c w bx ox gx X v s p.c0 p.c1 cm p.nat
set_option maxRecDepth 20000 in
theorem bigNeg_c {w0 w : World} {σ : Sg} (h : Hold w0 w σ) {bz oz bx ox : Nat} {gz gx : Bool} {Z X : Nat} (hz : BNum σ bz oz gz Z) (hx : BNum σ bx ox gx X) (hX : (digs X).length ≤ 1000) (hX0 : X ≠ 0) :
    Calls Tryz.prog 101 #[.pointer (some ⟨bz, oz, none⟩), .pointer (some ⟨bx, ox, none⟩)] w fun e w' => e = .returned (.pointer (some ⟨bz, oz, none⟩)) ∧ Hold w0 w' (put σ bz oz (!gx) X) := by
  obtain ⟨fm, cm, hm⟩ := h.bmin hz
  obtain ⟨_, cmx, _⟩ := h.bmin hx
  have ksg := intSignH_c h hx.num
  have hsg : ((sgN gx X) == 0) = false := by unfold sgN; rw [if_neg hX0]; cases gx <;> rfl
  have key := fun w2 (hc : Chg (w.setCell ⟨bz, oz + 2, none⟩ (.bool false)) w2 (fun _ => False)) => intNeg_c (hm.keep hc) hz.num hx.num hX hX0
  generalize sgN gx X = sg at hsg ksg
  replace key := Lib.hid key
  replace ksg := Lib.hid ksg
  clear hz hx h hm hX hX0
  go_enter Tryz.func101, Tryz.ntmps101
  go_wp2_with fail
  with_reducible refine ksg.out.mono ?_
  rintro e w' ⟨rfl, hw⟩
  obtain rfl := hw
  go_upto_region 2 with (fail)
  go_still_tail 6, (by kernel_rfl)
  change wpList _ _ _ _ _ (World.drew _)
  go_wp2_with fail
  with_reducible refine (key.out _ (by exact ⟨rfl, rfl, rfl, Nat.le_refl _, fun _ _ _ => rfl⟩)).mono ?_
  rintro e w1 ⟨rfl, h1⟩
  replace h1 := Lib.hid h1
  go_wp2
  go_ret
  exact ⟨rfl, h1.out⟩
theorem bigSetI_c {w0 w : World} {σ : Sg} (h : Hold w0 w σ) {bz oz : Nat} {gz : Bool} {Z : Nat} (hz : BNum σ bz oz gz Z) (n : Nat) (hn : n ≤ 9223372036854775807) :
    Calls Tryz.prog 77 #[.pointer (some ⟨bz, oz, none⟩), .int .i64 (n : Int)] w fun e w' => e = .returned (.pointer (some ⟨bz, oz, none⟩)) ∧ Hold w0 w' (put σ bz oz false n) := by
  obtain ⟨fm, cm, hm⟩ := h.bmin hz
  have key := intSetI_c hm hz.num n hn
  replace key := Lib.hid key
  clear hz h hm
  go_enter Tryz.func77, Tryz.ntmps77
  go_wp2_with fail
  with_reducible refine key.out.mono ?_
  rintro e w1 ⟨rfl, h1⟩
  replace h1 := Lib.hid h1
  go_wp2
  go_ret
  exact ⟨rfl, h1.out⟩
set_option maxRecDepth 20000 in
theorem bigCmpH_c {w0 w : World} {σ : Sg} (h : Hold w0 w σ) {bx ox yb yo : Nat} {X Y : Nat} (hx : BNum σ bx ox false X) (hy : BNum σ yb yo false Y) (hne : (⟨bx, ox, none⟩ : Addr) ≠ ⟨yb, yo, none⟩) :
    Calls Tryz.prog 74 #[.pointer (some ⟨bx, ox, none⟩), .pointer (some ⟨yb, yo, none⟩)] w fun e w' => e = .returned (.int .i64 (ordN X Y)) ∧ ∃ n, w' = w.drewN n := by
  obtain ⟨_, cmx, _⟩ := h.bmin hx
  obtain ⟨_, cmy, _⟩ := h.bmin hy
  have key := fun w2 (hc : Chg w w2 (fun _ => False)) => intCmp_c (h.keep hc) hx.num hy.num hne
  replace key := Lib.hid key
  generalize ordN X Y = r at key ⊢
  clear h hx hy hne
  go_enter Tryz.func74, Tryz.ntmps74
  go_upto_region 1 with (fail)
  go_quiet (fail)
  go_upto_region 5 with (fail)
  go_quiet ((go_at_call 102; exact quietAdd (key.out _ (by exact ⟨rfl, rfl, rfl, Nat.le_refl _, fun _ _ _ => rfl⟩))))
  go_wp2
  go_ret
  exact ⟨rfl, by first | exact ⟨_, rfl⟩ | exact ⟨_, drewN_drewN _ _ _⟩ | exact ⟨_, (drewN_drewN _ _ _).symm⟩⟩
theorem newBig_c {w0 w : World} {σ : Sg} (h : Hold w0 w σ) (n : Nat) (hn : n ≤ 9223372036854775807) : Calls Tryz.prog 97 #[.int .i64 (n : Int)] w fun e w' => ∃ k, e = .returned (.pointer (some ⟨k, 0, none⟩)) ∧ w.heap.size ≤ k ∧ Hold w0 w' (upd σ k (big false n)) := by
  have h1 := h.newBig
  have key := intSetI_c h1 (num_big (upd_eq _ _ _)) n hn
  rw [put_big (upd_eq _ _ _), upd_upd] at key
  replace key := Lib.hid key
  clear h h1
  go_enter Tryz.func97, Tryz.ntmps97
  go_wp2_with fail
  with_reducible refine key.out.mono ?_
  rintro e w1 ⟨rfl, h1⟩
  replace h1 := Lib.hid h1
  go_wp2
  go_ret
  exact ⟨_, rfl, Nat.le_refl _, h1.out⟩
theorem bigOne_c {w0 w : World} {σ : Sg} (h : Hold w0 w σ) : Calls Tryz.prog 89 #[] w fun e w' => ∃ k, e = .returned (.pointer (some ⟨k, 0, none⟩)) ∧ w.heap.size ≤ k ∧ Hold w0 w' (upd σ k (big false 1)) := by
  have key : Calls Tryz.prog 97 #[.int .i64 1] w _ := newBig_c h 1 (by omega)
  replace key := Lib.hid key
  clear h
  go_enter Tryz.func89, Tryz.ntmps89
  go_wp2_with fail
  with_reducible refine key.out.mono ?_
  rintro e w1 ⟨k, rfl, hk, h1⟩
  replace h1 := Lib.hid h1
  go_wp2
  go_ret
  exact ⟨k, rfl, hk, h1.out⟩
theorem bigTen_c {w0 w : World} {σ : Sg} (h : Hold w0 w σ) : Calls Tryz.prog 84 #[] w fun e w' => ∃ k, e = .returned (.pointer (some ⟨k, 0, none⟩)) ∧ w.heap.size ≤ k ∧ Hold w0 w' (upd σ k (big false 10)) := by
  have key : Calls Tryz.prog 97 #[.int .i64 10] w _ := newBig_c h 10 (by omega)
  replace key := Lib.hid key
  clear h
  go_enter Tryz.func84, Tryz.ntmps84
  go_wp2_with fail
  with_reducible refine key.out.mono ?_
  rintro e w1 ⟨k, rfl, hk, h1⟩
  replace h1 := Lib.hid h1
  go_wp2
  go_ret
  exact ⟨k, rfl, hk, h1.out⟩
theorem bigFive_c {w0 w : World} {σ : Sg} (h : Hold w0 w σ) : Calls Tryz.prog 140 #[] w fun e w' => ∃ k, e = .returned (.pointer (some ⟨k, 0, none⟩)) ∧ w.heap.size ≤ k ∧ Hold w0 w' (upd σ k (big false 5)) := by
  have key : Calls Tryz.prog 97 #[.int .i64 5] w _ := newBig_c h 5 (by omega)
  replace key := Lib.hid key
  clear h
  go_enter Tryz.func140, Tryz.ntmps140
  go_wp2_with fail
  with_reducible refine key.out.mono ?_
  rintro e w1 ⟨k, rfl, hk, h1⟩
  replace h1 := Lib.hid h1
  go_wp2
  go_ret
  exact ⟨k, rfl, hk, h1.out⟩
end Go.Proofs.YtonepclpllelfaaGreatDoor

namespace Go.Proofs.YtonepclpllelfaaGreatDoor
open Go Go.RowKit

theorem ten_WB {n : Nat} (h : n ≤ 400) : 10 ^ n < WB ^ 22 := by
  refine Nat.lt_of_le_of_lt (ten_le h) ?_
  rw [WB_eq]
  decide +kernel
theorem n_WB {n : Nat} (h : n ≤ 9223372036854775807) : n < WB := by rw [WB_eq]; omega
theorem BNum.lt {w0 w : World} {σ : Sg} (h : Hold w0 w σ) {b o : Nat} {g : Bool} {N : Nat} (hn : BNum σ b o g N) : b < w.heap.size := by
  obtain ⟨it, h1, _⟩ := hn
  exact (h.lt h1).2
theorem Num.upd {σ : Sg} {b o k : Nat} {g : Bool} {N : Nat} {it : It} (hn : Num σ b o g N) (hk : σ k = none) : Num (upd σ k it) b o g N := by
  obtain ⟨jt, h1, h2⟩ := hn
  exact ⟨jt, by rw [upd_ne _ _ (by rintro rfl; rw [hk] at h1; cases h1)]; exact h1, h2⟩
theorem BNum.upd {σ : Sg} {b o k : Nat} {g : Bool} {N : Nat} {it : It} (hn : BNum σ b o g N) (hk : σ k = none) : BNum (upd σ k it) b o g N := by
  obtain ⟨jt, h1, h2, h3⟩ := hn
  exact ⟨jt, by rw [upd_ne _ _ (by rintro rfl; rw [hk] at h1; cases h1)]; exact h1, h2, h3⟩

theorem setPow_c {w0 w : World} {σ : Sg} (h : Hold w0 w σ) {bz oz : Nat} {gz : Bool} {Z : Nat} (hz : BNum σ bz oz gz Z) (n : Nat) (hn : n ≤ 400) :
    Calls Tryz.prog 103 #[.pointer (some ⟨bz, oz, none⟩), .int .i64 (n : Int)] w fun e w' => e = .returned (.tuple #[]) ∧ Hold w0 w' (put σ bz oz false (10 ^ n)) := by
  have hf := h.fresh (k := w.heap.size) (Nat.le_refl _)
  have h1 := h.newBig
  have k1 := bigSetI_c h1 (bnum_big (upd_eq _ _ _)) n (by omega)
  rw [put_big (upd_eq _ _ _), upd_upd] at k1
  have hs := World.size_alloc w (.cells #[.bool false, .slice none 0 0, .bool false] 53 (0, 0))
  replace k1 := Lib.hid k1
  replace h := Lib.hid h
  replace hz := Lib.hid hz
  replace hf := Lib.hid hf
  clear h1 hs
  go_enter Tryz.func103, Tryz.ntmps103
  go_wp2_with fail
  with_reducible refine k1.out.mono ?_
  rintro e w1 ⟨rfl, h1⟩
  have k2 := bigTen_c h1
  replace k2 := Lib.hid k2
  replace h1 := Lib.hid h1
  go_wp2_with fail
  with_reducible refine k2.out.mono ?_
  rintro e w2 ⟨k, rfl, hk, h2⟩
  have hf2 := h1.out.fresh hk
  have hlt : w.heap.size < w1.heap.size := (h1.out.lt (upd_eq _ _ _)).2
  have hne : k ≠ w.heap.size := by omega
  have hfk := hf2
  rw [upd_ne _ _ hne] at hfk
  have k3 := bigExp_c h2 ((hz.out.upd hf.out).upd hf2) (num_big (upd_eq _ _ _)) (num_big (by rw [upd_ne _ _ hne.symm]; exact upd_eq _ _ _)) (by omega : 2 ≤ 10) (n_WB (by omega)) (n_WB (by omega)) (ten_WB hn)
  replace k3 := Lib.hid k3
  replace h2 := Lib.hid h2
  clear hf2 hlt hne
  go_wp2_with fail
  with_reducible refine k3.out.mono ?_
  rintro e w3 ⟨rfl, h3⟩
  have hfin := h3.le (((Le.refl σ).skip hf.out).skip hfk |>.put bz oz false (10 ^ n) (hz.out.choose_spec.1))
  replace hfin := Lib.hid hfin
  clear h3
  go_wp2
  go_end0
  exact ⟨rfl, hfin.out⟩
theorem tableExp_c {w0 w : World} {σ : Sg} (h : Hold w0 w σ) {bz oz : Nat} {gz : Bool} {Z : Nat} (hz : BNum σ bz oz gz Z) (n : Nat) (hn : n ≤ 400) :
    Calls Tryz.prog 75 #[.int .i64 (n : Int), .pointer (some ⟨bz, oz, none⟩)] w fun e w' => e = .returned (.pointer (some ⟨bz, oz, none⟩)) ∧ Hold w0 w' (put σ bz oz false (10 ^ n)) := by
  have key := setPow_c h hz n hn
  replace key := Lib.hid key
  clear h hz
  go_enter Tryz.func75, Tryz.ntmps75
  go_wp2_with fail
  with_reducible refine key.out.mono ?_
  rintro e w1 ⟨rfl, h1⟩
  replace h1 := Lib.hid h1
  go_wp2
  go_ret
  exact ⟨rfl, h1.out⟩

set_option maxRecDepth 20000 in
theorem setCoef_c {w0 w : World} {σ : Sg} (h : Hold w0 w σ) {d : Nat} {f e : Int} {n g : Bool} {N : Nat} (hd : σ d = some (dec f n e g N)) (m : Nat) (hm : m ≤ 9223372036854775807) :
    Calls Tryz.prog 58 #[.pointer (some ⟨d, 0, none⟩), .int .i64 (m : Int)] w fun E w' => E = .returned (.tuple #[]) ∧ Hold w0 w' (upd σ d (dec 0 false e false m)) := by
  have d1 := h.c1 hd
  have f1 := h.fz hd 1
  have h1 := h.setSign hd false
  have k1 := bigSetI_c h1 (bnum_dec (upd_eq _ _ _)) m hm
  rw [put_dec (upd_eq _ _ _), upd_upd] at k1
  have e0 : decide ((m : Int) < 0) = false := by simp
  have hlm : (digs m).length ≤ 1000 := Nat.le_trans (digs_len_le.2 (show m < WB ^ 1 by rw [Nat.pow_one]; exact n_WB hm)) (by omega)
  replace k1 := Lib.hid k1
  clear h h1
  go_enter Tryz.func58, Tryz.ntmps58
  go_wp2_with fail
  with_reducible refine k1.out.mono ?_
  rintro E w1 ⟨rfl, h2⟩
  have k2 := fun w2 (hc : Chg w1 w2 (fun _ => False)) => bigAbs_c (h2.keep hc) (bnum_dec (upd_eq _ _ _)) (num_dec (upd_eq _ _ _)) hlm
  rw [put_dec (upd_eq _ _ _), upd_upd] at k2
  replace k2 := Lib.hid k2
  clear h2 d1 f1
  go_upto_region 2 with (fail)
  go_still_tail 6, (by kernel_rfl)
  change wpList _ _ _ _ _ (World.drew _)
  go_wp2_with fail
  with_reducible refine (k2.out _ (by exact ⟨rfl, rfl, rfl, Nat.le_refl _, fun _ _ _ => rfl⟩)).mono ?_
  rintro E w3 ⟨rfl, h3⟩
  have c0 := h3.c0 (upd_eq _ _ _)
  have f0 := h3.fz (upd_eq _ _ _) 0
  have hfin := h3.setForm (upd_eq _ _ _) 0
  rw [upd_upd] at hfin
  replace hfin := Lib.hid hfin
  clear h3
  go_wp2
  go_end0
  exact ⟨rfl, hfin.out⟩
theorem setFin_c {w0 w : World} {σ : Sg} (h : Hold w0 w σ) {d : Nat} {f e : Int} {n g : Bool} {N : Nat} (hd : σ d = some (dec f n e g N)) (m : Nat) (hm : m ≤ 9223372036854775807) (e' : Int) :
    Calls Tryz.prog 35 #[.pointer (some ⟨d, 0, none⟩), .int .i64 (m : Int), .int .i32 e'] w fun E w' => E = .returned (.pointer (some ⟨d, 0, none⟩)) ∧ Hold w0 w' (upd σ d (dec 0 false e' false m)) := by
  have k1 := setCoef_c h hd m hm
  replace k1 := Lib.hid k1
  clear h hd
  go_enter Tryz.func35, Tryz.ntmps35
  go_wp2_with fail
  with_reducible refine k1.out.mono ?_
  rintro E w1 ⟨rfl, h2⟩
  have c2 := h2.c2 (upd_eq _ _ _)
  have f2 := h2.fz (upd_eq _ _ _) 2
  have hfin := h2.setExp (upd_eq _ _ _) e'
  rw [upd_upd] at hfin
  replace hfin := Lib.hid hfin
  clear h2
  go_wp2
  go_ret
  exact ⟨rfl, hfin.out⟩
theorem newDec_c {w0 w : World} {σ : Sg} (h : Hold w0 w σ) (m : Nat) (hm : m ≤ 9223372036854775807) (e' : Int) :
    Calls Tryz.prog 38 #[.int .i64 (m : Int), .int .i32 e'] w fun E w' => ∃ k, E = .returned (.pointer (some ⟨k, 0, none⟩)) ∧ w.heap.size ≤ k ∧ Hold w0 w' (upd σ k (dec 0 false e' false m)) := by
  have h1 := h.newDec 0 0 false
  have k1 := setFin_c h1 (upd_eq _ _ _) m hm e'
  rw [upd_upd] at k1
  replace k1 := Lib.hid k1
  clear h h1
  go_enter Tryz.func38, Tryz.ntmps38
  go_wp2_with fail
  with_reducible refine k1.out.mono ?_
  rintro E w1 ⟨rfl, h2⟩
  replace h2 := Lib.hid h2
  go_wp2
  go_ret
  exact ⟨_, rfl, Nat.le_refl _, h2.out⟩
theorem decHalf_c {w0 w : World} {σ : Sg} (h : Hold w0 w σ) : Calls Tryz.prog 40 #[] w fun E w' => ∃ k, E = .returned (.pointer (some ⟨k, 0, none⟩)) ∧ w.heap.size ≤ k ∧ Hold w0 w' (upd σ k (dec 0 false (-1) false 5)) := by
  have key : Calls Tryz.prog 38 #[.int .i64 5, .int .i32 (-1)] w _ := newDec_c h 5 (by omega) (-1)
  replace key := Lib.hid key
  clear h
  go_enter Tryz.func40, Tryz.ntmps40
  go_wp2_with fail
  with_reducible refine key.out.mono ?_
  rintro e w1 ⟨k, rfl, hk, h1⟩
  replace h1 := Lib.hid h1
  go_wp2
  go_ret
  exact ⟨k, rfl, hk, h1.out⟩
end Go.Proofs.YtonepclpllelfaaGreatDoor

namespace Go.Proofs.YtonepclpllelfaaGreatDoor
open Go Go.RowKit

/-- A text of so many figures. -/
def StrRes (w w' : World) (e : Ending) (N : Nat) : Prop := ∃ str : ByteArray, e = .returned (.string str) ∧ str.size = figs N ∧ Chg w w' (fun _ => False)

theorem strOfNums_size (xs : List Int) : (strOfNums xs).size = xs.length := by
  unfold strOfNums
  simp [ByteArray.size]

theorem TextRes.conv {w0 w w1 : World} {e : Ending} {N : Nat} (h : TextRes w w1 e N) (hc : Chg w0 w (fun _ => False)) : ∃ bs i cap str, e = .returned (.slice (some ⟨bs, i, none⟩) (figs N) cap) ∧
    (convert 100 9 (.slice (some ⟨bs, i, none⟩) (figs N) cap)).run Tryz.prog w1 = .ok (.string str) w1 ∧ str.size = figs N ∧ Chg w0 w1 (fun _ => False) := by
  obtain ⟨bs, i, D, cap, he, hD, hi, hch⟩ := h
  have hcv := run_convert_bytes_arg (P := Tryz.prog) w1 100 5 Tryz.underlying100 Tryz.underlying5 bs i (figs N) cap (((D.drop i).take (figs N)).map (fun x : Nat => (x : Int))) (by simp; omega) (by
    intro j hj
    rw [hD.cell (by omega), List.getD_eq_getElem?_getD, List.getElem?_map, List.getElem?_take_of_lt hj, List.getElem?_drop, get_nth (by omega)]
    rfl) 9 Tryz.underlying9
  refine ⟨bs, i, cap, _, he, hcv, ?_, hc.trans (hch.mono (fun _ _ h => h.elim))⟩
  rw [strOfNums_size]; simp; omega

set_option maxRecDepth 20000 in
set_option maxHeartbeats 1000000 in
theorem intText_c {w0 w : World} {σ : Sg} (h : Hold w0 w σ) {bx ox : Nat} {N : Nat} (hx : Num σ bx ox false N) (h0 : N ≠ 0) (hb : nbits N ≤ 128) :
    Calls Tryz.prog 149 #[.pointer (some ⟨bx, ox, none⟩), .int .i64 10] w fun e w' => StrRes w w' e N := by
  obtain ⟨v, s, p⟩ := h.op hx
  have ki := fun w2 (hc : Chg w w2 (fun _ => False)) => itoa_c w2 v N s (h.keep hc).glob (p.nat.chg hc (fun _ _ h => h)) h0 hb
  have x0 := p.c0
  have x1 := p.c1
  obtain ⟨pv, pc, rfl, _, _⟩ := p.nat.shape
  replace ki := Lib.hid ki
  clear h p hx h0 hb
  go_enter Tryz.func149, Tryz.ntmps149
  go_upto_region 3 with (fail)
  go_cut [4] (fun s4 wx => ∃ str : ByteArray, s4 = .string str ∧ str.size = figs N ∧ Chg w wx (fun _ => False))
  case first =>
    go_region_with ((go_at_call 171; refine (ki.out _ (by exact ⟨rfl, rfl, rfl, Nat.le_refl _, fun _ _ _ => rfl⟩)).mono ?_; rintro e w1 hres; obtain ⟨bs, i, cap, str, rfl, hcv, hsz, hch'⟩ := hres.conv (w0 := w) (by exact ⟨rfl, rfl, rfl, Nat.le_refl _, fun _ _ _ => rfl⟩); replace hsz := Lib.hid hsz; replace hch' := Lib.hid hch'; clear hres))
    all_goals
      go_wp2_with fail
      go_meet
      exact ⟨str, rfl, hsz.out, hch'.out⟩
  case rest =>
    obtain ⟨str, rfl, hsz, hch⟩ := hcut
    replace hsz := Lib.hid hsz
    replace hch := Lib.hid hch
    go_wp2
    go_ret
    exact ⟨str, rfl, hsz.out, hch.out⟩
theorem intString_c {w0 w : World} {σ : Sg} (h : Hold w0 w σ) {bx ox : Nat} {N : Nat} (hx : Num σ bx ox false N) (h0 : N ≠ 0) (hb : nbits N ≤ 128) :
    Calls Tryz.prog 130 #[.pointer (some ⟨bx, ox, none⟩)] w fun e w' => StrRes w w' e N := by
  have k := intText_c h hx h0 hb
  replace k := Lib.hid k
  clear h hx h0 hb
  go_enter Tryz.func130, Tryz.ntmps130
  go_wp2_with fail
  with_reducible refine k.out.mono ?_
  rintro e w1 ⟨str, rfl, hs, hc⟩
  replace hs := Lib.hid hs
  replace hc := Lib.hid hc
  go_wp2
  go_ret
  exact ⟨str, rfl, hs.out, hc.out⟩
theorem bigString_c {w0 w : World} {σ : Sg} (h : Hold w0 w σ) {bx ox : Nat} {N : Nat} (hx : Num σ bx ox false N) (h0 : N ≠ 0) (hb : nbits N ≤ 128) :
    Calls Tryz.prog 99 #[.pointer (some ⟨bx, ox, none⟩)] w fun e w' => StrRes w w' e N := by
  have k := intString_c h hx h0 hb
  replace k := Lib.hid k
  clear h hx h0 hb
  go_enter Tryz.func99, Tryz.ntmps99
  go_wp2_with fail
  with_reducible refine k.out.mono ?_
  rintro e w1 ⟨str, rfl, hs, hc⟩
  replace hs := Lib.hid hs
  replace hc := Lib.hid hc
  go_wp2
  go_ret
  exact ⟨str, rfl, hs.out, hc.out⟩
end Go.Proofs.YtonepclpllelfaaGreatDoor

namespace Go.Proofs.YtonepclpllelfaaGreatDoor
open Go Go.RowKit

/-- A field that bears no number is stored. -/
theorem Hold.setField {w0 w : World} {σ : Sg} (h : Hold w0 w σ) {b i : Nat} {it it' : It} {x : Value} (hb : σ b = some it) (hk : it.k < 4) (hn : ∀ o, it'.num o = it.num o) (hk' : it'.k = it.k)
    (hx : ∀ v, (it.cells v).setIfInBounds i x = it'.cells v) : Hold w0 (w.setCell ⟨b, i, none⟩ x) (upd σ b it') := by
  obtain ⟨st, h⟩ := h
  have hc := chg_setB w b i x
  have hold := (h.it b it hb).2
  obtain ⟨v, h1, h2⟩ : ∃ v : Nat → Value, w.heap[b]? = some (.cells (it.cells v) it.ty (0, 0)) ∧ ∀ o g N, it.num o = some (g, N) → IsNat w (v o) N (st b o) := by
    rcases hold with ⟨_, v, h1, h2⟩ | ⟨h1, _⟩
    · exact ⟨v, h1, h2⟩
    · omega
  have hty : it'.ty = it.ty := by unfold It.ty; rw [hk']
  have old : ∀ c p g1 N1, Num (upd σ b it') c p g1 N1 → Num σ c p g1 N1 := by
    rintro c p g1 N1 ⟨jt, hj, hjn⟩
    by_cases e : c = b
    · subst e
      rw [upd_eq] at hj; cases hj
      exact ⟨it, hb, by rw [← hn]; exact hjn⟩
    · rw [upd_ne _ _ e] at hj
      exact ⟨jt, hj, hjn⟩
  refine ⟨st, h.chg.trans (hc.mono (fun k _ e => .inr (by subst e; exact (h.it _ _ hb).1))), h.glob, ?_, ?_, ?_⟩
  · intro c jt hj
    by_cases e : c = b
    · subst e
      rw [upd_eq] at hj; cases hj
      refine ⟨(h.it _ _ hb).1, .inl ⟨by omega, v, ?_, ?_⟩⟩
      · have h3 := setB (i := i) (v := x) h1
        rw [hx, ← hty] at h3
        exact h3
      · intro o g1 N1 ho
        rw [hn] at ho
        refine (h2 o g1 N1 ho).setCell c i x (fun e => ?_)
        have := (h.sto c o g1 N1 c ⟨it, hb, ho⟩ e).2
        rw [hb] at this; cases this
    · rw [upd_ne _ _ e] at hj
      refine ⟨(h.it _ _ hj).1, (h.it _ _ hj).2.chg hc e ?_⟩
      rintro p g1 N1 k hp hk rfl
      have := (h.sto c p g1 N1 _ ⟨jt, hj, hp⟩ hk).2
      rw [hb] at this; cases this
  · intro c p g1 N1 k hcn hk
    have h3 := h.sto c p g1 N1 k (old _ _ _ _ hcn) hk
    exact ⟨h3.1, by rw [upd_ne _ _ (by rintro rfl; rw [hb] at h3; cases h3.2)]; exact h3.2⟩
  · intro c p g1 N1 c' p' g2 N2 k h3 h4 hk hk'
    exact h.inj c p g1 N1 c' p' g2 N2 k (old _ _ _ _ h3) (old _ _ _ _ h4) hk hk'
theorem bnum_tv1 {σ : Sg} {b : Nat} {d : Int} {g g2 : Bool} {N N2 : Nat} (h : σ b = some (tv d g N g2 N2)) : BNum σ b 1 g N := ⟨_, h, rfl, Nat.ne_of_beq_eq_false rfl⟩
theorem bnum_tv4 {σ : Sg} {b : Nat} {d : Int} {g g2 : Bool} {N N2 : Nat} (h : σ b = some (tv d g N g2 N2)) : BNum σ b 4 g2 N2 := ⟨_, h, rfl, Nat.ne_of_beq_eq_false rfl⟩
theorem put_tv1 {σ : Sg} {b : Nat} {d : Int} {g g2 : Bool} {N N2 : Nat} (h : σ b = some (tv d g N g2 N2)) (g' : Bool) (N' : Nat) : put σ b 1 g' N' = upd σ b (tv d g' N' g2 N2) := put_upd h 1 g' N'
theorem put_tv4 {σ : Sg} {b : Nat} {d : Int} {g g2 : Bool} {N N2 : Nat} (h : σ b = some (tv d g N g2 N2)) (g' : Bool) (N' : Nat) : put σ b 4 g' N' = upd σ b (tv d g N g' N') := put_upd h 4 g' N'
theorem Hold.tvAt {w0 w : World} {σ : Sg} (h : Hold w0 w σ) {b : Nat} {d : Int} {g g2 : Bool} {N N2 : Nat} (hb : σ b = some (tv d g N g2 N2)) : w.cell? ⟨b, 0, none⟩ = some (.int .i64 d) ∧ w.frozen? ⟨b, 0, none⟩ = false ∧ ∀ d', Hold w0 (w.setCell ⟨b, 0, none⟩ (.int .i64 d')) (upd σ b (tv d' g N g2 N2)) := by
  have h' := h
  obtain ⟨st, h⟩ := h
  obtain ⟨v, h1, _⟩ := (h.it b _ hb).2.num (o := 1) (g := g) (N := N) rfl
  refine ⟨cellB h1 rfl, frozenB h1 _, fun d' => h'.setField hb (Nat.le_of_ble_eq_true rfl) (fun o => ?_) rfl (fun v => rfl)⟩
  unfold It.num
  rfl

set_option maxRecDepth 20000 in
set_option maxHeartbeats 1000000 in
theorem intLsh_c {w0 w : World} {σ : Sg} (h : Hold w0 w σ) {bz oz : Nat} (hz : Num σ bz oz false 1) (s : Nat) (hs : s ≤ 127) :
    Calls Tryz.prog 129 #[.pointer (some ⟨bz, oz, none⟩), .pointer (some ⟨bz, oz, none⟩), .int .u64 (s : Int)] w fun e w' => e = .returned (.pointer (some ⟨bz, oz, none⟩)) ∧ Hold w0 w' (put σ bz oz false (2 ^ s)) := by
  obtain ⟨vz, sz, pz⟩ := h.op hz
  have hm : ∀ w2, Chg w w2 (fun _ => False) → Calls Tryz.prog 148 #[vz, vz, .int .u64 (s : Int)] w2 fun e w' => ∃ r, e = .returned r ∧ NatRes w2 w' sz r (2 ^ s) := by
    intro w2 hc
    have hn := pz.nat.chg hc (fun _ _ h => h)
    have e1d := digs_word (x := 1) (by rw [WB_eq]; omega) (by omega)
    obtain ⟨b, cap, C, hbb, hv, _⟩ := hn.pos (by omega)
    rw [e1d] at hv
    subst hbb hv
    exact lsh1_c w2 b cap hn s hs
  have z0 := pz.c0
  have z1 := pz.c1
  have f0 := pz.f0
  obtain ⟨pvz, pcz, rfl, _, _⟩ := pz.nat.shape
  replace h := Lib.hid h
  replace hz := Lib.hid hz
  replace pz := Lib.hid pz
  replace hm := Lib.hid hm
  clear hs
  go_enter Tryz.func129, Tryz.ntmps129
  go_upto_region 1 with (fail)
  go_cut [17] (fun _ wx => Hold w0 wx (put σ bz oz false (2 ^ s)))
  case first =>
    go_region_with ((go_at_call 148; refine (hm.out _ (by exact ⟨rfl, rfl, rfl, Nat.le_refl _, fun _ _ _ => rfl⟩)).mono ?_; rintro e w1 ⟨r, rfl, hr⟩; obtain ⟨g1, g3, hH, pr, cr, rfl⟩ := pz.out.stored hz.out (by exact ⟨rfl, rfl, rfl, Nat.le_refl _, fun _ _ _ => rfl⟩) (by rfl) hr; replace hH := Lib.hid hH))
    all_goals
      go_wp2_with fail
      go_meet
      exact hH.out
  case rest =>
    clear z0 z1 f0
    obtain ⟨p, c, z1, z0, fz, hfin⟩ := hcut.fin hz.out
    have hfin := hfin false
    replace hfin := Lib.hid hfin
    clear hcut pz h hm
    go_wp2
    go_ret
    exact ⟨rfl, hfin.out⟩
set_option maxRecDepth 20000 in
theorem bigLsh_c {w0 w : World} {σ : Sg} (h : Hold w0 w σ) {bz oz : Nat} (hz : BNum σ bz oz false 1) (s : Nat) (hs : s ≤ 127) :
    Calls Tryz.prog 98 #[.pointer (some ⟨bz, oz, none⟩), .pointer (some ⟨bz, oz, none⟩), .int .u64 (s : Int)] w fun e w' => e = .returned (.pointer (some ⟨bz, oz, none⟩)) ∧ Hold w0 w' (put σ bz oz false (2 ^ s)) := by
  obtain ⟨fm, cm, hm⟩ := h.bmin hz
  have key := fun w2 (hc : Chg (w.setCell ⟨bz, oz + 2, none⟩ (.bool false)) w2 (fun _ => False)) => intLsh_c (hm.keep hc) hz.num s hs
  replace key := Lib.hid key
  clear hz h hm hs
  go_enter Tryz.func98, Tryz.ntmps98
  go_upto_region 2 with (fail)
  go_still_tail 7, (by kernel_rfl)
  change wpList _ _ _ _ _ (World.drew _)
  go_wp2_with fail
  with_reducible refine (key.out _ (by exact ⟨rfl, rfl, rfl, Nat.le_refl _, fun _ _ _ => rfl⟩)).mono ?_
  rintro e w1 ⟨rfl, h1⟩
  replace h1 := Lib.hid h1
  go_wp2
  go_ret
  exact ⟨rfl, h1.out⟩

theorem figs_two (k : Nat) (hk : k ≤ 127) : figs (2 ^ k) ≤ 40 := by
  refine (figs_le_iff (by omega)).2 (Nat.lt_of_le_of_lt (Nat.pow_le_pow_right (by omega) hk) ?_)
  decide +kernel

set_option maxRecDepth 20000 in
set_option maxHeartbeats 2000000 in
theorem digitsRow_c {w0 w : World} {σ : Sg} (h : Hold w0 w σ) (i : Nat) (hi1 : 1 ≤ i) (hi : i ≤ 128) :
    Calls Tryz.prog 73 #[.int .i64 (i : Int)] w fun e w' => ∃ t, e = .returned (.pointer (some ⟨t, 0, none⟩)) ∧ w.heap.size ≤ t ∧ Hold w0 w' (upd σ t (tv (figs (2 ^ (i - 1)) : Int) false (10 ^ figs (2 ^ (i - 1))) true (10 ^ figs (2 ^ (i - 1))))) := by
  have hbits : nbits (2 ^ (i - 1)) ≤ 128 := nbits_le_iff.2 (Nat.pow_lt_pow_right (by omega) (by omega))
  have hfb := figs_two (i - 1) (by omega)
  have hfp := figs_pos (2 ^ (i - 1))
  have h20 : 2 ^ (i - 1) ≠ 0 := Nat.ne_of_gt (Nat.pow_pos (by omega))
  obtain ⟨d, hd⟩ : ∃ d, figs (2 ^ (i - 1)) = d := ⟨_, rfl⟩
  rw [hd] at hfb hfp ⊢
  obtain ⟨s, rfl⟩ : ∃ s, i = s + 1 := ⟨i - 1, by omega⟩
  rw [Nat.add_sub_cancel] at hd hbits h20
  have e0 : (((s + 1 : Nat) : Int) == 0) = false := int_eq0 (by omega)
  have e1 : IntKind.i64.wrap (((s + 1 : Nat) : Int) - 1) = (s : Int) := by rw [show (((s + 1 : Nat) : Int) - 1) = (s : Int) by omega]; exact IntWalk.i64_in _ (by omega)
  have e2 : ((s + 1 : Nat) : Int) - 1 = (s : Int) := by omega
  have e3 : IntKind.u64.wrap (s : Int) = (s : Int) := IntWalk.u64_in _ (by omega)
  have hfr : ∀ k, w.heap.size ≤ k → σ k = none := fun k hk => h.fresh hk
  have h1 := h.newTv 0
  have ht1 : (upd σ w.heap.size (tv 0 false 0 false 0)) w.heap.size = some (tv 0 false 0 false 0) := upd_eq _ _ _
  have hsz : w.heap.size < (w.alloc (.cells #[.int .i64 0, .bool false, .slice none 0 0, .bool false, .bool false, .slice none 0 0, .bool false] 121 (0, 0))).heap.size := (h1.lt ht1).2
  have k1 : Calls Tryz.prog 97 #[.int .i64 1] _ _ := newBig_c h1 1 (by omega)
  obtain ⟨t, ht⟩ : ∃ t, w.heap.size = t := ⟨_, rfl⟩
  rw [ht] at hfr ht1 hsz k1
  replace k1 := Lib.hid k1
  replace hd := Lib.hid hd
  replace hfr := Lib.hid hfr
  replace ht1 := Lib.hid ht1
  replace hbits := Lib.hid hbits
  replace h20 := Lib.hid h20
  have ht' := ht
  replace ht' := Lib.hid ht'
  clear h h1
  go_enter Tryz.func73, Tryz.ntmps73
  go_wp2_with fail
  clear ht
  with_reducible refine k1.out.mono ?_
  rintro e w1 ⟨k, rfl, hk, h1⟩
  have hkt : k ≠ t := by omega
  have h1k : upd (upd σ t (tv 0 false 0 false 0)) k (big false 1) k = some (big false 1) := upd_eq _ _ _
  have k2 := bigLsh_c h1 (bnum_big h1k) s (by omega)
  rw [put_big h1k, upd_upd] at k2
  clear h1 h1k
  replace k2 := Lib.hid k2
  go_wp2_with fail
  with_reducible refine k2.out.mono ?_
  rintro e w2 ⟨rfl, h2⟩
  have k3 := bigString_c h2 (num_big (upd_eq _ _ _)) h20.out hbits.out
  have ht2 : upd (upd σ t (tv 0 false 0 false 0)) k (big false (2 ^ s)) t = some (tv 0 false 0 false 0) := by rw [upd_ne _ _ (Ne.symm hkt)]; exact ht1.out
  replace k3 := Lib.hid k3
  replace ht2 := Lib.hid ht2
  replace h2 := Lib.hid h2
  replace hfb := Lib.hid hfb
  replace hfp := Lib.hid hfp
  go_wp2_with fail
  with_reducible refine k3.out.mono ?_
  rintro e w3 ⟨str, rfl, hstr, hc3⟩
  have h3 := h2.out.keep hc3
  rw [hd.out] at hstr
  obtain ⟨c0, f0, hset⟩ := h3.tvAt ht2.out
  replace hset := hset (d : Int)
  rw [upd_swap _ _ _ (Ne.symm hkt), upd_upd, upd_swap _ _ _ hkt] at hset
  have hlt := (h3.lt ht2.out).2
  have hlk := (h3.lt (upd_eq _ _ _)).2
  have hmem : (w3.setCell ⟨t, 0, none⟩ (.int .i64 (d : Int))).heap.size = w3.heap.size := World.size_setCell _ _ _
  have h4 := hset.newBig
  rw [hmem] at h4
  obtain ⟨m, hm⟩ : ∃ m, w3.heap.size = m := ⟨_, rfl⟩
  rw [hm] at hlt hlk h4
  have hmt : m ≠ t := by omega
  have hmk : m ≠ k := by omega
  have hfm : σ m = none := hfr.out m (by omega)
  have hfk : σ k = none := hfr.out k (by omega)
  have hf : σ t = none := hfr.out t (Nat.le_refl _)
  clear hfr
  generalize hτ : upd (upd σ t (tv (d : Int) false 0 false 0)) k (big false (2 ^ s)) = τ at h4
  have htt : τ t = some (tv (d : Int) false 0 false 0) := by rw [← hτ, upd_ne _ _ (Ne.symm hkt), upd_eq]
  have hle : Le σ τ := by rw [← hτ]; exact Le.skip hfk (Le.skip hf (Le.refl _))
  have ht4 : upd τ m (big false 0) t = some (tv (d : Int) false 0 false 0) := by rw [upd_ne _ _ (Ne.symm hmt)]; exact htt
  have k5 : Calls Tryz.prog 77 #[.pointer (some ⟨t, 1, none⟩), .int .i64 10] _ _ := bigSetI_c h4 (bnum_tv1 ht4) 10 (by omega)
  rw [put_tv1 ht4] at k5
  clear h3 hc3 h2 hset hτ hmem ht4 htt ht2 h4 hlt hlk hsz hk
  replace k5 := Lib.hid k5
  replace hle := Lib.hid hle
  replace hfm := Lib.hid hfm
  replace hf := Lib.hid hf
  clear hfk
  go_wp2_with fail
  clear hm
  with_reducible refine k5.out.mono ?_
  rintro e w5 ⟨rfl, h5⟩
  obtain ⟨c5, f5, _⟩ := h5.tvAt (upd_eq _ _ _)
  have h5m : upd (upd τ m (big false 0)) t (tv (d : Int) false 10 false 0) m = some (big false 0) := by rw [upd_ne _ _ hmt, upd_eq]
  have k6 := bigSetI_c h5 (bnum_big h5m) d (by have := hfb.out; omega)
  rw [put_big h5m] at k6
  clear h5 h5m f5
  replace k6 := Lib.hid k6
  go_wp2_with fail
  with_reducible refine k6.out.mono ?_
  rintro e w6 ⟨rfl, h6⟩
  have h6t : upd (upd (upd τ m (big false 0)) t (tv (d : Int) false 10 false 0)) m (big false d) t = some (tv (d : Int) false 10 false 0) := by rw [upd_ne _ _ (Ne.symm hmt), upd_eq]
  have k7 := fun w' (hc : Chg w6 w' (fun _ => False)) => bigExp_c (h6.keep hc) (bnum_tv1 h6t) (bnum_tv1 h6t).num (num_big (upd_eq _ _ _)) (by omega) (by rw [WB_eq]; omega) (by have := hfb.out; rw [WB_eq]; omega)
    (Nat.lt_of_le_of_lt (Nat.pow_le_pow_right (by omega) hfb.out) (by rw [WB_eq]; decide +kernel))
  rw [put_tv1 h6t] at k7
  clear h6 h6t c5
  replace k7 := Lib.hid k7
  go_upto_region 10 with (fail)
  go_still_tail 7, (by kernel_rfl)
  change wpList _ _ _ _ _ (World.drew _)
  go_wp2_with fail
  with_reducible refine (k7.out _ (by exact ⟨rfl, rfl, rfl, Nat.le_refl _, fun _ _ _ => rfl⟩)).mono ?_
  rintro e w7 ⟨rfl, h7⟩
  have h7t : upd (upd (upd (upd τ m (big false 0)) t (tv (d : Int) false 10 false 0)) m (big false d)) t (tv (d : Int) false (10 ^ d) false 0) t = some (tv (d : Int) false (10 ^ d) false 0) := upd_eq _ _ _
  have hdl : (digs (10 ^ d)).length ≤ 1000 := Nat.le_trans (digs_len_le.2 (Nat.lt_of_le_of_lt (Nat.pow_le_pow_right (by omega) hfb.out) (by rw [WB_eq]; decide +kernel : 10 ^ 40 < WB ^ 3))) (by omega)
  have k8 := fun w' (hc : Chg w7 w' (fun _ => False)) => bigNeg_c (h7.keep hc) (bnum_tv4 h7t) (bnum_tv1 h7t) hdl (Nat.ne_of_gt (Nat.pow_pos (by omega)))
  rw [put_tv4 h7t, upd_upd] at k8
  clear h7 h7t hdl
  replace k8 := Lib.hid k8
  go_upto_region 11 with (fail)
  go_still_tail 6, (by kernel_rfl)
  change wpList _ _ _ _ _ (World.drew _)
  go_wp2_with fail
  with_reducible refine (k8.out _ (by exact ⟨rfl, rfl, rfl, Nat.le_refl _, fun _ _ _ => rfl⟩)).mono ?_
  rintro e w8 ⟨rfl, h8⟩
  replace h8 := Lib.hid h8
  go_wp2
  go_ret
  exact ⟨t, rfl, Nat.le_of_eq ht'.out, h8.out.le (Le.both (Le.skip hfm.out (Le.skip hf.out (Le.skip hfm.out hle.out))))⟩
end Go.Proofs.YtonepclpllelfaaGreatDoor
