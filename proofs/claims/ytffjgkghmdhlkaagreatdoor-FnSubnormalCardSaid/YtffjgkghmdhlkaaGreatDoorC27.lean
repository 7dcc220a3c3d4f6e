/- apd.BigInt on what is held. apd.BigInt on what is held: Set, SetInt64, Abs, Neg, Cmp; small numbers. -/
import Derived.StillTailTactics
import Derived.Test.YtffjgkghmdhlkaaGreatDoorC17
import Derived.Test.YtffjgkghmdhlkaaGreatDoorC23
import Derived.Test.YtffjgkghmdhlkaaGreatDoorC24
import Derived.Test.YtffjgkghmdhlkaaGreatDoorC25
namespace Go.Proofs.YtffjgkghmdhlkaaGreatDoor
open Go Go.RowKit
set_option maxRecDepth 20000 in
theorem bigMul_c {w0 w : World} {σ : Sg} (h : Hold w0 w σ) {bz oz bx ox yb yo : Nat} {gz : Bool} {Z X Y : Nat} (hz : BNum σ bz oz gz Z) (hx : Num σ bx ox false X) (hy : Num σ yb yo false Y) (hne : (⟨bx, ox, none⟩ : Addr) ≠ ⟨yb, yo, none⟩) (hX : (digs X).length < 40) (hY : (digs Y).length < 40) :
    Calls Tryz.prog 78 #[.pointer (some ⟨bz, oz, none⟩), .pointer (some ⟨bx, ox, none⟩), .pointer (some ⟨yb, yo, none⟩)] w fun e w' => e = .returned (.pointer (some ⟨bz, oz, none⟩)) ∧ Hold w0 w' (put σ bz oz false (X * Y)) := by
  obtain ⟨fm, cm, hm⟩ := h.bmin hz
  have key := fun w2 (hc : Chg (w.setCell ⟨bz, oz + 2, none⟩ (.bool false)) w2 (fun _ => False)) => intMul_c (hm.keep hc) hz.num hx hy hne hX hY
  replace key := Lib.hid key
  clear hz hx hy h hm hne hX hY
  go_enter Tryz.func78, Tryz.ntmps78
  go_upto_region 2 with (fail)
  go_still_tail 9, (by kernel_rfl)
  change wpList _ _ _ _ _ (World.drew _)
  go_wp2_with fail
  with_reducible refine (key.out _ (by exact ⟨rfl, rfl, rfl, Nat.le_refl _, fun _ _ _ => rfl⟩)).mono ?_
  rintro e w1 ⟨rfl, h1⟩
  replace h1 := Lib.hid h1
  go_wp2
  go_ret
  exact ⟨rfl, h1.out⟩
set_option maxRecDepth 20000 in
theorem bigQuo_c {w0 w : World} {σ : Sg} (h : Hold w0 w σ) {bz oz bx ox yb yo : Nat} {gz : Bool} {Z X Y : Nat} (hz : BNum σ bz oz gz Z) (hx : Num σ bx ox false X) (hy : Num σ yb yo false Y) (hY0 : Y ≠ 0) (hX : (digs X).length ≤ 250) (hY : (digs Y).length < 40) :
    Calls Tryz.prog 130 #[.pointer (some ⟨bz, oz, none⟩), .pointer (some ⟨bx, ox, none⟩), .pointer (some ⟨yb, yo, none⟩)] w fun e w' => e = .returned (.pointer (some ⟨bz, oz, none⟩)) ∧ Hold w0 w' (put σ bz oz false (X / Y)) := by
  obtain ⟨fm, cm, hm⟩ := h.bmin hz
  have key := fun w2 (hc : Chg (w.setCell ⟨bz, oz + 2, none⟩ (.bool false)) w2 (fun _ => False)) => intQuo_c (hm.keep hc) hz.num hx hy hY0 hX hY
  replace key := Lib.hid key
  clear hz hx hy h hm hY0 hX hY
  go_enter Tryz.func130, Tryz.ntmps130
  go_upto_region 2 with (fail)
  go_still_tail 9, (by kernel_rfl)
  change wpList _ _ _ _ _ (World.drew _)
  go_wp2_with fail
  with_reducible refine (key.out _ (by exact ⟨rfl, rfl, rfl, Nat.le_refl _, fun _ _ _ => rfl⟩)).mono ?_
  rintro e w1 ⟨rfl, h1⟩
  replace h1 := Lib.hid h1
  go_wp2
  go_ret
  exact ⟨rfl, h1.out⟩
set_option maxRecDepth 20000 in
theorem bigRem_c {w0 w : World} {σ : Sg} (h : Hold w0 w σ) {bz oz bx ox yb yo : Nat} {gz : Bool} {Z X Y : Nat} (hz : BNum σ bz oz gz Z) (hx : Num σ bx ox false X) (hy : Num σ yb yo false Y) (hY0 : Y ≠ 0) (hX : (digs X).length ≤ 250) (hY : (digs Y).length < 40) :
    Calls Tryz.prog 147 #[.pointer (some ⟨bz, oz, none⟩), .pointer (some ⟨bx, ox, none⟩), .pointer (some ⟨yb, yo, none⟩)] w fun e w' => e = .returned (.pointer (some ⟨bz, oz, none⟩)) ∧ Hold w0 w' (put σ bz oz false (X % Y)) := by
  obtain ⟨fm, cm, hm⟩ := h.bmin hz
  have key := fun w2 (hc : Chg (w.setCell ⟨bz, oz + 2, none⟩ (.bool false)) w2 (fun _ => False)) => intRem_c (hm.keep hc) hz.num hx hy hY0 hX hY
  replace key := Lib.hid key
  clear hz hx hy h hm hY0 hX hY
  go_enter Tryz.func147, Tryz.ntmps147
  go_upto_region 2 with (fail)
  go_still_tail 9, (by kernel_rfl)
  change wpList _ _ _ _ _ (World.drew _)
  go_wp2_with fail
  with_reducible refine (key.out _ (by exact ⟨rfl, rfl, rfl, Nat.le_refl _, fun _ _ _ => rfl⟩)).mono ?_
  rintro e w1 ⟨rfl, h1⟩
  replace h1 := Lib.hid h1
  go_wp2
  go_ret
  exact ⟨rfl, h1.out⟩
set_option maxRecDepth 20000 in
theorem bigAdd_c {w0 w : World} {σ : Sg} (h : Hold w0 w σ) {bz oz bx ox yb yo : Nat} {gz : Bool} {Z X Y : Nat} (hz : BNum σ bz oz gz Z) (hx : Num σ bx ox false X) (hy : Num σ yb yo false Y) (hX : (digs X).length ≤ 900) (hY : (digs Y).length ≤ 900) :
    Calls Tryz.prog 85 #[.pointer (some ⟨bz, oz, none⟩), .pointer (some ⟨bx, ox, none⟩), .pointer (some ⟨yb, yo, none⟩)] w fun e w' => e = .returned (.pointer (some ⟨bz, oz, none⟩)) ∧ Hold w0 w' (put σ bz oz false (X + Y)) := by
  obtain ⟨fm, cm, hm⟩ := h.bmin hz
  have key := fun w2 (hc : Chg (w.setCell ⟨bz, oz + 2, none⟩ (.bool false)) w2 (fun _ => False)) => intAdd_c (hm.keep hc) hz.num hx hy hX hY
  replace key := Lib.hid key
  clear hz hx hy h hm hX hY
  go_enter Tryz.func85, Tryz.ntmps85
  go_upto_region 2 with (fail)
  go_still_tail 9, (by kernel_rfl)
  change wpList _ _ _ _ _ (World.drew _)
  go_wp2_with fail
  with_reducible refine (key.out _ (by exact ⟨rfl, rfl, rfl, Nat.le_refl _, fun _ _ _ => rfl⟩)).mono ?_
  rintro e w1 ⟨rfl, h1⟩
  replace h1 := Lib.hid h1
  go_wp2
  go_ret
  exact ⟨rfl, h1.out⟩
set_option maxRecDepth 20000 in
theorem bigSub_ge {w0 w : World} {σ : Sg} (h : Hold w0 w σ) {bz oz bx ox yb yo : Nat} {gz : Bool} {Z X Y : Nat} (hz : BNum σ bz oz gz Z) (hx : Num σ bx ox false X) (hy : Num σ yb yo false Y) (hX : (digs X).length ≤ 900) (hle : Y ≤ X) :
    Calls Tryz.prog 151 #[.pointer (some ⟨bz, oz, none⟩), .pointer (some ⟨bx, ox, none⟩), .pointer (some ⟨yb, yo, none⟩)] w fun e w' => e = .returned (.pointer (some ⟨bz, oz, none⟩)) ∧ Hold w0 w' (put σ bz oz false (X - Y)) := by
  obtain ⟨fm, cm, hm⟩ := h.bmin hz
  have key := fun w2 (hc : Chg (w.setCell ⟨bz, oz + 2, none⟩ (.bool false)) w2 (fun _ => False)) => intSub_ge (hm.keep hc) hz.num hx hy hX hle
  replace key := Lib.hid key
  clear hz hx hy h hm hX hle
  go_enter Tryz.func151, Tryz.ntmps151
  go_upto_region 2 with (fail)
  go_still_tail 9, (by kernel_rfl)
  change wpList _ _ _ _ _ (World.drew _)
  go_wp2_with fail
  with_reducible refine (key.out _ (by exact ⟨rfl, rfl, rfl, Nat.le_refl _, fun _ _ _ => rfl⟩)).mono ?_
  rintro e w1 ⟨rfl, h1⟩
  replace h1 := Lib.hid h1
  go_wp2
  go_ret
  exact ⟨rfl, h1.out⟩
set_option maxRecDepth 20000 in
theorem bigSub_lt {w0 w : World} {σ : Sg} (h : Hold w0 w σ) {bz oz bx ox yb yo : Nat} {gz : Bool} {Z X Y : Nat} (hz : BNum σ bz oz gz Z) (hx : Num σ bx ox false X) (hy : Num σ yb yo false Y) (hY : (digs Y).length ≤ 900) (hle : X < Y) :
    Calls Tryz.prog 151 #[.pointer (some ⟨bz, oz, none⟩), .pointer (some ⟨bx, ox, none⟩), .pointer (some ⟨yb, yo, none⟩)] w fun e w' => e = .returned (.pointer (some ⟨bz, oz, none⟩)) ∧ Hold w0 w' (put σ bz oz true (Y - X)) := by
  obtain ⟨fm, cm, hm⟩ := h.bmin hz
  have key := fun w2 (hc : Chg (w.setCell ⟨bz, oz + 2, none⟩ (.bool false)) w2 (fun _ => False)) => intSub_lt (hm.keep hc) hz.num hx hy hY hle
  replace key := Lib.hid key
  clear hz hx hy h hm hY hle
  go_enter Tryz.func151, Tryz.ntmps151
  go_upto_region 2 with (fail)
  go_still_tail 9, (by kernel_rfl)
  change wpList _ _ _ _ _ (World.drew _)
  go_wp2_with fail
  with_reducible refine (key.out _ (by exact ⟨rfl, rfl, rfl, Nat.le_refl _, fun _ _ _ => rfl⟩)).mono ?_
  rintro e w1 ⟨rfl, h1⟩
  replace h1 := Lib.hid h1
  go_wp2
  go_ret
  exact ⟨rfl, h1.out⟩
set_option maxRecDepth 20000 in
theorem bigExp_c {w0 w : World} {σ : Sg} (h : Hold w0 w σ) {bz oz bx ox yb yo : Nat} {gz : Bool} {Z X Y : Nat} (hz : BNum σ bz oz gz Z) (hx : Num σ bx ox false X) (hy : Num σ yb yo false Y) (hX2 : 2 ≤ X) (hXW : X < WB) (hYW : Y < WB) (hXY : X ^ Y < WB ^ 22) :
    Calls Tryz.prog 140 #[.pointer (some ⟨bz, oz, none⟩), .pointer (some ⟨bx, ox, none⟩), .pointer (some ⟨yb, yo, none⟩)] w fun e w' => e = .returned (.pointer (some ⟨bz, oz, none⟩)) ∧ Hold w0 w' (put σ bz oz false (X ^ Y)) := by
  obtain ⟨fm, cm, hm⟩ := h.bmin hz
  have key := fun w2 (hc : Chg (w.setCell ⟨bz, oz + 2, none⟩ (.bool false)) w2 (fun _ => False)) => intExp_c (hm.keep hc) hz.num hx hy hX2 hXW hYW hXY
  replace key := Lib.hid key
  clear hz hx hy h hm hX2 hXW hYW hXY
  go_enter Tryz.func140, Tryz.ntmps140
  go_upto_region 2 with (fail)
  go_still_tail 9, (by kernel_rfl)
  change wpList _ _ _ _ _ (World.drew _)
  go_wp2_with fail
  with_reducible refine (key.out _ (by exact ⟨rfl, rfl, rfl, Nat.le_refl _, fun _ _ _ => rfl⟩)).mono ?_
  rintro e w1 ⟨rfl, h1⟩
  replace h1 := Lib.hid h1
  go_wp2
  go_ret
  exact ⟨rfl, h1.out⟩
end Go.Proofs.YtffjgkghmdhlkaaGreatDoor

namespace Go.Proofs.YtffjgkghmdhlkaaGreatDoor
open Go Go.RowKit
set_option maxRecDepth 20000 in
theorem bigSetH_c {w0 w : World} {σ : Sg} (h : Hold w0 w σ) {bz oz bx ox : Nat} {gz gx : Bool} {Z X : Nat} (hz : BNum σ bz oz gz Z) (hx : BNum σ bx ox gx X) (hX : (digs X).length ≤ 1000) :
    Calls Tryz.prog 54 #[.pointer (some ⟨bz, oz, none⟩), .pointer (some ⟨bx, ox, none⟩)] w fun e w' => e = .returned (.pointer (some ⟨bz, oz, none⟩)) ∧ Hold w0 w' (put σ bz oz gx X) := by
  obtain ⟨fm, cm, hm⟩ := h.bmin hz
  obtain ⟨_, cmx, _⟩ := h.bmin hx
  have key := fun w2 (hc : Chg (w.setCell ⟨bz, oz + 2, none⟩ (.bool false)) w2 (fun _ => False)) => intSetAny_c (hm.keep hc) hz.num hx.num hX
  replace key := Lib.hid key
  clear hz hx h hm hX
  go_enter Tryz.func54, Tryz.ntmps54
  go_upto_region 2 with (fail)
  go_still_tail 6, (by kernel_rfl)
  change wpList _ _ _ _ _ (World.drew _)
  go_wp2_with fail
  with_reducible refine (key.out _ (by exact ⟨rfl, rfl, rfl, Nat.le_refl _, fun _ _ _ => rfl⟩)).mono ?_
  rintro e w1 ⟨rfl, h1⟩
  replace h1 := Lib.hid h1
  go_wp2
  go_ret
  exact ⟨rfl, h1.out⟩
set_option maxRecDepth 20000 in
theorem bigAbs_c {w0 w : World} {σ : Sg} (h : Hold w0 w σ) {bz oz bx ox : Nat} {gz gx : Bool} {Z X : Nat} (hz : BNum σ bz oz gz Z) (hx : Num σ bx ox gx X) (hX : (digs X).length ≤ 1000) :
    Calls Tryz.prog 77 #[.pointer (some ⟨bz, oz, none⟩), .pointer (some ⟨bx, ox, none⟩)] w fun e w' => e = .returned (.pointer (some ⟨bz, oz, none⟩)) ∧ Hold w0 w' (put σ bz oz false X) := by
  obtain ⟨fm, cm, hm⟩ := h.bmin hz
  have key := fun w2 (hc : Chg (w.setCell ⟨bz, oz + 2, none⟩ (.bool false)) w2 (fun _ => False)) => intAbs_c (hm.keep hc) hz.num hx hX
  replace key := Lib.hid key
  clear hz hx h hm hX
  go_enter Tryz.func77, Tryz.ntmps77
  go_upto_region 2 with (fail)
  go_still_tail 6, (by kernel_rfl)
  change wpList _ _ _ _ _ (World.drew _)
  go_wp2_with fail
  with_reducible refine (key.out _ (by exact ⟨rfl, rfl, rfl, Nat.le_refl _, fun _ _ _ => rfl⟩)).mono ?_
  rintro e w1 ⟨rfl, h1⟩
  replace h1 := Lib.hid h1
  go_wp2
  go_ret
  exact ⟨rfl, h1.out⟩
theorem intSignH_c {w0 w : World} {σ : Sg} (h : Hold w0 w σ) {bx ox : Nat} {gx : Bool} {X : Nat} (hx : Num σ bx ox gx X) : Calls Tryz.prog 117 #[.pointer (some ⟨bx, ox, none⟩)] w fun e w' => e = .returned (.int .i64 (sgN gx X)) ∧ w = w' := by
  obtain ⟨v, s, p⟩ := h.op hx
  exact intSign_c w bx ox gx X v s p.c0 p.c1 p.nat
theorem bigSignH_c {w0 w : World} {σ : Sg} (h : Hold w0 w σ) {bx ox : Nat} {gx : Bool} {X : Nat} (hx : BNum σ bx ox gx X) : Calls Tryz.prog 82 #[.pointer (some ⟨bx, ox, none⟩)] w fun e w' => e = .returned (.int .i64 (sgN gx X)) ∧ w = w' := by
  obtain ⟨_, cm, _⟩ := h.bmin hx
  obtain ⟨v, s, p⟩ := h.op hx.num
  exact bigSign_c w bx ox gx X v s p.c0 p.c1 cm p.nat
set_option maxRecDepth 20000 in
theorem bigNeg_c {w0 w : World} {σ : Sg} (h : Hold w0 w σ) {bz oz bx ox : Nat} {gz gx : Bool} {Z X : Nat} (hz : BNum σ bz oz gz Z) (hx : BNum σ bx ox gx X) (hX : (digs X).length ≤ 1000) (hX0 : X ≠ 0) :
    Calls Tryz.prog 141 #[.pointer (some ⟨bz, oz, none⟩), .pointer (some ⟨bx, ox, none⟩)] w fun e w' => e = .returned (.pointer (some ⟨bz, oz, none⟩)) ∧ Hold w0 w' (put σ bz oz (!gx) X) := by
  obtain ⟨fm, cm, hm⟩ := h.bmin hz
  obtain ⟨_, cmx, _⟩ := h.bmin hx
  have ksg := intSignH_c h hx.num
  have hsg : ((sgN gx X) == 0) = false := by unfold sgN; rw [if_neg hX0]; cases gx <;> rfl
  have key := fun w2 (hc : Chg (w.setCell ⟨bz, oz + 2, none⟩ (.bool false)) w2 (fun _ => False)) => intNeg_c (hm.keep hc) hz.num hx.num hX hX0
  generalize sgN gx X = sg at hsg ksg
  replace key := Lib.hid key
  replace ksg := Lib.hid ksg
  clear hz hx h hm hX hX0
  go_enter Tryz.func141, Tryz.ntmps141
  go_wp2_with fail
  with_reducible refine ksg.out.mono ?_
  rintro e w' ⟨rfl, hw⟩
  obtain rfl := hw
  go_upto_region 2 with (fail)
  go_still_tail 6, (by kernel_rfl)
  change wpList _ _ _ _ _ (World.drew _)
  go_wp2_with fail
  with_reducible refine (key.out _ (by exact ⟨rfl, rfl, rfl, Nat.le_refl _, fun _ _ _ => rfl⟩)).mono ?_
  rintro e w1 ⟨rfl, h1⟩
  replace h1 := Lib.hid h1
  go_wp2
  go_ret
  exact ⟨rfl, h1.out⟩
theorem bigSetI_c {w0 w : World} {σ : Sg} (h : Hold w0 w σ) {bz oz : Nat} {gz : Bool} {Z : Nat} (hz : BNum σ bz oz gz Z) (n : Nat) (hn : n ≤ 9223372036854775807) :
    Calls Tryz.prog 139 #[.pointer (some ⟨bz, oz, none⟩), .int .i64 (n : Int)] w fun e w' => e = .returned (.pointer (some ⟨bz, oz, none⟩)) ∧ Hold w0 w' (put σ bz oz false n) := by
  obtain ⟨fm, cm, hm⟩ := h.bmin hz
  have key := intSetI_c hm hz.num n hn
  replace key := Lib.hid key
  clear hz h hm
  go_enter Tryz.func139, Tryz.ntmps139
  go_wp2_with fail
  with_reducible refine key.out.mono ?_
  rintro e w1 ⟨rfl, h1⟩
  replace h1 := Lib.hid h1
  go_wp2
  go_ret
  exact ⟨rfl, h1.out⟩
set_option maxRecDepth 20000 in
theorem bigCmpH_c {w0 w : World} {σ : Sg} (h : Hold w0 w σ) {bx ox yb yo : Nat} {X Y : Nat} (hx : BNum σ bx ox false X) (hy : BNum σ yb yo false Y) (hne : (⟨bx, ox, none⟩ : Addr) ≠ ⟨yb, yo, none⟩) :
    Calls Tryz.prog 80 #[.pointer (some ⟨bx, ox, none⟩), .pointer (some ⟨yb, yo, none⟩)] w fun e w' => e = .returned (.int .i64 (ordN X Y)) ∧ ∃ n, w' = w.drewN n := by
  obtain ⟨_, cmx, _⟩ := h.bmin hx
  obtain ⟨_, cmy, _⟩ := h.bmin hy
  have key := fun w2 (hc : Chg w w2 (fun _ => False)) => intCmp_c (h.keep hc) hx.num hy.num hne
  replace key := Lib.hid key
  generalize ordN X Y = r at key ⊢
  clear h hx hy hne
  go_enter Tryz.func80, Tryz.ntmps80
  go_upto_region 1 with (fail)
  go_quiet (fail)
  go_upto_region 5 with (fail)
  go_quiet ((go_at_call 118; exact quietAdd (key.out _ (by exact ⟨rfl, rfl, rfl, Nat.le_refl _, fun _ _ _ => rfl⟩))))
  go_wp2
  go_ret
  exact ⟨rfl, by first | exact ⟨_, rfl⟩ | exact ⟨_, drewN_drewN _ _ _⟩ | exact ⟨_, (drewN_drewN _ _ _).symm⟩⟩
theorem newBig_c {w0 w : World} {σ : Sg} (h : Hold w0 w σ) (n : Nat) (hn : n ≤ 9223372036854775807) : Calls Tryz.prog 119 #[.int .i64 (n : Int)] w fun e w' => ∃ k, e = .returned (.pointer (some ⟨k, 0, none⟩)) ∧ w.heap.size ≤ k ∧ Hold w0 w' (upd σ k (big false n)) := by
  have h1 := h.newBig
  have key := intSetI_c h1 (num_big (upd_eq _ _ _)) n hn
  rw [put_big (upd_eq _ _ _), upd_upd] at key
  replace key := Lib.hid key
  clear h h1
  go_enter Tryz.func119, Tryz.ntmps119
  go_wp2_with fail
  with_reducible refine key.out.mono ?_
  rintro e w1 ⟨rfl, h1⟩
  replace h1 := Lib.hid h1
  go_wp2
  go_ret
  exact ⟨_, rfl, Nat.le_refl _, h1.out⟩
theorem bigOne_c {w0 w : World} {σ : Sg} (h : Hold w0 w σ) : Calls Tryz.prog 86 #[] w fun e w' => ∃ k, e = .returned (.pointer (some ⟨k, 0, none⟩)) ∧ w.heap.size ≤ k ∧ Hold w0 w' (upd σ k (big false 1)) := by
  have key : Calls Tryz.prog 119 #[.int .i64 1] w _ := newBig_c h 1 (by omega)
  replace key := Lib.hid key
  clear h
  go_enter Tryz.func86, Tryz.ntmps86
  go_wp2_with fail
  with_reducible refine key.out.mono ?_
  rintro e w1 ⟨k, rfl, hk, h1⟩
  replace h1 := Lib.hid h1
  go_wp2
  go_ret
  exact ⟨k, rfl, hk, h1.out⟩
theorem bigTen_c {w0 w : World} {σ : Sg} (h : Hold w0 w σ) : Calls Tryz.prog 81 #[] w fun e w' => ∃ k, e = .returned (.pointer (some ⟨k, 0, none⟩)) ∧ w.heap.size ≤ k ∧ Hold w0 w' (upd σ k (big false 10)) := by
  have key : Calls Tryz.prog 119 #[.int .i64 10] w _ := newBig_c h 10 (by omega)
  replace key := Lib.hid key
  clear h
  go_enter Tryz.func81, Tryz.ntmps81
  go_wp2_with fail
  with_reducible refine key.out.mono ?_
  rintro e w1 ⟨k, rfl, hk, h1⟩
  replace h1 := Lib.hid h1
  go_wp2
  go_ret
  exact ⟨k, rfl, hk, h1.out⟩
theorem bigFive_c {w0 w : World} {σ : Sg} (h : Hold w0 w σ) : Calls Tryz.prog 148 #[] w fun e w' => ∃ k, e = .returned (.pointer (some ⟨k, 0, none⟩)) ∧ w.heap.size ≤ k ∧ Hold w0 w' (upd σ k (big false 5)) := by
  have key : Calls Tryz.prog 119 #[.int .i64 5] w _ := newBig_c h 5 (by omega)
  replace key := Lib.hid key
  clear h
  go_enter Tryz.func148, Tryz.ntmps148
  go_wp2_with fail
  with_reducible refine key.out.mono ?_
  rintro e w1 ⟨k, rfl, hk, h1⟩
  replace h1 := Lib.hid h1
  go_wp2
  go_ret
  exact ⟨k, rfl, hk, h1.out⟩
end Go.Proofs.YtffjgkghmdhlkaaGreatDoor
