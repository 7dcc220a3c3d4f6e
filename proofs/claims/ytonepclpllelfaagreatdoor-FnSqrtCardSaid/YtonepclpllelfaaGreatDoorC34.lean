/- Context.Mul. apd.upscale. Small things for quotients: two, nought, no number as new numbers; setExponent with one and with three summands; the sign of x beside d. Two and nought as new numbers. Context.quoSpecials where there is nothing special. Context.Quo of finite decimals, neither 0. -/
import Derived.Test.YtonepclpllelfaaGreatDoorC02
import Derived.Test.YtonepclpllelfaaGreatDoorC33
namespace Go.Proofs.YtonepclpllelfaaGreatDoor
open Go Go.RowKit

theorem nbits_mul (X Y : Nat) : nbits (X * Y) ≤ nbits X + nbits Y := by
  refine nbits_le_iff.2 ?_
  rw [Nat.pow_add]
  exact Nat.mul_lt_mul'' (nbits_lt X) (nbits_lt Y)
theorem or0 {r : Nat} (h : calm r) : bits .or .u32 0 (r : Int) = (r : Int) := by
  rcases h with rfl | rfl | rfl | rfl <;> kernel_rfl
set_option maxRecDepth 20000 in
set_option maxHeartbeats 2000000 in
theorem cMul_c {w0 w : World} {σ : Sg} (h : Hold w0 w σ) {d x y c p m : Nat} {ex ey f' e' a b : Int} {nx ny n' g' : Bool} {X Y N' : Nat} (hd : σ d = some (dec f' n' e' g' N')) (hx : σ x = some (dec 0 nx ex false X)) (hy : σ y = some (dec 0 ny ey false Y)) (hxy : x ≠ y) (hdx : d ≠ x) (hdy : d ≠ y) (hc : σ c = some (ctxO p a b (modeS m)))
    (hp : 1 ≤ p ∧ p ≤ 1000) (ha : 50000 ≤ a ∧ a ≤ 2000000) (hb : -2000000 ≤ b ∧ b ≤ -50000) (hX : nbits X ≤ 512) (hY : nbits Y ≤ 512) (hm : m < 8) (hex : -1000 ≤ ex ∧ ex ≤ 1000) (hey : -1000 ≤ ey ∧ ey ≤ 1000) :
    Calls Tryz.prog 60 #[.pointer (some ⟨c, 0, none⟩), .pointer (some ⟨d, 0, none⟩), .pointer (some ⟨x, 0, none⟩), .pointer (some ⟨y, 0, none⟩)] w (CRes w0 σ d (nx != ny) (ex + ey) p m (X * Y)) := by
  have kn := shouldNaN_c w (.pointer (some ⟨c, 0, none⟩)) x y 0 0 (h.c0 hx) (h.c0 hy) (by omega) (by omega)
  rw [show decide ((2 : Int) ≤ 0 ∨ (2 : Int) ≤ 0) = false from rfl] at kn
  have x0 := h.c0 hx
  have y0 := h.c0 hy
  have x1 := h.c1 hx
  have y1 := h.c1 hy
  have hcd : c ≠ d := by rintro rfl; rw [hc] at hd; cases hd
  have hPb : nbits (X * Y) < 1100 := Nat.lt_of_le_of_lt (nbits_mul X Y) (by omega)
  have hX40 : (digs X).length < 40 := Nat.lt_of_le_of_lt (bits_w (k := 8) (by omega)) (by omega)
  have hY40 : (digs Y).length < 40 := Nat.lt_of_le_of_lt (bits_w (k := 8) (by omega)) (by omega)
  have km := fun w' (hc : Chg w w' (fun _ => False)) => bigMul_c (h.keep hc) (bnum_dec hd) (num_dec hx) (num_dec hy) (by intro e; injection e with e; exact hxy e) hX40 hY40
  rw [put_dec hd] at km
  have upx : ∀ it, upd σ d it x = some (dec 0 nx ex false X) := fun it => by rw [upd_ne _ _ (Ne.symm hdx)]; exact hx
  have upy : ∀ it, upd σ d it y = some (dec 0 ny ey false Y) := fun it => by rw [upd_ne _ _ (Ne.symm hdy)]; exact hy
  have upc : ∀ it, upd σ d it c = some (ctxO p a b (modeS m)) := fun it => by rw [upd_ne _ _ hcd]; exact hc
  unfold CRes
  have hrc := rndC_calm (X * Y) p
  generalize X * Y = M at *
  obtain ⟨nn, hnn⟩ : ∃ nn, (nx != ny) = nn := ⟨_, rfl⟩
  rw [hnn]
  have hn2 : (!(nx == ny)) = nn := hnn
  clear hnn
  have kr := fun w1 (h1 : Hold w0 w1 (upd σ d (dec 0 nn (ex + ey) false M))) => round_c h1 (upd_eq _ _ _) (upd_eq _ _ _) (upc _) hp ha hb hPb hm (by omega)
  simp only [upd_upd] at kr
  have ke := fun w1 (h1 : Hold w0 w1 (upd σ d (dec 0 nn (ex + ey + (rndK nn M p m : Int)) false (rndN nn M p m)))) => errH_c h1 (upc _) hrc
  have hor := or0 hrc
  generalize rndC M p = r at *
  have ew1 : IntKind.i64.wrap ex = ex := IntWalk.i64_in _ (by omega)
  have ew2 : IntKind.i64.wrap ey = ey := IntWalk.i64_in _ (by omega)
  replace kn := Lib.hid kn
  replace km := Lib.hid km
  replace kr := Lib.hid kr
  replace ke := Lib.hid ke
  replace upx := Lib.hid upx
  replace upy := Lib.hid upy
  replace upc := Lib.hid upc
  replace hrc := Lib.hid hrc
  clear h hd hx hy hc
  go_enter Tryz.func60, Tryz.ntmps60
  go_wp2_with fail
  with_reducible refine kn.out.mono ?_
  rintro E w' ⟨rfl, hw⟩
  obtain rfl := hw
  go_upto_region 3 with (fail)
  go_quiet (fail)
  go_upto_region 4 with (fail)
  go_quiet (fail)
  go_upto_region 12 with (fail)
  go_still_tail 9, (by kernel_rfl)
  change wpList _ _ _ _ _ (World.drew _)
  go_wp2_with fail
  with_reducible refine (km.out _ (by exact ⟨rfl, rfl, rfl, Nat.le_refl _, fun _ _ _ => rfl⟩)).mono ?_
  rintro E w1 ⟨rfl, h1⟩
  have d1 := h1.c1 (upd_eq _ _ _)
  have d0 := h1.c0 (upd_eq _ _ _)
  have f1 := h1.fz (upd_eq _ _ _) 1
  have f0 := h1.fz (upd_eq _ _ _) 0
  have h2 := h1.setSign (upd_eq _ _ _) nn
  rw [upd_upd] at h2
  have h3 := h2.setForm (upd_eq _ _ _) 0
  rw [upd_upd] at h3
  replace h3 := Lib.hid h3
  clear h1 h2 km x0 y0 x1 y1
  go_upto_region 15 with (fail)
  generalize (w1.setCell ⟨d, 1, none⟩ (.bool nn)).setCell ⟨d, 0, none⟩ (.int .i8 0) = W at h3 ⊢
  have x2 := h3.out.c2 (upx.out _)
  have y2 := h3.out.c2 (upy.out _)
  have ks := setExp2_c h3.out ex ey (upd_eq _ _ _) (upc.out _) (by omega) (nd := -1) (.inl rfl) (r := 0) (.inl rfl) (by omega) (by omega) ha hb
  rw [upd_upd] at ks
  replace ks := Lib.hid ks
  clear d1 d0 f1 f0
  go_cut [13] (fun v wx => v = .int .u32 0 ∧ Hold w0 wx (upd σ d (dec 0 nn (ex + ey) false M)))
  case first =>
    go_region_with ((go_at_call 80; refine ks.out.mono ?_; rintro E w4 ⟨rfl, h4⟩; replace h4 := Lib.hid h4))
    all_goals
      go_wp2_with fail
      go_meet
      exact ⟨rfl, h4.out⟩
  case rest =>
    obtain ⟨rfl, h5⟩ := hcut
    have kr := kr.out _ h5
    replace kr := Lib.hid kr
    clear h5 h3 x2 y2 ks
    go_wp2_with fail
    with_reducible refine kr.out.mono ?_
    rintro E w6 ⟨rfl, h6⟩
    have ke := ke.out _ h6
    replace ke := Lib.hid ke
    replace h6 := Lib.hid h6
    go_wp2_with fail
    with_reducible refine ke.out.mono ?_
    rintro E w' ⟨rfl, hw⟩
    obtain rfl := hw
    go_wp2
    go_ret2
    exact ⟨rfl, h6.out⟩
end Go.Proofs.YtonepclpllelfaaGreatDoor

namespace Go.Proofs.YtonepclpllelfaaGreatDoor
open Go Go.RowKit

/-- Two magnitudes with one exponent. -/
def UpRes (w0 : World) (σ : Sg) (x y T X Y : Nat) (ex ey : Int) (E : Ending) (w' : World) : Prop :=
  ∃ (σ' : Sg) (ba oa bb ob : Nat), E = .returned (.tuple #[.pointer (some ⟨ba, oa, none⟩), .pointer (some ⟨bb, ob, none⟩), .int .i32 (if ex ≤ ey then ex else ey), .nilIface]) ∧ Hold w0 w' σ' ∧ Num σ' ba oa false (X * 10 ^ (ex - ey).toNat) ∧ Num σ' bb ob false (Y * 10 ^ (ey - ex).toNat) ∧ (ba = x ∨ ba = T) ∧ (bb = y ∨ bb = T) ∧ (σ' = σ ∨ ∃ N, σ' = upd σ T (big false N))

set_option maxRecDepth 20000 in
set_option maxHeartbeats 1000000 in
theorem up_same {w0 w : World} {σ : Sg} (h : Hold w0 w σ) {x y T : Nat} {e : Int} {nx ny : Bool} {X Y : Nat} (hx : σ x = some (dec 0 nx e false X)) (hy : σ y = some (dec 0 ny e false Y)) :
    Calls Tryz.prog 111 #[.pointer (some ⟨x, 0, none⟩), .pointer (some ⟨y, 0, none⟩), .pointer (some ⟨T, 0, none⟩)] w (UpRes w0 σ x y T X Y e e) := by
  have x2 := h.c2 hx
  have y2 := h.c2 hy
  have ee : (e == e) = true := by simp
  have hend : ∀ n n2 v, v = .tuple #[.pointer (some ⟨x, 3, none⟩), .pointer (some ⟨y, 3, none⟩), .int .i32 e, .nilIface] → UpRes w0 σ x y T X Y e e (.returned v) ((w.drewN n).drewN n2) := fun n n2 v hv => by
    subst hv
    refine ⟨σ, x, 3, y, 3, ?_, (h.drewN n).drewN n2, ?_, ?_, .inl rfl, .inl rfl, .inl rfl⟩
    · rw [if_pos (Int.le_refl e)]
    · rw [Int.sub_self]; simpa using num_dec hx
    · rw [Int.sub_self]; simpa using num_dec hy
  replace hend := Lib.hid hend
  clear h hx hy
  go_enter Tryz.func111, Tryz.ntmps111
  go_upto_region 1 with (fail)
  go_quiet (fail)
  go_upto_region 2 with (fail)
  go_quiet (fail)
  go_wp2
  exact bodyPost_ret (v := .tuple #[.pointer (some ⟨x, 3, none⟩), .pointer (some ⟨y, 3, none⟩), .int .i32 e, .nilIface]) (by simp [results, Tryz.results111, go_sem]) rfl (hend.out _ _ _ rfl)

set_option maxRecDepth 20000 in
set_option maxHeartbeats 2000000 in
theorem up_lt {w0 w : World} {σ : Sg} (h : Hold w0 w σ) {x y T : Nat} {ex ey : Int} {nx ny g : Bool} {X Y Z : Nat} (hx : σ x = some (dec 0 nx ex false X)) (hy : σ y = some (dec 0 ny ey false Y)) (hT : σ T = some (big g Z))
    (hex : -10000 ≤ ex ∧ ex ≤ 10000) (hey : -10000 ≤ ey ∧ ey ≤ 10000) (hlt : ex < ey) (hfar : ey - ex ≤ 400) (hY : (digs Y).length < 40) :
    Calls Tryz.prog 111 #[.pointer (some ⟨x, 0, none⟩), .pointer (some ⟨y, 0, none⟩), .pointer (some ⟨T, 0, none⟩)] w (UpRes w0 σ x y T X Y ex ey) := by
  have x2 := h.c2 hx
  have y2 := h.c2 hy
  have ee : (ex == ey) = false := by simp; omega
  have el : decide (ex < ey) = true := by simp; omega
  obtain ⟨k, hk⟩ : ∃ k : Nat, ey - ex = (k : Int) := ⟨(ey - ex).toNat, by omega⟩
  have e1 : IntKind.i64.wrap ex = ex := IntWalk.i64_in _ (by omega)
  have e2 : IntKind.i64.wrap ey = ey := IntWalk.i64_in _ (by omega)
  have e3 : IntKind.i64.wrap (ey - ex) = (k : Int) := by rw [hk]; exact IntWalk.i64_in _ (by omega)
  have e4 : ¬ 100000 < (k : Int) := by omega
  have hTx : x ≠ T := by rintro rfl; rw [hT] at hx; cases hx
  have hTy : y ≠ T := by rintro rfl; rw [hT] at hy; cases hy
  have kt := fun n => tableExp_c (h.drewN n) (bnum_big hT) k (by omega)
  rw [put_big hT] at kt
  have t1 := upd_eq σ T (big false (10 ^ k))
  have y1 : upd σ T (big false (10 ^ k)) y = some (dec 0 ny ey false Y) := by rw [upd_ne _ _ hTy]; exact hy
  have km := fun w1 (h1 : Hold w0 w1 (upd σ T (big false (10 ^ k)))) => bigMul_c h1 (bnum_big t1) (num_dec y1) (num_big t1) (by intro e; injection e with e; exact hTy e) hY (ten_40 (by omega))
  rw [put_big t1, upd_upd] at km
  have x3 : upd σ T (big false (Y * 10 ^ k)) x = some (dec 0 nx ex false X) := by rw [upd_ne _ _ hTx]; exact hx
  have hend : ∀ n v w', v = .tuple #[.pointer (some ⟨x, 3, none⟩), .pointer (some ⟨T, 0, none⟩), .int .i32 ex, .nilIface] → Hold w0 w' (upd σ T (big false (Y * 10 ^ k))) → UpRes w0 σ x y T X Y ex ey (.returned v) (w'.drewN n) := fun n v w' hv h' => by
    subst hv
    refine ⟨_, x, 3, T, 0, ?_, h'.drewN n, ?_, ?_, .inl rfl, .inr rfl, .inr ⟨_, rfl⟩⟩
    · rw [if_pos (by omega)]
    · rw [show (ex - ey).toNat = 0 by omega]; simpa using num_dec x3
    · rw [show (ey - ex).toNat = k by omega]; exact num_big (upd_eq _ _ _)
  replace hend := Lib.hid hend
  replace kt := Lib.hid kt
  replace km := Lib.hid km
  replace hk := Lib.hid hk
  replace x3 := Lib.hid x3
  clear h hx hy hT t1 y1
  go_enter Tryz.func111, Tryz.ntmps111
  go_upto_region 1 with (fail)
  go_quiet (fail)
  go_upto_region 4 with (fail)
  go_quiet (fail)
  go_upto_region 7 with (fail)
  go_quiet (fail)
  go_wp2_with fail
  with_reducible refine (kt.out _).mono ?_
  rintro E w1 ⟨rfl, h1⟩
  have km := km.out _ h1
  replace km := Lib.hid km
  clear h1
  go_wp2_with fail
  with_reducible refine km.out.mono ?_
  rintro E w2 ⟨rfl, h2⟩
  have x5 := h2.c2 x3.out
  replace h2 := Lib.hid h2
  go_upto_region 16 with (fail)
  go_quiet (fail)
  go_wp2
  exact bodyPost_ret (v := .tuple #[.pointer (some ⟨x, 3, none⟩), .pointer (some ⟨T, 0, none⟩), .int .i32 ex, .nilIface]) (by simp [results, Tryz.results111, go_sem]) rfl (hend.out _ _ _ rfl h2.out)
set_option maxRecDepth 20000 in
set_option maxHeartbeats 2000000 in
theorem up_gt {w0 w : World} {σ : Sg} (h : Hold w0 w σ) {x y T : Nat} {ex ey : Int} {nx ny g : Bool} {X Y Z : Nat} (hx : σ x = some (dec 0 nx ex false X)) (hy : σ y = some (dec 0 ny ey false Y)) (hT : σ T = some (big g Z))
    (hex : -10000 ≤ ex ∧ ex ≤ 10000) (hey : -10000 ≤ ey ∧ ey ≤ 10000) (hlt : ey < ex) (hfar : ex - ey ≤ 400) (hX : (digs X).length < 40) :
    Calls Tryz.prog 111 #[.pointer (some ⟨x, 0, none⟩), .pointer (some ⟨y, 0, none⟩), .pointer (some ⟨T, 0, none⟩)] w (UpRes w0 σ x y T X Y ex ey) := by
  have x2 := h.c2 hx
  have y2 := h.c2 hy
  have ee : (ex == ey) = false := by simp; omega
  have el : decide (ex < ey) = false := by simp; omega
  obtain ⟨k, hk⟩ : ∃ k : Nat, ex - ey = (k : Int) := ⟨(ex - ey).toNat, by omega⟩
  have e1 : IntKind.i64.wrap ex = ex := IntWalk.i64_in _ (by omega)
  have e2 : IntKind.i64.wrap ey = ey := IntWalk.i64_in _ (by omega)
  have e3 : IntKind.i64.wrap (ex - ey) = (k : Int) := by rw [hk]; exact IntWalk.i64_in _ (by omega)
  have e4 : ¬ 100000 < (k : Int) := by omega
  have hTx : x ≠ T := by rintro rfl; rw [hT] at hx; cases hx
  have hTy : y ≠ T := by rintro rfl; rw [hT] at hy; cases hy
  have kt := fun n => tableExp_c (h.drewN n) (bnum_big hT) k (by omega)
  rw [put_big hT] at kt
  have t1 := upd_eq σ T (big false (10 ^ k))
  have x1 : upd σ T (big false (10 ^ k)) x = some (dec 0 nx ex false X) := by rw [upd_ne _ _ hTx]; exact hx
  have km := fun w1 (h1 : Hold w0 w1 (upd σ T (big false (10 ^ k)))) => bigMul_c h1 (bnum_big t1) (num_dec x1) (num_big t1) (by intro e; injection e with e; exact hTx e) hX (ten_40 (by omega))
  rw [put_big t1, upd_upd] at km
  have y3 : upd σ T (big false (X * 10 ^ k)) y = some (dec 0 ny ey false Y) := by rw [upd_ne _ _ hTy]; exact hy
  have hend : ∀ n v w', v = .tuple #[.pointer (some ⟨T, 0, none⟩), .pointer (some ⟨y, 3, none⟩), .int .i32 ey, .nilIface] → Hold w0 w' (upd σ T (big false (X * 10 ^ k))) → UpRes w0 σ x y T X Y ex ey (.returned v) (w'.drewN n) := fun n v w' hv h' => by
    subst hv
    refine ⟨_, T, 0, y, 3, ?_, h'.drewN n, ?_, ?_, .inr rfl, .inl rfl, .inr ⟨_, rfl⟩⟩
    · rw [if_neg (by omega)]
    · rw [show (ex - ey).toNat = k by omega]; exact num_big (upd_eq _ _ _)
    · rw [show (ey - ex).toNat = 0 by omega]; simpa using num_dec y3
  replace hend := Lib.hid hend
  replace kt := Lib.hid kt
  replace km := Lib.hid km
  replace hk := Lib.hid hk
  replace y3 := Lib.hid y3
  clear h hx hy hT t1 x1
  go_enter Tryz.func111, Tryz.ntmps111
  go_upto_region 1 with (fail)
  go_quiet (fail)
  go_upto_region 4 with (fail)
  go_quiet (fail)
  go_upto_region 7 with (fail)
  go_quiet (fail)
  go_wp2_with fail
  with_reducible refine (kt.out _).mono ?_
  rintro E w1 ⟨rfl, h1⟩
  have km := km.out _ h1
  replace km := Lib.hid km
  clear h1
  go_wp2_with fail
  with_reducible refine km.out.mono ?_
  rintro E w2 ⟨rfl, h2⟩
  have y5 := h2.c2 y3.out
  replace h2 := Lib.hid h2
  go_upto_region 16 with (fail)
  go_quiet (fail)
  go_wp2
  exact bodyPost_ret (v := .tuple #[.pointer (some ⟨T, 0, none⟩), .pointer (some ⟨y, 3, none⟩), .int .i32 ey, .nilIface]) (by simp [results, Tryz.results111, go_sem]) rfl (hend.out _ _ _ rfl h2.out)
/-- Two magnitudes are brought to one exponent. -/
theorem upscale_c {w0 w : World} {σ : Sg} (h : Hold w0 w σ) {x y T : Nat} {ex ey : Int} {nx ny g : Bool} {X Y Z : Nat} (hx : σ x = some (dec 0 nx ex false X)) (hy : σ y = some (dec 0 ny ey false Y)) (hT : σ T = some (big g Z))
    (hex : -10000 ≤ ex ∧ ex ≤ 10000) (hey : -10000 ≤ ey ∧ ey ≤ 10000) (hfar : ey - ex ≤ 400 ∧ ex - ey ≤ 400) (hX : (digs X).length < 40) (hY : (digs Y).length < 40) :
    Calls Tryz.prog 111 #[.pointer (some ⟨x, 0, none⟩), .pointer (some ⟨y, 0, none⟩), .pointer (some ⟨T, 0, none⟩)] w (UpRes w0 σ x y T X Y ex ey) := by
  by_cases h1 : ex = ey
  · subst h1; exact up_same h hx hy
  by_cases h2 : ex < ey
  · exact up_lt h hx hy hT hex hey h2 hfar.1 hY
  · exact up_gt h hx hy hT hex hey (by omega) hfar.2 hX
end Go.Proofs.YtonepclpllelfaaGreatDoor

namespace Go.Proofs.YtonepclpllelfaaGreatDoor
open Go Go.RowKit

/-- Three summands. -/
def three (u v x : Int) : Nat → Int := fun k => if k = 0 then u else if k = 1 then v else x
theorem sumN_three (u v x : Int) : sumN (three u v x) 3 = u + v + x := by simp [sumN, three]
end Go.Proofs.YtonepclpllelfaaGreatDoor

namespace Go.Proofs.YtonepclpllelfaaGreatDoor
open Go Go.RowKit

theorem bigTwo_c {w0 w : World} {σ : Sg} (h : Hold w0 w σ) : Calls Tryz.prog 86 #[] w fun e w' => ∃ k, e = .returned (.pointer (some ⟨k, 0, none⟩)) ∧ w.heap.size ≤ k ∧ Hold w0 w' (upd σ k (big false 2)) := by
  have key : Calls Tryz.prog 97 #[.int .i64 2] w _ := newBig_c h 2 (by omega)
  replace key := Lib.hid key
  clear h
  go_enter Tryz.func86, Tryz.ntmps86
  go_wp2_with fail
  with_reducible refine key.out.mono ?_
  rintro e w1 ⟨k, rfl, hk, h1⟩
  replace h1 := Lib.hid h1
  go_wp2
  go_ret
  exact ⟨k, rfl, hk, h1.out⟩
end Go.Proofs.YtonepclpllelfaaGreatDoor

namespace Go.Proofs.YtonepclpllelfaaGreatDoor
open Go Go.RowKit

set_option maxRecDepth 20000 in
set_option maxHeartbeats 2000000 in
theorem quoSp_c {w0 w : World} {σ : Sg} (h : Hold w0 w σ) {d x y c p : Nat} {ex ey a b : Int} {nx ny : Bool} {X Y : Nat} {M : ByteArray} (hx : σ x = some (dec 0 nx ex false X)) (hy : σ y = some (dec 0 ny ey false Y)) (hc : σ c = some (ctxO p a b M)) (hp : 1 ≤ p) (hY0 : Y ≠ 0) (cl : Bool) :
    Calls Tryz.prog 82 #[.pointer (some ⟨c, 0, none⟩), .pointer (some ⟨d, 0, none⟩), .pointer (some ⟨x, 0, none⟩), .pointer (some ⟨y, 0, none⟩), .bool cl] w fun E w' => E = .returned (.tuple #[.bool false, .int .u32 0, .nilIface]) ∧ ∃ n, w' = w.drewN n := by
  have kn := shouldNaN_c w (.pointer (some ⟨c, 0, none⟩)) x y 0 0 (h.c0 hx) (h.c0 hy) (by omega) (by omega)
  rw [show decide ((2 : Int) ≤ 0 ∨ (2 : Int) ≤ 0) = false from rfl] at kn
  have kz := fun n => isZeroH_c (h.drewN n) hy
  rw [decide_eq_false hY0] at kz
  have x0 := h.c0 hx
  have y0 := h.c0 hy
  have x1 := h.c1 hx
  have y1 := h.c1 hy
  have c0 := (h.ctx hc).c0
  have p0 : ((p : Int) == 0) = false := by simp; omega
  replace kn := Lib.hid kn
  replace kz := Lib.hid kz
  clear h hx hy hc hp hY0
  go_enter Tryz.func82, Tryz.ntmps82
  go_wp2_with fail
  with_reducible refine kn.out.mono ?_
  rintro E w' ⟨rfl, hw⟩
  obtain rfl := hw
  go_upto_region 4 with (fail)
  go_quiet (fail)
  go_upto_region 5 with (fail)
  go_quiet (fail)
  go_wp2_with fail
  try simp only [drewN_drewN]
  with_reducible refine (kz.out _).mono ?_
  rintro E w' ⟨rfl, hw⟩
  obtain rfl := hw
  go_wp2
  exact bodyPost_ret (v := .tuple #[.bool false, .int .u32 0, .nilIface]) (by simp [results, Tryz.results82, go_sem]) rfl ⟨rfl, _, rfl⟩
end Go.Proofs.YtonepclpllelfaaGreatDoor

namespace Go.Proofs.YtonepclpllelfaaGreatDoor
open Go Go.RowKit

theorem nbits_ten (k : Nat) : nbits (10 ^ k) ≤ 4 * k + 1 := by
  rw [nbits_le_iff, Nat.pow_succ, Nat.pow_mul]
  have := Nat.pow_le_pow_left (show 10 ≤ 2 ^ 4 by decide) k
  have := Nat.pow_pos (n := k) (show 0 < 2 ^ 4 by decide)
  omega
theorem nbits_tens (N k : Nat) : nbits (N * 10 ^ k) ≤ nbits N + (4 * k + 1) := Nat.le_trans (nbits_mul _ _) (Nat.add_le_add_left (nbits_ten k) _)
/-- The quotient rounded: its ways. -/
theorem rndF_ways (nn : Bool) (D E m : Nat) : (D % E = 0 ∧ rndF nn D E m = D / E) ∨ ∃ aw, D % E ≠ 0 ∧ awayN nn (D / E % 10) (ord3 (2 * (D % E)) E) m = aw ∧ (aw = true → rndF nn D E m = D / E + 1) ∧ (aw = false → rndF nn D E m = D / E) := by
  unfold rndF
  by_cases h : D % E = 0
  · exact .inl ⟨h, by rw [if_pos h]⟩
  · refine .inr ⟨_, h, rfl, fun ha => ?_, fun ha => ?_⟩
    · rw [if_neg h, ha]; rfl
    · rw [if_neg h, ha]; rfl
theorem dg_small {n : Nat} (h : n ≤ 9223372036854775807) : (digs n).length ≤ 1 := digs_len_le.2 (by rw [Nat.pow_one]; exact n_WB h)
/-- Numbers apart: dividend, divisor, a power of ten. -/
structure QF (σ : Sg) (T1 T2 TE : Nat) (ρ : Sg) (A B Z : Nat) : Prop where
  t1 : ρ T1 = some (big false A)
  t2 : ρ T2 = some (big false B)
  te : ρ TE = some (big false Z)
  le : Le σ ρ
theorem QF.set1 {σ ρ : Sg} {T1 T2 TE A B Z : Nat} (h : QF σ T1 T2 TE ρ A B Z) (h1 : σ T1 = none) (h2 : T2 ≠ T1) (h3 : TE ≠ T1) (A' : Nat) : QF σ T1 T2 TE (upd ρ T1 (big false A')) A' B Z := ⟨upd_eq _ _ _, by rw [upd_ne _ _ h2]; exact h.t2, by rw [upd_ne _ _ h3]; exact h.te, Le.skip h1 h.le⟩
theorem QF.set2 {σ ρ : Sg} {T1 T2 TE A B Z : Nat} (h : QF σ T1 T2 TE ρ A B Z) (h1 : σ T2 = none) (h2 : T1 ≠ T2) (h3 : TE ≠ T2) (B' : Nat) : QF σ T1 T2 TE (upd ρ T2 (big false B')) A B' Z := ⟨by rw [upd_ne _ _ h2]; exact h.t1, upd_eq _ _ _, by rw [upd_ne _ _ h3]; exact h.te, Le.skip h1 h.le⟩
theorem QF.setE {σ ρ : Sg} {T1 T2 TE A B Z : Nat} (h : QF σ T1 T2 TE ρ A B Z) (h1 : σ TE = none) (h2 : T1 ≠ TE) (h3 : T2 ≠ TE) (Z' : Nat) : QF σ T1 T2 TE (upd ρ TE (big false Z')) A B Z' := ⟨by rw [upd_ne _ _ h2]; exact h.t1, by rw [upd_ne _ _ h3]; exact h.t2, upd_eq _ _ _, Le.skip h1 h.le⟩
theorem QF.skip {σ ρ : Sg} {T1 T2 TE A B Z k : Nat} {it : It} (h : QF σ T1 T2 TE ρ A B Z) (hk : ρ k = none) : QF σ T1 T2 TE (upd ρ k it) A B Z := by
  refine ⟨?_, ?_, ?_, Le.skip (Le.none h.le hk) h.le⟩
  · rw [upd_ne _ _ (by rintro rfl; rw [h.t1] at hk; cases hk)]; exact h.t1
  · rw [upd_ne _ _ (by rintro rfl; rw [h.t2] at hk; cases hk)]; exact h.t2
  · rw [upd_ne _ _ (by rintro rfl; rw [h.te] at hk; cases hk)]; exact h.te
theorem ordN_neg (A B : Nat) : decide (ordN A B < 0) = decide (A < B) := by
  unfold ordN
  by_cases h : A < B
  · simp [h]
  · rw [if_neg h]; split <;> simp [h]
theorem ordN_3 (A B : Nat) : ordN A B = ord3 A B := rfl
set_option maxRecDepth 20000 in
set_option maxHeartbeats 8000000 in
theorem cQuo_c {w0 w : World} {σ : Sg} (h : Hold w0 w σ) {d x y c p m : Nat} {ex ey f' e' a b : Int} {nx ny n' : Bool} {X Y N' : Nat} (hd : σ d = some (dec f' n' e' false N')) (hx : σ x = some (dec 0 nx ex false X)) (hy : σ y = some (dec 0 ny ey false Y)) (hc : σ c = some (ctxO p a b (modeS m)))
    (hp : 1 ≤ p ∧ p ≤ 250) (ha : 50000 ≤ a ∧ a ≤ 2000000) (hb : -2000000 ≤ b ∧ b ≤ -50000) (hX : nbits X ≤ 800) (hY : nbits Y ≤ 800) (hX0 : X ≠ 0) (hY0 : Y ≠ 0) (hm : m < 8) (hex : -1000 ≤ ex ∧ ex ≤ 1000) (hey : -1000 ≤ ey ∧ ey ≤ 1000) {D E rq : Nat} {nn : Bool} {e0 : Int}
    (hD : X * 10 ^ (quoU X Y + (p - 1)) = D) (hE : Y * 10 ^ (figs X - figs Y) = E) (hnn : (nx != ny) = nn) (he0 : ex - ey + qE X Y p = e0) (hrq : (D % E = 0 ∧ rq = 0) ∨ (D % E ≠ 0 ∧ rq = 80)) :
    Calls Tryz.prog 62 #[.pointer (some ⟨c, 0, none⟩), .pointer (some ⟨d, 0, none⟩), .pointer (some ⟨x, 0, none⟩), .pointer (some ⟨y, 0, none⟩)] w fun E1 w' => E1 = .returned (.tuple #[.int .u32 (rq : Int), .nilIface]) ∧ Hold w0 w' (upd σ d (dec 0 nn e0 false (rndF nn D E m))) := by
  have ks := quoSp_c h (d := d) hx hy hc hp.1 hY0 true
  have kz := fun n => isZeroH_c (h.drewN n) hx
  rw [decide_eq_false hX0] at kz
  have x1 := h.c1 hx
  have y1 := h.c1 hy
  have x2 := h.c2 hx
  have y2 := h.c2 hy
  have hcd : c ≠ d := by rintro rfl; rw [hc] at hd; cases hd
  have hU := quoU_le (A := X) (B := Y) hX0 hY0 hp.1
  rw [hD, hE] at hU
  have hfX := figs_401 (N := X) (by omega)
  have hfY := figs_401 (N := Y) (by omega)
  have hpX := figs_pos X
  have hpY := figs_pos Y
  obtain ⟨A0, hA0⟩ : ∃ A0, X * 10 ^ (figs Y - figs X) = A0 := ⟨_, rfl⟩
  have hbA0 : nbits A0 ≤ 2401 := by rw [← hA0]; exact Nat.le_trans (nbits_tens _ _) (by omega)
  have hbE : nbits E ≤ 2401 := by rw [← hE]; exact Nat.le_trans (nbits_tens _ _) (by omega)
  have hX13 : (digs X).length ≤ 13 := bits_w (by omega)
  have hY13 : (digs Y).length ≤ 13 := bits_w (by omega)
  have hA38 : (digs A0).length ≤ 38 := bits_w (by omega)
  have hE38 : (digs E).length ≤ 38 := bits_w (by omega)
  obtain ⟨u1, hu1⟩ : ∃ u1, (if A0 < E then 1 else 0) = u1 := ⟨_, rfl⟩
  have hu2 : quoU X Y = figs Y - figs X + u1 := by rw [← hu1, ← hA0, ← hE]; rfl
  obtain ⟨A1, hA1⟩ : ∃ A1, A0 * 10 ^ u1 = A1 := ⟨_, rfl⟩
  have hu3 : u1 ≤ 1 := by rw [← hu1]; split <;> omega
  have hbA1 : nbits A1 ≤ 2406 := by rw [← hA1]; exact Nat.le_trans (nbits_tens _ _) (by omega)
  have hA138 : (digs A1).length ≤ 38 := bits_w (by omega)
  have hDA : A1 * 10 ^ (p - 1) = D := by rw [← hD, ← hA1, ← hA0, hu2]; simp only [Nat.pow_add]; ac_rfl
  have hbD : nbits D ≤ 3500 := by rw [← hDA]; exact Nat.le_trans (nbits_tens _ _) (by omega)
  have hD55 : (digs D).length ≤ 55 := bits_w (by omega)
  have hE0 : E ≠ 0 := by rw [← hE]; have := Nat.mul_pos (show 0 < Y by omega) (ten_pos (figs X - figs Y)); omega
  have hQb : nbits (D / E) ≤ 4 * p := by
    rw [nbits_le_iff, Nat.pow_mul]
    exact Nat.lt_of_lt_of_le hU.2 (Nat.pow_le_pow_left (show 10 ≤ 2 ^ 4 by decide) p)
  have hRb : nbits (D % E) ≤ 2401 := Nat.le_trans (nbits_mono (Nat.le_of_lt (Nat.mod_lt _ (by omega)))) hbE
  have hRd : (digs (D % E)).length ≤ 38 := bits_w (by omega)
  have hQd : (digs (D / E)).length ≤ 16 := bits_w (by omega)
  have hqe : e0 = ex - ey + (-(-((figs X : Int) - (figs Y : Int)) + (u1 : Int))) + -((p : Int) - 1) := by rw [← he0]; unfold qE; rw [hu2]; omega
  have hways := rndF_ways nn D E m
  obtain ⟨Rn, hRn⟩ : ∃ Rn, rndF nn D E m = Rn := ⟨_, rfl⟩
  rw [hRn] at hways ⊢
  have w1 : IntKind.i32.wrap (ex - ey) = ex - ey := IntWalk.i32_in _ (by omega)
  have w2 : IntKind.i64.wrap (ex - ey) = ex - ey := IntWalk.i64_in _ (by omega)
  replace ks := Lib.hid ks
  replace kz := Lib.hid kz
  replace hways := Lib.hid hways
  replace hd := Lib.hid hd
  replace hx := Lib.hid hx
  replace hy := Lib.hid hy
  replace hc := Lib.hid hc
  replace h := Lib.hid h
  replace hnn := Lib.hid hnn
  replace hU := Lib.hid hU
  replace hA0 := Lib.hid hA0
  replace hA1 := Lib.hid hA1
  replace hD := Lib.hid hD
  replace hE := Lib.hid hE
  replace hDA := Lib.hid hDA
  replace hu1 := Lib.hid hu1
  replace hrq := Lib.hid hrq
  replace hqe := Lib.hid hqe
  clear he0 hRn hu2
  go_enter Tryz.func62, Tryz.ntmps62
  go_wp2_with fail
  with_reducible refine ks.out.mono ?_
  rintro E1 w' ⟨rfl, n0, hw⟩
  obtain rfl := hw
  go_upto_region 4 with (fail)
  go_quiet (fail)
  go_upto_region 5 with (fail)
  go_quiet (fail)
  go_wp2_with fail
  with_reducible refine (kz.out _).mono ?_
  rintro E1 W0 ⟨rfl, hw⟩
  have h0 : Hold w0 W0 σ := by rw [← hw]; exact h.out.drewN _
  clear hw kz ks x1 y1 x2 y2
  have hf1 := h0.fresh (Nat.le_refl W0.heap.size)
  have hf2 := h0.fresh (show W0.heap.size ≤ W0.heap.size + 1 by omega)
  have h1 := (h0.newBig).newBig
  simp only [World.size_alloc] at h1
  obtain ⟨T1, hT1⟩ : ∃ T1, W0.heap.size = T1 := ⟨_, rfl⟩
  rw [hT1] at h1 hf1 hf2
  go_upto_region 13 with (fail)
  generalize (W0.alloc (.cells #[.bool false, .slice none 0 0, .bool false] 53 (0, 0))).alloc (.cells #[.bool false, .slice none 0 0, .bool false] 53 (0, 0)) = W1 at h1 ⊢
  have a1 : upd (upd σ T1 (big false 0)) (T1 + 1) (big false 0) T1 = some (big false 0) := by rw [upd_ne _ _ (by omega), upd_eq]
  have a2 : upd (upd σ T1 (big false 0)) (T1 + 1) (big false 0) (T1 + 1) = some (big false 0) := upd_eq _ _ _
  have hle : Le σ (upd (upd σ T1 (big false 0)) (T1 + 1) (big false 0)) := Le.skip hf2 (Le.skip hf1 (Le.refl _))
  generalize upd (upd σ T1 (big false 0)) (T1 + 1) (big false 0) = ρ0 at h1 a1 a2 hle
  have ka := bigAbs_c h1 (bnum_big a1) (num_dec (hle _ _ hx.out)) (by omega)
  rw [put_big a1] at ka
  have b1 := upd_eq ρ0 T1 (big false X)
  have b2 : upd ρ0 T1 (big false X) (T1 + 1) = some (big false 0) := by rw [upd_ne _ _ (by omega)]; exact a2
  have hle1 : Le σ (upd ρ0 T1 (big false X)) := Le.skip hf1 hle
  generalize upd ρ0 T1 (big false X) = ρ1 at ka b1 b2 hle1
  have kb := fun w' (h' : Hold w0 w' ρ1) => bigAbs_c h' (bnum_big b2) (num_dec (hle1 _ _ hy.out)) (by omega)
  rw [put_big b2] at kb
  have c1 : upd ρ1 (T1 + 1) (big false Y) T1 = some (big false X) := by rw [upd_ne _ _ (by omega)]; exact b1
  have c2 := upd_eq ρ1 (T1 + 1) (big false Y)
  have hle2 : Le σ (upd ρ1 (T1 + 1) (big false Y)) := Le.skip hf2 hle1
  generalize upd ρ1 (T1 + 1) (big false Y) = ρ2 at kb c1 c2 hle2
  have kn1 := fun w' (h' : Hold w0 w' ρ2) => NumDigits_c h' (bnum_big c1) (by omega)
  have kn2 := fun w' (h' : Hold w0 w' ρ2) => NumDigits_c h' (bnum_big c2) (by omega)
  replace ka := Lib.hid ka
  replace kb := Lib.hid kb
  replace kn1 := Lib.hid kn1
  replace kn2 := Lib.hid kn2
  replace c1 := Lib.hid c1
  replace c2 := Lib.hid c2
  replace hle2 := Lib.hid hle2
  replace hf1 := Lib.hid hf1
  replace hf2 := Lib.hid hf2
  clear h0 h1 a1 a2 b1 b2 hle hle1 hT1
  go_wp2_with fail
  with_reducible refine ka.out.mono ?_
  rintro E1 w3 ⟨rfl, h3⟩
  have kb := kb.out _ h3
  replace kb := Lib.hid kb
  clear h3 ka
  go_wp2_with fail
  with_reducible refine kb.out.mono ?_
  rintro E1 w4 ⟨rfl, h4⟩
  have kn1 := kn1.out _ h4
  replace kn1 := Lib.hid kn1
  clear h4 kb
  go_wp2_with fail
  with_reducible refine kn1.out.mono ?_
  rintro E1 w5 ⟨rfl, h5⟩
  have kn2 := kn2.out _ h5
  replace kn2 := Lib.hid kn2
  clear h5 kn1
  go_wp2_with fail
  with_reducible refine kn2.out.mono ?_
  rintro E1 w6 ⟨rfl, h6⟩
  clear kn2
  have hfE := h6.fresh (Nat.le_refl w6.heap.size)
  have h7 := h6.newBig
  obtain ⟨TE, hTE⟩ : ∃ TE, w6.heap.size = TE := ⟨_, rfl⟩
  rw [hTE] at h7 hfE
  have n1 : T1 ≠ TE := by rintro rfl; have := c1.out; rw [hfE] at this; cases this
  have n2 : T1 + 1 ≠ TE := by rintro rfl; have := c2.out; rw [hfE] at this; cases this
  have hfs := Le.none hle2.out hfE
  have q1 : QF σ T1 (T1 + 1) TE (upd ρ2 TE (big false 0)) X Y 0 := ⟨by rw [upd_ne _ _ n1]; exact c1.out, by rw [upd_ne _ _ n2]; exact c2.out, upd_eq _ _ _, Le.skip hfs hle2.out⟩
  generalize upd ρ2 TE (big false 0) = ρ3 at h7 q1
  replace h7 := Lib.hid h7
  replace q1 := Lib.hid q1
  replace hfs := Lib.hid hfs
  replace hTE := Lib.hid hTE
  clear h6 c1 c2 hle2 hfE
  have e1 : IntKind.i64.wrap ((figs X : Int) - (figs Y : Int)) = (figs X : Int) - (figs Y : Int) := IntWalk.i64_in _ (by omega)
  have e2 : IntKind.i64.wrap (-((figs X : Int) - (figs Y : Int))) = -((figs X : Int) - (figs Y : Int)) := IntWalk.i64_in _ (by omega)
  go_upto_if 95 with (fail)
  rw [hTE.out]
  generalize w6.alloc (.cells #[.bool false, .slice none 0 0, .bool false] 53 (0, 0)) = W7 at h7 ⊢
  go_cut [] (fun wx => ∃ ρ Z, Hold w0 wx ρ ∧ QF σ T1 (T1 + 1) TE ρ A0 E Z)
  case first =>
    rcases Nat.lt_trichotomy (figs X) (figs Y) with hlt | heq | hgt
    · have d1 : decide ((figs X : Int) - (figs Y : Int) < 0) = true := by simp; omega
      obtain ⟨k, hk⟩ : ∃ k, figs Y - figs X = k := ⟨_, rfl⟩
      have hk2 : -((figs X : Int) - (figs Y : Int)) = (k : Int) := by omega
      rw [hk2] at e2
      have hA0' := hA0.out
      rw [hk] at hA0'
      have hE' : Y = E := by have := hE.out; rw [show figs X - figs Y = 0 by omega, Nat.pow_zero, Nat.mul_one] at this; exact this
      replace hE' := Lib.hid hE'
      have kt := tableExp_c h7.out (bnum_big q1.out.te) k (by omega)
      rw [put_big q1.out.te] at kt
      have q2 := q1.out.setE hfs.out n1 n2 (10 ^ k)
      have km := fun w' (h' : Hold w0 w' (upd ρ3 TE (big false (10 ^ k)))) => bigMul_c h' (bnum_big q2.t1) (num_big q2.t1) (num_big q2.te) (by intro e; injection e with e; exact n1 e) (by omega) (ten_40 (by omega))
      rw [put_big q2.t1, hA0'] at km
      have q3 := q2.set1 hf1.out (by omega) (Ne.symm n1) A0
      replace kt := Lib.hid kt
      replace km := Lib.hid km
      replace q3 := Lib.hid q3
      replace hA0' := Lib.hid hA0'
      replace hk := Lib.hid hk
      clear q2
      go_wp2_with fail
      with_reducible refine kt.out.mono ?_
      rintro E1 w8 ⟨rfl, h8⟩
      have km := km.out _ h8
      replace km := Lib.hid km
      clear h8 kt
      go_wp2_with fail
      with_reducible refine km.out.mono ?_
      rintro E1 w9 ⟨rfl, h9⟩
      replace h9 := Lib.hid h9
      go_wp2_with fail
      go_meet
      exact ⟨_, _, h9.out, by rw [← hE'.out]; exact q3.out⟩
    · have d1 : decide ((figs X : Int) - (figs Y : Int) < 0) = false := by simp; omega
      have d2 : decide ((figs X : Int) - (figs Y : Int) > 0) = false := by simp; omega
      have hA0' : X = A0 := by have := hA0.out; rw [show figs Y - figs X = 0 by omega, Nat.pow_zero, Nat.mul_one] at this; exact this
      have hE' : Y = E := by have := hE.out; rw [show figs X - figs Y = 0 by omega, Nat.pow_zero, Nat.mul_one] at this; exact this
      replace hE' := Lib.hid hE'
      replace hA0' := Lib.hid hA0'
      go_wp2_with fail
      go_meet
      exact ⟨_, _, h7.out, by rw [← hE'.out, ← hA0'.out]; exact q1.out⟩
    · have d1 : decide ((figs X : Int) - (figs Y : Int) < 0) = false := by simp; omega
      have d2 : decide ((figs X : Int) - (figs Y : Int) > 0) = true := by simp; omega
      obtain ⟨k, hk⟩ : ∃ k, figs X - figs Y = k := ⟨_, rfl⟩
      have hE' := hE.out
      rw [hk] at hE'
      have hA0' : X = A0 := by have := hA0.out; rw [show figs Y - figs X = 0 by omega, Nat.pow_zero, Nat.mul_one] at this; exact this
      replace hA0' := Lib.hid hA0'
      have kt := tableExp_c h7.out (bnum_big q1.out.te) k (by omega)
      rw [put_big q1.out.te, show (k : Int) = (figs X : Int) - (figs Y : Int) by omega] at kt
      have q2 := q1.out.setE hfs.out n1 n2 (10 ^ k)
      have km := fun w' (h' : Hold w0 w' (upd ρ3 TE (big false (10 ^ k)))) => bigMul_c h' (bnum_big q2.t2) (num_big q2.t2) (num_big q2.te) (by intro e; injection e with e; exact n2 e) (by omega) (ten_40 (by omega))
      rw [put_big q2.t2, hE'] at km
      have q3 := q2.set2 hf2.out (by omega) (Ne.symm n2) E
      replace kt := Lib.hid kt
      replace km := Lib.hid km
      replace q3 := Lib.hid q3
      replace hE' := Lib.hid hE'
      replace hk := Lib.hid hk
      clear q2
      go_wp2_with fail
      with_reducible refine kt.out.mono ?_
      rintro E1 w8 ⟨rfl, h8⟩
      have km := km.out _ h8
      replace km := Lib.hid km
      clear h8 kt
      go_wp2_with fail
      with_reducible refine km.out.mono ?_
      rintro E1 w9 ⟨rfl, h9⟩
      replace h9 := Lib.hid h9
      go_wp2_with fail
      go_meet
      exact ⟨_, _, h9.out, by rw [← hA0'.out]; exact q3.out⟩
  case rest =>
    obtain ⟨ρ4, Z, h8, q4⟩ := hcut
    have kc := bigCmpH_c h8 (bnum_big q4.t1) (bnum_big q4.t2) (by intro e; injection e with e; omega)
    have hcmp := ordN_neg A0 E
    generalize ordN A0 E = oc at kc hcmp
    obtain ⟨ac, hac⟩ : ∃ ac : Int, -((figs X : Int) - (figs Y : Int)) + (u1 : Int) = ac := ⟨_, rfl⟩
    replace kc := Lib.hid kc
    replace h8 := Lib.hid h8
    replace q4 := Lib.hid q4
    replace hcmp := Lib.hid hcmp
    replace hac := Lib.hid hac
    clear h7 q1
    go_wp2_with fail
    with_reducible refine kc.out.mono ?_
    rintro E1 w9 ⟨rfl, nc, hw⟩
    have h9 : Hold w0 w9 ρ4 := by rw [hw]; exact h8.out.drewN nc
    clear hw kc h8
    replace h9 := Lib.hid h9
    go_upto_if 108 with (fail)
    go_cut [22] (fun v wx => v = .int .i64 ac ∧ ∃ ρ Z, Hold w0 wx ρ ∧ QF σ T1 (T1 + 1) TE ρ A1 E Z)
    case first =>
      by_cases hlt : A0 < E
      · have hd1 : oc < 0 := of_decide_eq_true (by rw [hcmp.out]; exact decide_eq_true hlt)
        have hd2 : ¬ 0 ≤ oc := by omega
        have hu : u1 = 1 := by rw [← hu1.out, if_pos hlt]
        have hA1' : A0 * 10 = A1 := by rw [← hA1.out, hu]
        have e3 : IntKind.i64.wrap (-((figs X : Int) - (figs Y : Int)) + 1) = ac := by rw [← hac.out, hu]; exact IntWalk.i64_in _ (by omega)
        have kt := bigTen_c h9.out
        replace kt := Lib.hid kt
        replace hA1' := Lib.hid hA1'
        go_wp2_with fail
        with_reducible refine kt.out.mono ?_
        rintro E1 w10 ⟨k, rfl, hk, h10⟩
        have hfk := h9.out.fresh hk
        have q5 := q4.out.skip (it := big false 10) hfk
        have hk1 : T1 ≠ k := by rintro rfl; rw [q4.out.t1] at hfk; cases hfk
        have km := bigMul_c h10 (bnum_big q5.t1) (num_big q5.t1) (num_big (upd_eq _ _ _)) (by intro e; injection e with e; exact hk1 e) (by omega) (Nat.lt_of_le_of_lt (dg_small (by omega)) (by omega))
        rw [put_big q5.t1, hA1'.out] at km
        have q6 := q5.set1 hf1.out (by omega) (Ne.symm n1) A1
        replace km := Lib.hid km
        replace q6 := Lib.hid q6
        clear h10 q5 kt hk hfk
        go_wp2_with fail
        with_reducible refine km.out.mono ?_
        rintro E1 w11 ⟨rfl, h11⟩
        replace h11 := Lib.hid h11
        go_wp2_with fail
        go_meet
        exact ⟨rfl, _, _, h11.out, q6.out⟩
      · have hd1 : ¬ oc < 0 := of_decide_eq_false (by rw [hcmp.out]; exact decide_eq_false hlt)
        have hd2 : 0 ≤ oc := by omega
        have hu : u1 = 0 := by rw [← hu1.out, if_neg hlt]
        have hA1' : A0 = A1 := by rw [← hA1.out, hu, Nat.pow_zero, Nat.mul_one]
        have hac' : -((figs X : Int) - (figs Y : Int)) = ac := by rw [← hac.out, hu]; omega
        replace hA1' := Lib.hid hA1'
        replace hac' := Lib.hid hac'
        go_wp2_with fail
        go_meet
        exact ⟨by rw [hac'.out], _, _, h9.out, by rw [← hA1'.out]; exact q4.out⟩
    case rest =>
      obtain ⟨rfl, ρ5, Z5, h10, q5⟩ := hcut
      obtain ⟨j, hj⟩ : ∃ j, p - 1 = j := ⟨_, rfl⟩
      have hj2 : (p : Int) - 1 = (j : Int) := by omega
      have e3 : IntKind.u32.wrap ((p : Int) - 1) = (j : Int) := by rw [hj2]; exact IntWalk.u32_in _ (by omega)
      have e4 : IntKind.i64.wrap (j : Int) = (j : Int) := IntWalk.i64_in _ (by omega)
      have hDA' := hDA.out
      rw [hj] at hDA'
      have c0 := (h10.ctx (q5.le _ _ hc.out)).c0
      have kt := tableExp_c h10 (bnum_big q5.te) j (by omega)
      rw [put_big q5.te] at kt
      have q6 := q5.setE hfs.out n1 n2 (10 ^ j)
      have km := fun w' (h' : Hold w0 w' (upd ρ5 TE (big false (10 ^ j)))) => bigMul_c h' (bnum_big q6.t1) (num_big q6.t1) (num_big q6.te) (by intro e; injection e with e; exact n1 e) (by omega) (ten_40 (by omega))
      rw [put_big q6.t1, hDA'] at km
      have q7 := q6.set1 hf1.out (by omega) (Ne.symm n1) D
      generalize upd (upd ρ5 TE (big false (10 ^ j))) T1 (big false D) = ρ7 at km q7
      replace kt := Lib.hid kt
      replace km := Lib.hid km
      replace hDA' := Lib.hid hDA'
      replace hj := Lib.hid hj
      replace hj2 := Lib.hid hj2
      clear h10 q5 q6 h9 q4
      go_wp2_with fail
      with_reducible refine kt.out.mono ?_
      rintro E1 w10 ⟨rfl, h10⟩
      have km := km.out _ h10
      replace km := Lib.hid km
      clear h10 kt c0
      go_wp2_with fail
      with_reducible refine km.out.mono ?_
      rintro E1 w11 ⟨rfl, h11⟩
      have hfR := h11.fresh (Nat.le_refl w11.heap.size)
      have h12 := h11.newBig
      obtain ⟨TR, hTR⟩ : ∃ TR, w11.heap.size = TR := ⟨_, rfl⟩
      rw [hTR] at h12 hfR
      have q8 := q7.skip (it := big false 0) hfR
      have hd7 := q7.le _ _ hd.out
      have hc7 := q7.le _ _ hc.out
      have hdR : d ≠ TR := by rintro rfl; rw [hd7] at hfR; cases hfR
      have hcR : c ≠ TR := by rintro rfl; rw [hc7] at hfR; cases hfR
      have hd2 : d ≠ T1 + 1 := by rintro rfl; rw [q7.t2] at hd7; cases hd7
      have h2R : T1 + 1 ≠ TR := by rintro rfl; rw [q7.t2] at hfR; cases hfR
      have hd8 : upd ρ7 TR (big false 0) d = some (dec f' n' e' false N') := by rw [upd_ne _ _ hdR]; exact hd7
      have kq := bigQuoRem_c h12 (bnum_dec hd8) (num_big q8.t1) (num_big q8.t2) (bnum_big (upd_eq _ _ _)) hdR hE0 (by omega) (by omega)
      have hR9 : upd (upd ρ7 TR (big false 0)) d (dec f' n' e' false (D / E)) TR = some (big false 0) := by rw [upd_ne _ _ (Ne.symm hdR), upd_eq]
      rw [put_dec hd8, put_big hR9] at kq
      obtain ⟨Q, hQe⟩ : ∃ Q, D / E = Q := ⟨_, rfl⟩
      obtain ⟨R, hRe⟩ : ∃ R, D % E = R := ⟨_, rfl⟩
      rw [hQe, hRe] at kq
      have hQb' := hQb
      have hQd' := hQd
      have hRd' := hRd
      rw [hQe] at hQb' hQd'
      rw [hRe] at hRd'
      have hwy := hways.out
      rw [hQe, hRe] at hwy
      have hrq' := hrq.out
      rw [hRe] at hrq'
      have g1 : ∀ it, upd (upd (upd ρ7 TR (big false 0)) d it) TR (big false R) d = some it := fun it => by rw [upd_ne _ _ hdR, upd_eq]
      have g2 : ∀ it, upd (upd (upd ρ7 TR (big false 0)) d it) TR (big false R) TR = some (big false R) := fun it => upd_eq _ _ _
      have g3 : ∀ it, upd (upd (upd ρ7 TR (big false 0)) d it) TR (big false R) (T1 + 1) = some (big false E) := fun it => by rw [upd_ne _ _ h2R, upd_ne _ _ (Ne.symm hd2)]; exact q8.t2
      have g4 : ∀ it, upd (upd (upd ρ7 TR (big false 0)) d it) TR (big false R) c = some (ctxO p a b (modeS m)) := fun it => by rw [upd_ne _ _ hcR, upd_ne _ _ hcd, upd_ne _ _ hcR]; exact hc7
      have hfsR := Le.none q7.le hfR
      have g5 : ∀ it, Le (upd σ d it) (upd (upd (upd ρ7 TR (big false 0)) d it) TR (big false R)) := fun it => by
        refine Le.skip ?_ (Le.both (Le.skip hfsR q7.le))
        rw [upd_ne _ _ (Ne.symm hdR)]; exact hfsR
      have g6 : ∀ it jt, upd (upd (upd (upd ρ7 TR (big false 0)) d it) TR (big false R)) d jt = upd (upd (upd ρ7 TR (big false 0)) d jt) TR (big false R) := fun it jt => by rw [upd_swap _ _ _ (Ne.symm hdR), upd_upd]
      replace kq := Lib.hid kq
      replace hTR := Lib.hid hTR
      replace hQe := Lib.hid hQe
      replace hRe := Lib.hid hRe
      replace hwy := Lib.hid hwy
      replace hrq' := Lib.hid hrq'
      replace g1 := Lib.hid g1
      replace g2 := Lib.hid g2
      replace g3 := Lib.hid g3
      replace g4 := Lib.hid g4
      replace g5 := Lib.hid g5
      replace g6 := Lib.hid g6
      replace hfsR := Lib.hid hfsR
      clear h11 h12 q7 q8 hd7 hc7 hfR hd8 hR9 km
      go_wp2_with fail
      rw [hTR.out]
      with_reducible refine kq.out.mono ?_
      rintro E1 w13 ⟨rfl, h13⟩
      have d0 := h13.c0 (g1.out _)
      have d1 := h13.c1 (g1.out _)
      have f0 := h13.fz (g1.out _) 0
      have f1 := h13.fz (g1.out _) 1
      have h14 := h13.setForm (g1.out _) 0
      rw [g6.out] at h14
      have h15 := h14.setSign (g1.out _) nn
      rw [g6.out] at h15
      replace h15 := Lib.hid h15
      clear h13 h14 kq
      have hn2 : (!(nx == ny)) = nn := hnn.out
      go_upto_region 33 with (fail)
      generalize (w13.setCell ⟨d, 0, none⟩ (.int .i8 0)).setCell ⟨d, 1, none⟩ (.bool nn) = W15 at h15 ⊢
      clear d0 d1 f0 f1
      generalize hrd : upd (upd (upd ρ7 TR (big false 0)) d (dec 0 nn e' false Q)) TR (big false R) = ρ15 at h15
      have p1 : ρ15 d = some (dec 0 nn e' false Q) := by rw [← hrd]; exact g1.out _
      have p2 : ρ15 TR = some (big false R) := by rw [← hrd]; exact g2.out _
      have p3 : ρ15 (T1 + 1) = some (big false E) := by rw [← hrd]; exact g3.out _
      have p4 : ρ15 c = some (ctxO p a b (modeS m)) := by rw [← hrd]; exact g4.out _
      have p5 : Le (upd σ d (dec 0 nn e' false Q)) ρ15 := by rw [← hrd]; exact g5.out _
      have p6 : ∀ N2, Le (upd σ d (dec 0 nn e' false N2)) (upd ρ15 d (dec 0 nn e' false N2)) := fun N2 => by rw [← hrd, g6.out]; exact g5.out _
      clear hrd g1 g2 g3 g4 g5 g6 hTR
      have kd := NumDigits_c h15.out (bnum_dec p1) (by omega)
      have ksg := fun w' (h' : Hold w0 w' ρ15) => bigSignH_c h' (bnum_big p2)
      have hz : (sgN false R != 0) = !(R == 0) := by rw [← sgN_zero]; rfl
      obtain ⟨sr, hsr⟩ : ∃ sr, sgN false R = sr := ⟨_, rfl⟩
      simp only [hsr] at ksg hz
      have hcalm : calm rq := by rcases hrq'.out with ⟨_, h⟩ | ⟨_, h⟩ <;> rw [h] <;> unfold calm <;> simp
      replace kd := Lib.hid kd
      replace ksg := Lib.hid ksg
      replace hz := Lib.hid hz
      replace hsr := Lib.hid hsr
      replace p1 := Lib.hid p1
      replace p2 := Lib.hid p2
      replace p3 := Lib.hid p3
      replace p4 := Lib.hid p4
      replace p5 := Lib.hid p5
      replace p6 := Lib.hid p6
      clear h15
      go_wp2_with fail
      with_reducible refine kd.out.mono ?_
      rintro E1 w16 ⟨rfl, h16⟩
      have ksg := ksg.out _ h16
      replace ksg := Lib.hid ksg
      replace h16 := Lib.hid h16
      clear kd
      go_wp2_with fail
      with_reducible refine ksg.out.mono ?_
      rintro E1 w' ⟨rfl, hw⟩
      obtain rfl := hw
      clear ksg
      have hfq := figs_401 (N := Q) (by omega)
      have hfq1 := figs_pos Q
      go_upto_if 138 with (fail)
      go_cut [15, 25, 26, 27] (fun v nd _ _ wx => v = .int .u32 (rq : Int) ∧ (∃ dv : Int, nd = .int .i64 dv ∧ (dv = -1 ∨ dv = (figs Rn : Int))) ∧ Hold w0 wx (upd σ d (dec 0 nn e' false Rn)))
      case first =>
        rcases hwy.out with ⟨hR0, hRn⟩ | ⟨aw, hR0, haw, hyes, hno⟩
        · have hz' : (sr != 0) = false := by rw [hz.out, hR0]; rfl
          have hrq0 : rq = 0 := by rcases hrq'.out with ⟨_, h⟩ | ⟨h, _⟩ <;> omega
          replace hR0 := Lib.hid hR0
          replace hRn := Lib.hid hRn
          replace hrq0 := Lib.hid hrq0
          go_wp2_with fail
          go_meet
          exact ⟨by rw [hrq0.out]; rfl, ⟨_, rfl, .inr (by rw [hRn.out])⟩, by rw [hRn.out]; exact h16.out.le p5.out⟩
        · have hz' : (sr != 0) = true := by rw [hz.out]; simp [hR0]
          have hrq0 : rq = 80 := by rcases hrq'.out with ⟨h, _⟩ | ⟨_, h⟩ <;> omega
          have hacb : -900 ≤ ac ∧ ac ≤ 900 := by rw [← hac.out]; omega
          have hjb : (j : Int) ≤ 250 := by rw [← hj2.out]; omega
          have e5 : IntKind.i64.wrap (-ac) = -ac := IntWalk.i64_in _ (by omega)
          have e6 : IntKind.i64.wrap (ex - ey + -ac) = ex - ey + -ac := IntWalk.i64_in _ (by omega)
          have e7 : IntKind.i64.wrap (-(j : Int)) = -(j : Int) := IntWalk.i64_in _ (by omega)
          have e8 : IntKind.i64.wrap (ex - ey + -ac + -(j : Int)) = ex - ey + -ac + -(j : Int) := IntWalk.i64_in _ (by omega)
          have e9 : IntKind.i64.wrap (ex - ey + -ac + -(j : Int) + (figs Q : Int)) = ex - ey + -ac + -(j : Int) + (figs Q : Int) := IntWalk.i64_in _ (by omega)
          have e10 : IntKind.i64.wrap (ex - ey + -ac + -(j : Int) + (figs Q : Int) - 1) = ex - ey + -ac + -(j : Int) + (figs Q : Int) - 1 := IntWalk.i64_in _ (by omega)
          have e11 : IntKind.i64.wrap b = b := IntWalk.i64_in _ (by omega)
          have hge : b ≤ ex - ey + -ac + -(j : Int) + (figs Q : Int) - 1 := by omega
          have b80 : bits .or .u32 0 80 = 80 := by kernel_rfl
          have c2 := (h16.out.ctx p4.out).c2
          have kt := bigTwo_c h16.out
          replace kt := Lib.hid kt
          replace hR0 := Lib.hid hR0
          replace haw := Lib.hid haw
          replace hyes := Lib.hid hyes
          replace hno := Lib.hid hno
          replace hrq0 := Lib.hid hrq0
          go_wp2_with fail
          with_reducible refine kt.out.mono ?_
          rintro E1 w17 ⟨k, rfl, hk, h17⟩
          have hfk := h16.out.fresh hk
          have k1 : TR ≠ k := by rintro rfl; rw [p2.out] at hfk; cases hfk
          have k2 : d ≠ k := by rintro rfl; rw [p1.out] at hfk; cases hfk
          have k3 : T1 + 1 ≠ k := by rintro rfl; rw [p3.out] at hfk; cases hfk
          have k4 : c ≠ k := by rintro rfl; rw [p4.out] at hfk; cases hfk
          have s2 : upd ρ15 k (big false 2) TR = some (big false R) := by rw [upd_ne _ _ k1]; exact p2.out
          have km := bigMul_c h17 (bnum_big s2) (num_big s2) (num_big (upd_eq _ _ _)) (by intro e; injection e with e; exact k1 e) (by omega) (Nat.lt_of_le_of_lt (dg_small (by omega)) (by omega))
          rw [put_big s2] at km
          have r1 : upd (upd ρ15 k (big false 2)) TR (big false (R * 2)) d = some (dec 0 nn e' false Q) := by rw [upd_ne _ _ hdR, upd_ne _ _ k2]; exact p1.out
          have r2 := upd_eq (upd ρ15 k (big false 2)) TR (big false (R * 2))
          have r3 : upd (upd ρ15 k (big false 2)) TR (big false (R * 2)) (T1 + 1) = some (big false E) := by rw [upd_ne _ _ h2R, upd_ne _ _ k3]; exact p3.out
          have r4 : upd (upd ρ15 k (big false 2)) TR (big false (R * 2)) c = some (ctxO p a b (modeS m)) := by rw [upd_ne _ _ hcR, upd_ne _ _ k4]; exact p4.out
          have r6 : ∀ N2, Le (upd σ d (dec 0 nn e' false N2)) (upd (upd (upd ρ15 k (big false 2)) TR (big false (R * 2))) d (dec 0 nn e' false N2)) := fun N2 => by
            rw [upd_swap _ _ _ (Ne.symm hdR), upd_swap _ _ _ (Ne.symm k2)]
            refine Le.skip (by rw [upd_ne _ _ (Ne.symm hdR)]; exact hfsR.out) (Le.skip (Le.none (p6.out N2) (by rw [upd_ne _ _ (Ne.symm k2)]; exact hfk)) (p6.out N2))
          have r5 : Le (upd σ d (dec 0 nn e' false Q)) (upd (upd ρ15 k (big false 2)) TR (big false (R * 2))) := by
            have := r6 Q
            rw [upd_self r1] at this
            exact this
          generalize upd (upd ρ15 k (big false 2)) TR (big false (R * 2)) = ρ18 at km r1 r2 r3 r4 r5 r6
          replace km := Lib.hid km
          clear h17 kt hk hfk s2 c2
          go_wp2_with fail
          with_reducible refine km.out.mono ?_
          rintro E1 w18 ⟨rfl, h18⟩
          have kc := bigCmpH_c h18 (bnum_big r2) (bnum_big r3) (by intro e; injection e with e; exact h2R e.symm)
          rw [ordN_3, Nat.mul_comm R 2] at kc
          obtain ⟨half, hhalf⟩ : ∃ half, ord3 (2 * R) E = half := ⟨_, rfl⟩
          rw [hhalf] at kc
          have haw' := haw.out
          rw [hhalf] at haw'
          replace kc := Lib.hid kc
          replace hhalf := Lib.hid hhalf
          replace haw' := Lib.hid haw'
          replace h18 := Lib.hid h18
          clear km
          go_wp2_with fail
          with_reducible refine kc.out.mono ?_
          rintro E1 w19 ⟨rfl, nc2, hw⟩
          have h19 : Hold w0 w19 ρ18 := by rw [hw]; exact h18.out.drewN nc2
          clear hw kc h18
          obtain ⟨P, hP⟩ : ∃ P, modeS m = P := ⟨_, rfl⟩
          have kS := fun w' (hc : Chg w19 w' (fun _ => False)) => shouldAdd_c (h19.keep hc) (bnum_dec r1) (by omega) nn half m hm
          rw [hP] at r4
          simp only [hP, haw'.out] at kS
          have hf : ∀ w', Hold w0 w' ρ18 → w'.cell? ⟨c, 4, none⟩ = some (.string P) ∧ w'.cell? ⟨d, 1, none⟩ = some (.bool nn) := fun w' hh => ⟨(hh.ctx r4).c4, hh.c1 r1⟩
          have hS0 := hf _ h19.drew
          replace kS := Lib.hid kS
          replace hf := Lib.hid hf
          replace hP := Lib.hid hP
          replace h19 := Lib.hid h19
          replace r1 := Lib.hid r1
          replace r2 := Lib.hid r2
          replace r3 := Lib.hid r3
          replace r4 := Lib.hid r4
          replace r5 := Lib.hid r5
          replace r6 := Lib.hid r6
          go_upto_region 40 with (fail)
          go_region_held3 (fun w' => w'.cell? ⟨c, 4, none⟩ = some (.string P) ∧ w'.cell? ⟨d, 1, none⟩ = some (.bool nn)) (first | exact hS0 | exact hS1) (
            (go_at_call 87
             refine (kS.out _ (by exact ⟨rfl, rfl, rfl, Nat.le_refl _, fun _ _ _ => rfl⟩)).mono ?_
             rintro E1 w20 ⟨rfl, h20⟩
             have hS1 := hf.out _ h20
             replace h20 := Lib.hid h20))
          clear hS0 hS1 hf kS
          cases aw with
          | false =>
            have hRn := hno.out rfl
            replace hRn := Lib.hid hRn
            go_wp2_with fail
            go_meet
            exact ⟨by rw [hrq0.out]; rfl, ⟨_, rfl, .inr (by rw [hRn.out])⟩, by rw [hRn.out]; exact h20.out.le r5.out⟩
          | true =>
            have hRn := hyes.out rfl
            have ko := fun w' (hc : Chg w20 w' (fun _ => False)) => bigOne_c (h20.out.keep hc)
            have hfr := fun w' (hc : Chg w20 w' (fun _ => False)) j (hj : w'.heap.size ≤ j) => (h20.out.keep hc).fresh hj
            have ka : ∀ w' k1, ρ18 k1 = none → Hold w0 w' (upd ρ18 k1 (big false 1)) → Calls Tryz.prog 88 #[.pointer (some ⟨d, 3, none⟩), .pointer (some ⟨d, 3, none⟩), .pointer (some ⟨k1, 0, none⟩)] w' fun e w2 => e = .returned (.pointer (some ⟨d, 3, none⟩)) ∧ Hold w0 w2 (upd σ d (dec 0 nn e' false (Q + 1))) := fun w' k1 hk1 h' => by
              have z1 : d ≠ k1 := by rintro rfl; rw [r1.out] at hk1; cases hk1
              have z2 : upd ρ18 k1 (big false 1) d = some (dec 0 nn e' false Q) := by rw [upd_ne _ _ z1]; exact r1.out
              have kk := bigAdd_c h' (bnum_dec z2) (num_dec z2) (num_big (upd_eq _ _ _)) (by omega) (Nat.le_trans (dg_small (by omega)) (by omega))
              rw [put_dec z2, upd_swap _ _ _ (Ne.symm z1)] at kk
              refine kk.mono ?_
              rintro e w2 ⟨rfl, h2⟩
              exact ⟨rfl, h2.le (Le.skip (Le.none (r6.out (Q + 1)) (by rw [upd_ne _ _ (Ne.symm z1)]; exact hk1)) (r6.out (Q + 1)))⟩
            replace hRn := Lib.hid hRn
            replace ko := Lib.hid ko
            replace hfr := Lib.hid hfr
            replace ka := Lib.hid ka
            go_wp2_with fail
            go_upto_region 41 with (fail)
            go_region_held3 (fun w' => Anyp w') (exact anyp _) (first
              | (go_at_call 89
                 refine (ko.out _ (by exact ⟨rfl, rfl, rfl, Nat.le_refl _, fun _ _ _ => rfl⟩)).mono ?_
                 rintro E1 w21 ⟨k1, rfl, hk1, h21⟩
                 have hk2 := hfr.out _ (by exact ⟨rfl, rfl, rfl, Nat.le_refl _, fun _ _ _ => rfl⟩) k1 hk1
                 replace h21 := Lib.hid h21
                 replace hk2 := Lib.hid hk2
                 clear hk1)
              | (go_at_call 88
                 refine (ka.out _ _ hk2.out h21.out).mono ?_
                 rintro E1 w22 ⟨rfl, h22⟩
                 replace h22 := Lib.hid h22))
            go_wp2_with fail
            go_meet
            exact ⟨by rw [hrq0.out]; rfl, ⟨-1, rfl, .inl rfl⟩, by rw [hRn.out]; exact h22.out⟩
      case rest =>
        obtain ⟨rfl, ⟨dv, rfl, hdv⟩, h20⟩ := hcut
        have hRnb : nbits Rn < 1200 := by
          have h1 := nbits_succ Q
          rcases hwy.out with ⟨_, h⟩ | ⟨aw, _, _, h, h'⟩
          · rw [h]; omega
          · cases aw with
            | true => rw [h rfl]; omega
            | false => rw [h' rfl]; omega
        have hacb : -900 ≤ ac ∧ ac ≤ 900 := by rw [← hac.out]; omega
        have hjb : (j : Int) ≤ 250 := by rw [← hj2.out]; omega
        have e5 : IntKind.i64.wrap (-ac) = -ac := IntWalk.i64_in _ (by omega)
        have e7 : IntKind.i64.wrap (-(j : Int)) = -(j : Int) := IntWalk.i64_in _ (by omega)
        have hcd2 : ∀ it, upd σ d it c = some (ctxO p a b (modeS m)) := fun it => by rw [upd_ne _ _ hcd]; exact hc.out
        have hal := h20.keep ((Chg.refl wc _).alloc (.cells #[.int .i64 (ex - ey), .int .i64 (-ac), .int .i64 (-(j : Int))] 2 (0, 0)))
        have ke1 := setExp_c (s := wc.heap.size) (l := 3) (cap := 3) (nd := dv) (r := rq) hal (three (ex - ey) (-ac) (-(j : Int))) (upd_eq _ _ _) (hcd2 _) hRnb hdv hcalm (by omega) (fun k hk => by
          rcases (by omega : k = 0 ∨ k = 1 ∨ k = 2) with rfl | rfl | rfl
          · show -10000 ≤ ex - ey ∧ ex - ey ≤ 10000; omega
          · show -10000 ≤ -ac ∧ -ac ≤ 10000; omega
          · show -10000 ≤ -(j : Int) ∧ -(j : Int) ≤ 10000; omega) (fun k hk => by
          rcases (by omega : k = 0 ∨ k = 1 ∨ k = 2) with rfl | rfl | rfl
          · exact cellB (allocB wc _) rfl
          · exact cellB (allocB wc _) rfl
          · exact cellB (allocB wc _) rfl) ha hb (by omega)
        rw [sumN_three, upd_upd, show ex - ey + -ac + -(j : Int) = e0 by rw [hqe.out, ← hac.out, hj2.out]] at ke1
        have ke := fun w1 (h1 : Hold w0 w1 (upd σ d (dec 0 nn e0 false Rn))) => errH_c h1 (hcd2 _) hcalm
        have hor := (calm_or hcalm).1
        replace ke1 := Lib.hid ke1
        replace ke := Lib.hid ke
        clear hal h20
        go_wp2_with fail
        refine ke1.out.mono ?_
        rintro E1 w30 ⟨rfl, h30⟩
        have ke := ke.out _ h30
        replace ke := Lib.hid ke
        replace h30 := Lib.hid h30
        go_wp2_with fail
        refine ke.out.mono ?_
        rintro E1 w' ⟨rfl, hw⟩
        obtain rfl := hw
        go_wp2
        go_ret2
        exact ⟨rfl, h30.out⟩
end Go.Proofs.YtonepclpllelfaaGreatDoor
