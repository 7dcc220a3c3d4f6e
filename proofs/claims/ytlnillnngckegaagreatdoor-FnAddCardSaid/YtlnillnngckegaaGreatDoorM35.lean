/- Decimal.Neg; Context.Abs, Neg. Context.Mul. apd.upscale. Context.add. -/
import Derived.Test.YtlnillnngckegaaGreatDoorM34
namespace Go.Proofs.YtlnillnngckegaaGreatDoor
open Go Go.RowKit

/-- The sign of what is turned: 0 has none. -/
def negS (n : Bool) (N : Nat) : Bool := !n && !decide (N = 0)
theorem decNeg_c {w0 w : World} {σ : Sg} (h : Hold w0 w σ) {d x : Nat} {e f' e' : Int} {n n' g' : Bool} {N N' : Nat} (hd : σ d = some (dec f' n' e' g' N')) (hx : σ x = some (dec 0 n e false N)) (hN : (digs N).length ≤ 1000) :
    Calls Tryz.prog 55 #[.pointer (some ⟨d, 0, none⟩), .pointer (some ⟨x, 0, none⟩)] w fun E w' => E = .returned (.pointer (some ⟨d, 0, none⟩)) ∧ Hold w0 w' (upd σ d (dec 0 (negS n N) e false N)) := by
  have ks := decSet_c h hd hx hN
  replace ks := Lib.hid ks
  clear h hd hx hN
  go_enter Tryz.func55, Tryz.ntmps55
  go_wp2_with fail
  with_reducible refine ks.out.mono ?_
  rintro E w1 ⟨rfl, h1⟩
  have kz := isZeroH_c h1 (upd_eq _ _ _)
  have d1 := h1.c1 (upd_eq _ _ _)
  have f1 := h1.fz (upd_eq _ _ _) 1
  have h2 := h1.setSign (upd_eq _ _ _) (negS n N)
  rw [upd_upd] at h2
  clear h1
  by_cases h0 : N = 0
  · have hs : negS n N = false := by unfold negS; simp [h0]
    rw [hs] at h2
    rw [show decide (N = 0) = true by simp [h0]] at kz
    replace hs := Lib.hid hs
    replace h2 := Lib.hid h2
    replace kz := Lib.hid kz
    clear h0
    go_wp2_with fail
    with_reducible refine kz.out.mono ?_
    rintro E w' ⟨rfl, hw⟩
    obtain rfl := hw
    go_wp2
    go_ret
    rw [hs.out]
    exact ⟨rfl, h2.out⟩
  · have hs : negS n N = !n := by unfold negS; simp [h0]
    rw [hs] at h2
    rw [show decide (N = 0) = false by simp [h0]] at kz
    replace hs := Lib.hid hs
    replace h2 := Lib.hid h2
    replace kz := Lib.hid kz
    clear h0
    go_wp2_with fail
    with_reducible refine kz.out.mono ?_
    rintro E w' ⟨rfl, hw⟩
    obtain rfl := hw
    go_wp2
    go_ret
    rw [hs.out]
    exact ⟨rfl, h2.out⟩

set_option maxRecDepth 20000 in
theorem cAbs_c {w0 w : World} {σ : Sg} (h : Hold w0 w σ) {d x c p m : Nat} {e f' e' a b : Int} {n n' g' : Bool} {N N' : Nat} (hd : σ d = some (dec f' n' e' g' N')) (hx : σ x = some (dec 0 n e false N)) (hc : σ c = some (ctxO p a b (modeS m)))
    (hp : 1 ≤ p ∧ p ≤ 1000) (ha : 50000 ≤ a ∧ a ≤ 2000000) (hb : -2000000 ≤ b ∧ b ≤ -50000) (hN : nbits N < 1100) (hm : m < 8) (he : -3000 ≤ e ∧ e ≤ 3000) :
    Calls Tryz.prog 32 #[.pointer (some ⟨c, 0, none⟩), .pointer (some ⟨d, 0, none⟩), .pointer (some ⟨x, 0, none⟩)] w (CRes w0 σ d false e p m N) := by
  have kn := shouldNaN1_c w (.pointer (some ⟨c, 0, none⟩)) x 0 (h.c0 hx) (by omega)
  rw [show decide ((2 : Int) ≤ 0) = false from rfl] at kn
  have ka := decAbs_c h hd hx (bits_words (by omega))
  have hcd : c ≠ d := by rintro rfl; rw [hc] at hd; cases hd
  have hc1 : upd σ d (dec 0 false e false N) c = some (ctxO p a b (modeS m)) := by rw [upd_ne _ _ hcd]; exact hc
  have kr := fun w1 (h1 : Hold w0 w1 (upd σ d (dec 0 false e false N))) => round_c h1 (upd_eq _ _ _) (upd_eq _ _ _) hc1 hp ha hb hN hm he
  simp only [upd_upd] at kr
  have hc2 : upd σ d (dec 0 false (e + (rndK false N p m : Int)) false (rndN false N p m)) c = some (ctxO p a b (modeS m)) := by rw [upd_ne _ _ hcd]; exact hc
  have ke := fun w1 (h1 : Hold w0 w1 (upd σ d (dec 0 false (e + (rndK false N p m : Int)) false (rndN false N p m)))) => errH_c h1 hc2 (rndC_calm N p)
  unfold CRes
  generalize rndC N p = r at *
  replace kn := Lib.hid kn
  replace ka := Lib.hid ka
  replace kr := Lib.hid kr
  replace ke := Lib.hid ke
  clear h hd hx hc hc1 hc2
  go_enter Tryz.func32, Tryz.ntmps32
  go_wp2_with fail
  with_reducible refine kn.out.mono ?_
  rintro E w' ⟨rfl, hw⟩
  obtain rfl := hw
  go_wp2_with fail
  with_reducible refine ka.out.mono ?_
  rintro E w1 ⟨rfl, h1⟩
  have kr := kr.out _ h1
  replace kr := Lib.hid kr
  clear h1
  go_wp2_with fail
  with_reducible refine kr.out.mono ?_
  rintro E w2 ⟨rfl, h2⟩
  have ke := ke.out _ h2
  replace ke := Lib.hid ke
  replace h2 := Lib.hid h2
  go_wp2_with fail
  with_reducible refine ke.out.mono ?_
  rintro E w' ⟨rfl, hw⟩
  obtain rfl := hw
  go_wp2
  go_ret2
  exact ⟨rfl, h2.out⟩

set_option maxRecDepth 20000 in
theorem cNeg_c {w0 w : World} {σ : Sg} (h : Hold w0 w σ) {d x c p m : Nat} {e f' e' a b : Int} {n n' g' : Bool} {N N' : Nat} (hd : σ d = some (dec f' n' e' g' N')) (hx : σ x = some (dec 0 n e false N)) (hc : σ c = some (ctxO p a b (modeS m)))
    (hp : 1 ≤ p ∧ p ≤ 1000) (ha : 50000 ≤ a ∧ a ≤ 2000000) (hb : -2000000 ≤ b ∧ b ≤ -50000) (hN : nbits N < 1100) (hm : m < 8) (he : -3000 ≤ e ∧ e ≤ 3000) :
    Calls Tryz.prog 33 #[.pointer (some ⟨c, 0, none⟩), .pointer (some ⟨d, 0, none⟩), .pointer (some ⟨x, 0, none⟩)] w (CRes w0 σ d (negS n N) e p m N) := by
  have kn := shouldNaN1_c w (.pointer (some ⟨c, 0, none⟩)) x 0 (h.c0 hx) (by omega)
  rw [show decide ((2 : Int) ≤ 0) = false from rfl] at kn
  have ka := decNeg_c h hd hx (bits_words (by omega))
  have hcd : c ≠ d := by rintro rfl; rw [hc] at hd; cases hd
  generalize hs : negS n N = s at *
  have hc1 : upd σ d (dec 0 s e false N) c = some (ctxO p a b (modeS m)) := by rw [upd_ne _ _ hcd]; exact hc
  have kr := fun w1 (h1 : Hold w0 w1 (upd σ d (dec 0 s e false N))) => round_c h1 (upd_eq _ _ _) (upd_eq _ _ _) hc1 hp ha hb hN hm he
  simp only [upd_upd] at kr
  have hc2 : upd σ d (dec 0 s (e + (rndK s N p m : Int)) false (rndN s N p m)) c = some (ctxO p a b (modeS m)) := by rw [upd_ne _ _ hcd]; exact hc
  have ke := fun w1 (h1 : Hold w0 w1 (upd σ d (dec 0 s (e + (rndK s N p m : Int)) false (rndN s N p m)))) => errH_c h1 hc2 (rndC_calm N p)
  unfold CRes
  generalize rndC N p = r at *
  replace kn := Lib.hid kn
  replace ka := Lib.hid ka
  replace kr := Lib.hid kr
  replace ke := Lib.hid ke
  clear h hd hx hc hc1 hc2 hs
  go_enter Tryz.func33, Tryz.ntmps33
  go_wp2_with fail
  with_reducible refine kn.out.mono ?_
  rintro E w' ⟨rfl, hw⟩
  obtain rfl := hw
  go_wp2_with fail
  with_reducible refine ka.out.mono ?_
  rintro E w1 ⟨rfl, h1⟩
  have kr := kr.out _ h1
  replace kr := Lib.hid kr
  clear h1
  go_wp2_with fail
  with_reducible refine kr.out.mono ?_
  rintro E w2 ⟨rfl, h2⟩
  have ke := ke.out _ h2
  replace ke := Lib.hid ke
  replace h2 := Lib.hid h2
  go_wp2_with fail
  with_reducible refine ke.out.mono ?_
  rintro E w' ⟨rfl, hw⟩
  obtain rfl := hw
  go_wp2
  go_ret2
  exact ⟨rfl, h2.out⟩
end Go.Proofs.YtlnillnngckegaaGreatDoor

namespace Go.Proofs.YtlnillnngckegaaGreatDoor
open Go Go.RowKit

theorem nbits_mul (X Y : Nat) : nbits (X * Y) ≤ nbits X + nbits Y := by
  refine nbits_le_iff.2 ?_
  rw [Nat.pow_add]
  exact Nat.mul_lt_mul'' (nbits_lt X) (nbits_lt Y)
theorem or0 {r : Nat} (h : calm r) : bits .or .u32 0 (r : Int) = (r : Int) := by
  rcases h with rfl | rfl | rfl | rfl <;> kernel_rfl
set_option maxRecDepth 20000 in
set_option maxHeartbeats 2000000 in
theorem cMul_c {w0 w : World} {σ : Sg} (h : Hold w0 w σ) {d x y c p m : Nat} {ex ey f' e' a b : Int} {nx ny n' g' : Bool} {X Y N' : Nat} (hd : σ d = some (dec f' n' e' g' N')) (hx : σ x = some (dec 0 nx ex false X)) (hy : σ y = some (dec 0 ny ey false Y)) (hxy : x ≠ y) (hdx : d ≠ x) (hdy : d ≠ y) (hc : σ c = some (ctxO p a b (modeS m)))
    (hp : 1 ≤ p ∧ p ≤ 1000) (ha : 50000 ≤ a ∧ a ≤ 2000000) (hb : -2000000 ≤ b ∧ b ≤ -50000) (hX : nbits X ≤ 512) (hY : nbits Y ≤ 512) (hm : m < 8) (hex : -1000 ≤ ex ∧ ex ≤ 1000) (hey : -1000 ≤ ey ∧ ey ≤ 1000) :
    Calls Tryz.prog 34 #[.pointer (some ⟨c, 0, none⟩), .pointer (some ⟨d, 0, none⟩), .pointer (some ⟨x, 0, none⟩), .pointer (some ⟨y, 0, none⟩)] w (CRes w0 σ d (nx != ny) (ex + ey) p m (X * Y)) := by
  have kn := shouldNaN_c w (.pointer (some ⟨c, 0, none⟩)) x y 0 0 (h.c0 hx) (h.c0 hy) (by omega) (by omega)
  rw [show decide ((2 : Int) ≤ 0 ∨ (2 : Int) ≤ 0) = false from rfl] at kn
  have x0 := h.c0 hx
  have y0 := h.c0 hy
  have x1 := h.c1 hx
  have y1 := h.c1 hy
  have hcd : c ≠ d := by rintro rfl; rw [hc] at hd; cases hd
  have hPb : nbits (X * Y) < 1100 := Nat.lt_of_le_of_lt (nbits_mul X Y) (by omega)
  have hX40 : (digs X).length < 40 := Nat.lt_of_le_of_lt (bits_w (k := 8) (by omega)) (by omega)
  have hY40 : (digs Y).length < 40 := Nat.lt_of_le_of_lt (bits_w (k := 8) (by omega)) (by omega)
  have km := fun w' (hc : Chg w w' (fun _ => False)) => bigMul_c (h.keep hc) (bnum_dec hd) (num_dec hx) (num_dec hy) (by intro e; injection e with e; exact hxy e) hX40 hY40
  rw [put_dec hd] at km
  have upx : ∀ it, upd σ d it x = some (dec 0 nx ex false X) := fun it => by rw [upd_ne _ _ (Ne.symm hdx)]; exact hx
  have upy : ∀ it, upd σ d it y = some (dec 0 ny ey false Y) := fun it => by rw [upd_ne _ _ (Ne.symm hdy)]; exact hy
  have upc : ∀ it, upd σ d it c = some (ctxO p a b (modeS m)) := fun it => by rw [upd_ne _ _ hcd]; exact hc
  unfold CRes
  have hrc := rndC_calm (X * Y) p
  generalize X * Y = M at *
  obtain ⟨nn, hnn⟩ : ∃ nn, (nx != ny) = nn := ⟨_, rfl⟩
  rw [hnn]
  have hn2 : (!(nx == ny)) = nn := hnn
  clear hnn
  have kr := fun w1 (h1 : Hold w0 w1 (upd σ d (dec 0 nn (ex + ey) false M))) => round_c h1 (upd_eq _ _ _) (upd_eq _ _ _) (upc _) hp ha hb hPb hm (by omega)
  simp only [upd_upd] at kr
  have ke := fun w1 (h1 : Hold w0 w1 (upd σ d (dec 0 nn (ex + ey + (rndK nn M p m : Int)) false (rndN nn M p m)))) => errH_c h1 (upc _) hrc
  have hor := or0 hrc
  generalize rndC M p = r at *
  have ew1 : IntKind.i64.wrap ex = ex := IntWalk.i64_in _ (by omega)
  have ew2 : IntKind.i64.wrap ey = ey := IntWalk.i64_in _ (by omega)
  replace kn := Lib.hid kn
  replace km := Lib.hid km
  replace kr := Lib.hid kr
  replace ke := Lib.hid ke
  replace upx := Lib.hid upx
  replace upy := Lib.hid upy
  replace upc := Lib.hid upc
  replace hrc := Lib.hid hrc
  clear h hd hx hy hc
  go_enter Tryz.func34, Tryz.ntmps34
  go_wp2_with fail
  with_reducible refine kn.out.mono ?_
  rintro E w' ⟨rfl, hw⟩
  obtain rfl := hw
  go_upto_region 3 with (fail)
  go_quiet (fail)
  go_upto_region 4 with (fail)
  go_quiet (fail)
  go_upto_region 12 with (fail)
  go_still_tail 9, (by kernel_rfl)
  change wpList _ _ _ _ _ (World.drew _)
  go_wp2_with fail
  with_reducible refine (km.out _ (by exact ⟨rfl, rfl, rfl, Nat.le_refl _, fun _ _ _ => rfl⟩)).mono ?_
  rintro E w1 ⟨rfl, h1⟩
  have d1 := h1.c1 (upd_eq _ _ _)
  have d0 := h1.c0 (upd_eq _ _ _)
  have f1 := h1.fz (upd_eq _ _ _) 1
  have f0 := h1.fz (upd_eq _ _ _) 0
  have h2 := h1.setSign (upd_eq _ _ _) nn
  rw [upd_upd] at h2
  have h3 := h2.setForm (upd_eq _ _ _) 0
  rw [upd_upd] at h3
  replace h3 := Lib.hid h3
  clear h1 h2 km x0 y0 x1 y1
  go_upto_region 15 with (fail)
  generalize (w1.setCell ⟨d, 1, none⟩ (.bool nn)).setCell ⟨d, 0, none⟩ (.int .i8 0) = W at h3 ⊢
  have x2 := h3.out.c2 (upx.out _)
  have y2 := h3.out.c2 (upy.out _)
  have ks := setExp2_c h3.out ex ey (upd_eq _ _ _) (upc.out _) (by omega) (nd := -1) (.inl rfl) (r := 0) (.inl rfl) (by omega) (by omega) ha hb
  rw [upd_upd] at ks
  replace ks := Lib.hid ks
  clear d1 d0 f1 f0
  go_cut [13] (fun v wx => v = .int .u32 0 ∧ Hold w0 wx (upd σ d (dec 0 nn (ex + ey) false M)))
  case first =>
    go_region_with ((go_at_call 61; refine ks.out.mono ?_; rintro E w4 ⟨rfl, h4⟩; replace h4 := Lib.hid h4))
    all_goals
      go_wp2_with fail
      go_meet
      exact ⟨rfl, h4.out⟩
  case rest =>
    obtain ⟨rfl, h5⟩ := hcut
    have kr := kr.out _ h5
    replace kr := Lib.hid kr
    clear h5 h3 x2 y2 ks
    go_wp2_with fail
    with_reducible refine kr.out.mono ?_
    rintro E w6 ⟨rfl, h6⟩
    have ke := ke.out _ h6
    replace ke := Lib.hid ke
    replace h6 := Lib.hid h6
    go_wp2_with fail
    with_reducible refine ke.out.mono ?_
    rintro E w' ⟨rfl, hw⟩
    obtain rfl := hw
    go_wp2
    go_ret2
    exact ⟨rfl, h6.out⟩
end Go.Proofs.YtlnillnngckegaaGreatDoor

namespace Go.Proofs.YtlnillnngckegaaGreatDoor
open Go Go.RowKit

/-- Two magnitudes with one exponent. -/
def UpRes (w0 : World) (σ : Sg) (x y T X Y : Nat) (ex ey : Int) (E : Ending) (w' : World) : Prop :=
  ∃ (σ' : Sg) (ba oa bb ob : Nat), E = .returned (.tuple #[.pointer (some ⟨ba, oa, none⟩), .pointer (some ⟨bb, ob, none⟩), .int .i32 (if ex ≤ ey then ex else ey), .nilIface]) ∧ Hold w0 w' σ' ∧ Num σ' ba oa false (X * 10 ^ (ex - ey).toNat) ∧ Num σ' bb ob false (Y * 10 ^ (ey - ex).toNat) ∧ (ba = x ∨ ba = T) ∧ (bb = y ∨ bb = T) ∧ (σ' = σ ∨ ∃ N, σ' = upd σ T (big false N))

set_option maxRecDepth 20000 in
set_option maxHeartbeats 1000000 in
theorem up_same {w0 w : World} {σ : Sg} (h : Hold w0 w σ) {x y T : Nat} {e : Int} {nx ny : Bool} {X Y : Nat} (hx : σ x = some (dec 0 nx e false X)) (hy : σ y = some (dec 0 ny e false Y)) :
    Calls Tryz.prog 91 #[.pointer (some ⟨x, 0, none⟩), .pointer (some ⟨y, 0, none⟩), .pointer (some ⟨T, 0, none⟩)] w (UpRes w0 σ x y T X Y e e) := by
  have x2 := h.c2 hx
  have y2 := h.c2 hy
  have ee : (e == e) = true := by simp
  have hend : ∀ n n2 v, v = .tuple #[.pointer (some ⟨x, 3, none⟩), .pointer (some ⟨y, 3, none⟩), .int .i32 e, .nilIface] → UpRes w0 σ x y T X Y e e (.returned v) ((w.drewN n).drewN n2) := fun n n2 v hv => by
    subst hv
    refine ⟨σ, x, 3, y, 3, ?_, (h.drewN n).drewN n2, ?_, ?_, .inl rfl, .inl rfl, .inl rfl⟩
    · rw [if_pos (Int.le_refl e)]
    · rw [Int.sub_self]; simpa using num_dec hx
    · rw [Int.sub_self]; simpa using num_dec hy
  replace hend := Lib.hid hend
  clear h hx hy
  go_enter Tryz.func91, Tryz.ntmps91
  go_upto_region 1 with (fail)
  go_quiet (fail)
  go_upto_region 2 with (fail)
  go_quiet (fail)
  go_wp2
  exact bodyPost_ret (v := .tuple #[.pointer (some ⟨x, 3, none⟩), .pointer (some ⟨y, 3, none⟩), .int .i32 e, .nilIface]) (by simp [results, Tryz.results91, go_sem]) rfl (hend.out _ _ _ rfl)

set_option maxRecDepth 20000 in
set_option maxHeartbeats 2000000 in
theorem up_lt {w0 w : World} {σ : Sg} (h : Hold w0 w σ) {x y T : Nat} {ex ey : Int} {nx ny g : Bool} {X Y Z : Nat} (hx : σ x = some (dec 0 nx ex false X)) (hy : σ y = some (dec 0 ny ey false Y)) (hT : σ T = some (big g Z)) (_hxy : x ≠ y)
    (hex : -10000 ≤ ex ∧ ex ≤ 10000) (hey : -10000 ≤ ey ∧ ey ≤ 10000) (hlt : ex < ey) (hfar : ey - ex ≤ 400) (hY : (digs Y).length < 40) :
    Calls Tryz.prog 91 #[.pointer (some ⟨x, 0, none⟩), .pointer (some ⟨y, 0, none⟩), .pointer (some ⟨T, 0, none⟩)] w (UpRes w0 σ x y T X Y ex ey) := by
  have x2 := h.c2 hx
  have y2 := h.c2 hy
  have ee : (ex == ey) = false := by simp; omega
  have el : decide (ex < ey) = true := by simp; omega
  obtain ⟨k, hk⟩ : ∃ k : Nat, ey - ex = (k : Int) := ⟨(ey - ex).toNat, by omega⟩
  have e1 : IntKind.i64.wrap ex = ex := IntWalk.i64_in _ (by omega)
  have e2 : IntKind.i64.wrap ey = ey := IntWalk.i64_in _ (by omega)
  have e3 : IntKind.i64.wrap (ey - ex) = (k : Int) := by rw [hk]; exact IntWalk.i64_in _ (by omega)
  have e4 : ¬ 100000 < (k : Int) := by omega
  have hTx : x ≠ T := by rintro rfl; rw [hT] at hx; cases hx
  have hTy : y ≠ T := by rintro rfl; rw [hT] at hy; cases hy
  have kt := fun n => tableExp_c (h.drewN n) (bnum_big hT) k (by omega)
  rw [put_big hT] at kt
  have t1 := upd_eq σ T (big false (10 ^ k))
  have y1 : upd σ T (big false (10 ^ k)) y = some (dec 0 ny ey false Y) := by rw [upd_ne _ _ hTy]; exact hy
  have km := fun w1 (h1 : Hold w0 w1 (upd σ T (big false (10 ^ k)))) => bigMul_c h1 (bnum_big t1) (num_dec y1) (num_big t1) (by intro e; injection e with e; exact hTy e) hY (ten_40 (by omega))
  rw [put_big t1, upd_upd] at km
  have x3 : upd σ T (big false (Y * 10 ^ k)) x = some (dec 0 nx ex false X) := by rw [upd_ne _ _ hTx]; exact hx
  have hend : ∀ n v w', v = .tuple #[.pointer (some ⟨x, 3, none⟩), .pointer (some ⟨T, 0, none⟩), .int .i32 ex, .nilIface] → Hold w0 w' (upd σ T (big false (Y * 10 ^ k))) → UpRes w0 σ x y T X Y ex ey (.returned v) (w'.drewN n) := fun n v w' hv h' => by
    subst hv
    refine ⟨_, x, 3, T, 0, ?_, h'.drewN n, ?_, ?_, .inl rfl, .inr rfl, .inr ⟨_, rfl⟩⟩
    · rw [if_pos (by omega)]
    · rw [show (ex - ey).toNat = 0 by omega]; simpa using num_dec x3
    · rw [show (ey - ex).toNat = k by omega]; exact num_big (upd_eq _ _ _)
  replace hend := Lib.hid hend
  replace kt := Lib.hid kt
  replace km := Lib.hid km
  replace hk := Lib.hid hk
  replace x3 := Lib.hid x3
  clear h hx hy hT t1 y1
  go_enter Tryz.func91, Tryz.ntmps91
  go_upto_region 1 with (fail)
  go_quiet (fail)
  go_upto_region 4 with (fail)
  go_quiet (fail)
  go_upto_region 7 with (fail)
  go_quiet (fail)
  go_wp2_with fail
  with_reducible refine (kt.out _).mono ?_
  rintro E w1 ⟨rfl, h1⟩
  have km := km.out _ h1
  replace km := Lib.hid km
  clear h1
  go_wp2_with fail
  with_reducible refine km.out.mono ?_
  rintro E w2 ⟨rfl, h2⟩
  have x5 := h2.c2 x3.out
  replace h2 := Lib.hid h2
  go_upto_region 16 with (fail)
  go_quiet (fail)
  go_wp2
  exact bodyPost_ret (v := .tuple #[.pointer (some ⟨x, 3, none⟩), .pointer (some ⟨T, 0, none⟩), .int .i32 ex, .nilIface]) (by simp [results, Tryz.results91, go_sem]) rfl (hend.out _ _ _ rfl h2.out)
set_option maxRecDepth 20000 in
set_option maxHeartbeats 2000000 in
theorem up_gt {w0 w : World} {σ : Sg} (h : Hold w0 w σ) {x y T : Nat} {ex ey : Int} {nx ny g : Bool} {X Y Z : Nat} (hx : σ x = some (dec 0 nx ex false X)) (hy : σ y = some (dec 0 ny ey false Y)) (hT : σ T = some (big g Z)) (_hxy : x ≠ y)
    (hex : -10000 ≤ ex ∧ ex ≤ 10000) (hey : -10000 ≤ ey ∧ ey ≤ 10000) (hlt : ey < ex) (hfar : ex - ey ≤ 400) (hX : (digs X).length < 40) :
    Calls Tryz.prog 91 #[.pointer (some ⟨x, 0, none⟩), .pointer (some ⟨y, 0, none⟩), .pointer (some ⟨T, 0, none⟩)] w (UpRes w0 σ x y T X Y ex ey) := by
  have x2 := h.c2 hx
  have y2 := h.c2 hy
  have ee : (ex == ey) = false := by simp; omega
  have el : decide (ex < ey) = false := by simp; omega
  obtain ⟨k, hk⟩ : ∃ k : Nat, ex - ey = (k : Int) := ⟨(ex - ey).toNat, by omega⟩
  have e1 : IntKind.i64.wrap ex = ex := IntWalk.i64_in _ (by omega)
  have e2 : IntKind.i64.wrap ey = ey := IntWalk.i64_in _ (by omega)
  have e3 : IntKind.i64.wrap (ex - ey) = (k : Int) := by rw [hk]; exact IntWalk.i64_in _ (by omega)
  have e4 : ¬ 100000 < (k : Int) := by omega
  have hTx : x ≠ T := by rintro rfl; rw [hT] at hx; cases hx
  have hTy : y ≠ T := by rintro rfl; rw [hT] at hy; cases hy
  have kt := fun n => tableExp_c (h.drewN n) (bnum_big hT) k (by omega)
  rw [put_big hT] at kt
  have t1 := upd_eq σ T (big false (10 ^ k))
  have x1 : upd σ T (big false (10 ^ k)) x = some (dec 0 nx ex false X) := by rw [upd_ne _ _ hTx]; exact hx
  have km := fun w1 (h1 : Hold w0 w1 (upd σ T (big false (10 ^ k)))) => bigMul_c h1 (bnum_big t1) (num_dec x1) (num_big t1) (by intro e; injection e with e; exact hTx e) hX (ten_40 (by omega))
  rw [put_big t1, upd_upd] at km
  have y3 : upd σ T (big false (X * 10 ^ k)) y = some (dec 0 ny ey false Y) := by rw [upd_ne _ _ hTy]; exact hy
  have hend : ∀ n v w', v = .tuple #[.pointer (some ⟨T, 0, none⟩), .pointer (some ⟨y, 3, none⟩), .int .i32 ey, .nilIface] → Hold w0 w' (upd σ T (big false (X * 10 ^ k))) → UpRes w0 σ x y T X Y ex ey (.returned v) (w'.drewN n) := fun n v w' hv h' => by
    subst hv
    refine ⟨_, T, 0, y, 3, ?_, h'.drewN n, ?_, ?_, .inr rfl, .inl rfl, .inr ⟨_, rfl⟩⟩
    · rw [if_neg (by omega)]
    · rw [show (ex - ey).toNat = k by omega]; exact num_big (upd_eq _ _ _)
    · rw [show (ey - ex).toNat = 0 by omega]; simpa using num_dec y3
  replace hend := Lib.hid hend
  replace kt := Lib.hid kt
  replace km := Lib.hid km
  replace hk := Lib.hid hk
  replace y3 := Lib.hid y3
  clear h hx hy hT t1 x1
  go_enter Tryz.func91, Tryz.ntmps91
  go_upto_region 1 with (fail)
  go_quiet (fail)
  go_upto_region 4 with (fail)
  go_quiet (fail)
  go_upto_region 7 with (fail)
  go_quiet (fail)
  go_wp2_with fail
  with_reducible refine (kt.out _).mono ?_
  rintro E w1 ⟨rfl, h1⟩
  have km := km.out _ h1
  replace km := Lib.hid km
  clear h1
  go_wp2_with fail
  with_reducible refine km.out.mono ?_
  rintro E w2 ⟨rfl, h2⟩
  have y5 := h2.c2 y3.out
  replace h2 := Lib.hid h2
  go_upto_region 16 with (fail)
  go_quiet (fail)
  go_wp2
  exact bodyPost_ret (v := .tuple #[.pointer (some ⟨T, 0, none⟩), .pointer (some ⟨y, 3, none⟩), .int .i32 ey, .nilIface]) (by simp [results, Tryz.results91, go_sem]) rfl (hend.out _ _ _ rfl h2.out)
/-- Two magnitudes are brought to one exponent. -/
theorem upscale_c {w0 w : World} {σ : Sg} (h : Hold w0 w σ) {x y T : Nat} {ex ey : Int} {nx ny g : Bool} {X Y Z : Nat} (hx : σ x = some (dec 0 nx ex false X)) (hy : σ y = some (dec 0 ny ey false Y)) (hT : σ T = some (big g Z)) (hxy : x ≠ y)
    (hex : -10000 ≤ ex ∧ ex ≤ 10000) (hey : -10000 ≤ ey ∧ ey ≤ 10000) (hfar : ey - ex ≤ 400 ∧ ex - ey ≤ 400) (hX : (digs X).length < 40) (hY : (digs Y).length < 40) :
    Calls Tryz.prog 91 #[.pointer (some ⟨x, 0, none⟩), .pointer (some ⟨y, 0, none⟩), .pointer (some ⟨T, 0, none⟩)] w (UpRes w0 σ x y T X Y ex ey) := by
  by_cases h1 : ex = ey
  · subst h1; exact up_same h hx hy
  by_cases h2 : ex < ey
  · exact up_lt h hx hy hT hxy hex hey h2 hfar.1 hY
  · exact up_gt h hx hy hT hxy hex hey (by omega) hfar.2 hX
end Go.Proofs.YtlnillnngckegaaGreatDoor

namespace Go.Proofs.YtlnillnngckegaaGreatDoor
open Go Go.RowKit

theorem Num.upd_ne {σ : Sg} {b o k : Nat} {g : Bool} {N : Nat} {it : It} (h : Num σ b o g N) (hne : b ≠ k) : Num (Go.Proofs.YtlnillnngckegaaGreatDoor.upd σ k it) b o g N := by
  obtain ⟨jt, h1, h2⟩ := h
  exact ⟨jt, by rw [Go.Proofs.YtlnillnngckegaaGreatDoor.upd_ne _ _ hne]; exact h1, h2⟩
/-- A sum's magnitude and sign (fl: the sign of a difference that is 0). -/
def addN (s t : Bool) (A B : Nat) : Nat := if s = t then A + B else if B ≤ A then A - B else B - A
def addS (s t : Bool) (A B : Nat) (fl : Bool) : Bool := if s = t then s else if A = B then fl else if B < A then s else !s
theorem floorS {m : Nat} (hm : m < 8) : ((modeS m).toList == [102, 108, 111, 111, 114]) = decide (m = 4) := by
  have h8 : m = 0 ∨ m = 1 ∨ m = 2 ∨ m = 3 ∨ m = 4 ∨ m = 5 ∨ m = 6 ∨ m = 7 := by omega
  rcases h8 with rfl | rfl | rfl | rfl | rfl | rfl | rfl | rfl <;> decide +kernel
theorem nbits_add (A B : Nat) {k : Nat} (hA : nbits A ≤ k) (hB : nbits B ≤ k) : nbits (A + B) ≤ k + 1 := by
  rw [nbits_le_iff] at *
  rw [Nat.pow_succ]; omega

set_option maxRecDepth 20000 in
set_option maxHeartbeats 4000000 in
theorem add_alike {w0 w : World} {σ : Sg} (h : Hold w0 w σ) {d x y c p m : Nat} {ex ey f' e' a b : Int} {nx ny sub n' g' : Bool} {X Y N' A B : Nat} {e : Int} (hd : σ d = some (dec f' n' e' g' N')) (hx : σ x = some (dec 0 nx ex false X)) (hy : σ y = some (dec 0 ny ey false Y)) (hxy : x ≠ y) (hdx : d ≠ x) (hdy : d ≠ y) (hc : σ c = some (ctxO p a b (modeS m)))
    (hp : 1 ≤ p ∧ p ≤ 1000) (ha : 50000 ≤ a ∧ a ≤ 2000000) (hb : -2000000 ≤ b ∧ b ≤ -50000) (hX : nbits X ≤ 2000) (hY : nbits Y ≤ 2000) (hm : m < 8) (hex : -1000 ≤ ex ∧ ex ≤ 1000) (hey : -1000 ≤ ey ∧ ey ≤ 1000) (hfar : ey - ex ≤ 400 ∧ ex - ey ≤ 400)
    (he : e = if ex ≤ ey then ex else ey) (hA : A = X * 10 ^ (ex - ey).toNat) (hB : B = Y * 10 ^ (ey - ex).toNat) (hAb : nbits A ≤ 1090) (hBb : nbits B ≤ 1090) (hal : (nx == (ny != sub)) = true) :
    Calls Tryz.prog 63 #[.pointer (some ⟨c, 0, none⟩), .pointer (some ⟨d, 0, none⟩), .pointer (some ⟨x, 0, none⟩), .pointer (some ⟨y, 0, none⟩), .bool sub] w (CRes w0 σ d (addS nx (ny != sub) A B (decide (m = 4))) e p m (addN nx (ny != sub) A B)) := by
  have kn := shouldNaN_c w (.pointer (some ⟨c, 0, none⟩)) x y 0 0 (h.c0 hx) (h.c0 hy) (by omega) (by omega)
  rw [show decide ((2 : Int) ≤ 0 ∨ (2 : Int) ≤ 0) = false from rfl] at kn
  have x0 := h.c0 hx
  have y0 := h.c0 hy
  have x1 := h.c1 hx
  have y1 := h.c1 hy
  have hcd : c ≠ d := by rintro rfl; rw [hc] at hd; cases hd
  have hX40 : (digs X).length < 40 := Nat.lt_of_le_of_lt (bits_w (k := 32) (by omega)) (by omega)
  have hY40 : (digs Y).length < 40 := Nat.lt_of_le_of_lt (bits_w (k := 32) (by omega)) (by omega)
  have hAw : (digs A).length ≤ 900 := Nat.le_trans (bits_w (k := 18) (by omega)) (by omega)
  have hBw : (digs B).length ≤ 900 := Nat.le_trans (bits_w (k := 18) (by omega)) (by omega)
  obtain ⟨t, ht⟩ : ∃ t, (ny != sub) = t := ⟨_, rfl⟩
  rw [ht] at hal ⊢
  have ht2 : (!(ny == sub)) = t := ht
  clear ht
  have hfr := fun j (hj : w.heap.size ≤ j) => h.fresh hj
  have hT := hfr _ (Nat.le_refl _)
  have h1 : ∀ n, Hold w0 ((w.drewN n).alloc (.cells #[.bool false, .slice none 0 0, .bool false] 54 (0, 0))) (upd σ w.heap.size (big false 0)) := fun n => (h.drewN n).newBig
  obtain ⟨T, hTe⟩ : ∃ T, w.heap.size = T := ⟨_, rfl⟩
  rw [hTe] at hT
  simp only [hTe] at h1
  have hTx : x ≠ T := by rintro rfl; rw [hT] at hx; cases hx
  have hTy : y ≠ T := by rintro rfl; rw [hT] at hy; cases hy
  have hdT : d ≠ T := by rintro rfl; rw [hT] at hd; cases hd
  have ku := fun n => upscale_c (h1 n) (by rw [upd_ne _ _ hTx]; exact hx) (by rw [upd_ne _ _ hTy]; exact hy) (upd_eq _ _ _) hxy (by omega) (by omega) hfar hX40 hY40
  have hle : Le σ (upd σ T (big false 0)) := Le.skip hT (Le.refl _)
  have hle2 : ∀ N, Le σ (upd (upd σ T (big false 0)) T (big false N)) := fun N => by rw [upd_upd]; exact Le.skip hT (Le.refl _)
  unfold CRes
  replace hTe := Lib.hid hTe
  replace kn := Lib.hid kn
  replace ku := Lib.hid ku
  replace hle := Lib.hid hle
  replace hle2 := Lib.hid hle2
  replace hd := Lib.hid hd
  replace hc := Lib.hid hc
  replace he := Lib.hid he
  replace hA := Lib.hid hA
  replace hB := Lib.hid hB
  clear h h1 hx hy hfr hT
  go_enter Tryz.func63, Tryz.ntmps63
  go_wp2_with fail
  with_reducible refine kn.out.mono ?_
  rintro E w' ⟨rfl, hw⟩
  obtain rfl := hw
  go_upto_region 5 with (fail)
  go_quiet (fail)
  go_upto_region 16 with (fail)
  go_wp2_with fail
  rw [hTe.out]
  with_reducible refine (ku.out _).mono ?_
  rintro E w3 ⟨σ', ba, oa, bb, ob, rfl, h3, na, nb, hba, hbb, hσ⟩
  rw [← he.out]
  rw [← hA.out] at na
  rw [← hB.out] at nb
  have hle3 : Le σ σ' := by
    rcases hσ with rfl | ⟨N, rfl⟩
    · exact hle.out
    · exact hle2.out N
  have hneA : ba ≠ d := by
    rcases hba with rfl | rfl
    · exact Ne.symm hdx
    · exact Ne.symm hdT
  have hneB : bb ≠ d := by
    rcases hbb with rfl | rfl
    · exact Ne.symm hdy
    · exact Ne.symm hdT
  have hd3 := hle3 _ _ hd.out
  have hc3 := hle3 _ _ hc.out
  have d1 := h3.c1 hd3
  have f1 := h3.fz hd3 1
  have h4 := h3.setSign hd3 nx
  have na4 := na.upd_ne (it := dec f' nx e' g' N') hneA
  have nb4 := nb.upd_ne (it := dec f' nx e' g' N') hneB
  have eb : -1000 ≤ e ∧ e ≤ 1000 := by rw [he.out]; split <;> omega
  clear x0 y0 x1 y1 kn ku hle hle2 hba hbb hσ h3 na nb hneA hneB
  replace hle3 := Lib.hid hle3
  replace hc3 := Lib.hid hc3
  replace hd3 := Lib.hid hd3
  have hst : nx = t := by simpa using hal
  have hN : addN nx t A B = A + B := by unfold addN; rw [if_pos hst]
  have hS : addS nx t A B (decide (m = 4)) = nx := by unfold addS; rw [if_pos hst]
  have hMb : nbits (A + B) < 1100 := Nat.lt_of_le_of_lt (nbits_add A B hAb hBb) (by omega)
  have ka := bigAdd_c h4 (bnum_dec (upd_eq _ _ _)) na4 nb4 hAw hBw
  rw [put_dec (upd_eq _ _ _), upd_upd] at ka
  replace ka := Lib.hid ka
  replace hN := Lib.hid hN
  replace hS := Lib.hid hS
  clear h4 na4 nb4 hst
  go_wp2_with fail
  with_reducible refine ka.out.mono ?_
  rintro E w5 ⟨rfl, h5⟩
  have t2 := h5.c2 (upd_eq _ _ _)
  have u2 := h5.fz (upd_eq _ _ _) 2
  have t0 := h5.c0 (upd_eq _ _ _)
  have u0 := h5.fz (upd_eq _ _ _) 0
  have h6 := h5.setExp (upd_eq _ _ _) e
  rw [upd_upd] at h6
  have h7 := h6.setForm (upd_eq _ _ _) 0
  rw [upd_upd] at h7
  have hc7 : ∀ it, upd σ' d it c = some (ctxO p a b (modeS m)) := fun it => by rw [upd_ne _ _ hcd]; exact hc3.out
  have kr := round_c h7 (upd_eq _ _ _) (upd_eq _ _ _) (hc7 _) hp ha hb hMb hm (by omega)
  rw [upd_upd] at kr
  have hrc := rndC_calm (A + B) p
  have ke := fun w1 (h1 : Hold w0 w1 (upd σ' d (dec 0 (nx) (e + (rndK (nx) (A + B) p m : Int)) false (rndN (nx) (A + B) p m)))) => errH_c h1 (hc7 _) hrc
  obtain ⟨r, hr⟩ : ∃ r, rndC (A + B) p = r := ⟨_, rfl⟩
  rw [hr] at kr
  simp only [hr] at ke
  replace hr := Lib.hid hr
  replace kr := Lib.hid kr
  replace ke := Lib.hid ke
  clear h5 h6 h7 hc7 hrc
  go_wp2_with fail
  with_reducible refine kr.out.mono ?_
  rintro E w6 ⟨rfl, h8⟩
  have ke := ke.out _ h8
  replace ke := Lib.hid ke
  have hend := h8.le (Le.both (k := d) (jt := dec 0 (nx) (e + (rndK (nx) (A + B) p m : Int)) false (rndN (nx) (A + B) p m)) hle3.out)
  replace hend := Lib.hid hend
  clear h8
  go_wp2_with fail
  with_reducible refine ke.out.mono ?_
  rintro E w' ⟨rfl, hw⟩
  obtain rfl := hw
  go_wp2
  go_ret2
  rw [hS.out, hN.out, hr.out]
  exact ⟨rfl, hend.out⟩
end Go.Proofs.YtlnillnngckegaaGreatDoor
