/- Context.Mul. apd.upscale. Context.add. Context.add where signs differ; Add, Sub. What impl.made makes, as held memory. MathBigInt, Bits. impl.words: the words of a number, in new memory. impl.told of a finite decimal. The thin package's operations where the answer is a number: what they lean on. Small things for quotients: two, nought, no number as new numbers; setExponent with one and with three summands; the sign of x beside d. The thin package's operations, whatever they answer: what is told. Context.Rem of finite decimals. -/
import Derived.Test.YtgdpljjmnmapmaaGreatDoorC12
import Derived.Test.YtgdpljjmnmapmaaGreatDoorC16
import Derived.Test.YtgdpljjmnmapmaaGreatDoorC34
namespace Go.Proofs.YtgdpljjmnmapmaaGreatDoor
open Go Go.RowKit

theorem nbits_mul (X Y : Nat) : nbits (X * Y) ≤ nbits X + nbits Y := by
  refine nbits_le_iff.2 ?_
  rw [Nat.pow_add]
  exact Nat.mul_lt_mul'' (nbits_lt X) (nbits_lt Y)
theorem or0 {r : Nat} (h : calm r) : bits .or .u32 0 (r : Int) = (r : Int) := by
  rcases h with rfl | rfl | rfl | rfl <;> kernel_rfl
set_option maxRecDepth 20000 in
set_option maxHeartbeats 2000000 in
theorem cMul_c {w0 w : World} {σ : Sg} (h : Hold w0 w σ) {d x y c p m : Nat} {ex ey f' e' a b : Int} {nx ny n' g' : Bool} {X Y N' : Nat} (hd : σ d = some (dec f' n' e' g' N')) (hx : σ x = some (dec 0 nx ex false X)) (hy : σ y = some (dec 0 ny ey false Y)) (hxy : x ≠ y) (hdx : d ≠ x) (hdy : d ≠ y) (hc : σ c = some (ctxO p a b (modeS m)))
    (hp : 1 ≤ p ∧ p ≤ 1000) (ha : 50000 ≤ a ∧ a ≤ 2000000) (hb : -2000000 ≤ b ∧ b ≤ -50000) (hX : nbits X ≤ 512) (hY : nbits Y ≤ 512) (hm : m < 8) (hex : -1000 ≤ ex ∧ ex ≤ 1000) (hey : -1000 ≤ ey ∧ ey ≤ 1000) :
    Calls Tryz.prog 41 #[.pointer (some ⟨c, 0, none⟩), .pointer (some ⟨d, 0, none⟩), .pointer (some ⟨x, 0, none⟩), .pointer (some ⟨y, 0, none⟩)] w (CRes w0 σ d (nx != ny) (ex + ey) p m (X * Y)) := by
  have kn := shouldNaN_c w (.pointer (some ⟨c, 0, none⟩)) x y 0 0 (h.c0 hx) (h.c0 hy) (by omega) (by omega)
  rw [show decide ((2 : Int) ≤ 0 ∨ (2 : Int) ≤ 0) = false from rfl] at kn
  have x0 := h.c0 hx
  have y0 := h.c0 hy
  have x1 := h.c1 hx
  have y1 := h.c1 hy
  have hcd : c ≠ d := by rintro rfl; rw [hc] at hd; cases hd
  have hPb : nbits (X * Y) < 1100 := Nat.lt_of_le_of_lt (nbits_mul X Y) (by omega)
  have hX40 : (digs X).length < 40 := Nat.lt_of_le_of_lt (bits_w (k := 8) (by omega)) (by omega)
  have hY40 : (digs Y).length < 40 := Nat.lt_of_le_of_lt (bits_w (k := 8) (by omega)) (by omega)
  have km := fun w' (hc : Chg w w' (fun _ => False)) => bigMul_c (h.keep hc) (bnum_dec hd) (num_dec hx) (num_dec hy) (by intro e; injection e with e; exact hxy e) hX40 hY40
  rw [put_dec hd] at km
  have upx : ∀ it, upd σ d it x = some (dec 0 nx ex false X) := fun it => by rw [upd_ne _ _ (Ne.symm hdx)]; exact hx
  have upy : ∀ it, upd σ d it y = some (dec 0 ny ey false Y) := fun it => by rw [upd_ne _ _ (Ne.symm hdy)]; exact hy
  have upc : ∀ it, upd σ d it c = some (ctxO p a b (modeS m)) := fun it => by rw [upd_ne _ _ hcd]; exact hc
  unfold CRes
  have hrc := rndC_calm (X * Y) p
  generalize X * Y = M at *
  obtain ⟨nn, hnn⟩ : ∃ nn, (nx != ny) = nn := ⟨_, rfl⟩
  rw [hnn]
  have hn2 : (!(nx == ny)) = nn := hnn
  clear hnn
  have kr := fun w1 (h1 : Hold w0 w1 (upd σ d (dec 0 nn (ex + ey) false M))) => round_c h1 (upd_eq _ _ _) (upd_eq _ _ _) (upc _) hp ha hb hPb hm (by omega)
  simp only [upd_upd] at kr
  have ke := fun w1 (h1 : Hold w0 w1 (upd σ d (dec 0 nn (ex + ey + (rndK nn M p m : Int)) false (rndN nn M p m)))) => errH_c h1 (upc _) hrc
  have hor := or0 hrc
  generalize rndC M p = r at *
  have ew1 : IntKind.i64.wrap ex = ex := IntWalk.i64_in _ (by omega)
  have ew2 : IntKind.i64.wrap ey = ey := IntWalk.i64_in _ (by omega)
  replace kn := Lib.hid kn
  replace km := Lib.hid km
  replace kr := Lib.hid kr
  replace ke := Lib.hid ke
  replace upx := Lib.hid upx
  replace upy := Lib.hid upy
  replace upc := Lib.hid upc
  replace hrc := Lib.hid hrc
  clear h hd hx hy hc
  go_enter Tryz.func41, Tryz.ntmps41
  go_wp2_with fail
  with_reducible refine kn.out.mono ?_
  rintro E w' ⟨rfl, hw⟩
  obtain rfl := hw
  go_upto_region 3 with (fail)
  go_quiet (fail)
  go_upto_region 4 with (fail)
  go_quiet (fail)
  go_upto_region 12 with (fail)
  go_still_tail 9, (by kernel_rfl)
  change wpList _ _ _ _ _ (World.drew _)
  go_wp2_with fail
  with_reducible refine (km.out _ (by exact ⟨rfl, rfl, rfl, Nat.le_refl _, fun _ _ _ => rfl⟩)).mono ?_
  rintro E w1 ⟨rfl, h1⟩
  have d1 := h1.c1 (upd_eq _ _ _)
  have d0 := h1.c0 (upd_eq _ _ _)
  have f1 := h1.fz (upd_eq _ _ _) 1
  have f0 := h1.fz (upd_eq _ _ _) 0
  have h2 := h1.setSign (upd_eq _ _ _) nn
  rw [upd_upd] at h2
  have h3 := h2.setForm (upd_eq _ _ _) 0
  rw [upd_upd] at h3
  replace h3 := Lib.hid h3
  clear h1 h2 km x0 y0 x1 y1
  go_upto_region 15 with (fail)
  generalize (w1.setCell ⟨d, 1, none⟩ (.bool nn)).setCell ⟨d, 0, none⟩ (.int .i8 0) = W at h3 ⊢
  have x2 := h3.out.c2 (upx.out _)
  have y2 := h3.out.c2 (upy.out _)
  have ks := setExp2_c h3.out ex ey (upd_eq _ _ _) (upc.out _) (by omega) (nd := -1) (.inl rfl) (r := 0) (.inl rfl) (by omega) (by omega) ha hb
  rw [upd_upd] at ks
  replace ks := Lib.hid ks
  clear d1 d0 f1 f0
  go_cut [13] (fun v wx => v = .int .u32 0 ∧ Hold w0 wx (upd σ d (dec 0 nn (ex + ey) false M)))
  case first =>
    go_region_with ((go_at_call 77; refine ks.out.mono ?_; rintro E w4 ⟨rfl, h4⟩; replace h4 := Lib.hid h4))
    all_goals
      go_wp2_with fail
      go_meet
      exact ⟨rfl, h4.out⟩
  case rest =>
    obtain ⟨rfl, h5⟩ := hcut
    have kr := kr.out _ h5
    replace kr := Lib.hid kr
    clear h5 h3 x2 y2 ks
    go_wp2_with fail
    with_reducible refine kr.out.mono ?_
    rintro E w6 ⟨rfl, h6⟩
    have ke := ke.out _ h6
    replace ke := Lib.hid ke
    replace h6 := Lib.hid h6
    go_wp2_with fail
    with_reducible refine ke.out.mono ?_
    rintro E w' ⟨rfl, hw⟩
    obtain rfl := hw
    go_wp2
    go_ret2
    exact ⟨rfl, h6.out⟩
end Go.Proofs.YtgdpljjmnmapmaaGreatDoor

namespace Go.Proofs.YtgdpljjmnmapmaaGreatDoor
open Go Go.RowKit

/-- Two magnitudes with one exponent. -/
def UpRes (w0 : World) (σ : Sg) (x y T X Y : Nat) (ex ey : Int) (E : Ending) (w' : World) : Prop :=
  ∃ (σ' : Sg) (ba oa bb ob : Nat), E = .returned (.tuple #[.pointer (some ⟨ba, oa, none⟩), .pointer (some ⟨bb, ob, none⟩), .int .i32 (if ex ≤ ey then ex else ey), .nilIface]) ∧ Hold w0 w' σ' ∧ Num σ' ba oa false (X * 10 ^ (ex - ey).toNat) ∧ Num σ' bb ob false (Y * 10 ^ (ey - ex).toNat) ∧ (ba = x ∨ ba = T) ∧ (bb = y ∨ bb = T) ∧ (σ' = σ ∨ ∃ N, σ' = upd σ T (big false N))

set_option maxRecDepth 20000 in
set_option maxHeartbeats 1000000 in
theorem up_same {w0 w : World} {σ : Sg} (h : Hold w0 w σ) {x y T : Nat} {e : Int} {nx ny : Bool} {X Y : Nat} (hx : σ x = some (dec 0 nx e false X)) (hy : σ y = some (dec 0 ny e false Y)) :
    Calls Tryz.prog 66 #[.pointer (some ⟨x, 0, none⟩), .pointer (some ⟨y, 0, none⟩), .pointer (some ⟨T, 0, none⟩)] w (UpRes w0 σ x y T X Y e e) := by
  have x2 := h.c2 hx
  have y2 := h.c2 hy
  have ee : (e == e) = true := by simp
  have hend : ∀ n n2 v, v = .tuple #[.pointer (some ⟨x, 3, none⟩), .pointer (some ⟨y, 3, none⟩), .int .i32 e, .nilIface] → UpRes w0 σ x y T X Y e e (.returned v) ((w.drewN n).drewN n2) := fun n n2 v hv => by
    subst hv
    refine ⟨σ, x, 3, y, 3, ?_, (h.drewN n).drewN n2, ?_, ?_, .inl rfl, .inl rfl, .inl rfl⟩
    · rw [if_pos (Int.le_refl e)]
    · rw [Int.sub_self]; simpa using num_dec hx
    · rw [Int.sub_self]; simpa using num_dec hy
  replace hend := Lib.hid hend
  clear h hx hy
  go_enter Tryz.func66, Tryz.ntmps66
  go_upto_region 1 with (fail)
  go_quiet (fail)
  go_upto_region 2 with (fail)
  go_quiet (fail)
  go_wp2
  exact bodyPost_ret (v := .tuple #[.pointer (some ⟨x, 3, none⟩), .pointer (some ⟨y, 3, none⟩), .int .i32 e, .nilIface]) (by simp [results, Tryz.results66, go_sem]) rfl (hend.out _ _ _ rfl)

set_option maxRecDepth 20000 in
set_option maxHeartbeats 2000000 in
theorem up_lt {w0 w : World} {σ : Sg} (h : Hold w0 w σ) {x y T : Nat} {ex ey : Int} {nx ny g : Bool} {X Y Z : Nat} (hx : σ x = some (dec 0 nx ex false X)) (hy : σ y = some (dec 0 ny ey false Y)) (hT : σ T = some (big g Z))
    (hex : -10000 ≤ ex ∧ ex ≤ 10000) (hey : -10000 ≤ ey ∧ ey ≤ 10000) (hlt : ex < ey) (hfar : ey - ex ≤ 400) (hY : (digs Y).length < 40) :
    Calls Tryz.prog 66 #[.pointer (some ⟨x, 0, none⟩), .pointer (some ⟨y, 0, none⟩), .pointer (some ⟨T, 0, none⟩)] w (UpRes w0 σ x y T X Y ex ey) := by
  have x2 := h.c2 hx
  have y2 := h.c2 hy
  have ee : (ex == ey) = false := by simp; omega
  have el : decide (ex < ey) = true := by simp; omega
  obtain ⟨k, hk⟩ : ∃ k : Nat, ey - ex = (k : Int) := ⟨(ey - ex).toNat, by omega⟩
  have e1 : IntKind.i64.wrap ex = ex := IntWalk.i64_in _ (by omega)
  have e2 : IntKind.i64.wrap ey = ey := IntWalk.i64_in _ (by omega)
  have e3 : IntKind.i64.wrap (ey - ex) = (k : Int) := by rw [hk]; exact IntWalk.i64_in _ (by omega)
  have e4 : ¬ 100000 < (k : Int) := by omega
  have hTx : x ≠ T := by rintro rfl; rw [hT] at hx; cases hx
  have hTy : y ≠ T := by rintro rfl; rw [hT] at hy; cases hy
  have kt := fun n => tableExp_c (h.drewN n) (bnum_big hT) k (by omega)
  rw [put_big hT] at kt
  have t1 := upd_eq σ T (big false (10 ^ k))
  have y1 : upd σ T (big false (10 ^ k)) y = some (dec 0 ny ey false Y) := by rw [upd_ne _ _ hTy]; exact hy
  have km := fun w1 (h1 : Hold w0 w1 (upd σ T (big false (10 ^ k)))) => bigMul_c h1 (bnum_big t1) (num_dec y1) (num_big t1) (by intro e; injection e with e; exact hTy e) hY (ten_40 (by omega))
  rw [put_big t1, upd_upd] at km
  have x3 : upd σ T (big false (Y * 10 ^ k)) x = some (dec 0 nx ex false X) := by rw [upd_ne _ _ hTx]; exact hx
  have hend : ∀ n v w', v = .tuple #[.pointer (some ⟨x, 3, none⟩), .pointer (some ⟨T, 0, none⟩), .int .i32 ex, .nilIface] → Hold w0 w' (upd σ T (big false (Y * 10 ^ k))) → UpRes w0 σ x y T X Y ex ey (.returned v) (w'.drewN n) := fun n v w' hv h' => by
    subst hv
    refine ⟨_, x, 3, T, 0, ?_, h'.drewN n, ?_, ?_, .inl rfl, .inr rfl, .inr ⟨_, rfl⟩⟩
    · rw [if_pos (by omega)]
    · rw [show (ex - ey).toNat = 0 by omega]; simpa using num_dec x3
    · rw [show (ey - ex).toNat = k by omega]; exact num_big (upd_eq _ _ _)
  replace hend := Lib.hid hend
  replace kt := Lib.hid kt
  replace km := Lib.hid km
  replace hk := Lib.hid hk
  replace x3 := Lib.hid x3
  clear h hx hy hT t1 y1
  go_enter Tryz.func66, Tryz.ntmps66
  go_upto_region 1 with (fail)
  go_quiet (fail)
  go_upto_region 4 with (fail)
  go_quiet (fail)
  go_upto_region 7 with (fail)
  go_quiet (fail)
  go_wp2_with fail
  with_reducible refine (kt.out _).mono ?_
  rintro E w1 ⟨rfl, h1⟩
  have km := km.out _ h1
  replace km := Lib.hid km
  clear h1
  go_wp2_with fail
  with_reducible refine km.out.mono ?_
  rintro E w2 ⟨rfl, h2⟩
  have x5 := h2.c2 x3.out
  replace h2 := Lib.hid h2
  go_upto_region 16 with (fail)
  go_quiet (fail)
  go_wp2
  exact bodyPost_ret (v := .tuple #[.pointer (some ⟨x, 3, none⟩), .pointer (some ⟨T, 0, none⟩), .int .i32 ex, .nilIface]) (by simp [results, Tryz.results66, go_sem]) rfl (hend.out _ _ _ rfl h2.out)
set_option maxRecDepth 20000 in
set_option maxHeartbeats 2000000 in
theorem up_gt {w0 w : World} {σ : Sg} (h : Hold w0 w σ) {x y T : Nat} {ex ey : Int} {nx ny g : Bool} {X Y Z : Nat} (hx : σ x = some (dec 0 nx ex false X)) (hy : σ y = some (dec 0 ny ey false Y)) (hT : σ T = some (big g Z))
    (hex : -10000 ≤ ex ∧ ex ≤ 10000) (hey : -10000 ≤ ey ∧ ey ≤ 10000) (hlt : ey < ex) (hfar : ex - ey ≤ 400) (hX : (digs X).length < 40) :
    Calls Tryz.prog 66 #[.pointer (some ⟨x, 0, none⟩), .pointer (some ⟨y, 0, none⟩), .pointer (some ⟨T, 0, none⟩)] w (UpRes w0 σ x y T X Y ex ey) := by
  have x2 := h.c2 hx
  have y2 := h.c2 hy
  have ee : (ex == ey) = false := by simp; omega
  have el : decide (ex < ey) = false := by simp; omega
  obtain ⟨k, hk⟩ : ∃ k : Nat, ex - ey = (k : Int) := ⟨(ex - ey).toNat, by omega⟩
  have e1 : IntKind.i64.wrap ex = ex := IntWalk.i64_in _ (by omega)
  have e2 : IntKind.i64.wrap ey = ey := IntWalk.i64_in _ (by omega)
  have e3 : IntKind.i64.wrap (ex - ey) = (k : Int) := by rw [hk]; exact IntWalk.i64_in _ (by omega)
  have e4 : ¬ 100000 < (k : Int) := by omega
  have hTx : x ≠ T := by rintro rfl; rw [hT] at hx; cases hx
  have hTy : y ≠ T := by rintro rfl; rw [hT] at hy; cases hy
  have kt := fun n => tableExp_c (h.drewN n) (bnum_big hT) k (by omega)
  rw [put_big hT] at kt
  have t1 := upd_eq σ T (big false (10 ^ k))
  have x1 : upd σ T (big false (10 ^ k)) x = some (dec 0 nx ex false X) := by rw [upd_ne _ _ hTx]; exact hx
  have km := fun w1 (h1 : Hold w0 w1 (upd σ T (big false (10 ^ k)))) => bigMul_c h1 (bnum_big t1) (num_dec x1) (num_big t1) (by intro e; injection e with e; exact hTx e) hX (ten_40 (by omega))
  rw [put_big t1, upd_upd] at km
  have y3 : upd σ T (big false (X * 10 ^ k)) y = some (dec 0 ny ey false Y) := by rw [upd_ne _ _ hTy]; exact hy
  have hend : ∀ n v w', v = .tuple #[.pointer (some ⟨T, 0, none⟩), .pointer (some ⟨y, 3, none⟩), .int .i32 ey, .nilIface] → Hold w0 w' (upd σ T (big false (X * 10 ^ k))) → UpRes w0 σ x y T X Y ex ey (.returned v) (w'.drewN n) := fun n v w' hv h' => by
    subst hv
    refine ⟨_, T, 0, y, 3, ?_, h'.drewN n, ?_, ?_, .inr rfl, .inl rfl, .inr ⟨_, rfl⟩⟩
    · rw [if_neg (by omega)]
    · rw [show (ex - ey).toNat = k by omega]; exact num_big (upd_eq _ _ _)
    · rw [show (ey - ex).toNat = 0 by omega]; simpa using num_dec y3
  replace hend := Lib.hid hend
  replace kt := Lib.hid kt
  replace km := Lib.hid km
  replace hk := Lib.hid hk
  replace y3 := Lib.hid y3
  clear h hx hy hT t1 x1
  go_enter Tryz.func66, Tryz.ntmps66
  go_upto_region 1 with (fail)
  go_quiet (fail)
  go_upto_region 4 with (fail)
  go_quiet (fail)
  go_upto_region 7 with (fail)
  go_quiet (fail)
  go_wp2_with fail
  with_reducible refine (kt.out _).mono ?_
  rintro E w1 ⟨rfl, h1⟩
  have km := km.out _ h1
  replace km := Lib.hid km
  clear h1
  go_wp2_with fail
  with_reducible refine km.out.mono ?_
  rintro E w2 ⟨rfl, h2⟩
  have y5 := h2.c2 y3.out
  replace h2 := Lib.hid h2
  go_upto_region 16 with (fail)
  go_quiet (fail)
  go_wp2
  exact bodyPost_ret (v := .tuple #[.pointer (some ⟨T, 0, none⟩), .pointer (some ⟨y, 3, none⟩), .int .i32 ey, .nilIface]) (by simp [results, Tryz.results66, go_sem]) rfl (hend.out _ _ _ rfl h2.out)
/-- Two magnitudes are brought to one exponent. -/
theorem upscale_c {w0 w : World} {σ : Sg} (h : Hold w0 w σ) {x y T : Nat} {ex ey : Int} {nx ny g : Bool} {X Y Z : Nat} (hx : σ x = some (dec 0 nx ex false X)) (hy : σ y = some (dec 0 ny ey false Y)) (hT : σ T = some (big g Z))
    (hex : -10000 ≤ ex ∧ ex ≤ 10000) (hey : -10000 ≤ ey ∧ ey ≤ 10000) (hfar : ey - ex ≤ 400 ∧ ex - ey ≤ 400) (hX : (digs X).length < 40) (hY : (digs Y).length < 40) :
    Calls Tryz.prog 66 #[.pointer (some ⟨x, 0, none⟩), .pointer (some ⟨y, 0, none⟩), .pointer (some ⟨T, 0, none⟩)] w (UpRes w0 σ x y T X Y ex ey) := by
  by_cases h1 : ex = ey
  · subst h1; exact up_same h hx hy
  by_cases h2 : ex < ey
  · exact up_lt h hx hy hT hex hey h2 hfar.1 hY
  · exact up_gt h hx hy hT hex hey (by omega) hfar.2 hX
end Go.Proofs.YtgdpljjmnmapmaaGreatDoor

namespace Go.Proofs.YtgdpljjmnmapmaaGreatDoor
open Go Go.RowKit

theorem Num.upd_ne {σ : Sg} {b o k : Nat} {g : Bool} {N : Nat} {it : It} (h : Num σ b o g N) (hne : b ≠ k) : Num (Go.Proofs.YtgdpljjmnmapmaaGreatDoor.upd σ k it) b o g N := by
  obtain ⟨jt, h1, h2⟩ := h
  exact ⟨jt, by rw [Go.Proofs.YtgdpljjmnmapmaaGreatDoor.upd_ne _ _ hne]; exact h1, h2⟩
theorem Num.resign {σ : Sg} {b o d : Nat} {g n s g' : Bool} {N N' : Nat} {f e : Int} (h : Num σ b o g N) (hd : σ d = some (dec f n e g' N')) : Num (Go.Proofs.YtgdpljjmnmapmaaGreatDoor.upd σ d (dec f s e g' N')) b o g N := by
  by_cases hb : b = d
  · subst hb
    obtain ⟨jt, h1, h2⟩ := h
    rw [hd] at h1
    cases h1
    exact ⟨_, upd_eq _ _ _, h2⟩
  · exact h.upd_ne hb
/-- A sum's magnitude and sign (fl: the sign of a difference that is 0). -/
def addN (s t : Bool) (A B : Nat) : Nat := if s = t then A + B else if B ≤ A then A - B else B - A
def addS (s t : Bool) (A B : Nat) (fl : Bool) : Bool := if s = t then s else if A = B then fl else if B < A then s else !s
theorem floorS {m : Nat} (hm : m < 8) : ((modeS m).toList == [102, 108, 111, 111, 114]) = decide (m = 4) := by
  have h8 : m = 0 ∨ m = 1 ∨ m = 2 ∨ m = 3 ∨ m = 4 ∨ m = 5 ∨ m = 6 ∨ m = 7 := by omega
  rcases h8 with rfl | rfl | rfl | rfl | rfl | rfl | rfl | rfl <;> decide +kernel
theorem nbits_add (A B : Nat) {k : Nat} (hA : nbits A ≤ k) (hB : nbits B ≤ k) : nbits (A + B) ≤ k + 1 := by
  rw [nbits_le_iff] at *
  rw [Nat.pow_succ]; omega

set_option maxRecDepth 20000 in
set_option maxHeartbeats 4000000 in
theorem add_alike {w0 w : World} {σ : Sg} (h : Hold w0 w σ) {d x y c p m : Nat} {ex ey f' e' a b : Int} {nx ny sub n' g' : Bool} {X Y N' A B : Nat} {e : Int} (hd : σ d = some (dec f' n' e' g' N')) (hx : σ x = some (dec 0 nx ex false X)) (hy : σ y = some (dec 0 ny ey false Y)) (hc : σ c = some (ctxO p a b (modeS m)))
    (hp : 1 ≤ p ∧ p ≤ 1000) (ha : 50000 ≤ a ∧ a ≤ 2000000) (hb : -2000000 ≤ b ∧ b ≤ -50000) (hX : nbits X ≤ 2000) (hY : nbits Y ≤ 2000) (hm : m < 8) (hex : -1000 ≤ ex ∧ ex ≤ 1000) (hey : -1000 ≤ ey ∧ ey ≤ 1000) (hfar : ey - ex ≤ 400 ∧ ex - ey ≤ 400)
    (he : e = if ex ≤ ey then ex else ey) (hA : A = X * 10 ^ (ex - ey).toNat) (hB : B = Y * 10 ^ (ey - ex).toNat) (hAb : nbits A ≤ 1090) (hBb : nbits B ≤ 1090) (hal : (nx == (ny != sub)) = true) :
    Calls Tryz.prog 78 #[.pointer (some ⟨c, 0, none⟩), .pointer (some ⟨d, 0, none⟩), .pointer (some ⟨x, 0, none⟩), .pointer (some ⟨y, 0, none⟩), .bool sub] w (CRes w0 σ d (addS nx (ny != sub) A B (decide (m = 4))) e p m (addN nx (ny != sub) A B)) := by
  have kn := shouldNaN_c w (.pointer (some ⟨c, 0, none⟩)) x y 0 0 (h.c0 hx) (h.c0 hy) (by omega) (by omega)
  rw [show decide ((2 : Int) ≤ 0 ∨ (2 : Int) ≤ 0) = false from rfl] at kn
  have x0 := h.c0 hx
  have y0 := h.c0 hy
  have x1 := h.c1 hx
  have y1 := h.c1 hy
  have hcd : c ≠ d := by rintro rfl; rw [hc] at hd; cases hd
  have hX40 : (digs X).length < 40 := Nat.lt_of_le_of_lt (bits_w (k := 32) (by omega)) (by omega)
  have hY40 : (digs Y).length < 40 := Nat.lt_of_le_of_lt (bits_w (k := 32) (by omega)) (by omega)
  have hAw : (digs A).length ≤ 900 := Nat.le_trans (bits_w (k := 18) (by omega)) (by omega)
  have hBw : (digs B).length ≤ 900 := Nat.le_trans (bits_w (k := 18) (by omega)) (by omega)
  obtain ⟨t, ht⟩ : ∃ t, (ny != sub) = t := ⟨_, rfl⟩
  rw [ht] at hal ⊢
  have ht2 : (!(ny == sub)) = t := ht
  clear ht
  have hfr := fun j (hj : w.heap.size ≤ j) => h.fresh hj
  have hT := hfr _ (Nat.le_refl _)
  have h1 : ∀ n, Hold w0 ((w.drewN n).alloc (.cells #[.bool false, .slice none 0 0, .bool false] 62 (0, 0))) (upd σ w.heap.size (big false 0)) := fun n => (h.drewN n).newBig
  obtain ⟨T, hTe⟩ : ∃ T, w.heap.size = T := ⟨_, rfl⟩
  rw [hTe] at hT
  simp only [hTe] at h1
  have hTx : x ≠ T := by rintro rfl; rw [hT] at hx; cases hx
  have hTy : y ≠ T := by rintro rfl; rw [hT] at hy; cases hy
  have hdT : d ≠ T := by rintro rfl; rw [hT] at hd; cases hd
  have ku := fun n => upscale_c (h1 n) (by rw [upd_ne _ _ hTx]; exact hx) (by rw [upd_ne _ _ hTy]; exact hy) (upd_eq _ _ _) (by omega) (by omega) hfar hX40 hY40
  have hle : Le σ (upd σ T (big false 0)) := Le.skip hT (Le.refl _)
  have hle2 : ∀ N, Le σ (upd (upd σ T (big false 0)) T (big false N)) := fun N => by rw [upd_upd]; exact Le.skip hT (Le.refl _)
  unfold CRes
  replace hTe := Lib.hid hTe
  replace kn := Lib.hid kn
  replace ku := Lib.hid ku
  replace hle := Lib.hid hle
  replace hle2 := Lib.hid hle2
  replace hd := Lib.hid hd
  replace hc := Lib.hid hc
  replace he := Lib.hid he
  replace hA := Lib.hid hA
  replace hB := Lib.hid hB
  clear h h1 hx hy hfr hT
  go_enter Tryz.func78, Tryz.ntmps78
  go_wp2_with fail
  with_reducible refine kn.out.mono ?_
  rintro E w' ⟨rfl, hw⟩
  obtain rfl := hw
  go_upto_region 5 with (fail)
  go_quiet (fail)
  go_upto_region 16 with (fail)
  go_wp2_with fail
  rw [hTe.out]
  with_reducible refine (ku.out _).mono ?_
  rintro E w3 ⟨σ', ba, oa, bb, ob, rfl, h3, na, nb, hba, hbb, hσ⟩
  rw [← he.out]
  rw [← hA.out] at na
  rw [← hB.out] at nb
  have hle3 : Le σ σ' := by
    rcases hσ with rfl | ⟨N, rfl⟩
    · exact hle.out
    · exact hle2.out N
  have hd3 := hle3 _ _ hd.out
  have hc3 := hle3 _ _ hc.out
  have d1 := h3.c1 hd3
  have f1 := h3.fz hd3 1
  have h4 := h3.setSign hd3 nx
  have na4 := na.resign (s := nx) hd3
  have nb4 := nb.resign (s := nx) hd3
  have eb : -1000 ≤ e ∧ e ≤ 1000 := by rw [he.out]; split <;> omega
  clear x0 y0 x1 y1 kn ku hle hle2 hba hbb hσ h3 na nb
  replace hle3 := Lib.hid hle3
  replace hc3 := Lib.hid hc3
  replace hd3 := Lib.hid hd3
  have hst : nx = t := by simpa using hal
  have hN : addN nx t A B = A + B := by unfold addN; rw [if_pos hst]
  have hS : addS nx t A B (decide (m = 4)) = nx := by unfold addS; rw [if_pos hst]
  have hMb : nbits (A + B) < 1100 := Nat.lt_of_le_of_lt (nbits_add A B hAb hBb) (by omega)
  have ka := bigAdd_c h4 (bnum_dec (upd_eq _ _ _)) na4 nb4 hAw hBw
  rw [put_dec (upd_eq _ _ _), upd_upd] at ka
  replace ka := Lib.hid ka
  replace hN := Lib.hid hN
  replace hS := Lib.hid hS
  clear h4 na4 nb4 hst
  go_wp2_with fail
  with_reducible refine ka.out.mono ?_
  rintro E w5 ⟨rfl, h5⟩
  have t2 := h5.c2 (upd_eq _ _ _)
  have u2 := h5.fz (upd_eq _ _ _) 2
  have t0 := h5.c0 (upd_eq _ _ _)
  have u0 := h5.fz (upd_eq _ _ _) 0
  have h6 := h5.setExp (upd_eq _ _ _) e
  rw [upd_upd] at h6
  have h7 := h6.setForm (upd_eq _ _ _) 0
  rw [upd_upd] at h7
  have hc7 : ∀ it, upd σ' d it c = some (ctxO p a b (modeS m)) := fun it => by rw [upd_ne _ _ hcd]; exact hc3.out
  have kr := round_c h7 (upd_eq _ _ _) (upd_eq _ _ _) (hc7 _) hp ha hb hMb hm (by omega)
  rw [upd_upd] at kr
  have hrc := rndC_calm (A + B) p
  have ke := fun w1 (h1 : Hold w0 w1 (upd σ' d (dec 0 (nx) (e + (rndK (nx) (A + B) p m : Int)) false (rndN (nx) (A + B) p m)))) => errH_c h1 (hc7 _) hrc
  obtain ⟨r, hr⟩ : ∃ r, rndC (A + B) p = r := ⟨_, rfl⟩
  rw [hr] at kr
  simp only [hr] at ke
  replace hr := Lib.hid hr
  replace kr := Lib.hid kr
  replace ke := Lib.hid ke
  clear h5 h6 h7 hc7 hrc
  go_wp2_with fail
  with_reducible refine kr.out.mono ?_
  rintro E w6 ⟨rfl, h8⟩
  have ke := ke.out _ h8
  replace ke := Lib.hid ke
  have hend := h8.le (Le.both (k := d) (jt := dec 0 (nx) (e + (rndK (nx) (A + B) p m : Int)) false (rndN (nx) (A + B) p m)) hle3.out)
  replace hend := Lib.hid hend
  clear h8
  go_wp2_with fail
  with_reducible refine ke.out.mono ?_
  rintro E w' ⟨rfl, hw⟩
  obtain rfl := hw
  go_wp2
  go_ret2
  rw [hS.out, hN.out, hr.out]
  exact ⟨rfl, hend.out⟩
end Go.Proofs.YtgdpljjmnmapmaaGreatDoor

namespace Go.Proofs.YtgdpljjmnmapmaaGreatDoor
open Go Go.RowKit

set_option maxRecDepth 20000 in
set_option maxHeartbeats 4000000 in
theorem add_diff {w0 w : World} {σ : Sg} (h : Hold w0 w σ) {d x y c p m : Nat} {ex ey f' e' a b : Int} {nx ny sub n' g' : Bool} {X Y N' A B : Nat} {e : Int} (hd : σ d = some (dec f' n' e' g' N')) (hx : σ x = some (dec 0 nx ex false X)) (hy : σ y = some (dec 0 ny ey false Y)) (hc : σ c = some (ctxO p a b (modeS m)))
    (hp : 1 ≤ p ∧ p ≤ 1000) (ha : 50000 ≤ a ∧ a ≤ 2000000) (hb : -2000000 ≤ b ∧ b ≤ -50000) (hX : nbits X ≤ 2000) (hY : nbits Y ≤ 2000) (hm : m < 8) (hex : -1000 ≤ ex ∧ ex ≤ 1000) (hey : -1000 ≤ ey ∧ ey ≤ 1000) (hfar : ey - ex ≤ 400 ∧ ex - ey ≤ 400)
    (he : e = if ex ≤ ey then ex else ey) (hA : A = X * 10 ^ (ex - ey).toNat) (hB : B = Y * 10 ^ (ey - ex).toNat) (hAb : nbits A ≤ 1090) (hBb : nbits B ≤ 1090) (hal : (nx == (ny != sub)) = false) :
    Calls Tryz.prog 78 #[.pointer (some ⟨c, 0, none⟩), .pointer (some ⟨d, 0, none⟩), .pointer (some ⟨x, 0, none⟩), .pointer (some ⟨y, 0, none⟩), .bool sub] w (CRes w0 σ d (addS nx (ny != sub) A B (decide (m = 4))) e p m (addN nx (ny != sub) A B)) := by
  have kn := shouldNaN_c w (.pointer (some ⟨c, 0, none⟩)) x y 0 0 (h.c0 hx) (h.c0 hy) (by omega) (by omega)
  rw [show decide ((2 : Int) ≤ 0 ∨ (2 : Int) ≤ 0) = false from rfl] at kn
  have x0 := h.c0 hx
  have y0 := h.c0 hy
  have x1 := h.c1 hx
  have y1 := h.c1 hy
  have hcd : c ≠ d := by rintro rfl; rw [hc] at hd; cases hd
  have hX40 : (digs X).length < 40 := Nat.lt_of_le_of_lt (bits_w (k := 32) (by omega)) (by omega)
  have hY40 : (digs Y).length < 40 := Nat.lt_of_le_of_lt (bits_w (k := 32) (by omega)) (by omega)
  have hAw : (digs A).length ≤ 900 := Nat.le_trans (bits_w (k := 18) (by omega)) (by omega)
  have hBw : (digs B).length ≤ 900 := Nat.le_trans (bits_w (k := 18) (by omega)) (by omega)
  obtain ⟨t, ht⟩ : ∃ t, (ny != sub) = t := ⟨_, rfl⟩
  rw [ht] at hal ⊢
  have ht2 : (!(ny == sub)) = t := ht
  clear ht
  have hfr := fun j (hj : w.heap.size ≤ j) => h.fresh hj
  have hT := hfr _ (Nat.le_refl _)
  have h1 : ∀ n, Hold w0 ((w.drewN n).alloc (.cells #[.bool false, .slice none 0 0, .bool false] 62 (0, 0))) (upd σ w.heap.size (big false 0)) := fun n => (h.drewN n).newBig
  obtain ⟨T, hTe⟩ : ∃ T, w.heap.size = T := ⟨_, rfl⟩
  rw [hTe] at hT
  simp only [hTe] at h1
  have hTx : x ≠ T := by rintro rfl; rw [hT] at hx; cases hx
  have hTy : y ≠ T := by rintro rfl; rw [hT] at hy; cases hy
  have hdT : d ≠ T := by rintro rfl; rw [hT] at hd; cases hd
  have ku := fun n => upscale_c (h1 n) (by rw [upd_ne _ _ hTx]; exact hx) (by rw [upd_ne _ _ hTy]; exact hy) (upd_eq _ _ _) (by omega) (by omega) hfar hX40 hY40
  have hle : Le σ (upd σ T (big false 0)) := Le.skip hT (Le.refl _)
  have hle2 : ∀ N, Le σ (upd (upd σ T (big false 0)) T (big false N)) := fun N => by rw [upd_upd]; exact Le.skip hT (Le.refl _)
  unfold CRes
  replace hTe := Lib.hid hTe
  replace kn := Lib.hid kn
  replace ku := Lib.hid ku
  replace hle := Lib.hid hle
  replace hle2 := Lib.hid hle2
  replace hd := Lib.hid hd
  replace hc := Lib.hid hc
  replace he := Lib.hid he
  replace hA := Lib.hid hA
  replace hB := Lib.hid hB
  clear h h1 hx hy hfr hT
  go_enter Tryz.func78, Tryz.ntmps78
  go_wp2_with fail
  with_reducible refine kn.out.mono ?_
  rintro E w' ⟨rfl, hw⟩
  obtain rfl := hw
  go_upto_region 5 with (fail)
  go_quiet (fail)
  go_upto_region 16 with (fail)
  go_wp2_with fail
  rw [hTe.out]
  with_reducible refine (ku.out _).mono ?_
  rintro E w3 ⟨σ', ba, oa, bb, ob, rfl, h3, na, nb, hba, hbb, hσ⟩
  rw [← he.out]
  rw [← hA.out] at na
  rw [← hB.out] at nb
  have hle3 : Le σ σ' := by
    rcases hσ with rfl | ⟨N, rfl⟩
    · exact hle.out
    · exact hle2.out N
  have hd3 := hle3 _ _ hd.out
  have hc3 := hle3 _ _ hc.out
  have d1 := h3.c1 hd3
  have f1 := h3.fz hd3 1
  have h4 := h3.setSign hd3 nx
  have na4 := na.resign (s := nx) hd3
  have nb4 := nb.resign (s := nx) hd3
  have eb : -1000 ≤ e ∧ e ≤ 1000 := by rw [he.out]; split <;> omega
  clear x0 y0 x1 y1 kn ku hle hle2 hba hbb hσ h3 na nb
  replace hle3 := Lib.hid hle3
  replace hc3 := Lib.hid hc3
  replace hd3 := Lib.hid hd3
  have hst : ¬ nx = t := by simpa using hal
  have hMbA : nbits (A - B) < 1100 := Nat.lt_of_le_of_lt (nbits_mono (Nat.sub_le _ _)) (by omega)
  have hMbB : nbits (B - A) < 1100 := Nat.lt_of_le_of_lt (nbits_mono (Nat.sub_le _ _)) (by omega)
  have hBA : (digs (B - A)).length ≤ 1000 := Nat.le_trans (digs_len_mono (Nat.sub_le _ _)) (by omega)
  obtain ⟨fl, hfl⟩ : ∃ fl, decide (m = 4) = fl := ⟨_, rfl⟩
  have hfl2 := floorS hm
  rw [hfl] at hfl2
  replace hfl := Lib.hid hfl
  rcases Nat.lt_trichotomy A B with hlt | heq | hgt
  · have hN : addN nx t A B = B - A := by unfold addN; rw [if_neg hst, if_neg (by omega)]
    have hS : addS nx t A B (decide (m = 4)) = !nx := by unfold addS; rw [if_neg hst, if_neg (by omega), if_neg (by omega)]
    have ka := bigSub_lt h4 (bnum_dec (upd_eq _ _ _)) na4 nb4 hBw hlt
    rw [put_dec (upd_eq _ _ _), upd_upd] at ka
    have hs1 : sgN true (B - A) = -1 := by unfold sgN; rw [if_neg (by omega)]; rfl
    replace ka := Lib.hid ka
    replace hN := Lib.hid hN
    replace hS := Lib.hid hS
    replace hs1 := Lib.hid hs1
    clear h4 na4 nb4 hst hfl2
    go_wp2_with fail
    with_reducible refine ka.out.mono ?_
    rintro E w4 ⟨rfl, h4⟩
    have ksg := bigSignH_c h4 (bnum_dec (upd_eq _ _ _))
    rw [hs1.out] at ksg
    have d4 := h4.c1 (upd_eq _ _ _)
    have f4 := h4.fz (upd_eq _ _ _) 1
    have h44 := h4.setSign (upd_eq _ _ _) (!nx)
    rw [upd_upd] at h44
    have hdd := upd_eq σ' d (dec f' (!nx) e' true (B - A))
    have kb := fun w2 (hc : Chg (w4.setCell ⟨d, 1, none⟩ (.bool (!nx))) w2 (fun _ => False)) => bigNeg_c (h44.keep hc) (bnum_dec hdd) (bnum_dec hdd) hBA (by omega)
    rw [put_dec hdd, upd_upd, show (!true) = false from rfl] at kb
    replace ksg := Lib.hid ksg
    replace kb := Lib.hid kb
    clear h4 h44 hdd
    go_wp2_with fail
    with_reducible refine ksg.out.mono ?_
    rintro E w' ⟨rfl, hw⟩
    obtain rfl := hw
    go_upto_region 26 with (fail)
    go_still_tail 6, (by kernel_rfl)
    change wpList _ _ _ _ _ (World.drew _)
    go_wp2_with fail
    with_reducible refine (kb.out _ (by exact ⟨rfl, rfl, rfl, Nat.le_refl _, fun _ _ _ => rfl⟩)).mono ?_
    rintro E w5 ⟨rfl, h5⟩
    clear d4 f4
    have t2 := h5.c2 (upd_eq _ _ _)
    have u2 := h5.fz (upd_eq _ _ _) 2
    have t0 := h5.c0 (upd_eq _ _ _)
    have u0 := h5.fz (upd_eq _ _ _) 0
    have h6 := h5.setExp (upd_eq _ _ _) e
    rw [upd_upd] at h6
    have h7 := h6.setForm (upd_eq _ _ _) 0
    rw [upd_upd] at h7
    have hc7 : ∀ it, upd σ' d it c = some (ctxO p a b (modeS m)) := fun it => by rw [upd_ne _ _ hcd]; exact hc3.out
    have kr := round_c h7 (upd_eq _ _ _) (upd_eq _ _ _) (hc7 _) hp ha hb hMbB hm (by omega)
    rw [upd_upd] at kr
    have hrc := rndC_calm (B - A) p
    have ke := fun w1 (h1 : Hold w0 w1 (upd σ' d (dec 0 (!nx) (e + (rndK (!nx) (B - A) p m : Int)) false (rndN (!nx) (B - A) p m)))) => errH_c h1 (hc7 _) hrc
    obtain ⟨r, hr⟩ : ∃ r, rndC (B - A) p = r := ⟨_, rfl⟩
    rw [hr] at kr
    simp only [hr] at ke
    replace hr := Lib.hid hr
    replace kr := Lib.hid kr
    replace ke := Lib.hid ke
    clear h5 h6 h7 hc7 hrc
    go_wp2_with fail
    with_reducible refine kr.out.mono ?_
    rintro E w6 ⟨rfl, h8⟩
    have ke := ke.out _ h8
    replace ke := Lib.hid ke
    have hend := h8.le (Le.both (k := d) (jt := dec 0 (!nx) (e + (rndK (!nx) (B - A) p m : Int)) false (rndN (!nx) (B - A) p m)) hle3.out)
    replace hend := Lib.hid hend
    clear h8
    go_wp2_with fail
    with_reducible refine ke.out.mono ?_
    rintro E w' ⟨rfl, hw⟩
    obtain rfl := hw
    go_wp2
    go_ret2
    rw [hS.out, hN.out, hr.out]
    exact ⟨rfl, hend.out⟩
  · have hN : addN nx t A B = A - B := by unfold addN; rw [if_neg hst, if_pos (by omega)]
    have hS : addS nx t A B (decide (m = 4)) = fl := by unfold addS; rw [if_neg hst, if_pos heq]; exact hfl.out
    have ka := bigSub_ge h4 (bnum_dec (upd_eq _ _ _)) na4 nb4 hAw (by omega)
    rw [put_dec (upd_eq _ _ _), upd_upd] at ka
    have hs1 : sgN false (A - B) = 0 := by unfold sgN; rw [if_pos (by omega)]
    replace ka := Lib.hid ka
    replace hN := Lib.hid hN
    replace hS := Lib.hid hS
    replace hs1 := Lib.hid hs1
    clear h4 na4 nb4 hst
    go_wp2_with fail
    with_reducible refine ka.out.mono ?_
    rintro E w4 ⟨rfl, h4⟩
    have ksg := bigSignH_c h4 (bnum_dec (upd_eq _ _ _))
    rw [hs1.out] at ksg
    have d4 := h4.c1 (upd_eq _ _ _)
    have f4 := h4.fz (upd_eq _ _ _) 1
    have c4 := (h4.ctx (by rw [upd_ne _ _ hcd]; exact hc3.out)).c4
    have h5 := h4.setSign (upd_eq _ _ _) fl
    rw [upd_upd] at h5
    replace ksg := Lib.hid ksg
    clear h4
    go_wp2_with fail
    with_reducible refine ksg.out.mono ?_
    rintro E w' ⟨rfl, hw⟩
    obtain rfl := hw
    go_upto_region 29 with (fail)
    generalize w4.setCell ⟨d, 1, none⟩ (.bool fl) = w5 at h5 ⊢
    clear d4 f4 c4 hfl2
    have t2 := h5.c2 (upd_eq _ _ _)
    have u2 := h5.fz (upd_eq _ _ _) 2
    have t0 := h5.c0 (upd_eq _ _ _)
    have u0 := h5.fz (upd_eq _ _ _) 0
    have h6 := h5.setExp (upd_eq _ _ _) e
    rw [upd_upd] at h6
    have h7 := h6.setForm (upd_eq _ _ _) 0
    rw [upd_upd] at h7
    have hc7 : ∀ it, upd σ' d it c = some (ctxO p a b (modeS m)) := fun it => by rw [upd_ne _ _ hcd]; exact hc3.out
    have kr := round_c h7 (upd_eq _ _ _) (upd_eq _ _ _) (hc7 _) hp ha hb hMbA hm (by omega)
    rw [upd_upd] at kr
    have hrc := rndC_calm (A - B) p
    have ke := fun w1 (h1 : Hold w0 w1 (upd σ' d (dec 0 (fl) (e + (rndK (fl) (A - B) p m : Int)) false (rndN (fl) (A - B) p m)))) => errH_c h1 (hc7 _) hrc
    obtain ⟨r, hr⟩ : ∃ r, rndC (A - B) p = r := ⟨_, rfl⟩
    rw [hr] at kr
    simp only [hr] at ke
    replace hr := Lib.hid hr
    replace kr := Lib.hid kr
    replace ke := Lib.hid ke
    clear h5 h6 h7 hc7 hrc
    go_wp2_with fail
    with_reducible refine kr.out.mono ?_
    rintro E w6 ⟨rfl, h8⟩
    have ke := ke.out _ h8
    replace ke := Lib.hid ke
    have hend := h8.le (Le.both (k := d) (jt := dec 0 (fl) (e + (rndK (fl) (A - B) p m : Int)) false (rndN (fl) (A - B) p m)) hle3.out)
    replace hend := Lib.hid hend
    clear h8
    go_wp2_with fail
    with_reducible refine ke.out.mono ?_
    rintro E w' ⟨rfl, hw⟩
    obtain rfl := hw
    go_wp2
    go_ret2
    rw [hS.out, hN.out, hr.out]
    exact ⟨rfl, hend.out⟩
  · have hN : addN nx t A B = A - B := by unfold addN; rw [if_neg hst, if_pos (by omega)]
    have hS : addS nx t A B (decide (m = 4)) = nx := by unfold addS; rw [if_neg hst, if_neg (by omega), if_pos hgt]
    have ka := bigSub_ge h4 (bnum_dec (upd_eq _ _ _)) na4 nb4 hAw (by omega)
    rw [put_dec (upd_eq _ _ _), upd_upd] at ka
    have hs1 : sgN false (A - B) = 1 := by unfold sgN; rw [if_neg (by omega)]; rfl
    replace ka := Lib.hid ka
    replace hN := Lib.hid hN
    replace hS := Lib.hid hS
    replace hs1 := Lib.hid hs1
    clear h4 na4 nb4 hst hfl2
    go_wp2_with fail
    with_reducible refine ka.out.mono ?_
    rintro E w5 ⟨rfl, h5⟩
    have ksg := bigSignH_c h5 (bnum_dec (upd_eq _ _ _))
    rw [hs1.out] at ksg
    replace ksg := Lib.hid ksg
    replace h5 := Lib.hid h5
    go_wp2_with fail
    with_reducible refine ksg.out.mono ?_
    rintro E w' ⟨rfl, hw⟩
    obtain rfl := hw
    have h5 := h5.out
    have t2 := h5.c2 (upd_eq _ _ _)
    have u2 := h5.fz (upd_eq _ _ _) 2
    have t0 := h5.c0 (upd_eq _ _ _)
    have u0 := h5.fz (upd_eq _ _ _) 0
    have h6 := h5.setExp (upd_eq _ _ _) e
    rw [upd_upd] at h6
    have h7 := h6.setForm (upd_eq _ _ _) 0
    rw [upd_upd] at h7
    have hc7 : ∀ it, upd σ' d it c = some (ctxO p a b (modeS m)) := fun it => by rw [upd_ne _ _ hcd]; exact hc3.out
    have kr := round_c h7 (upd_eq _ _ _) (upd_eq _ _ _) (hc7 _) hp ha hb hMbA hm (by omega)
    rw [upd_upd] at kr
    have hrc := rndC_calm (A - B) p
    have ke := fun w1 (h1 : Hold w0 w1 (upd σ' d (dec 0 (nx) (e + (rndK (nx) (A - B) p m : Int)) false (rndN (nx) (A - B) p m)))) => errH_c h1 (hc7 _) hrc
    obtain ⟨r, hr⟩ : ∃ r, rndC (A - B) p = r := ⟨_, rfl⟩
    rw [hr] at kr
    simp only [hr] at ke
    replace hr := Lib.hid hr
    replace kr := Lib.hid kr
    replace ke := Lib.hid ke
    clear h5 h6 h7 hc7 hrc
    go_wp2_with fail
    with_reducible refine kr.out.mono ?_
    rintro E w6 ⟨rfl, h8⟩
    have ke := ke.out _ h8
    replace ke := Lib.hid ke
    have hend := h8.le (Le.both (k := d) (jt := dec 0 (nx) (e + (rndK (nx) (A - B) p m : Int)) false (rndN (nx) (A - B) p m)) hle3.out)
    replace hend := Lib.hid hend
    clear h8
    go_wp2_with fail
    with_reducible refine ke.out.mono ?_
    rintro E w' ⟨rfl, hw⟩
    obtain rfl := hw
    go_wp2
    go_ret2
    rw [hS.out, hN.out, hr.out]
    exact ⟨rfl, hend.out⟩

/-- Context.add: the sum, with the smaller exponent, rounded. -/
theorem add_c {w0 w : World} {σ : Sg} (h : Hold w0 w σ) {d x y c p m : Nat} {ex ey f' e' a b : Int} {nx ny sub n' g' : Bool} {X Y N' A B : Nat} {e : Int} (hd : σ d = some (dec f' n' e' g' N')) (hx : σ x = some (dec 0 nx ex false X)) (hy : σ y = some (dec 0 ny ey false Y)) (hc : σ c = some (ctxO p a b (modeS m)))
    (hp : 1 ≤ p ∧ p ≤ 1000) (ha : 50000 ≤ a ∧ a ≤ 2000000) (hb : -2000000 ≤ b ∧ b ≤ -50000) (hX : nbits X ≤ 2000) (hY : nbits Y ≤ 2000) (hm : m < 8) (hex : -1000 ≤ ex ∧ ex ≤ 1000) (hey : -1000 ≤ ey ∧ ey ≤ 1000) (hfar : ey - ex ≤ 400 ∧ ex - ey ≤ 400)
    (he : e = if ex ≤ ey then ex else ey) (hA : A = X * 10 ^ (ex - ey).toNat) (hB : B = Y * 10 ^ (ey - ex).toNat) (hAb : nbits A ≤ 1090) (hBb : nbits B ≤ 1090) :
    Calls Tryz.prog 78 #[.pointer (some ⟨c, 0, none⟩), .pointer (some ⟨d, 0, none⟩), .pointer (some ⟨x, 0, none⟩), .pointer (some ⟨y, 0, none⟩), .bool sub] w (CRes w0 σ d (addS nx (ny != sub) A B (decide (m = 4))) e p m (addN nx (ny != sub) A B)) := by
  cases hal : (nx == (ny != sub)) with
  | true => exact add_alike h hd hx hy hc hp ha hb hX hY hm hex hey hfar he hA hB hAb hBb hal
  | false => exact add_diff h hd hx hy hc hp ha hb hX hY hm hex hey hfar he hA hB hAb hBb hal

theorem cAdd_c {w0 w : World} {σ : Sg} (h : Hold w0 w σ) {d x y c p m : Nat} {ex ey f' e' a b : Int} {nx ny n' g' : Bool} {X Y N' A B : Nat} {e : Int} (hd : σ d = some (dec f' n' e' g' N')) (hx : σ x = some (dec 0 nx ex false X)) (hy : σ y = some (dec 0 ny ey false Y)) (hc : σ c = some (ctxO p a b (modeS m)))
    (hp : 1 ≤ p ∧ p ≤ 1000) (ha : 50000 ≤ a ∧ a ≤ 2000000) (hb : -2000000 ≤ b ∧ b ≤ -50000) (hX : nbits X ≤ 2000) (hY : nbits Y ≤ 2000) (hm : m < 8) (hex : -1000 ≤ ex ∧ ex ≤ 1000) (hey : -1000 ≤ ey ∧ ey ≤ 1000) (hfar : ey - ex ≤ 400 ∧ ex - ey ≤ 400)
    (he : e = if ex ≤ ey then ex else ey) (hA : A = X * 10 ^ (ex - ey).toNat) (hB : B = Y * 10 ^ (ey - ex).toNat) (hAb : nbits A ≤ 1090) (hBb : nbits B ≤ 1090) :
    Calls Tryz.prog 42 #[.pointer (some ⟨c, 0, none⟩), .pointer (some ⟨d, 0, none⟩), .pointer (some ⟨x, 0, none⟩), .pointer (some ⟨y, 0, none⟩)] w (CRes w0 σ d (addS nx (ny != false) A B (decide (m = 4))) e p m (addN nx (ny != false) A B)) := by
  have k := add_c (sub := false) h hd hx hy hc hp ha hb hX hY hm hex hey hfar he hA hB hAb hBb
  generalize addS nx (ny != false) A B (decide (m = 4)) = S at *
  generalize addN nx (ny != false) A B = M at *
  unfold CRes at *
  generalize rndC M p = r at *
  replace k := Lib.hid k
  clear h hd hx hy hc he hA hB
  go_enter Tryz.func42, Tryz.ntmps42
  go_wp2_with fail
  with_reducible refine k.out.mono ?_
  rintro E w1 ⟨rfl, h1⟩
  replace h1 := Lib.hid h1
  go_wp2
  go_ret2
  exact ⟨rfl, h1.out⟩

theorem cSub_c {w0 w : World} {σ : Sg} (h : Hold w0 w σ) {d x y c p m : Nat} {ex ey f' e' a b : Int} {nx ny n' g' : Bool} {X Y N' A B : Nat} {e : Int} (hd : σ d = some (dec f' n' e' g' N')) (hx : σ x = some (dec 0 nx ex false X)) (hy : σ y = some (dec 0 ny ey false Y)) (hc : σ c = some (ctxO p a b (modeS m)))
    (hp : 1 ≤ p ∧ p ≤ 1000) (ha : 50000 ≤ a ∧ a ≤ 2000000) (hb : -2000000 ≤ b ∧ b ≤ -50000) (hX : nbits X ≤ 2000) (hY : nbits Y ≤ 2000) (hm : m < 8) (hex : -1000 ≤ ex ∧ ex ≤ 1000) (hey : -1000 ≤ ey ∧ ey ≤ 1000) (hfar : ey - ex ≤ 400 ∧ ex - ey ≤ 400)
    (he : e = if ex ≤ ey then ex else ey) (hA : A = X * 10 ^ (ex - ey).toNat) (hB : B = Y * 10 ^ (ey - ex).toNat) (hAb : nbits A ≤ 1090) (hBb : nbits B ≤ 1090) :
    Calls Tryz.prog 59 #[.pointer (some ⟨c, 0, none⟩), .pointer (some ⟨d, 0, none⟩), .pointer (some ⟨x, 0, none⟩), .pointer (some ⟨y, 0, none⟩)] w (CRes w0 σ d (addS nx (ny != true) A B (decide (m = 4))) e p m (addN nx (ny != true) A B)) := by
  have k := add_c (sub := true) h hd hx hy hc hp ha hb hX hY hm hex hey hfar he hA hB hAb hBb
  generalize addS nx (ny != true) A B (decide (m = 4)) = S at *
  generalize addN nx (ny != true) A B = M at *
  unfold CRes at *
  generalize rndC M p = r at *
  replace k := Lib.hid k
  clear h hd hx hy hc he hA hB
  go_enter Tryz.func59, Tryz.ntmps59
  go_wp2_with fail
  with_reducible refine k.out.mono ?_
  rintro E w1 ⟨rfl, h1⟩
  replace h1 := Lib.hid h1
  go_wp2
  go_ret2
  exact ⟨rfl, h1.out⟩
end Go.Proofs.YtgdpljjmnmapmaaGreatDoor

namespace Go.Proofs.YtgdpljjmnmapmaaGreatDoor
open Go Go.RowKit

theorem MadeF.hold {w0 w w' : World} {σ : Sg} {E : Ending} {n : Bool} {ex : Int} {N : Nat} (h : Hold w0 w σ) (hm : MadeF w w' E n ex N) : ∃ k, E = .returned (.pointer (some ⟨k, 0, none⟩)) ∧ w.heap.size ≤ k ∧ Hold w0 w' (upd σ k (dec 0 n ex false N)) := by
  obtain ⟨k, o, rfl, hk, hk2, ⟨v, hv, hN⟩, ho, hc⟩ := hm
  have only3 : ∀ p g M, (dec 0 n ex false N).num p = some (g, M) → p = 3 ∧ M = N := by
    intro p g M hp
    rcases It.num_cases hp with ⟨_, rfl, h3⟩ | ⟨hk, _⟩ | ⟨hk, _⟩ | ⟨hk, _⟩ | ⟨hk, _⟩
    · cases h3; exact ⟨rfl, rfl⟩
    all_goals exact absurd hk (Nat.ne_of_beq_eq_false rfl)
  refine ⟨k, rfl, hk, h.add (s := fun _ => o) hc hk (.inl ⟨Nat.le_of_ble_eq_true rfl, fun _ => v, hv, fun p g M hp => ?_⟩) (fun p g M b hp hb => ⟨(ho b hb).1, (ho b hb).2.2⟩) (fun p g M p' g' M' b hp hp' _ _ => by rw [(only3 _ _ _ hp).1, (only3 _ _ _ hp').1])⟩
  rw [(only3 _ _ _ hp).2]
  exact hN
end Go.Proofs.YtgdpljjmnmapmaaGreatDoor

namespace Go.Proofs.YtgdpljjmnmapmaaGreatDoor
open Go Go.RowKit

set_option maxRecDepth 20000 in
theorem mathBig_c {w0 w : World} {σ : Sg} (h : Hold w0 w σ) {bx ox : Nat} {g : Bool} {N : Nat} (hx : BNum σ bx ox g N) (hN : (digs N).length ≤ 1000) :
    Calls Tryz.prog 91 #[.pointer (some ⟨bx, ox, none⟩)] w fun E w' => ∃ k, E = .returned (.pointer (some ⟨k, 0, none⟩)) ∧ w.heap.size ≤ k ∧ Hold w0 w' (upd σ k (int g N)) := by
  have hf := h.fresh (k := w.heap.size) (Nat.le_refl _)
  have h1 := h.newInt
  have ks := intSetAny_c h1 (num_int (upd_eq _ _ _)) (hx.num.upd hf) hN
  rw [put_int (upd_eq _ _ _), upd_upd] at ks
  replace ks := Lib.hid ks
  clear h h1 hf hx
  go_enter Tryz.func91, Tryz.ntmps91
  go_wp2_with fail
  with_reducible refine ks.out.mono ?_
  rintro e w1 ⟨rfl, h1⟩
  replace h1 := Lib.hid h1
  go_wp2
  go_ret
  exact ⟨_, rfl, Nat.le_refl _, h1.out⟩
theorem bitsH_c {w0 w : World} {σ : Sg} (h : Hold w0 w σ) {bx ox : Nat} {g : Bool} {N : Nat} (hx : Num σ bx ox g N) :
    Calls Tryz.prog 92 #[.pointer (some ⟨bx, ox, none⟩)] w fun E w' => ∃ v o, E = .returned v ∧ IsNat w v N o ∧ w = w' := by
  obtain ⟨v, s, p⟩ := h.op hx
  have x1 := p.c1
  have hn := p.nat
  replace hn := Lib.hid hn
  clear h hx p
  go_enter Tryz.func92, Tryz.ntmps92
  go_wp2
  go_ret
  exact ⟨v, s, rfl, hn.out, rfl⟩
end Go.Proofs.YtgdpljjmnmapmaaGreatDoor

namespace Go.Proofs.YtgdpljjmnmapmaaGreatDoor
open Go Go.RowKit

set_option maxRecDepth 20000 in
set_option maxHeartbeats 2000000 in
theorem wordsOf_c {w0 w : World} {σ : Sg} (h : Hold w0 w σ) {bx ox : Nat} {N : Nat} (hx : BNum σ bx ox false N) (hN : (digs N).length ≤ 900) :
    Calls Tryz.prog 54 #[.pointer (some ⟨bx, ox, none⟩)] w fun E w' => ∃ p cc base, E = .returned (.slice p (digs N).length cc) ∧ w.heap.size ≤ base ∧ w'.ownsRow base 32 1 (.slice p (digs N).length cc) (digs N).length ((digs N).map uw) ∧ Hold w0 w' σ := by
  obtain ⟨i0, hi, hz0, hz1, hz2⟩ := info_parts makeU
  have km := mathBig_c h hx (by omega)
  have hsz := fun k hk => h.fresh (k := k) hk
  replace km := Lib.hid km
  replace hsz := Lib.hid hsz
  clear h hx
  go_enter Tryz.func54, Tryz.ntmps54
  go_wp2_with fail
  with_reducible refine km.out.mono ?_
  rintro E w1 ⟨k, rfl, hk, h1⟩
  have kb := bitsH_c h1 (num_int (upd_eq _ _ _))
  have hend : ∀ w', Chg w1 w' (fun _ => False) → Hold w0 w' σ := fun w' hc => (h1.keep hc).le (Le.skip (hsz.out k hk) (Le.refl _))
  have hks : k < w1.heap.size := (h1.lt (upd_eq _ _ _)).2
  have hb1 : w.heap.size ≤ w1.heap.size := by omega
  replace kb := Lib.hid kb
  replace hend := Lib.hid hend
  replace hb1 := Lib.hid hb1
  clear h1 hks hk
  go_wp2_with fail
  with_reducible refine kb.out.mono ?_
  rintro E w' ⟨v, o, rfl, hv, hw⟩
  obtain rfl := hw
  obtain ⟨D, hD⟩ : ∃ D, digs N = D := ⟨_, rfl⟩
  obtain ⟨vp, vc, rfl, hl1, hl2⟩ := hv.shape
  rw [hD] at hl1 hN ⊢
  have hcells : 0 < D.length → ∃ ad, vp = some ⟨ad, 0, none⟩ ∧ ∀ j, j < D.length → w1.cell? ⟨ad, j, none⟩ = some (.int .u64 (nth D j : Int)) := fun h0 => by
    have hN0 : N ≠ 0 := by rintro rfl; rw [digs_zero] at hD; rw [← hD] at h0; exact absurd h0 (by simp)
    obtain ⟨b, cap, C, rfl, he, ha, hc, hcap, ht, hl, hp⟩ := hv.pos hN0
    injection he with e1 e2 e3
    rw [hD] at ht hl
    refine ⟨b, e1, fun j hj => ?_⟩
    have h1 := ha.cellN (i := j) (by omega)
    have h2 := nth_take (l := C) (i := j) (k := D.length) hj
    rw [ht] at h2
    rw [h2]; exact h1
  replace hcells := Lib.hid hcells
  replace hD := Lib.hid hD
  clear hv hl1 hl2
  go_wp2
  go_loopw [3, 10] (fun v i wr => ∃ (q : Nat) (p : Option Addr) (cc : Nat), q ≤ D.length ∧ i = .int .i64 q ∧ v = .slice p q cc ∧ Below w1.heap.size w1 wr ∧ wr.ownsRow w1.heap.size 32 1 (.slice p q cc) q ((D.take q).map uw)) (fun _ i _ => D.length - (intOf i).toNat)
  case atStart => exact ⟨0, none, 0, Nat.zero_le _, rfl, rfl, Below.refl _ _, ⟨rfl, .inl ⟨rfl, rfl⟩⟩⟩
  case round =>
    obtain ⟨q, p, cc, hq, rfl, rfl, hb, hown⟩ := hrel
    by_cases hlt : q < D.length
    · obtain ⟨ad, rfl, hcs⟩ := hcells.out (by omega)
      have hcell := hb.cell (World.block_lt_of_cell? w1 _ (hcs q hlt)) |>.trans (hcs q hlt)
      have htq : D.take (q + 1) = D.take q ++ [nth D q] := take_nth hlt
      have hbs := hb.size
      replace htq := Lib.hid htq
      replace hown := Lib.hid hown
      replace hb := Lib.hid hb
      clear hcs
      go_wp2_with (at_builtin; refine wpList_append_own _ rfl _ _ 22 rfl w1.heap.size 32 i0 (.int .u64 0) 1 8 Tryz.underlying22 hi hz0 hz1 hz2 rfl (by decide) _ _ _ rfl (hown.out.alloc _) ⟨wr.heap.size, 0, none⟩ 1 1 [.int .u64 (nth D q : Int)] rfl rfl ?c1 ?c2 ?c3 ?c4 ?c5 ?_)
      case c1 => exact cell_one_new _ _ _
      case c2 => intro u hu; simp only [List.mem_cons, List.not_mem_nil, or_false] at hu; subst hu; rfl
      case c3 => unfold maxLen; omega
      case c4 => omega
      case c5 => simp; omega
      intro v' w2 hown' hgrow _
      obtain ⟨p', cc', rfl⟩ := own_slice3 hown'
      replace hown' := Lib.hid hown'
      replace hgrow := Lib.hid hgrow
      go_wp2
      go_roundw
      case rel =>
        refine ⟨q + 1, p', cc', by omega, by go_num, rfl, ?_, ?_⟩
        · exact (hb.out.alloc hbs _).grown hgrow.out (by simp; omega) (fun g hg => (hown.out.lt g hg).1)
        · have h := hown'.out
          rw [htq.out, List.map_append, List.map_take]
          exact h
      case measure => simp [intOf]; omega
    · obtain rfl : q = D.length := by omega
      have htl : D.take D.length = D := List.take_of_length_le (Nat.le_refl _)
      rw [htl] at hown
      replace hown := Lib.hid hown
      replace hb := Lib.hid hb
      go_wp2
      go_ret
      rw [hD.out]
      exact ⟨p, cc, _, rfl, hb1.out, hown.out, hend.out _ (Below.chg hb.out)⟩

/-- An own row of words is a row that is read; where it lies. -/
theorem own_rdW {w : World} {base l c : Nat} {p : Option Addr} {X : List Nat} (hown : w.ownsRow base 32 1 (.slice p l c) l (X.map uw)) (hX : X.length = l) (hW : Wd X) : RdW w p l c X ∧ ∀ ad, p = some ad → base ≤ ad.block := by
  refine ⟨?_, fun ad ha => (hown.lt ad.block (by subst ha; rfl)).1⟩
  rcases hown.2 with ⟨h1, h2⟩ | ⟨g, cap, cur, h1, hg, hgg, hn, hm, hcs, htake⟩
  · injection h1 with h1 h3 h4
    subst h3 h4
    exact ⟨hX, Nat.le_refl _, by omega, hW, fun h => absurd h (Nat.lt_irrefl _)⟩
  · injection h1 with h1 h3 h4
    subst h1 h4
    refine ⟨hX, hn, by unfold maxLen at hm; omega, hW, fun _ => ⟨_, rfl, fun j hj => ?_⟩⟩
    exact hown.cells (g := g) rfl j (uw (nth X j)) (by rw [List.getElem?_map, get_nth (by omega)]; rfl)
theorem RdW.chg {w w' : World} {A : Option Addr} {l c : Nat} {D : List Nat} {S : Nat → Prop} (h : RdW w A l c D) (hb : Chg w w' S) (hS : ∀ k, S k → w.heap.size ≤ k) : RdW w' A l c D :=
  ⟨h.len, h.cap, h.max, h.wd, fun hl => by
    obtain ⟨ad, e, hc⟩ := h.cells hl
    exact ⟨ad, e, fun j hj => hb.cell (hc j hj) (fun hs => by have := World.block_lt_of_cell? w _ (hc j hj); have := hS _ hs; omega)⟩⟩
theorem RdW.chgAt {w w' : World} {A : Option Addr} {l c : Nat} {D : List Nat} {S : Nat → Prop} (h : RdW w A l c D) (hb : Chg w w' S) (hS : ∀ ad, A = some ad → ¬ S ad.block) : RdW w' A l c D :=
  ⟨h.len, h.cap, h.max, h.wd, fun hl => by
    obtain ⟨ad, e, hc⟩ := h.cells hl
    exact ⟨ad, e, fun j hj => hb.cell (hc j hj) (by rw [add_block]; exact hS ad e)⟩⟩
end Go.Proofs.YtgdpljjmnmapmaaGreatDoor

namespace Go.Proofs.YtgdpljjmnmapmaaGreatDoor
open Go Go.RowKit

/-- A finite decimal as it is told: its words lie in new memory. -/
def ToldF (w0 w w' : World) (σ : Sg) (n : Bool) (e : Int) (N : Nat) (E : Ending) : Prop :=
  ∃ p cc, E = .returned (.agg #[.int .i64 0, .bool n, .slice p (digs N).length cc, .int .i64 e]) ∧ RdW w' p (digs N).length cc (digs N) ∧ (∀ ad, p = some ad → w.heap.size ≤ ad.block) ∧ Hold w0 w' σ
theorem Hold.raw23 {w0 w : World} {τ : Sg} (h : Hold w0 w τ) {b : Nat} {a0 a1 a2 a3 : Value} {T : TypeId} (hb : τ b = some (Go.Proofs.YtgdpljjmnmapmaaGreatDoor.raw (.cells #[a0, a1, a2, a3] T (0, 0)))) (x y : Value) :
    ∃ V τ', (w.setCell ⟨b, 2, none⟩ x).setCell ⟨b, 3, none⟩ y = V ∧ Hold w0 V τ' ∧ τ' b = some (Go.Proofs.YtgdpljjmnmapmaaGreatDoor.raw (.cells #[a0, a1, x, y] T (0, 0))) ∧ (∀ c, c ≠ b → τ' c = τ c) ∧ Chg w V (fun k => k = b) :=
  ⟨_, _, rfl, (h.setRaw hb).setRaw (upd_eq _ _ _), by rw [upd_eq]; rfl, fun c hc => by rw [upd_ne _ _ hc, upd_ne _ _ hc], (chg_setB w b 2 x).trans ((chg_setB _ b 3 y).mono (fun _ _ h => .inl h))⟩
theorem Hold.raw32 {w0 w : World} {τ : Sg} (h : Hold w0 w τ) {b : Nat} {a0 a1 a2 a3 : Value} {T : TypeId} (hb : τ b = some (Go.Proofs.YtgdpljjmnmapmaaGreatDoor.raw (.cells #[a0, a1, a2, a3] T (0, 0)))) (x y : Value) :
    ∃ V τ', (w.setCell ⟨b, 3, none⟩ y).setCell ⟨b, 2, none⟩ x = V ∧ Hold w0 V τ' ∧ τ' b = some (Go.Proofs.YtgdpljjmnmapmaaGreatDoor.raw (.cells #[a0, a1, x, y] T (0, 0))) ∧ (∀ c, c ≠ b → τ' c = τ c) ∧ Chg w V (fun k => k = b) :=
  ⟨_, _, rfl, (h.setRaw hb).setRaw (upd_eq _ _ _), by rw [upd_eq]; rfl, fun c hc => by rw [upd_ne _ _ hc, upd_ne _ _ hc], (chg_setB w b 3 y).trans ((chg_setB _ b 2 x).mono (fun _ _ h => .inl h))⟩
theorem Hold.raw4 {w0 w : World} {τ : Sg} (h : Hold w0 w τ) {b : Nat} {a0 a1 a2 a3 : Value} {T : TypeId} (hb : τ b = some (Go.Proofs.YtgdpljjmnmapmaaGreatDoor.raw (.cells #[a0, a1, a2, a3] T (0, 0)))) (x0 x1 x2 x3 : Value) :
    ∃ V τ', (((w.setCell ⟨b, 0, none⟩ x0).setCell ⟨b, 1, none⟩ x1).setCell ⟨b, 2, none⟩ x2).setCell ⟨b, 3, none⟩ x3 = V ∧ Hold w0 V τ' ∧ τ' b = some (Go.Proofs.YtgdpljjmnmapmaaGreatDoor.raw (.cells #[x0, x1, x2, x3] T (0, 0))) ∧ (∀ c, c ≠ b → τ' c = τ c) ∧ Chg w V (fun k => k = b) :=
  ⟨_, _, rfl, (((h.setRaw hb).setRaw (upd_eq _ _ _)).setRaw (upd_eq _ _ _)).setRaw (upd_eq _ _ _), by rw [upd_eq]; rfl, fun c hc => by rw [upd_ne _ _ hc, upd_ne _ _ hc, upd_ne _ _ hc, upd_ne _ _ hc],
    (((chg_setB w b 0 x0).trans ((chg_setB _ b 1 x1).mono (fun _ _ h => .inl h))).trans ((chg_setB _ b 2 x2).mono (fun _ _ h => .inl h))).trans ((chg_setB _ b 3 x3).mono (fun _ _ h => .inl h))⟩
set_option maxRecDepth 20000 in
set_option maxHeartbeats 2000000 in
theorem toldF_c {w0 w : World} {σ : Sg} (h : Hold w0 w σ) {d : Nat} {n : Bool} {e : Int} {N : Nat} (hd : σ d = some (dec 0 n e false N)) (hN : (digs N).length ≤ 900) (he : -100000 ≤ e ∧ e ≤ 100000) :
    Calls Tryz.prog 30 #[.pointer (some ⟨d, 0, none⟩)] w fun E w' => ToldF w0 w w' σ n e N E := by
  have hlt : d < w.heap.size := (h.lt hd).2
  have d0 := h.c0 hd
  have d1 := h.c1 hd
  have ew : IntKind.i64.wrap e = e := IntWalk.i64_in _ (by omega)
  have h2 := (h.newRaw (.cells #[.int .i64 0, .bool false, .slice none 0 0, .int .i64 0] 24 (0, 0))).newRaw (.cells #[.int .i64 0, .bool n, .slice none 0 0, .int .i64 0] 24 (0, 0))
  simp only [World.size_alloc] at h2
  have hT := h.fresh (k := w.heap.size) (Nat.le_refl _)
  have hT1 := h.fresh (k := w.heap.size + 1) (by omega)
  replace h2 := Lib.hid h2
  replace hT := Lib.hid hT
  replace hT1 := Lib.hid hT1
  replace hd := Lib.hid hd
  clear h
  go_enter Tryz.func30, Tryz.ntmps30
  go_upto_region 3 with (fail)
  obtain ⟨T, hTe⟩ : ∃ T, w.heap.size = T := ⟨_, rfl⟩
  have hb0 : w.heap.size ≤ T := Nat.le_of_eq hTe
  replace hb0 := Lib.hid hb0
  clear hlt d0 d1
  rw [hTe] at h2 hT hT1 ⊢
  generalize (w.alloc (.cells #[.int .i64 0, .bool false, .slice none 0 0, .int .i64 0] 24 (0, 0))).alloc (.cells #[.int .i64 0, .bool n, .slice none 0 0, .int .i64 0] 24 (0, 0)) = W at h2 ⊢
  replace hTe := Lib.hid hTe
  have h2 := h2.out
  have hle : Le σ (upd (upd σ T (raw (.cells #[.int .i64 0, .bool false, .slice none 0 0, .int .i64 0] 24 (0, 0)))) (T + 1) (raw (.cells #[.int .i64 0, .bool n, .slice none 0 0, .int .i64 0] 24 (0, 0)))) := Le.skip hT1.out (Le.skip hT.out (Le.refl _))
  have a1 := upd_eq (upd σ T (raw (.cells #[.int .i64 0, .bool false, .slice none 0 0, .int .i64 0] 24 (0, 0)))) (T + 1) (raw (.cells #[.int .i64 0, .bool n, .slice none 0 0, .int .i64 0] 24 (0, 0)))
  have a0 : upd (upd σ T (raw (.cells #[.int .i64 0, .bool false, .slice none 0 0, .int .i64 0] 24 (0, 0)))) (T + 1) (raw (.cells #[.int .i64 0, .bool n, .slice none 0 0, .int .i64 0] 24 (0, 0))) T = some (raw (.cells #[.int .i64 0, .bool false, .slice none 0 0, .int .i64 0] 24 (0, 0))) := by rw [upd_ne _ _ (by omega), upd_eq]
  generalize upd (upd σ T (raw (.cells #[.int .i64 0, .bool false, .slice none 0 0, .int .i64 0] 24 (0, 0)))) (T + 1) (raw (.cells #[.int .i64 0, .bool n, .slice none 0 0, .int .i64 0] 24 (0, 0))) = τ at h2 hle a1 a0
  have d2 := h2.c2 (hle _ _ hd.out)
  have kw := fun w2 (hc : Chg W w2 (fun _ => False)) => wordsOf_c (h2.keep hc) (bnum_dec (hle _ _ hd.out)) hN
  have hWT : T + 1 < W.heap.size := (h2.lt a1).2
  have hdT1 : d ≠ T + 1 := by rintro rfl; have := hd.out; rw [hT1.out] at this; cases this
  have hdT : d ≠ T := by rintro rfl; have := hd.out; rw [hT.out] at this; cases this
  replace kw := Lib.hid kw
  replace a1 := Lib.hid a1
  replace a0 := Lib.hid a0
  replace hle := Lib.hid hle
  replace h2 := Lib.hid h2
  go_region_with ((go_at_call 54; refine (kw.out _ (by exact ⟨rfl, rfl, rfl, Nat.le_refl _, fun _ _ _ => rfl⟩)).mono ?_; rintro E w3 ⟨p, cc, base, rfl, hbase, hown, h3⟩; have e2 := h3.c2 (hle.out _ _ hd.out); have s2 : w3.cell? ⟨T + 1, 2, none⟩ = some (.slice none 0 0) := cellB (h3.raw a1.out) rfl; have s3 : w3.cell? ⟨T + 1, 3, none⟩ = some (.int .i64 0) := cellB (h3.raw a1.out) rfl; have f2 := frozenB (h3.raw a1.out) 2; have f3 := frozenB (h3.raw a1.out) 3; replace h3 := Lib.hid h3; replace hown := Lib.hid hown; replace hbase := Lib.hid hbase))
  all_goals
    clear s2 s3 f2 f3 e2
    first
      | (obtain ⟨V, τ1, hV, h4, a2, hne, hq⟩ := h3.out.raw23 a1.out (.slice p (digs N).length cc) (.int .i64 e)
         rw [hV])
      | (obtain ⟨V, τ1, hV, h4, a2, hne, hq⟩ := h3.out.raw32 a1.out (.slice p (digs N).length cc) (.int .i64 e)
         rw [hV])
    clear hV
    have a3 := (hne T (by omega)).trans a0.out
    have hle1 : Le σ τ1 := fun k it hk => by rw [hne k (by rintro rfl; rw [hT1.out] at hk; cases hk)]; exact hle.out k it hk
    have hb1 := h4.raw a2
    have hb0' := h4.raw a3
    have r0 := cellB hb1 (i := 0) rfl
    have r1 := cellB hb1 (i := 1) rfl
    have r2 := cellB hb1 (i := 2) rfl
    have r3 := cellB hb1 (i := 3) rfl
    have z0 := cellB hb0' (i := 0) rfl
    have z1 := cellB hb0' (i := 1) rfl
    have z2 := cellB hb0' (i := 2) rfl
    have z3 := cellB hb0' (i := 3) rfl
    have y0 := frozenB hb0' 0
    have y1 := frozenB hb0' 1
    have y2 := frozenB hb0' 2
    have y3 := frozenB hb0' 3
    replace h4 := Lib.hid h4
    replace a3 := Lib.hid a3
    replace hq := Lib.hid hq
    replace hle1 := Lib.hid hle1
    clear hb1 hb0' hne a2
    go_wp2
    clear r0 r1 r2 r3 z0 z1 z2 z3 y0 y1 y2 y3
    obtain ⟨V2, τ2, hV, h5, a4, hne, hq2⟩ := h4.out.raw4 a3.out (.int .i64 0) (.bool n) (.slice p (digs N).length cc) (.int .i64 e)
    rw [hV]
    clear hV
    have hb0' := h5.raw a4
    have r0 := cellB hb0' (i := 0) rfl
    have r1 := cellB hb0' (i := 1) rfl
    have r2 := cellB hb0' (i := 2) rfl
    have r3 := cellB hb0' (i := 3) rfl
    have hle2 : Le σ τ2 := fun k it hk => by rw [hne k (by rintro rfl; rw [hT.out] at hk; cases hk)]; exact hle1.out k it hk
    have hch : Chg w3 V2 (fun k => k = T + 1 ∨ k = T) := (hq.out.mono (fun _ _ h => .inl h)).trans (hq2.mono (fun _ _ h => .inl (.inr h)))
    obtain ⟨hw1, hw2⟩ := own_rdW hown.out rfl (Wd_digs N)
    have hbs : T + 1 < base := Nat.lt_of_lt_of_le hWT hbase.out
    have hrd := hw1.chgAt hch (fun ad ha e1 => by have := hw2 ad ha; omega)
    have hlo : ∀ ad, p = some ad → w.heap.size ≤ ad.block := fun ad ha => by have h1 := hw2 ad ha; have h2 := hb0.out; omega
    exact bodyPost_ret (v := .agg #[.int .i64 0, .bool n, .slice p (digs N).length cc, .int .i64 e]) (by simp [results, Tryz.results30, go_sem, r0, r1, r2, r3]) rfl ⟨p, cc, rfl, hrd, hlo, h5.le hle2⟩
end Go.Proofs.YtgdpljjmnmapmaaGreatDoor

namespace Go.Proofs.YtgdpljjmnmapmaaGreatDoor
open Go Go.RowKit

/-- More is told. -/
theorem Hold.more {w0 w w' : World} {σ : Sg} (h : Hold w0 w σ) {k : Nat} {o : Obj} (hc : Chg w w' (fun _ => False)) (hk : w.heap.size ≤ k) (ho : w'.heap[k]? = some o) :
    ∃ τ, Hold w0 w' τ ∧ Le σ τ ∧ τ k = some (Go.Proofs.YtgdpljjmnmapmaaGreatDoor.raw o) :=
  ⟨_, h.add (it := Go.Proofs.YtgdpljjmnmapmaaGreatDoor.raw o) (s := fun _ => none) hc hk (.inr ⟨Nat.le_of_ble_eq_true rfl, ho⟩) (fun _ _ _ _ _ h => by cases h) (fun _ _ _ _ _ _ _ _ _ h => by cases h), Le.skip (h.fresh hk) (Le.refl _), upd_eq _ _ _⟩
theorem MadeF.more {w0 w w' : World} {σ : Sg} {E : Ending} {n : Bool} {ex : Int} {N : Nat} (hm : MadeF w w' E n ex N) (h : Hold w0 w σ) :
    ∃ k τ, E = .returned (.pointer (some ⟨k, 0, none⟩)) ∧ w.heap.size ≤ k ∧ Hold w0 w' τ ∧ Le σ τ ∧ τ k = some (dec 0 n ex false N) := by
  obtain ⟨k, rfl, hk, h2⟩ := MadeF.hold h hm
  exact ⟨k, _, rfl, hk, h2, Le.skip (h.fresh hk) (Le.refl _), upd_eq _ _ _⟩

/-- The boxes at an operation's start. -/
theorem lay4 {w : World} (hG : Glob w) (o1 o2 o3 : Obj) : ∃ σ : Sg, Hold w ((((w.alloc o1).alloc o2).alloc o3).alloc (.cells #[.int .i8 0, .bool false, .int .i32 0, .bool false, .slice none 0 0, .bool false] 64 (0, 0))) σ ∧
    σ w.heap.size = some (raw o1) ∧ σ (w.heap.size + 1) = some (raw o2) ∧ σ (w.heap.size + 2) = some (raw o3) ∧ σ (w.heap.size + 3) = some (dec 0 false 0 false 0) := by
  have h := ((((Hold.start hG).newRaw o1).newRaw o2).newRaw o3).newDec 0 0 false
  refine ⟨_, h, ?_, ?_, ?_, ?_⟩
  all_goals simp only [World.size_alloc]
  · rw [upd_ne _ _ (by omega), upd_ne _ _ (by omega), upd_ne _ _ (by omega), upd_eq]
  · rw [upd_ne _ _ (by omega), upd_ne _ _ (by omega), upd_eq]
  · rw [upd_ne _ _ (by omega), upd_eq]
  · rw [upd_eq]
theorem lay5 {w : World} (hG : Glob w) (o1 o2 o3 o4 : Obj) : ∃ σ : Sg, Hold w (((((w.alloc o1).alloc o2).alloc o3).alloc o4).alloc (.cells #[.int .i8 0, .bool false, .int .i32 0, .bool false, .slice none 0 0, .bool false] 64 (0, 0))) σ ∧
    σ w.heap.size = some (raw o1) ∧ σ (w.heap.size + 1) = some (raw o2) ∧ σ (w.heap.size + 2) = some (raw o3) ∧ σ (w.heap.size + 3) = some (raw o4) ∧ σ (w.heap.size + 4) = some (dec 0 false 0 false 0) := by
  have h := (((((Hold.start hG).newRaw o1).newRaw o2).newRaw o3).newRaw o4).newDec 0 0 false
  refine ⟨_, h, ?_, ?_, ?_, ?_, ?_⟩
  all_goals simp only [World.size_alloc]
  · rw [upd_ne _ _ (by omega), upd_ne _ _ (by omega), upd_ne _ _ (by omega), upd_ne _ _ (by omega), upd_eq]
  · rw [upd_ne _ _ (by omega), upd_ne _ _ (by omega), upd_ne _ _ (by omega), upd_eq]
  · rw [upd_ne _ _ (by omega), upd_ne _ _ (by omega), upd_eq]
  · rw [upd_ne _ _ (by omega), upd_eq]
  · rw [upd_eq]
/-- The boxes of a context and of a decimal as plain data. -/
def Bd2 (s : Nat) (p a b : Int) (m : Nat) (fx ex : Int) (nx : Bool) (Ax : Option Addr) (lx cx : Nat) (w : World) : Prop :=
  w.heap[s]? = some (.cells #[.int .u64 p, .int .i64 a, .int .i64 b, .int .i64 (m : Int)] 34 (0, 0)) ∧ w.heap[s + 1]? = some (.cells #[.int .i64 fx, .bool nx, .slice Ax lx cx, .int .i64 ex] 24 (0, 0))
theorem Bd2.cells {s : Nat} {p a b : Int} {m : Nat} {fx ex : Int} {nx : Bool} {Ax : Option Addr} {lx cx : Nat} {w : World} (h : Bd2 s p a b m fx ex nx Ax lx cx w) :
    w.cell? ⟨s, 0, none⟩ = some (.int .u64 p) ∧ w.cell? ⟨s, 1, none⟩ = some (.int .i64 a) ∧ w.cell? ⟨s, 2, none⟩ = some (.int .i64 b) ∧ w.cell? ⟨s, 3, none⟩ = some (.int .i64 (m : Int)) ∧
    w.cell? ⟨s + 1, 0, none⟩ = some (.int .i64 fx) ∧ w.cell? ⟨s + 1, 1, none⟩ = some (.bool nx) ∧ w.cell? ⟨s + 1, 2, none⟩ = some (.slice Ax lx cx) ∧ w.cell? ⟨s + 1, 3, none⟩ = some (.int .i64 ex) :=
  ⟨cellB h.1 rfl, cellB h.1 rfl, cellB h.1 rfl, cellB h.1 rfl, cellB h.2 rfl, cellB h.2 rfl, cellB h.2 rfl, cellB h.2 rfl⟩
/-- What an operation of the thin package hands back: a finite decimal in new memory, and its conditions. -/
def ImplR (w w' : World) (E : Ending) (n : Bool) (e : Int) (N cn : Nat) : Prop :=
  ∃ p cc, E = .returned (.tuple #[.agg #[.int .i64 0, .bool n, .slice p (digs N).length cc, .int .i64 e], .int .i64 (cn : Int), .bool true]) ∧ RdW w' p (digs N).length cc (digs N) ∧ (∀ ad, p = some ad → w.heap.size ≤ ad.block) ∧ Chg w w' (fun _ => False)
theorem rndC_4096 (N p : Nat) : rndC N p < 4096 := (calm_4096 (rndC_calm N p)).1
end Go.Proofs.YtgdpljjmnmapmaaGreatDoor

namespace Go.Proofs.YtgdpljjmnmapmaaGreatDoor
open Go Go.RowKit

theorem decNaNH_c {w0 w : World} {σ : Sg} (h : Hold w0 w σ) : Calls Tryz.prog 71 #[] w fun E w' => ∃ k, E = .returned (.pointer (some ⟨k, 0, none⟩)) ∧ w.heap.size ≤ k ∧ Hold w0 w' (upd σ k (dec 3 false 0 false 0)) := by
  have h1 := h.newDec 3 0 false
  replace h1 := Lib.hid h1
  clear h
  go_enter Tryz.func71, Tryz.ntmps71
  go_wp2
  go_ret
  exact ⟨_, rfl, Nat.le_refl _, h1.out⟩
/-- The sign of x where d, that may be x, holds another number. -/
theorem Hold.c1of {w0 w : World} {σ : Sg} {d x : Nat} {f e f' e' f2 e2 : Int} {n n' g g' g2 : Bool} {N N' N2 : Nat} (hd : σ d = some (dec f' n' e' g' N')) (hx : σ x = some (dec f n e g N)) (h : Hold w0 w (upd σ d (dec f2 n' e2 g2 N2))) : w.cell? ⟨x, 1, none⟩ = some (.bool n) := by
  by_cases hxd : x = d
  · subst hxd
    rw [hd] at hx
    have hn : n' = n := by injection hx with hx; injection hx
    rw [← hn]
    exact h.c1 (upd_eq _ _ _)
  · exact h.c1 (by rw [upd_ne _ _ hxd]; exact hx)
/-- Three summands. -/
def three (u v x : Int) : Nat → Int := fun k => if k = 0 then u else if k = 1 then v else x
theorem sumN_three (u v x : Int) : sumN (three u v x) 3 = u + v + x := by simp [sumN, three]
theorem setExp3_c {w0 w : World} {σ : Sg} (h : Hold w0 w σ) {d c r : Nat} {f0 e p a b nd : Int} {n : Bool} {N : Nat} {m : ByteArray} (u v x : Int) (hd : σ d = some (dec f0 n e false N)) (hc : σ c = some (ctxO p a b m)) (hN : nbits N < 1200)
    (hnd : nd = -1 ∨ nd = (figs N : Int)) (hr : calm r) (hu : -10000 ≤ u ∧ u ≤ 10000) (hv : -10000 ≤ v ∧ v ≤ 10000) (hx : -10000 ≤ x ∧ x ≤ 10000) (ha : 50000 ≤ a ∧ a ≤ 2000000) (hb : -2000000 ≤ b ∧ b ≤ -50000) (n0 : Nat) :
    Calls Tryz.prog 77 #[.pointer (some ⟨d, 0, none⟩), .pointer (some ⟨c, 0, none⟩), .int .i64 nd, .int .u32 (r : Int), .slice (some ⟨w.heap.size, 0, none⟩) 3 3] ((w.alloc (.cells #[.int .i64 u, .int .i64 v, .int .i64 x] 2 (0, 0))).drewN n0) fun E w' => E = .returned (.int .u32 (r : Int)) ∧ Hold w0 w' (upd σ d (dec f0 n (u + v + x) false N)) := by
  have k := setExp_c (s := w.heap.size) (l := 3) (cap := 3) (h.keep (((Chg.refl w _).alloc (.cells #[.int .i64 u, .int .i64 v, .int .i64 x] 2 (0, 0))).drewN n0)) (three u v x) hd hc hN hnd hr (by omega) (fun k hk => by
    rcases (by omega : k = 0 ∨ k = 1 ∨ k = 2) with rfl | rfl | rfl
    · exact hu
    · exact hv
    · exact hx) (fun k hk => by
    rcases (by omega : k = 0 ∨ k = 1 ∨ k = 2) with rfl | rfl | rfl
    · exact cellB (w := (w.alloc (.cells #[.int .i64 u, .int .i64 v, .int .i64 x] 2 (0, 0))).drewN n0) (allocB w _) rfl
    · exact cellB (w := (w.alloc (.cells #[.int .i64 u, .int .i64 v, .int .i64 x] 2 (0, 0))).drewN n0) (allocB w _) rfl
    · exact cellB (w := (w.alloc (.cells #[.int .i64 u, .int .i64 v, .int .i64 x] 2 (0, 0))).drewN n0) (allocB w _) rfl) ha hb (by omega)
  rw [sumN_three] at k
  exact k
theorem setExp1_c {w0 w : World} {σ : Sg} (h : Hold w0 w σ) {d c r : Nat} {f0 e p a b nd : Int} {n : Bool} {N : Nat} {m : ByteArray} (u : Int) (hd : σ d = some (dec f0 n e false N)) (hc : σ c = some (ctxO p a b m)) (hN : nbits N < 1200)
    (hnd : nd = -1 ∨ nd = (figs N : Int)) (hr : calm r) (hu : -10000 ≤ u ∧ u ≤ 10000) (ha : 50000 ≤ a ∧ a ≤ 2000000) (hb : -2000000 ≤ b ∧ b ≤ -50000) (n0 : Nat) :
    Calls Tryz.prog 77 #[.pointer (some ⟨d, 0, none⟩), .pointer (some ⟨c, 0, none⟩), .int .i64 nd, .int .u32 (r : Int), .slice (some ⟨w.heap.size, 0, none⟩) 1 1] ((w.alloc (.cells #[.int .i64 u] 2 (0, 0))).drewN n0) fun E w' => E = .returned (.int .u32 (r : Int)) ∧ Hold w0 w' (upd σ d (dec f0 n u false N)) := by
  have k := setExp_c (s := w.heap.size) (l := 1) (cap := 1) (h.keep (((Chg.refl w _).alloc (.cells #[.int .i64 u] 2 (0, 0))).drewN n0)) (fun _ => u) hd hc hN hnd hr (by omega) (fun k hk => hu) (fun k hk => by
    obtain rfl : k = 0 := by omega
    exact cellB (w := (w.alloc (.cells #[.int .i64 u] 2 (0, 0))).drewN n0) (allocB w _) rfl) ha hb (by omega)
  rw [show sumN (fun _ => u) 1 = u by simp [sumN]] at k
  exact k
end Go.Proofs.YtgdpljjmnmapmaaGreatDoor

namespace Go.Proofs.YtgdpljjmnmapmaaGreatDoor
open Go Go.RowKit

/-- What is told of an answer stays, where a block that is older than its words is written. -/
def StQ (Q : Int → Bool → Option Addr → Nat → Nat → Int → World → Prop) : Prop := ∀ F s q l cc e1 (u v : World) (k : Nat), Q F s q l cc e1 u → (∀ ad, q = some ad → k < ad.block) → Chg u v (fun j => j = k) → Q F s q l cc e1 v
def ToldQ (Q : Int → Bool → Option Addr → Nat → Nat → Int → World → Prop) (w w4 : World) (τ : Sg) (d : Nat) : Prop :=
  Calls Tryz.prog 30 #[.pointer (some ⟨d, 0, none⟩)] w4 fun E w5 => ∃ F s q l cc e1, E = .returned (.agg #[.int .i64 F, .bool s, .slice q l cc, .int .i64 e1]) ∧ Q F s q l cc e1 w5 ∧ (∀ ad, q = some ad → w4.heap.size ≤ ad.block) ∧ Hold w w5 τ
def ImplQ (Q : Int → Bool → Option Addr → Nat → Nat → Int → World → Prop) (w w' : World) (E : Ending) (cn : Nat) : Prop :=
  ∃ F s q l cc e1, E = .returned (.tuple #[.agg #[.int .i64 F, .bool s, .slice q l cc, .int .i64 e1], .int .i64 (cn : Int), .bool true]) ∧ Q F s q l cc e1 w' ∧ Chg w w' (fun _ => False)
/-- A finite decimal is told. -/
def QFin (n : Bool) (e : Int) (N : Nat) (F : Int) (s : Bool) (q : Option Addr) (l cc : Nat) (e1 : Int) (w : World) : Prop := F = 0 ∧ s = n ∧ e1 = e ∧ l = (digs N).length ∧ RdW w q l cc (digs N)
theorem QFin.st (n : Bool) (e : Int) (N : Nat) : StQ (QFin n e N) := fun _ _ _ _ _ _ _ _ _ ⟨h1, h2, h3, h4, h5⟩ hk hc => ⟨h1, h2, h3, h4, h5.chgAt hc (fun ad ha e => by have := hk ad ha; omega)⟩
theorem QFin.told {w w4 : World} {τ : Sg} {d : Nat} {n : Bool} {e : Int} {N : Nat} (h : Hold w w4 τ) (hd : τ d = some (dec 0 n e false N)) (hN : (digs N).length ≤ 900) (he : -100000 ≤ e ∧ e ≤ 100000) : ToldQ (QFin n e N) w w4 τ d :=
  (toldF_c h hd hN he).mono fun _ _ ⟨p, cc, hE, hr, hl, hh⟩ => ⟨0, n, p, _, cc, e, hE, ⟨rfl, rfl, rfl, rfl, hr⟩, hl, hh⟩
/-- Another form is told. -/
def QForm (f : Int) (n : Bool) (F : Int) (s : Bool) (_q : Option Addr) (_l _cc : Nat) (_e1 : Int) (_w : World) : Prop := F = f ∧ s = n
theorem QForm.st (f : Int) (n : Bool) : StQ (QForm f n) := fun _ _ _ _ _ _ _ _ _ h _ _ => h
theorem QForm.told {w w4 : World} {τ : Sg} {d : Nat} {f e : Int} {n g : Bool} {N : Nat} (h : Hold w w4 τ) (hd : τ d = some (dec f n e g N)) (hf : f = 1 ∨ f = 2 ∨ f = 3) : ToldQ (QForm f n) w w4 τ d := by
  have d0 := h.c0 hd
  have d1 := h.c1 hd
  have hlt := (h.lt hd).2
  unfold ToldQ QForm
  replace h := Lib.hid h
  clear hd
  rcases hf with rfl | rfl | rfl
  · go_enter Tryz.func30, Tryz.ntmps30
    go_wp2
    exact bodyPost_ret (v := .agg #[.int .i64 1, .bool n, .slice none 0 0, .int .i64 0]) (by simp [results, Tryz.results30, go_sem]) rfl ⟨_, _, _, _, _, _, rfl, ⟨rfl, rfl⟩, (fun ad h => by cases h), h.out.keep (((Chg.refl _ _).alloc _).alloc _)⟩
  · go_enter Tryz.func30, Tryz.ntmps30
    go_wp2
    exact bodyPost_ret (v := .agg #[.int .i64 2, .bool n, .slice none 0 0, .int .i64 0]) (by simp [results, Tryz.results30, go_sem]) rfl ⟨_, _, _, _, _, _, rfl, ⟨rfl, rfl⟩, (fun ad h => by cases h), h.out.keep (((Chg.refl _ _).alloc _).alloc _)⟩
  · go_enter Tryz.func30, Tryz.ntmps30
    go_wp2
    exact bodyPost_ret (v := .agg #[.int .i64 3, .bool n, .slice none 0 0, .int .i64 0]) (by simp [results, Tryz.results30, go_sem]) rfl ⟨_, _, _, _, _, _, rfl, ⟨rfl, rfl⟩, (fun ad h => by cases h), h.out.keep (((Chg.refl _ _).alloc _).alloc _)⟩
end Go.Proofs.YtgdpljjmnmapmaaGreatDoor

namespace Go.Proofs.YtgdpljjmnmapmaaGreatDoor
open Go Go.RowKit

/-- What Rem gives: what is left, rounded; or no number, where the quotient is too long. -/
def RemRes (w0 : World) (σ : Sg) (d : Nat) (n : Bool) (e : Int) (p m Q R : Nat) (E : Ending) (w' : World) : Prop :=
  (figs Q ≤ p ∧ CRes w0 σ d n e p m R E w') ∨ (p < figs Q ∧ E = .returned (.tuple #[.int .u32 ((512 : Nat) : Int), .nilIface]) ∧ Hold w0 w' (upd σ d (dec 3 false 0 false 0)))
set_option maxRecDepth 20000 in
set_option maxHeartbeats 4000000 in
theorem cRem_c {w0 w : World} {σ : Sg} (h : Hold w0 w σ) {d x y c p m : Nat} {ex ey f' e' a b : Int} {nx ny n' : Bool} {X Y N' A B : Nat} {e : Int} (hd : σ d = some (dec f' n' e' false N')) (hx : σ x = some (dec 0 nx ex false X)) (hy : σ y = some (dec 0 ny ey false Y)) (hc : σ c = some (ctxO p a b (modeS m)))
    (hp : 1 ≤ p ∧ p ≤ 1000) (ha : 50000 ≤ a ∧ a ≤ 2000000) (hb : -2000000 ≤ b ∧ b ≤ -50000) (hX : nbits X ≤ 2000) (hY : nbits Y ≤ 2000) (hm : m < 8) (hex : -1000 ≤ ex ∧ ex ≤ 1000) (hey : -1000 ≤ ey ∧ ey ≤ 1000) (hfar : ey - ex ≤ 400 ∧ ex - ey ≤ 400)
    (he : e = if ex ≤ ey then ex else ey) (hA : A = X * 10 ^ (ex - ey).toNat) (hB : B = Y * 10 ^ (ey - ex).toNat) (hAb : nbits A ≤ 1090) (hBb : nbits B ≤ 1090) (hY0 : Y ≠ 0) :
    Calls Tryz.prog 40 #[.pointer (some ⟨c, 0, none⟩), .pointer (some ⟨d, 0, none⟩), .pointer (some ⟨x, 0, none⟩), .pointer (some ⟨y, 0, none⟩)] w (RemRes w0 σ d nx e p m (A / B) (A % B)) := by
  have kn := shouldNaN_c w (.pointer (some ⟨c, 0, none⟩)) x y 0 0 (h.c0 hx) (h.c0 hy) (by omega) (by omega)
  rw [show decide ((2 : Int) ≤ 0 ∨ (2 : Int) ≤ 0) = false from rfl] at kn
  have kz := isZeroH_c h hy
  rw [decide_eq_false hY0] at kz
  have x0 := h.c0 hx
  have y0 := h.c0 hy
  have hcd : c ≠ d := by rintro rfl; rw [hc] at hd; cases hd
  have hX40 : (digs X).length < 40 := Nat.lt_of_le_of_lt (bits_w (k := 32) (by omega)) (by omega)
  have hY40 : (digs Y).length < 40 := Nat.lt_of_le_of_lt (bits_w (k := 32) (by omega)) (by omega)
  have hAw : (digs A).length ≤ 250 := Nat.le_trans (bits_w (k := 18) (by omega)) (by omega)
  have hBw : (digs B).length < 40 := Nat.lt_of_le_of_lt (bits_w (k := 18) (by omega)) (by omega)
  have hB0 : B ≠ 0 := by rw [hB]; have := Nat.mul_pos (show 0 < Y by omega) (ten_pos (ey - ex).toNat); omega
  have hQb : nbits (A / B) < 1200 := Nat.lt_of_le_of_lt (nbits_mono (Nat.div_le_self _ _)) (by omega)
  have hRb : nbits (A % B) < 1100 := Nat.lt_of_le_of_lt (nbits_mono (Nat.mod_le _ _)) (by omega)
  have hT := h.fresh (Nat.le_refl w.heap.size)
  have h1 := h.newBig
  obtain ⟨T, hTe⟩ : ∃ T, w.heap.size = T := ⟨_, rfl⟩
  rw [hTe] at hT
  rw [hTe] at h1
  have hTx : x ≠ T := by rintro rfl; rw [hT] at hx; cases hx
  have hTy : y ≠ T := by rintro rfl; rw [hT] at hy; cases hy
  have ku := upscale_c h1 (by rw [upd_ne _ _ hTx]; exact hx) (by rw [upd_ne _ _ hTy]; exact hy) (upd_eq _ _ _) (by omega) (by omega) hfar hX40 hY40
  have hle : Le σ (upd σ T (big false 0)) := Le.skip hT (Le.refl _)
  have hle2 : ∀ N, Le σ (upd (upd σ T (big false 0)) T (big false N)) := fun N => by rw [upd_upd]; exact Le.skip hT (Le.refl _)
  have eb : -1000 ≤ e ∧ e ≤ 1000 := by rw [he]; split <;> omega
  have hx1 := fun w' R (h' : Hold w0 w' (upd σ d (dec 0 n' e false R))) => Hold.c1of hd hx h'
  have hrc := rndC_calm (A % B) p
  obtain ⟨Q, hQe⟩ : ∃ Q, A / B = Q := ⟨_, rfl⟩
  obtain ⟨R, hRe⟩ : ∃ R, A % B = R := ⟨_, rfl⟩
  unfold RemRes CRes
  rw [hQe] at hQb ⊢
  rw [hRe] at hRb hrc ⊢
  obtain ⟨r, hre⟩ : ∃ r, rndC R p = r := ⟨_, rfl⟩
  rw [hre] at hrc ⊢
  replace hQe := Lib.hid hQe
  replace hRe := Lib.hid hRe
  replace hre := Lib.hid hre
  replace hrc := Lib.hid hrc
  replace hTe := Lib.hid hTe
  replace kn := Lib.hid kn
  replace kz := Lib.hid kz
  replace ku := Lib.hid ku
  replace hle := Lib.hid hle
  replace hle2 := Lib.hid hle2
  replace hd := Lib.hid hd
  replace hc := Lib.hid hc
  replace he := Lib.hid he
  replace hA := Lib.hid hA
  replace hB := Lib.hid hB
  replace hx1 := Lib.hid hx1
  clear h h1 hx hy hT hY0
  go_enter Tryz.func40, Tryz.ntmps40
  go_wp2_with fail
  with_reducible refine kn.out.mono ?_
  rintro E w' ⟨rfl, hw⟩
  obtain rfl := hw
  go_wp2_with fail
  with_reducible refine kz.out.mono ?_
  rintro E w' ⟨rfl, hw⟩
  obtain rfl := hw
  go_wp2_with fail
  rw [hTe.out]
  with_reducible refine ku.out.mono ?_
  rintro E w3 ⟨σ', ba, oa, bb, ob, rfl, h3, na, nb, hba, hbb, hσ⟩
  rw [← he.out]
  rw [← hA.out] at na
  rw [← hB.out] at nb
  have hle3 : Le σ σ' := by
    rcases hσ with rfl | ⟨N, rfl⟩
    · exact hle.out
    · exact hle2.out N
  have hd3 := hle3 _ _ hd.out
  have hc3 := hle3 _ _ hc.out
  have hT2 := h3.fresh (Nat.le_refl w3.heap.size)
  have h4 := h3.newBig
  obtain ⟨T2, hT2e⟩ : ∃ T2, w3.heap.size = T2 := ⟨_, rfl⟩
  rw [hT2e] at hT2 h4
  have hdT2 : d ≠ T2 := by rintro rfl; rw [hT2] at hd3; cases hd3
  have hcT2 : c ≠ T2 := by rintro rfl; rw [hT2] at hc3; cases hc3
  have hsT2 := Le.none hle3 hT2
  have hd4 : upd σ' T2 (big false Q) d = some (dec f' n' e' false N') := by rw [upd_ne _ _ hdT2]; exact hd3
  have kq := bigQuoRem_c h4 (bnum_big (upd_eq _ _ _)) (na.upd hT2) (nb.upd hT2) (bnum_dec (by rw [upd_ne _ _ hdT2]; exact hd3)) (Ne.symm hdT2) hB0 hAw hBw
  rw [hQe.out, hRe.out, put_big (upd_eq _ _ _), upd_upd, put_dec hd4] at kq
  have hTq : upd (upd σ' T2 (big false Q)) d (dec f' n' e' false R) T2 = some (big false Q) := by rw [upd_ne _ _ (Ne.symm hdT2), upd_eq]
  have hcq : ∀ it, upd (upd σ' T2 (big false Q)) d it c = some (ctxO p a b (modeS m)) := fun it => by rw [upd_ne _ _ hcd, upd_ne _ _ hcT2]; exact hc3
  have hleq : ∀ it, Le (upd σ d it) (upd (upd σ' T2 (big false Q)) d it) := fun it => Le.both (Le.skip hsT2 hle3)
  generalize upd σ' T2 (big false Q) = ρ at kq hTq hcq hleq
  have hfq : ((figs Q : Int) > (p : Int)) ↔ p < figs Q := by omega
  have ewp : IntKind.i64.wrap (p : Int) = (p : Int) := IntWalk.i64_in _ (by omega)
  replace kq := Lib.hid kq
  replace hTq := Lib.hid hTq
  replace hcq := Lib.hid hcq
  replace hleq := Lib.hid hleq
  replace hT2e := Lib.hid hT2e
  replace hfq := Lib.hid hfq
  clear h3 h4 na nb hba hbb hσ hle3 hd3 hc3 hT2 hsT2 hd4 ku kn kz hle hle2 x0 y0
  go_wp2_with fail
  rw [hT2e.out]
  with_reducible refine kq.out.mono ?_
  rintro E w4 ⟨rfl, h4⟩
  have kd := fun w' (hc : Chg w4 w' (fun _ => False)) => NumDigits_c (h4.keep hc) (bnum_big hTq.out) hQb
  have hS0 := ((h4.drew).ctx (hcq.out _)).c0
  have hf := Lib.hid (fun w' (hh : Hold w0 w' (upd ρ d (dec f' n' e' false R))) => (hh.ctx (hcq.out _)).c0)
  replace kd := Lib.hid kd
  clear h4 kq
  go_upto_region 22 with (fail)
  go_region_held3 (fun w' => w'.cell? ⟨c, 0, none⟩ = some (.int .u32 (p : Int))) (first | exact hS0 | exact hS1) (
    (go_at_call 74
     refine (kd.out _ (by exact ⟨rfl, rfl, rfl, Nat.le_refl _, fun _ _ _ => rfl⟩)).mono ?_
     rintro E w5 ⟨rfl, h5⟩
     have hS1 := hf.out _ h5
     replace h5 := Lib.hid h5))
  clear hS0 hS1 hf kd
  by_cases hq : p < figs Q
  · have hcmp : decide ((figs Q : Int) > (p : Int)) = true := by rw [decide_eq_true_iff]; exact hfq.out.2 hq
    have kn := decNaNH_c h5.out
    replace kn := Lib.hid kn
    go_wp2_with fail
    with_reducible refine kn.out.mono ?_
    rintro E w6 ⟨k, rfl, hk, h6⟩
    have hfk := h5.out.fresh hk
    have hdk : d ≠ k := by rintro rfl; rw [upd_eq] at hfk; cases hfk
    have ks := decSet_c h6 (d := d) (by rw [upd_ne _ _ hdk]; exact upd_eq _ _ _) (upd_eq _ _ _) (by rw [digs_zero]; simp)
    have hck : c ≠ k := by rintro rfl; have := hcq.out (dec f' n' e' false R); rw [hfk] at this; cases this
    have hc7 : upd (upd (upd ρ d (dec f' n' e' false R)) k (dec 3 false 0 false 0)) d (dec 3 false 0 false 0) c = some (ctxO p a b (modeS m)) := by rw [upd_ne _ _ hcd, upd_ne _ _ hck]; exact hcq.out _
    have hle7 : Le (upd σ d (dec 3 false 0 false 0)) (upd (upd (upd ρ d (dec f' n' e' false R)) k (dec 3 false 0 false 0)) d (dec 3 false 0 false 0)) := by
      have h1 := Le.skip (jt := dec 3 false 0 false 0) (Le.none (hleq.out (dec f' n' e' false R)) hfk) (hleq.out (dec f' n' e' false R))
      have h2 := Le.both (k := d) (jt := dec 3 false 0 false 0) h1
      rw [upd_upd] at h2
      exact h2
    have ke := fun w1 (h1 : Hold w0 w1 (upd (upd (upd ρ d (dec f' n' e' false R)) k (dec 3 false 0 false 0)) d (dec 3 false 0 false 0))) => (show Calls Tryz.prog 64 #[.pointer (some ⟨c, 0, none⟩), .int .u32 512] w1 _ from goError_c w1 c 512 p a b (modeS m) (h1.ctx hc7) (by omega) (by omega))
    replace ks := Lib.hid ks
    replace ke := Lib.hid ke
    replace hle7 := Lib.hid hle7
    clear h5 h6 hfk kn hc7 hk
    go_wp2_with fail
    with_reducible refine ks.out.mono ?_
    rintro E w7 ⟨rfl, h7⟩
    have ke := ke.out _ h7
    have h8 := h7.le hle7.out
    replace ke := Lib.hid ke
    replace h8 := Lib.hid h8
    clear h7
    go_wp2_with fail
    with_reducible refine ke.out.mono ?_
    rintro E w' ⟨rfl, hw⟩
    obtain rfl := hw
    go_wp2
    go_ret2
    exact .inr ⟨hq, rfl, h8.out⟩
  · have hcmp : decide ((figs Q : Int) > (p : Int)) = false := by rw [decide_eq_false_iff_not]; exact fun h => hq (hfq.out.1 h)
    have h6 := h5.out.le (hleq.out _)
    have hc6 : ∀ it, upd σ d it c = some (ctxO p a b (modeS m)) := fun it => by rw [upd_ne _ _ hcd]; exact hc.out
    have d0 := h6.c0 (upd_eq _ _ _)
    have d2 := h6.c2 (upd_eq _ _ _)
    have f0 := h6.fz (upd_eq _ _ _) 0
    have f2 := h6.fz (upd_eq _ _ _) 2
    have h7 := h6.setForm (upd_eq _ _ _) 0
    rw [upd_upd] at h7
    have h8 := h7.setExp (upd_eq _ _ _) e
    rw [upd_upd] at h8
    replace h8 := Lib.hid h8
    replace hc6 := Lib.hid hc6
    clear h5 h6 h7
    go_upto_region 27 with (fail)
    generalize (w5.setCell ⟨d, 0, none⟩ (.int .i8 0)).setCell ⟨d, 2, none⟩ (.int .i32 e) = W at h8 ⊢
    clear d0 d2 f0 f2
    have x1 := hx1.out _ _ h8.out
    have d1 := h8.out.c1 (upd_eq _ _ _)
    have f1 := h8.out.fz (upd_eq _ _ _) 1
    have h9 := h8.out.setSign (upd_eq _ _ _) nx
    rw [upd_upd] at h9
    have kr := round_c h9 (upd_eq _ _ _) (upd_eq _ _ _) (hc6.out _) hp ha hb hRb hm (by omega)
    simp only [upd_upd, hre.out] at kr
    have ke := fun w1 (h1 : Hold w0 w1 (upd σ d (dec 0 nx (e + (rndK nx R p m : Int)) false (rndN nx R p m)))) => errH_c h1 (hc6.out _) hrc.out
    have hor := or0 hrc.out
    replace kr := Lib.hid kr
    replace ke := Lib.hid ke
    clear h8 h9
    go_wp2_with fail
    with_reducible refine kr.out.mono ?_
    rintro E w6 ⟨rfl, h6⟩
    have ke := ke.out _ h6
    replace ke := Lib.hid ke
    replace h6 := Lib.hid h6
    go_wp2_with fail
    with_reducible refine ke.out.mono ?_
    rintro E w' ⟨rfl, hw⟩
    obtain rfl := hw
    go_wp2
    go_ret2
    exact .inl ⟨by omega, rfl, h6.out⟩
end Go.Proofs.YtgdpljjmnmapmaaGreatDoor
