/- Context.QuoInteger of finite decimals, the divisor not 0. Context.Quo where the dividend is 0. -/
import Derived.Test.YtcoljeafgiemkaaGreatDoorC48
namespace Go.Proofs.YtcoljeafgiemkaaGreatDoor
open Go Go.RowKit

/-- What QuoInteger gives: the integer part of the quotient; or no number, where it is too long. -/
def QiRes (w0 : World) (σ : Sg) (d : Nat) (n : Bool) (p Q : Nat) (E : Ending) (w' : World) : Prop :=
  (figs Q ≤ p ∧ E = .returned (.tuple #[.int .u32 ((0 : Nat) : Int), .nilIface]) ∧ Hold w0 w' (upd σ d (dec 0 n 0 false Q))) ∨ (p < figs Q ∧ E = .returned (.tuple #[.int .u32 ((512 : Nat) : Int), .nilIface]) ∧ Hold w0 w' (upd σ d (dec 3 n 0 false 0)))
set_option maxRecDepth 20000 in
set_option maxHeartbeats 4000000 in
theorem cQuoInt_c {w0 w : World} {σ : Sg} (h : Hold w0 w σ) {d x y c p m : Nat} {ex ey f' e' a b : Int} {nx ny n' g' : Bool} {X Y N' A B Q : Nat} {nn : Bool} (hd : σ d = some (dec f' n' e' g' N')) (hx : σ x = some (dec 0 nx ex false X)) (hy : σ y = some (dec 0 ny ey false Y)) (hc : σ c = some (ctxO p a b (modeS m)))
    (hp : 1 ≤ p ∧ p ≤ 1000) (hX : nbits X ≤ 2000) (hY : nbits Y ≤ 2000) (hex : -1000 ≤ ex ∧ ex ≤ 1000) (hey : -1000 ≤ ey ∧ ey ≤ 1000) (hfar : ey - ex ≤ 400 ∧ ex - ey ≤ 400)
    (hA : A = X * 10 ^ (ex - ey).toNat) (hB : B = Y * 10 ^ (ey - ex).toNat) (hAb : nbits A ≤ 1090) (hBb : nbits B ≤ 1090) (hY0 : Y ≠ 0) (hQe : A / B = Q) (hnn : (nx != ny) = nn) :
    Calls Tryz.prog 61 #[.pointer (some ⟨c, 0, none⟩), .pointer (some ⟨d, 0, none⟩), .pointer (some ⟨x, 0, none⟩), .pointer (some ⟨y, 0, none⟩)] w (QiRes w0 σ d nn p Q) := by
  have ks := quoSp_c h (d := d) hx hy hc hp.1 hY0 false
  have x1 := h.c1 hx
  have y1 := h.c1 hy
  have hcd : c ≠ d := by rintro rfl; rw [hc] at hd; cases hd
  have hX40 : (digs X).length < 40 := Nat.lt_of_le_of_lt (bits_w (k := 32) (by omega)) (by omega)
  have hY40 : (digs Y).length < 40 := Nat.lt_of_le_of_lt (bits_w (k := 32) (by omega)) (by omega)
  have hAw : (digs A).length ≤ 250 := Nat.le_trans (bits_w (k := 18) (by omega)) (by omega)
  have hBw : (digs B).length < 40 := Nat.lt_of_le_of_lt (bits_w (k := 18) (by omega)) (by omega)
  have hB0 : B ≠ 0 := by rw [hB]; have := Nat.mul_pos (show 0 < Y by omega) (ten_pos (ey - ex).toNat); omega
  have hQb : nbits Q < 1200 := by rw [← hQe]; exact Nat.lt_of_le_of_lt (nbits_mono (Nat.div_le_self _ _)) (by omega)
  have hT := h.fresh (Nat.le_refl w.heap.size)
  have h1 : ∀ n, Hold w0 ((w.drewN n).alloc (.cells #[.bool false, .slice none 0 0, .bool false] 73 (0, 0))) (upd σ w.heap.size (big false 0)) := fun n => (h.drewN n).newBig
  obtain ⟨T, hTe⟩ : ∃ T, w.heap.size = T := ⟨_, rfl⟩
  rw [hTe] at hT
  simp only [hTe] at h1
  have hTx : x ≠ T := by rintro rfl; rw [hT] at hx; cases hx
  have hTy : y ≠ T := by rintro rfl; rw [hT] at hy; cases hy
  have ku := fun n => upscale_c (h1 n) (by rw [upd_ne _ _ hTx]; exact hx) (by rw [upd_ne _ _ hTy]; exact hy) (upd_eq _ _ _) (by omega) (by omega) hfar hX40 hY40
  have hle : Le σ (upd σ T (big false 0)) := Le.skip hT (Le.refl _)
  have hle2 : ∀ N, Le σ (upd (upd σ T (big false 0)) T (big false N)) := fun N => by rw [upd_upd]; exact Le.skip hT (Le.refl _)
  have ewp : IntKind.i64.wrap (p : Int) = (p : Int) := IntWalk.i64_in _ (by omega)
  have hn2 : (!(nx == ny)) = nn := hnn
  unfold QiRes
  replace hTe := Lib.hid hTe
  replace ks := Lib.hid ks
  replace ku := Lib.hid ku
  replace hle := Lib.hid hle
  replace hle2 := Lib.hid hle2
  replace hd := Lib.hid hd
  replace hc := Lib.hid hc
  replace hA := Lib.hid hA
  replace hB := Lib.hid hB
  replace hQe := Lib.hid hQe
  clear h h1 hx hy hT hY0 hnn
  go_enter Tryz.func61, Tryz.ntmps61
  go_wp2_with fail
  with_reducible refine ks.out.mono ?_
  rintro E1 w' ⟨rfl, n0, hw⟩
  obtain rfl := hw
  go_upto_region 4 with (fail)
  go_quiet (fail)
  go_wp2_with fail
  try simp only [drewN_drewN]
  rw [hTe.out]
  with_reducible refine (ku.out _).mono ?_
  rintro E w3 ⟨σ', ba, oa, bb, ob, rfl, h3, na, nb, hba, hbb, hσ⟩
  generalize (if ex ≤ ey then ex else ey) = eg
  rw [← hA.out] at na
  rw [← hB.out] at nb
  have hle3 : Le σ σ' := by
    rcases hσ with rfl | ⟨N, rfl⟩
    · exact hle.out
    · exact hle2.out N
  have hd3 := hle3 _ _ hd.out
  have kq := bigQuo_c h3 (bnum_dec hd3) na nb hB0 hAw hBw
  rw [put_dec hd3, hQe.out] at kq
  have hcq : ∀ it, upd σ d it c = some (ctxO p a b (modeS m)) := fun it => by rw [upd_ne _ _ hcd]; exact hc.out
  have hleq : ∀ it, Le (upd σ d it) (upd σ' d it) := fun it => Le.both hle3
  replace kq := Lib.hid kq
  replace hcq := Lib.hid hcq
  replace hleq := Lib.hid hleq
  clear h3 na nb hba hbb hσ hle3 hd3 ku ks hle hle2 x1 y1
  go_wp2_with fail
  with_reducible refine kq.out.mono ?_
  rintro E w4 ⟨rfl, h4'⟩
  have h4 := h4'.le (hleq.out _)
  have d0 := h4.c0 (upd_eq _ _ _)
  have f0 := h4.fz (upd_eq _ _ _) 0
  have h5 := h4.setForm (upd_eq _ _ _) 0
  rw [upd_upd] at h5
  clear h4 h4' kq hleq
  go_upto_region 12 with (fail)
  generalize w4.setCell ⟨d, 0, none⟩ (.int .i8 0) = W at h5 ⊢
  clear d0 f0
  have kd := fun w' (hch : Chg W w' (fun _ => False)) => decDigits_c (h5.keep hch) (upd_eq _ _ _) hQb
  have hS0 := ((h5.drew).ctx (hcq.out _)).c0
  have hf := Lib.hid (fun w' (hh : Hold w0 w' (upd σ d (dec 0 n' e' false Q))) => (hh.ctx (hcq.out _)).c0)
  replace kd := Lib.hid kd
  replace h5 := Lib.hid h5
  go_region_held3 (fun w' => w'.cell? ⟨c, 0, none⟩ = some (.int .u32 (p : Int))) (first | exact hS0 | exact hS1) (
    (go_at_call 80
     refine (kd.out _ (by exact ⟨rfl, rfl, rfl, Nat.le_refl _, fun _ _ _ => rfl⟩)).mono ?_
     rintro E w5 ⟨rfl, h6⟩
     have hS1 := hf.out _ h6
     replace h6 := Lib.hid h6))
  clear hS0 hS1 hf kd h5
  by_cases hq : p < figs Q
  · have hcmp : decide ((figs Q : Int) > (p : Int)) = true := decide_eq_true (by omega)
    have kn := decNaNH_c h6.out
    replace kn := Lib.hid kn
    go_wp2_with fail
    with_reducible refine kn.out.mono ?_
    rintro E w6 ⟨k, rfl, hk, h7⟩
    have hfk := h6.out.fresh hk
    have hdk : d ≠ k := by rintro rfl; rw [upd_eq] at hfk; cases hfk
    have kS := decSet_c h7 (d := d) (by rw [upd_ne _ _ hdk]; exact upd_eq _ _ _) (upd_eq _ _ _) (by rw [digs_zero]; simp)
    have hsk : σ k = none := by rw [upd_ne _ _ (Ne.symm hdk)] at hfk; exact hfk
    have hle7 : Le (upd σ d (dec 3 false 0 false 0)) (upd (upd (upd σ d (dec 0 n' e' false Q)) k (dec 3 false 0 false 0)) d (dec 3 false 0 false 0)) := by
      rw [upd_swap σ _ _ hdk, upd_upd]
      exact Le.both (Le.skip hsk (Le.refl _))
    replace kS := Lib.hid kS
    replace hle7 := Lib.hid hle7
    clear h7 hfk kn hk hsk
    go_wp2_with fail
    with_reducible refine kS.out.mono ?_
    rintro E w7 ⟨rfl, h7'⟩
    have h7 := h7'.le hle7.out
    have d1 := h7.c1 (upd_eq _ _ _)
    have d2 := h7.c2 (upd_eq _ _ _)
    have f1 := h7.fz (upd_eq _ _ _) 1
    have f2 := h7.fz (upd_eq _ _ _) 2
    have h8 := h7.setExp (upd_eq _ _ _) 0
    rw [upd_upd] at h8
    have h9 := h8.setSign (upd_eq _ _ _) nn
    rw [upd_upd] at h9
    have ke := fun w1 (h1 : Hold w0 w1 (upd σ d (dec 3 nn 0 false 0))) => (show Calls Tryz.prog 78 #[.pointer (some ⟨c, 0, none⟩), .int .u32 512] w1 _ from goError_c w1 c 512 p a b (modeS m) (h1.ctx (hcq.out _)) (by omega) (by omega))
    have hor : bits .or .u32 0 512 = 512 := by kernel_rfl
    have ke := ke _ h9
    replace h9 := Lib.hid h9
    replace ke := Lib.hid ke
    clear h7 h7' h8
    go_wp2_with fail
    with_reducible refine ke.out.mono ?_
    rintro E w' ⟨rfl, hw⟩
    obtain rfl := hw
    go_wp2
    go_ret2
    exact .inr ⟨hq, rfl, h9.out⟩
  · have hcmp : decide ((figs Q : Int) > (p : Int)) = false := decide_eq_false (by omega)
    have h7 := h6.out
    have d1 := h7.c1 (upd_eq _ _ _)
    have d2 := h7.c2 (upd_eq _ _ _)
    have f1 := h7.fz (upd_eq _ _ _) 1
    have f2 := h7.fz (upd_eq _ _ _) 2
    have h8 := h7.setExp (upd_eq _ _ _) 0
    rw [upd_upd] at h8
    have h9 := h8.setSign (upd_eq _ _ _) nn
    rw [upd_upd] at h9
    have ke := errH_c h9 (hcq.out _) (r := 0) (.inl rfl)
    replace h9 := Lib.hid h9
    replace ke := Lib.hid ke
    clear h7 h8
    go_wp2_with fail
    refine ke.out.mono ?_
    rintro E w' ⟨rfl, hw⟩
    obtain rfl := hw
    go_wp2
    go_ret2
    exact .inl ⟨by omega, rfl, h9.out⟩
end Go.Proofs.YtcoljeafgiemkaaGreatDoor

namespace Go.Proofs.YtcoljeafgiemkaaGreatDoor
open Go Go.RowKit

set_option maxRecDepth 20000 in
set_option maxHeartbeats 4000000 in
theorem cQuo0_c {w0 w : World} {σ : Sg} (h : Hold w0 w σ) {d x y c p : Nat} {ex ey f' e' a b : Int} {nx ny n' g' : Bool} {Y N' : Nat} {M : ByteArray} (hd : σ d = some (dec f' n' e' g' N')) (hx : σ x = some (dec 0 nx ex false 0)) (hy : σ y = some (dec 0 ny ey false Y)) (hc : σ c = some (ctxO p a b M))
    (hp : 1 ≤ p) (ha : 50000 ≤ a ∧ a ≤ 2000000) (hb : -2000000 ≤ b ∧ b ≤ -50000) (hY0 : Y ≠ 0) (hex : -1000 ≤ ex ∧ ex ≤ 1000) (hey : -1000 ≤ ey ∧ ey ≤ 1000) {nn : Bool} (hnn : (nx != ny) = nn) :
    Calls Tryz.prog 60 #[.pointer (some ⟨c, 0, none⟩), .pointer (some ⟨d, 0, none⟩), .pointer (some ⟨x, 0, none⟩), .pointer (some ⟨y, 0, none⟩)] w fun E1 w' => E1 = .returned (.tuple #[.int .u32 0, .nilIface]) ∧ Hold w0 w' (upd σ d (dec 0 nn (ex - ey) false 0)) := by
  have ks := quoSp_c h (d := d) hx hy hc hp hY0 true
  have kz := fun n => isZeroH_c (h.drewN n) hx
  rw [decide_eq_true (rfl : (0 : Nat) = 0)] at kz
  have x1 := h.c1 hx
  have y1 := h.c1 hy
  have x2 := h.c2 hx
  have y2 := h.c2 hy
  have hcd : c ≠ d := by rintro rfl; rw [hc] at hd; cases hd
  have w1 : IntKind.i32.wrap (ex - ey) = ex - ey := IntWalk.i32_in _ (by omega)
  have w2 : IntKind.i64.wrap (ex - ey) = ex - ey := IntWalk.i64_in _ (by omega)
  have kZ := fun n => decZero_c (h.drewN n)
  have hfr := fun n j (hj : (w.drewN n).heap.size ≤ j) => (h.drewN n).fresh hj
  replace ks := Lib.hid ks
  replace kz := Lib.hid kz
  replace kZ := Lib.hid kZ
  replace hfr := Lib.hid hfr
  replace hd := Lib.hid hd
  replace hc := Lib.hid hc
  have hn2 : (!(nx == ny)) = nn := hnn
  clear h hx hy hnn
  go_enter Tryz.func60, Tryz.ntmps60
  go_wp2_with fail
  with_reducible refine ks.out.mono ?_
  rintro E1 w' ⟨rfl, n0, hw⟩
  obtain rfl := hw
  go_upto_region 4 with (fail)
  go_quiet (fail)
  go_upto_region 5 with (fail)
  go_quiet (fail)
  go_wp2_with fail
  try simp only [drewN_drewN]
  with_reducible refine (kz.out _).mono ?_
  rintro E1 w' ⟨rfl, hw⟩
  obtain rfl := hw
  go_wp2_with fail
  with_reducible refine (kZ.out _).mono ?_
  rintro E1 w3 ⟨k, rfl, hk, h3⟩
  have hfk := hfr.out _ k hk
  have hdk : d ≠ k := by rintro rfl; have := hd.out; rw [hfk] at this; cases this
  have hck : c ≠ k := by rintro rfl; have := hc.out; rw [hfk] at this; cases this
  have kS := decSet_c h3 (d := d) (by rw [upd_ne _ _ hdk]; exact hd.out) (upd_eq _ _ _) (by rw [digs_zero]; simp)
  have hle : ∀ it jt, Le (upd σ d it) (upd (upd σ k jt) d it) := fun it jt => Le.both (Le.skip hfk (Le.refl _))
  have hc7 : ∀ it, upd σ d it c = some (ctxO p a b M) := fun it => by rw [upd_ne _ _ hcd]; exact hc.out
  replace kS := Lib.hid kS
  replace hle := Lib.hid hle
  replace hc7 := Lib.hid hc7
  clear h3 hfk hfr kZ hk
  go_wp2_with fail
  with_reducible refine kS.out.mono ?_
  rintro E1 w4 ⟨rfl, h4'⟩
  have h4 := h4'.le (hle.out _ _)
  have d1 := h4.c1 (upd_eq _ _ _)
  have f1 := h4.fz (upd_eq _ _ _) 1
  have h5 := h4.setSign (upd_eq _ _ _) nn
  rw [upd_upd] at h5
  replace h5 := Lib.hid h5
  clear h4 h4'
  go_upto_region 10 with (fail)
  generalize w4.setCell ⟨d, 1, none⟩ (.bool nn) = W at h5 ⊢
  clear d1 f1
  have hal := h5.out.keep ((Chg.refl W _).alloc (.cells #[.int .i64 (ex - ey)] 2 (0, 0)))
  have ke1 := setExp_c (s := W.heap.size) (l := 1) (cap := 1) (nd := -1) (r := 0) hal (fun _ => ex - ey) (upd_eq _ _ _) (hc7.out _) (by decide +kernel) (.inl rfl) (.inl rfl) (by omega) (fun k _ => by omega) (fun k hk => by
    obtain rfl : k = 0 := by omega
    exact cellB (allocB W _) rfl) ha hb (by omega)
  rw [show sumN (fun _ => ex - ey) 1 = ex - ey by simp [sumN], upd_upd] at ke1
  have ke := fun w1 (h1 : Hold w0 w1 (upd σ d (dec 0 nn (ex - ey) false 0))) => errH_c h1 (hc7.out _) (r := 0) (.inl rfl)
  replace ke1 := Lib.hid ke1
  replace ke := Lib.hid ke
  clear hal
  go_wp2_with fail
  refine ke1.out.mono ?_
  rintro E1 w6 ⟨rfl, h6⟩
  have ke := ke.out _ h6
  have hor : bits .or .u32 0 0 = 0 := by kernel_rfl
  replace ke := Lib.hid ke
  replace h6 := Lib.hid h6
  go_wp2_with fail
  refine ke.out.mono ?_
  rintro E1 w' ⟨rfl, hw⟩
  obtain rfl := hw
  go_wp2
  go_ret2
  exact ⟨rfl, h6.out⟩
end Go.Proofs.YtcoljeafgiemkaaGreatDoor
