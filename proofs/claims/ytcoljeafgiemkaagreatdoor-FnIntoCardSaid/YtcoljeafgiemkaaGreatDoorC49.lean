/- Context.Rem of finite decimals. -/
import Derived.Test.YtcoljeafgiemkaaGreatDoorC47
namespace Go.Proofs.YtcoljeafgiemkaaGreatDoor
open Go Go.RowKit

/-- What Rem gives: what is left, rounded; or no number, where the quotient is too long. -/
def RemRes (w0 : World) (σ : Sg) (d : Nat) (n : Bool) (e : Int) (p m Q R : Nat) (E : Ending) (w' : World) : Prop :=
  (figs Q ≤ p ∧ CRes w0 σ d n e p m R E w') ∨ (p < figs Q ∧ E = .returned (.tuple #[.int .u32 ((512 : Nat) : Int), .nilIface]) ∧ Hold w0 w' (upd σ d (dec 3 false 0 false 0)))
set_option maxRecDepth 20000 in
set_option maxHeartbeats 4000000 in
theorem cRem_c {w0 w : World} {σ : Sg} (h : Hold w0 w σ) {d x y c p m : Nat} {ex ey f' e' a b : Int} {nx ny n' : Bool} {X Y N' A B : Nat} {e : Int} (hd : σ d = some (dec f' n' e' false N')) (hx : σ x = some (dec 0 nx ex false X)) (hy : σ y = some (dec 0 ny ey false Y)) (hc : σ c = some (ctxO p a b (modeS m)))
    (hp : 1 ≤ p ∧ p ≤ 1000) (ha : 50000 ≤ a ∧ a ≤ 2000000) (hb : -2000000 ≤ b ∧ b ≤ -50000) (hX : nbits X ≤ 2000) (hY : nbits Y ≤ 2000) (hm : m < 8) (hex : -1000 ≤ ex ∧ ex ≤ 1000) (hey : -1000 ≤ ey ∧ ey ≤ 1000) (hfar : ey - ex ≤ 400 ∧ ex - ey ≤ 400)
    (he : e = if ex ≤ ey then ex else ey) (hA : A = X * 10 ^ (ex - ey).toNat) (hB : B = Y * 10 ^ (ey - ex).toNat) (hAb : nbits A ≤ 1090) (hBb : nbits B ≤ 1090) (hY0 : Y ≠ 0) :
    Calls Tryz.prog 62 #[.pointer (some ⟨c, 0, none⟩), .pointer (some ⟨d, 0, none⟩), .pointer (some ⟨x, 0, none⟩), .pointer (some ⟨y, 0, none⟩)] w (RemRes w0 σ d nx e p m (A / B) (A % B)) := by
  have kn := shouldNaN_c w (.pointer (some ⟨c, 0, none⟩)) x y 0 0 (h.c0 hx) (h.c0 hy) (by omega) (by omega)
  rw [show decide ((2 : Int) ≤ 0 ∨ (2 : Int) ≤ 0) = false from rfl] at kn
  have kz := isZeroH_c h hy
  rw [decide_eq_false hY0] at kz
  have x0 := h.c0 hx
  have y0 := h.c0 hy
  have hcd : c ≠ d := by rintro rfl; rw [hc] at hd; cases hd
  have hX40 : (digs X).length < 40 := Nat.lt_of_le_of_lt (bits_w (k := 32) (by omega)) (by omega)
  have hY40 : (digs Y).length < 40 := Nat.lt_of_le_of_lt (bits_w (k := 32) (by omega)) (by omega)
  have hAw : (digs A).length ≤ 250 := Nat.le_trans (bits_w (k := 18) (by omega)) (by omega)
  have hBw : (digs B).length < 40 := Nat.lt_of_le_of_lt (bits_w (k := 18) (by omega)) (by omega)
  have hB0 : B ≠ 0 := by rw [hB]; have := Nat.mul_pos (show 0 < Y by omega) (ten_pos (ey - ex).toNat); omega
  have hQb : nbits (A / B) < 1200 := Nat.lt_of_le_of_lt (nbits_mono (Nat.div_le_self _ _)) (by omega)
  have hRb : nbits (A % B) < 1100 := Nat.lt_of_le_of_lt (nbits_mono (Nat.mod_le _ _)) (by omega)
  have hT := h.fresh (Nat.le_refl w.heap.size)
  have h1 := h.newBig
  obtain ⟨T, hTe⟩ : ∃ T, w.heap.size = T := ⟨_, rfl⟩
  rw [hTe] at hT
  rw [hTe] at h1
  have hTx : x ≠ T := by rintro rfl; rw [hT] at hx; cases hx
  have hTy : y ≠ T := by rintro rfl; rw [hT] at hy; cases hy
  have ku := upscale_c h1 (by rw [upd_ne _ _ hTx]; exact hx) (by rw [upd_ne _ _ hTy]; exact hy) (upd_eq _ _ _) (by omega) (by omega) hfar hX40 hY40
  have hle : Le σ (upd σ T (big false 0)) := Le.skip hT (Le.refl _)
  have hle2 : ∀ N, Le σ (upd (upd σ T (big false 0)) T (big false N)) := fun N => by rw [upd_upd]; exact Le.skip hT (Le.refl _)
  have eb : -1000 ≤ e ∧ e ≤ 1000 := by rw [he]; split <;> omega
  have hx1 := fun w' R (h' : Hold w0 w' (upd σ d (dec 0 n' e false R))) => Hold.c1of hd hx h'
  have hrc := rndC_calm (A % B) p
  obtain ⟨Q, hQe⟩ : ∃ Q, A / B = Q := ⟨_, rfl⟩
  obtain ⟨R, hRe⟩ : ∃ R, A % B = R := ⟨_, rfl⟩
  unfold RemRes CRes
  rw [hQe] at hQb ⊢
  rw [hRe] at hRb hrc ⊢
  obtain ⟨r, hre⟩ : ∃ r, rndC R p = r := ⟨_, rfl⟩
  rw [hre] at hrc ⊢
  replace hQe := Lib.hid hQe
  replace hRe := Lib.hid hRe
  replace hre := Lib.hid hre
  replace hrc := Lib.hid hrc
  replace hTe := Lib.hid hTe
  replace kn := Lib.hid kn
  replace kz := Lib.hid kz
  replace ku := Lib.hid ku
  replace hle := Lib.hid hle
  replace hle2 := Lib.hid hle2
  replace hd := Lib.hid hd
  replace hc := Lib.hid hc
  replace he := Lib.hid he
  replace hA := Lib.hid hA
  replace hB := Lib.hid hB
  replace hx1 := Lib.hid hx1
  clear h h1 hx hy hT hY0
  go_enter Tryz.func62, Tryz.ntmps62
  go_wp2_with fail
  with_reducible refine kn.out.mono ?_
  rintro E w' ⟨rfl, hw⟩
  obtain rfl := hw
  go_wp2_with fail
  with_reducible refine kz.out.mono ?_
  rintro E w' ⟨rfl, hw⟩
  obtain rfl := hw
  go_wp2_with fail
  rw [hTe.out]
  with_reducible refine ku.out.mono ?_
  rintro E w3 ⟨σ', ba, oa, bb, ob, rfl, h3, na, nb, hba, hbb, hσ⟩
  rw [← he.out]
  rw [← hA.out] at na
  rw [← hB.out] at nb
  have hle3 : Le σ σ' := by
    rcases hσ with rfl | ⟨N, rfl⟩
    · exact hle.out
    · exact hle2.out N
  have hd3 := hle3 _ _ hd.out
  have hc3 := hle3 _ _ hc.out
  have hT2 := h3.fresh (Nat.le_refl w3.heap.size)
  have h4 := h3.newBig
  obtain ⟨T2, hT2e⟩ : ∃ T2, w3.heap.size = T2 := ⟨_, rfl⟩
  rw [hT2e] at hT2 h4
  have hdT2 : d ≠ T2 := by rintro rfl; rw [hT2] at hd3; cases hd3
  have hcT2 : c ≠ T2 := by rintro rfl; rw [hT2] at hc3; cases hc3
  have hsT2 := Le.none hle3 hT2
  have hd4 : upd σ' T2 (big false Q) d = some (dec f' n' e' false N') := by rw [upd_ne _ _ hdT2]; exact hd3
  have kq := bigQuoRem_c h4 (bnum_big (upd_eq _ _ _)) (na.upd hT2) (nb.upd hT2) (bnum_dec (by rw [upd_ne _ _ hdT2]; exact hd3)) (Ne.symm hdT2) hB0 hAw hBw
  rw [hQe.out, hRe.out, put_big (upd_eq _ _ _), upd_upd, put_dec hd4] at kq
  have hTq : upd (upd σ' T2 (big false Q)) d (dec f' n' e' false R) T2 = some (big false Q) := by rw [upd_ne _ _ (Ne.symm hdT2), upd_eq]
  have hcq : ∀ it, upd (upd σ' T2 (big false Q)) d it c = some (ctxO p a b (modeS m)) := fun it => by rw [upd_ne _ _ hcd, upd_ne _ _ hcT2]; exact hc3
  have hleq : ∀ it, Le (upd σ d it) (upd (upd σ' T2 (big false Q)) d it) := fun it => Le.both (Le.skip hsT2 hle3)
  generalize upd σ' T2 (big false Q) = ρ at kq hTq hcq hleq
  have hfq : ((figs Q : Int) > (p : Int)) ↔ p < figs Q := by omega
  have ewp : IntKind.i64.wrap (p : Int) = (p : Int) := IntWalk.i64_in _ (by omega)
  replace kq := Lib.hid kq
  replace hTq := Lib.hid hTq
  replace hcq := Lib.hid hcq
  replace hleq := Lib.hid hleq
  replace hT2e := Lib.hid hT2e
  replace hfq := Lib.hid hfq
  clear h3 h4 na nb hba hbb hσ hle3 hd3 hc3 hT2 hsT2 hd4 ku kn kz hle hle2 x0 y0
  go_wp2_with fail
  rw [hT2e.out]
  with_reducible refine kq.out.mono ?_
  rintro E w4 ⟨rfl, h4⟩
  have kd := fun w' (hc : Chg w4 w' (fun _ => False)) => NumDigits_c (h4.keep hc) (bnum_big hTq.out) hQb
  have hS0 := ((h4.drew).ctx (hcq.out _)).c0
  have hf := Lib.hid (fun w' (hh : Hold w0 w' (upd ρ d (dec f' n' e' false R))) => (hh.ctx (hcq.out _)).c0)
  replace kd := Lib.hid kd
  clear h4 kq
  go_upto_region 22 with (fail)
  go_region_held3 (fun w' => w'.cell? ⟨c, 0, none⟩ = some (.int .u32 (p : Int))) (first | exact hS0 | exact hS1) (
    (go_at_call 102
     refine (kd.out _ (by exact ⟨rfl, rfl, rfl, Nat.le_refl _, fun _ _ _ => rfl⟩)).mono ?_
     rintro E w5 ⟨rfl, h5⟩
     have hS1 := hf.out _ h5
     replace h5 := Lib.hid h5))
  clear hS0 hS1 hf kd
  by_cases hq : p < figs Q
  · have hcmp : decide ((figs Q : Int) > (p : Int)) = true := by rw [decide_eq_true_iff]; exact hfq.out.2 hq
    have kn := decNaNH_c h5.out
    replace kn := Lib.hid kn
    go_wp2_with fail
    with_reducible refine kn.out.mono ?_
    rintro E w6 ⟨k, rfl, hk, h6⟩
    have hfk := h5.out.fresh hk
    have hdk : d ≠ k := by rintro rfl; rw [upd_eq] at hfk; cases hfk
    have ks := decSet_c h6 (d := d) (by rw [upd_ne _ _ hdk]; exact upd_eq _ _ _) (upd_eq _ _ _) (by rw [digs_zero]; simp)
    have hck : c ≠ k := by rintro rfl; have := hcq.out (dec f' n' e' false R); rw [hfk] at this; cases this
    have hc7 : upd (upd (upd ρ d (dec f' n' e' false R)) k (dec 3 false 0 false 0)) d (dec 3 false 0 false 0) c = some (ctxO p a b (modeS m)) := by rw [upd_ne _ _ hcd, upd_ne _ _ hck]; exact hcq.out _
    have hle7 : Le (upd σ d (dec 3 false 0 false 0)) (upd (upd (upd ρ d (dec f' n' e' false R)) k (dec 3 false 0 false 0)) d (dec 3 false 0 false 0)) := by
      have h1 := Le.skip (jt := dec 3 false 0 false 0) (Le.none (hleq.out (dec f' n' e' false R)) hfk) (hleq.out (dec f' n' e' false R))
      have h2 := Le.both (k := d) (jt := dec 3 false 0 false 0) h1
      rw [upd_upd] at h2
      exact h2
    have ke := fun w1 (h1 : Hold w0 w1 (upd (upd (upd ρ d (dec f' n' e' false R)) k (dec 3 false 0 false 0)) d (dec 3 false 0 false 0))) => (show Calls Tryz.prog 78 #[.pointer (some ⟨c, 0, none⟩), .int .u32 512] w1 _ from goError_c w1 c 512 p a b (modeS m) (h1.ctx hc7) (by omega) (by omega))
    replace ks := Lib.hid ks
    replace ke := Lib.hid ke
    replace hle7 := Lib.hid hle7
    clear h5 h6 hfk kn hc7 hk
    go_wp2_with fail
    with_reducible refine ks.out.mono ?_
    rintro E w7 ⟨rfl, h7⟩
    have ke := ke.out _ h7
    have h8 := h7.le hle7.out
    replace ke := Lib.hid ke
    replace h8 := Lib.hid h8
    clear h7
    go_wp2_with fail
    with_reducible refine ke.out.mono ?_
    rintro E w' ⟨rfl, hw⟩
    obtain rfl := hw
    go_wp2
    go_ret2
    exact .inr ⟨hq, rfl, h8.out⟩
  · have hcmp : decide ((figs Q : Int) > (p : Int)) = false := by rw [decide_eq_false_iff_not]; exact fun h => hq (hfq.out.1 h)
    have h6 := h5.out.le (hleq.out _)
    have hc6 : ∀ it, upd σ d it c = some (ctxO p a b (modeS m)) := fun it => by rw [upd_ne _ _ hcd]; exact hc.out
    have d0 := h6.c0 (upd_eq _ _ _)
    have d2 := h6.c2 (upd_eq _ _ _)
    have f0 := h6.fz (upd_eq _ _ _) 0
    have f2 := h6.fz (upd_eq _ _ _) 2
    have h7 := h6.setForm (upd_eq _ _ _) 0
    rw [upd_upd] at h7
    have h8 := h7.setExp (upd_eq _ _ _) e
    rw [upd_upd] at h8
    replace h8 := Lib.hid h8
    replace hc6 := Lib.hid hc6
    clear h5 h6 h7
    go_upto_region 27 with (fail)
    generalize (w5.setCell ⟨d, 0, none⟩ (.int .i8 0)).setCell ⟨d, 2, none⟩ (.int .i32 e) = W at h8 ⊢
    clear d0 d2 f0 f2
    have x1 := hx1.out _ _ h8.out
    have d1 := h8.out.c1 (upd_eq _ _ _)
    have f1 := h8.out.fz (upd_eq _ _ _) 1
    have h9 := h8.out.setSign (upd_eq _ _ _) nx
    rw [upd_upd] at h9
    have kr := round_c h9 (upd_eq _ _ _) (upd_eq _ _ _) (hc6.out _) hp ha hb hRb hm (by omega)
    simp only [upd_upd, hre.out] at kr
    have ke := fun w1 (h1 : Hold w0 w1 (upd σ d (dec 0 nx (e + (rndK nx R p m : Int)) false (rndN nx R p m)))) => errH_c h1 (hc6.out _) hrc.out
    have hor := or0 hrc.out
    replace kr := Lib.hid kr
    replace ke := Lib.hid ke
    clear h8 h9
    go_wp2_with fail
    with_reducible refine kr.out.mono ?_
    rintro E w6 ⟨rfl, h6⟩
    have ke := ke.out _ h6
    replace ke := Lib.hid ke
    replace h6 := Lib.hid h6
    go_wp2_with fail
    with_reducible refine ke.out.mono ?_
    rintro E w' ⟨rfl, hw⟩
    obtain rfl := hw
    go_wp2
    go_ret2
    exact .inl ⟨by omega, rfl, h6.out⟩
end Go.Proofs.YtcoljeafgiemkaaGreatDoor
