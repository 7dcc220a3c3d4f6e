/- Context.add where signs differ; Add, Sub. What impl.made makes, as held memory. MathBigInt, Bits. -/
import Derived.Test.YtlnillnngckegaaGreatDoorM17
import Derived.Test.YtlnillnngckegaaGreatDoorM35
namespace Go.Proofs.YtlnillnngckegaaGreatDoor
open Go Go.RowKit

set_option maxRecDepth 20000 in
set_option maxHeartbeats 4000000 in
theorem add_diff {w0 w : World} {σ : Sg} (h : Hold w0 w σ) {d x y c p m : Nat} {ex ey f' e' a b : Int} {nx ny sub n' g' : Bool} {X Y N' A B : Nat} {e : Int} (hd : σ d = some (dec f' n' e' g' N')) (hx : σ x = some (dec 0 nx ex false X)) (hy : σ y = some (dec 0 ny ey false Y)) (hxy : x ≠ y) (hdx : d ≠ x) (hdy : d ≠ y) (hc : σ c = some (ctxO p a b (modeS m)))
    (hp : 1 ≤ p ∧ p ≤ 1000) (ha : 50000 ≤ a ∧ a ≤ 2000000) (hb : -2000000 ≤ b ∧ b ≤ -50000) (hX : nbits X ≤ 2000) (hY : nbits Y ≤ 2000) (hm : m < 8) (hex : -1000 ≤ ex ∧ ex ≤ 1000) (hey : -1000 ≤ ey ∧ ey ≤ 1000) (hfar : ey - ex ≤ 400 ∧ ex - ey ≤ 400)
    (he : e = if ex ≤ ey then ex else ey) (hA : A = X * 10 ^ (ex - ey).toNat) (hB : B = Y * 10 ^ (ey - ex).toNat) (hAb : nbits A ≤ 1090) (hBb : nbits B ≤ 1090) (hal : (nx == (ny != sub)) = false) :
    Calls Tryz.prog 63 #[.pointer (some ⟨c, 0, none⟩), .pointer (some ⟨d, 0, none⟩), .pointer (some ⟨x, 0, none⟩), .pointer (some ⟨y, 0, none⟩), .bool sub] w (CRes w0 σ d (addS nx (ny != sub) A B (decide (m = 4))) e p m (addN nx (ny != sub) A B)) := by
  have kn := shouldNaN_c w (.pointer (some ⟨c, 0, none⟩)) x y 0 0 (h.c0 hx) (h.c0 hy) (by omega) (by omega)
  rw [show decide ((2 : Int) ≤ 0 ∨ (2 : Int) ≤ 0) = false from rfl] at kn
  have x0 := h.c0 hx
  have y0 := h.c0 hy
  have x1 := h.c1 hx
  have y1 := h.c1 hy
  have hcd : c ≠ d := by rintro rfl; rw [hc] at hd; cases hd
  have hX40 : (digs X).length < 40 := Nat.lt_of_le_of_lt (bits_w (k := 32) (by omega)) (by omega)
  have hY40 : (digs Y).length < 40 := Nat.lt_of_le_of_lt (bits_w (k := 32) (by omega)) (by omega)
  have hAw : (digs A).length ≤ 900 := Nat.le_trans (bits_w (k := 18) (by omega)) (by omega)
  have hBw : (digs B).length ≤ 900 := Nat.le_trans (bits_w (k := 18) (by omega)) (by omega)
  obtain ⟨t, ht⟩ : ∃ t, (ny != sub) = t := ⟨_, rfl⟩
  rw [ht] at hal ⊢
  have ht2 : (!(ny == sub)) = t := ht
  clear ht
  have hfr := fun j (hj : w.heap.size ≤ j) => h.fresh hj
  have hT := hfr _ (Nat.le_refl _)
  have h1 : ∀ n, Hold w0 ((w.drewN n).alloc (.cells #[.bool false, .slice none 0 0, .bool false] 54 (0, 0))) (upd σ w.heap.size (big false 0)) := fun n => (h.drewN n).newBig
  obtain ⟨T, hTe⟩ : ∃ T, w.heap.size = T := ⟨_, rfl⟩
  rw [hTe] at hT
  simp only [hTe] at h1
  have hTx : x ≠ T := by rintro rfl; rw [hT] at hx; cases hx
  have hTy : y ≠ T := by rintro rfl; rw [hT] at hy; cases hy
  have hdT : d ≠ T := by rintro rfl; rw [hT] at hd; cases hd
  have ku := fun n => upscale_c (h1 n) (by rw [upd_ne _ _ hTx]; exact hx) (by rw [upd_ne _ _ hTy]; exact hy) (upd_eq _ _ _) hxy (by omega) (by omega) hfar hX40 hY40
  have hle : Le σ (upd σ T (big false 0)) := Le.skip hT (Le.refl _)
  have hle2 : ∀ N, Le σ (upd (upd σ T (big false 0)) T (big false N)) := fun N => by rw [upd_upd]; exact Le.skip hT (Le.refl _)
  unfold CRes
  replace hTe := Lib.hid hTe
  replace kn := Lib.hid kn
  replace ku := Lib.hid ku
  replace hle := Lib.hid hle
  replace hle2 := Lib.hid hle2
  replace hd := Lib.hid hd
  replace hc := Lib.hid hc
  replace he := Lib.hid he
  replace hA := Lib.hid hA
  replace hB := Lib.hid hB
  clear h h1 hx hy hfr hT
  go_enter Tryz.func63, Tryz.ntmps63
  go_wp2_with fail
  with_reducible refine kn.out.mono ?_
  rintro E w' ⟨rfl, hw⟩
  obtain rfl := hw
  go_upto_region 5 with (fail)
  go_quiet (fail)
  go_upto_region 16 with (fail)
  go_wp2_with fail
  rw [hTe.out]
  with_reducible refine (ku.out _).mono ?_
  rintro E w3 ⟨σ', ba, oa, bb, ob, rfl, h3, na, nb, hba, hbb, hσ⟩
  rw [← he.out]
  rw [← hA.out] at na
  rw [← hB.out] at nb
  have hle3 : Le σ σ' := by
    rcases hσ with rfl | ⟨N, rfl⟩
    · exact hle.out
    · exact hle2.out N
  have hneA : ba ≠ d := by
    rcases hba with rfl | rfl
    · exact Ne.symm hdx
    · exact Ne.symm hdT
  have hneB : bb ≠ d := by
    rcases hbb with rfl | rfl
    · exact Ne.symm hdy
    · exact Ne.symm hdT
  have hd3 := hle3 _ _ hd.out
  have hc3 := hle3 _ _ hc.out
  have d1 := h3.c1 hd3
  have f1 := h3.fz hd3 1
  have h4 := h3.setSign hd3 nx
  have na4 := na.upd_ne (it := dec f' nx e' g' N') hneA
  have nb4 := nb.upd_ne (it := dec f' nx e' g' N') hneB
  have eb : -1000 ≤ e ∧ e ≤ 1000 := by rw [he.out]; split <;> omega
  clear x0 y0 x1 y1 kn ku hle hle2 hba hbb hσ h3 na nb hneA hneB
  replace hle3 := Lib.hid hle3
  replace hc3 := Lib.hid hc3
  replace hd3 := Lib.hid hd3
  have hst : ¬ nx = t := by simpa using hal
  have hMbA : nbits (A - B) < 1100 := Nat.lt_of_le_of_lt (nbits_mono (Nat.sub_le _ _)) (by omega)
  have hMbB : nbits (B - A) < 1100 := Nat.lt_of_le_of_lt (nbits_mono (Nat.sub_le _ _)) (by omega)
  have hBA : (digs (B - A)).length ≤ 1000 := Nat.le_trans (digs_len_mono (Nat.sub_le _ _)) (by omega)
  obtain ⟨fl, hfl⟩ : ∃ fl, decide (m = 4) = fl := ⟨_, rfl⟩
  have hfl2 := floorS hm
  rw [hfl] at hfl2
  replace hfl := Lib.hid hfl
  rcases Nat.lt_trichotomy A B with hlt | heq | hgt
  · have hN : addN nx t A B = B - A := by unfold addN; rw [if_neg hst, if_neg (by omega)]
    have hS : addS nx t A B (decide (m = 4)) = !nx := by unfold addS; rw [if_neg hst, if_neg (by omega), if_neg (by omega)]
    have ka := bigSub_lt h4 (bnum_dec (upd_eq _ _ _)) na4 nb4 hBw hlt
    rw [put_dec (upd_eq _ _ _), upd_upd] at ka
    have hs1 : sgN true (B - A) = -1 := by unfold sgN; rw [if_neg (by omega)]; rfl
    replace ka := Lib.hid ka
    replace hN := Lib.hid hN
    replace hS := Lib.hid hS
    replace hs1 := Lib.hid hs1
    clear h4 na4 nb4 hst hfl2
    go_wp2_with fail
    with_reducible refine ka.out.mono ?_
    rintro E w4 ⟨rfl, h4⟩
    have ksg := bigSignH_c h4 (bnum_dec (upd_eq _ _ _))
    rw [hs1.out] at ksg
    have d4 := h4.c1 (upd_eq _ _ _)
    have f4 := h4.fz (upd_eq _ _ _) 1
    have h44 := h4.setSign (upd_eq _ _ _) (!nx)
    rw [upd_upd] at h44
    have hdd := upd_eq σ' d (dec f' (!nx) e' true (B - A))
    have kb := fun w2 (hc : Chg (w4.setCell ⟨d, 1, none⟩ (.bool (!nx))) w2 (fun _ => False)) => bigNeg_c (h44.keep hc) (bnum_dec hdd) (bnum_dec hdd) hBA (by omega)
    rw [put_dec hdd, upd_upd, show (!true) = false from rfl] at kb
    replace ksg := Lib.hid ksg
    replace kb := Lib.hid kb
    clear h4 h44 hdd
    go_wp2_with fail
    with_reducible refine ksg.out.mono ?_
    rintro E w' ⟨rfl, hw⟩
    obtain rfl := hw
    go_upto_region 26 with (fail)
    go_still_tail 6, (by kernel_rfl)
    change wpList _ _ _ _ _ (World.drew _)
    go_wp2_with fail
    with_reducible refine (kb.out _ (by exact ⟨rfl, rfl, rfl, Nat.le_refl _, fun _ _ _ => rfl⟩)).mono ?_
    rintro E w5 ⟨rfl, h5⟩
    clear d4 f4
    have t2 := h5.c2 (upd_eq _ _ _)
    have u2 := h5.fz (upd_eq _ _ _) 2
    have t0 := h5.c0 (upd_eq _ _ _)
    have u0 := h5.fz (upd_eq _ _ _) 0
    have h6 := h5.setExp (upd_eq _ _ _) e
    rw [upd_upd] at h6
    have h7 := h6.setForm (upd_eq _ _ _) 0
    rw [upd_upd] at h7
    have hc7 : ∀ it, upd σ' d it c = some (ctxO p a b (modeS m)) := fun it => by rw [upd_ne _ _ hcd]; exact hc3.out
    have kr := round_c h7 (upd_eq _ _ _) (upd_eq _ _ _) (hc7 _) hp ha hb hMbB hm (by omega)
    rw [upd_upd] at kr
    have hrc := rndC_calm (B - A) p
    have ke := fun w1 (h1 : Hold w0 w1 (upd σ' d (dec 0 (!nx) (e + (rndK (!nx) (B - A) p m : Int)) false (rndN (!nx) (B - A) p m)))) => errH_c h1 (hc7 _) hrc
    obtain ⟨r, hr⟩ : ∃ r, rndC (B - A) p = r := ⟨_, rfl⟩
    rw [hr] at kr
    simp only [hr] at ke
    replace hr := Lib.hid hr
    replace kr := Lib.hid kr
    replace ke := Lib.hid ke
    clear h5 h6 h7 hc7 hrc
    go_wp2_with fail
    with_reducible refine kr.out.mono ?_
    rintro E w6 ⟨rfl, h8⟩
    have ke := ke.out _ h8
    replace ke := Lib.hid ke
    have hend := h8.le (Le.both (k := d) (jt := dec 0 (!nx) (e + (rndK (!nx) (B - A) p m : Int)) false (rndN (!nx) (B - A) p m)) hle3.out)
    replace hend := Lib.hid hend
    clear h8
    go_wp2_with fail
    with_reducible refine ke.out.mono ?_
    rintro E w' ⟨rfl, hw⟩
    obtain rfl := hw
    go_wp2
    go_ret2
    rw [hS.out, hN.out, hr.out]
    exact ⟨rfl, hend.out⟩
  · have hN : addN nx t A B = A - B := by unfold addN; rw [if_neg hst, if_pos (by omega)]
    have hS : addS nx t A B (decide (m = 4)) = fl := by unfold addS; rw [if_neg hst, if_pos heq]; exact hfl.out
    have ka := bigSub_ge h4 (bnum_dec (upd_eq _ _ _)) na4 nb4 hAw (by omega)
    rw [put_dec (upd_eq _ _ _), upd_upd] at ka
    have hs1 : sgN false (A - B) = 0 := by unfold sgN; rw [if_pos (by omega)]
    replace ka := Lib.hid ka
    replace hN := Lib.hid hN
    replace hS := Lib.hid hS
    replace hs1 := Lib.hid hs1
    clear h4 na4 nb4 hst
    go_wp2_with fail
    with_reducible refine ka.out.mono ?_
    rintro E w4 ⟨rfl, h4⟩
    have ksg := bigSignH_c h4 (bnum_dec (upd_eq _ _ _))
    rw [hs1.out] at ksg
    have d4 := h4.c1 (upd_eq _ _ _)
    have f4 := h4.fz (upd_eq _ _ _) 1
    have c4 := (h4.ctx (by rw [upd_ne _ _ hcd]; exact hc3.out)).c4
    have h5 := h4.setSign (upd_eq _ _ _) fl
    rw [upd_upd] at h5
    replace ksg := Lib.hid ksg
    clear h4
    go_wp2_with fail
    with_reducible refine ksg.out.mono ?_
    rintro E w' ⟨rfl, hw⟩
    obtain rfl := hw
    go_upto_region 29 with (fail)
    generalize w4.setCell ⟨d, 1, none⟩ (.bool fl) = w5 at h5 ⊢
    clear d4 f4 c4 hfl2
    have t2 := h5.c2 (upd_eq _ _ _)
    have u2 := h5.fz (upd_eq _ _ _) 2
    have t0 := h5.c0 (upd_eq _ _ _)
    have u0 := h5.fz (upd_eq _ _ _) 0
    have h6 := h5.setExp (upd_eq _ _ _) e
    rw [upd_upd] at h6
    have h7 := h6.setForm (upd_eq _ _ _) 0
    rw [upd_upd] at h7
    have hc7 : ∀ it, upd σ' d it c = some (ctxO p a b (modeS m)) := fun it => by rw [upd_ne _ _ hcd]; exact hc3.out
    have kr := round_c h7 (upd_eq _ _ _) (upd_eq _ _ _) (hc7 _) hp ha hb hMbA hm (by omega)
    rw [upd_upd] at kr
    have hrc := rndC_calm (A - B) p
    have ke := fun w1 (h1 : Hold w0 w1 (upd σ' d (dec 0 (fl) (e + (rndK (fl) (A - B) p m : Int)) false (rndN (fl) (A - B) p m)))) => errH_c h1 (hc7 _) hrc
    obtain ⟨r, hr⟩ : ∃ r, rndC (A - B) p = r := ⟨_, rfl⟩
    rw [hr] at kr
    simp only [hr] at ke
    replace hr := Lib.hid hr
    replace kr := Lib.hid kr
    replace ke := Lib.hid ke
    clear h5 h6 h7 hc7 hrc
    go_wp2_with fail
    with_reducible refine kr.out.mono ?_
    rintro E w6 ⟨rfl, h8⟩
    have ke := ke.out _ h8
    replace ke := Lib.hid ke
    have hend := h8.le (Le.both (k := d) (jt := dec 0 (fl) (e + (rndK (fl) (A - B) p m : Int)) false (rndN (fl) (A - B) p m)) hle3.out)
    replace hend := Lib.hid hend
    clear h8
    go_wp2_with fail
    with_reducible refine ke.out.mono ?_
    rintro E w' ⟨rfl, hw⟩
    obtain rfl := hw
    go_wp2
    go_ret2
    rw [hS.out, hN.out, hr.out]
    exact ⟨rfl, hend.out⟩
  · have hN : addN nx t A B = A - B := by unfold addN; rw [if_neg hst, if_pos (by omega)]
    have hS : addS nx t A B (decide (m = 4)) = nx := by unfold addS; rw [if_neg hst, if_neg (by omega), if_pos hgt]
    have ka := bigSub_ge h4 (bnum_dec (upd_eq _ _ _)) na4 nb4 hAw (by omega)
    rw [put_dec (upd_eq _ _ _), upd_upd] at ka
    have hs1 : sgN false (A - B) = 1 := by unfold sgN; rw [if_neg (by omega)]; rfl
    replace ka := Lib.hid ka
    replace hN := Lib.hid hN
    replace hS := Lib.hid hS
    replace hs1 := Lib.hid hs1
    clear h4 na4 nb4 hst hfl2
    go_wp2_with fail
    with_reducible refine ka.out.mono ?_
    rintro E w5 ⟨rfl, h5⟩
    have ksg := bigSignH_c h5 (bnum_dec (upd_eq _ _ _))
    rw [hs1.out] at ksg
    replace ksg := Lib.hid ksg
    replace h5 := Lib.hid h5
    go_wp2_with fail
    with_reducible refine ksg.out.mono ?_
    rintro E w' ⟨rfl, hw⟩
    obtain rfl := hw
    have h5 := h5.out
    have t2 := h5.c2 (upd_eq _ _ _)
    have u2 := h5.fz (upd_eq _ _ _) 2
    have t0 := h5.c0 (upd_eq _ _ _)
    have u0 := h5.fz (upd_eq _ _ _) 0
    have h6 := h5.setExp (upd_eq _ _ _) e
    rw [upd_upd] at h6
    have h7 := h6.setForm (upd_eq _ _ _) 0
    rw [upd_upd] at h7
    have hc7 : ∀ it, upd σ' d it c = some (ctxO p a b (modeS m)) := fun it => by rw [upd_ne _ _ hcd]; exact hc3.out
    have kr := round_c h7 (upd_eq _ _ _) (upd_eq _ _ _) (hc7 _) hp ha hb hMbA hm (by omega)
    rw [upd_upd] at kr
    have hrc := rndC_calm (A - B) p
    have ke := fun w1 (h1 : Hold w0 w1 (upd σ' d (dec 0 (nx) (e + (rndK (nx) (A - B) p m : Int)) false (rndN (nx) (A - B) p m)))) => errH_c h1 (hc7 _) hrc
    obtain ⟨r, hr⟩ : ∃ r, rndC (A - B) p = r := ⟨_, rfl⟩
    rw [hr] at kr
    simp only [hr] at ke
    replace hr := Lib.hid hr
    replace kr := Lib.hid kr
    replace ke := Lib.hid ke
    clear h5 h6 h7 hc7 hrc
    go_wp2_with fail
    with_reducible refine kr.out.mono ?_
    rintro E w6 ⟨rfl, h8⟩
    have ke := ke.out _ h8
    replace ke := Lib.hid ke
    have hend := h8.le (Le.both (k := d) (jt := dec 0 (nx) (e + (rndK (nx) (A - B) p m : Int)) false (rndN (nx) (A - B) p m)) hle3.out)
    replace hend := Lib.hid hend
    clear h8
    go_wp2_with fail
    with_reducible refine ke.out.mono ?_
    rintro E w' ⟨rfl, hw⟩
    obtain rfl := hw
    go_wp2
    go_ret2
    rw [hS.out, hN.out, hr.out]
    exact ⟨rfl, hend.out⟩

/-- Context.add: the sum, with the smaller exponent, rounded. -/
theorem add_c {w0 w : World} {σ : Sg} (h : Hold w0 w σ) {d x y c p m : Nat} {ex ey f' e' a b : Int} {nx ny sub n' g' : Bool} {X Y N' A B : Nat} {e : Int} (hd : σ d = some (dec f' n' e' g' N')) (hx : σ x = some (dec 0 nx ex false X)) (hy : σ y = some (dec 0 ny ey false Y)) (hxy : x ≠ y) (hdx : d ≠ x) (hdy : d ≠ y) (hc : σ c = some (ctxO p a b (modeS m)))
    (hp : 1 ≤ p ∧ p ≤ 1000) (ha : 50000 ≤ a ∧ a ≤ 2000000) (hb : -2000000 ≤ b ∧ b ≤ -50000) (hX : nbits X ≤ 2000) (hY : nbits Y ≤ 2000) (hm : m < 8) (hex : -1000 ≤ ex ∧ ex ≤ 1000) (hey : -1000 ≤ ey ∧ ey ≤ 1000) (hfar : ey - ex ≤ 400 ∧ ex - ey ≤ 400)
    (he : e = if ex ≤ ey then ex else ey) (hA : A = X * 10 ^ (ex - ey).toNat) (hB : B = Y * 10 ^ (ey - ex).toNat) (hAb : nbits A ≤ 1090) (hBb : nbits B ≤ 1090) :
    Calls Tryz.prog 63 #[.pointer (some ⟨c, 0, none⟩), .pointer (some ⟨d, 0, none⟩), .pointer (some ⟨x, 0, none⟩), .pointer (some ⟨y, 0, none⟩), .bool sub] w (CRes w0 σ d (addS nx (ny != sub) A B (decide (m = 4))) e p m (addN nx (ny != sub) A B)) := by
  cases hal : (nx == (ny != sub)) with
  | true => exact add_alike h hd hx hy hxy hdx hdy hc hp ha hb hX hY hm hex hey hfar he hA hB hAb hBb hal
  | false => exact add_diff h hd hx hy hxy hdx hdy hc hp ha hb hX hY hm hex hey hfar he hA hB hAb hBb hal

theorem cAdd_c {w0 w : World} {σ : Sg} (h : Hold w0 w σ) {d x y c p m : Nat} {ex ey f' e' a b : Int} {nx ny n' g' : Bool} {X Y N' A B : Nat} {e : Int} (hd : σ d = some (dec f' n' e' g' N')) (hx : σ x = some (dec 0 nx ex false X)) (hy : σ y = some (dec 0 ny ey false Y)) (hxy : x ≠ y) (hdx : d ≠ x) (hdy : d ≠ y) (hc : σ c = some (ctxO p a b (modeS m)))
    (hp : 1 ≤ p ∧ p ≤ 1000) (ha : 50000 ≤ a ∧ a ≤ 2000000) (hb : -2000000 ≤ b ∧ b ≤ -50000) (hX : nbits X ≤ 2000) (hY : nbits Y ≤ 2000) (hm : m < 8) (hex : -1000 ≤ ex ∧ ex ≤ 1000) (hey : -1000 ≤ ey ∧ ey ≤ 1000) (hfar : ey - ex ≤ 400 ∧ ex - ey ≤ 400)
    (he : e = if ex ≤ ey then ex else ey) (hA : A = X * 10 ^ (ex - ey).toNat) (hB : B = Y * 10 ^ (ey - ex).toNat) (hAb : nbits A ≤ 1090) (hBb : nbits B ≤ 1090) :
    Calls Tryz.prog 36 #[.pointer (some ⟨c, 0, none⟩), .pointer (some ⟨d, 0, none⟩), .pointer (some ⟨x, 0, none⟩), .pointer (some ⟨y, 0, none⟩)] w (CRes w0 σ d (addS nx (ny != false) A B (decide (m = 4))) e p m (addN nx (ny != false) A B)) := by
  have k := add_c (sub := false) h hd hx hy hxy hdx hdy hc hp ha hb hX hY hm hex hey hfar he hA hB hAb hBb
  generalize addS nx (ny != false) A B (decide (m = 4)) = S at *
  generalize addN nx (ny != false) A B = M at *
  unfold CRes at *
  generalize rndC M p = r at *
  replace k := Lib.hid k
  clear h hd hx hy hc he hA hB
  go_enter Tryz.func36, Tryz.ntmps36
  go_wp2_with fail
  with_reducible refine k.out.mono ?_
  rintro E w1 ⟨rfl, h1⟩
  replace h1 := Lib.hid h1
  go_wp2
  go_ret2
  exact ⟨rfl, h1.out⟩

theorem cSub_c {w0 w : World} {σ : Sg} (h : Hold w0 w σ) {d x y c p m : Nat} {ex ey f' e' a b : Int} {nx ny n' g' : Bool} {X Y N' A B : Nat} {e : Int} (hd : σ d = some (dec f' n' e' g' N')) (hx : σ x = some (dec 0 nx ex false X)) (hy : σ y = some (dec 0 ny ey false Y)) (hxy : x ≠ y) (hdx : d ≠ x) (hdy : d ≠ y) (hc : σ c = some (ctxO p a b (modeS m)))
    (hp : 1 ≤ p ∧ p ≤ 1000) (ha : 50000 ≤ a ∧ a ≤ 2000000) (hb : -2000000 ≤ b ∧ b ≤ -50000) (hX : nbits X ≤ 2000) (hY : nbits Y ≤ 2000) (hm : m < 8) (hex : -1000 ≤ ex ∧ ex ≤ 1000) (hey : -1000 ≤ ey ∧ ey ≤ 1000) (hfar : ey - ex ≤ 400 ∧ ex - ey ≤ 400)
    (he : e = if ex ≤ ey then ex else ey) (hA : A = X * 10 ^ (ex - ey).toNat) (hB : B = Y * 10 ^ (ey - ex).toNat) (hAb : nbits A ≤ 1090) (hBb : nbits B ≤ 1090) :
    Calls Tryz.prog 41 #[.pointer (some ⟨c, 0, none⟩), .pointer (some ⟨d, 0, none⟩), .pointer (some ⟨x, 0, none⟩), .pointer (some ⟨y, 0, none⟩)] w (CRes w0 σ d (addS nx (ny != true) A B (decide (m = 4))) e p m (addN nx (ny != true) A B)) := by
  have k := add_c (sub := true) h hd hx hy hxy hdx hdy hc hp ha hb hX hY hm hex hey hfar he hA hB hAb hBb
  generalize addS nx (ny != true) A B (decide (m = 4)) = S at *
  generalize addN nx (ny != true) A B = M at *
  unfold CRes at *
  generalize rndC M p = r at *
  replace k := Lib.hid k
  clear h hd hx hy hc he hA hB
  go_enter Tryz.func41, Tryz.ntmps41
  go_wp2_with fail
  with_reducible refine k.out.mono ?_
  rintro E w1 ⟨rfl, h1⟩
  replace h1 := Lib.hid h1
  go_wp2
  go_ret2
  exact ⟨rfl, h1.out⟩
end Go.Proofs.YtlnillnngckegaaGreatDoor

namespace Go.Proofs.YtlnillnngckegaaGreatDoor
open Go Go.RowKit

theorem MadeF.hold {w0 w w' : World} {σ : Sg} {E : Ending} {n : Bool} {ex : Int} {N : Nat} (h : Hold w0 w σ) (hm : MadeF w w' E n ex N) : ∃ k, E = .returned (.pointer (some ⟨k, 0, none⟩)) ∧ w.heap.size ≤ k ∧ Hold w0 w' (upd σ k (dec 0 n ex false N)) := by
  obtain ⟨k, o, rfl, hk, hk2, ⟨v, hv, hN⟩, ho, hc⟩ := hm
  have only3 : ∀ p g M, (dec 0 n ex false N).num p = some (g, M) → p = 3 ∧ M = N := by
    intro p g M hp
    rcases It.num_cases hp with ⟨_, rfl, h3⟩ | ⟨hk, _⟩ | ⟨hk, _⟩ | ⟨hk, _⟩ | ⟨hk, _⟩
    · cases h3; exact ⟨rfl, rfl⟩
    all_goals exact absurd hk (Nat.ne_of_beq_eq_false rfl)
  refine ⟨k, rfl, hk, h.add (s := fun _ => o) hc hk (.inl ⟨Nat.le_of_ble_eq_true rfl, fun _ => v, hv, fun p g M hp => ?_⟩) (fun p g M b hp hb => ⟨(ho b hb).1, (ho b hb).2.2⟩) (fun p g M p' g' M' b hp hp' _ _ => by rw [(only3 _ _ _ hp).1, (only3 _ _ _ hp').1])⟩
  rw [(only3 _ _ _ hp).2]
  exact hN
end Go.Proofs.YtlnillnngckegaaGreatDoor

namespace Go.Proofs.YtlnillnngckegaaGreatDoor
open Go Go.RowKit

set_option maxRecDepth 20000 in
theorem mathBig_c {w0 w : World} {σ : Sg} (h : Hold w0 w σ) {bx ox : Nat} {g : Bool} {N : Nat} (hx : BNum σ bx ox g N) (hN : (digs N).length ≤ 1000) :
    Calls Tryz.prog 71 #[.pointer (some ⟨bx, ox, none⟩)] w fun E w' => ∃ k, E = .returned (.pointer (some ⟨k, 0, none⟩)) ∧ w.heap.size ≤ k ∧ Hold w0 w' (upd σ k (int g N)) := by
  have hf := h.fresh (k := w.heap.size) (Nat.le_refl _)
  have h1 := h.newInt
  have ks := intSetAny_c h1 (num_int (upd_eq _ _ _)) (hx.num.upd hf) hN
  rw [put_int (upd_eq _ _ _), upd_upd] at ks
  replace ks := Lib.hid ks
  clear h h1 hf hx
  go_enter Tryz.func71, Tryz.ntmps71
  go_wp2_with fail
  with_reducible refine ks.out.mono ?_
  rintro e w1 ⟨rfl, h1⟩
  replace h1 := Lib.hid h1
  go_wp2
  go_ret
  exact ⟨_, rfl, Nat.le_refl _, h1.out⟩
theorem bitsH_c {w0 w : World} {σ : Sg} (h : Hold w0 w σ) {bx ox : Nat} {g : Bool} {N : Nat} (hx : Num σ bx ox g N) :
    Calls Tryz.prog 72 #[.pointer (some ⟨bx, ox, none⟩)] w fun E w' => ∃ v o, E = .returned v ∧ IsNat w v N o ∧ w = w' := by
  obtain ⟨v, s, p⟩ := h.op hx
  have x1 := p.c1
  have hn := p.nat
  replace hn := Lib.hid hn
  clear h hx p
  go_enter Tryz.func72, Tryz.ntmps72
  go_wp2
  go_ret
  exact ⟨v, s, rfl, hn.out, rfl⟩
end Go.Proofs.YtlnillnngckegaaGreatDoor
