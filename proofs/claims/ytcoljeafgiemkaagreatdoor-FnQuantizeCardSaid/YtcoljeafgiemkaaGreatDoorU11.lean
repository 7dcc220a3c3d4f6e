/- Context.quantize. -/
import Derived.Test.YtcoljeafgiemkaaGreatDoorC39
import Derived.Test.YtcoljeafgiemkaaGreatDoorC45
namespace Go.Proofs.YtcoljeafgiemkaaGreatDoor
open Go Go.RowKit

theorem figs_200 {N : Nat} (h : nbits N ≤ 200) : figs N ≤ 61 := by
  refine (figs_le_iff (by omega)).2 (Nat.lt_of_lt_of_le (nbits_lt N) (Nat.le_trans (Nat.pow_le_pow_right (by omega) h) ?_))
  decide +kernel
set_option maxRecDepth 20000 in
theorem withPrec_c {w0 w : World} {σ : Sg} (h : Hold w0 w σ) {c : Nat} {p a b : Int} {M : ByteArray} (hc : σ c = some (ctxO p a b M)) (q : Int) :
    Calls Tryz.prog 116 #[.pointer (some ⟨c, 0, none⟩), .int .u32 q] w fun E w' => ∃ k, E = .returned (.pointer (some ⟨k, 0, none⟩)) ∧ w.heap.size ≤ k ∧ Hold w0 w' (upd σ k (ctxO q a b M)) := by
  have hT := h.fresh (Nat.le_refl w.heap.size)
  have hb := h.newRaw (.cells #[.int .u32 0, .int .i32 0, .int .i32 0, .int .u32 0, .string ⟨#[]⟩] 105 (0, 0))
  obtain ⟨T, hTe⟩ : ∃ T, w.heap.size = T := ⟨_, rfl⟩
  rw [hTe] at hT hb
  have hcT : c ≠ T := by rintro rfl; rw [hT] at hc; cases hc
  have hx := hb.ctx (show (upd σ T _) c = some (ctxO p a b M) by rw [upd_ne _ _ hcT]; exact hc)
  have c0 := hx.c0
  have c1 := hx.c1
  have c2 := hx.c2
  have c3 := hx.c3
  have c4 := hx.c4
  have hbr := hb.raw (upd_eq _ _ _)
  have d0 := cellB hbr (i := 0) rfl
  have d1 := cellB hbr (i := 1) rfl
  have d2 := cellB hbr (i := 2) rfl
  have d3 := cellB hbr (i := 3) rfl
  have d4 := cellB hbr (i := 4) rfl
  have f0 := frozenB hbr 0
  have f1 := frozenB hbr 1
  have f2 := frozenB hbr 2
  have f3 := frozenB hbr 3
  have f4 := frozenB hbr 4
  have hfin := (((((hb.setRaw (i := 0) (x := .int .u32 p) (upd_eq _ _ _)).setRaw (i := 1) (x := .int .i32 a) (upd_eq _ _ _)).setRaw (i := 2) (x := .int .i32 b) (upd_eq _ _ _)).setRaw (i := 3) (x := .int .u32 0) (upd_eq _ _ _)).setRaw (i := 4) (x := .string M) (upd_eq _ _ _)).setRaw (i := 0) (x := .int .u32 q) (upd_eq _ _ _)
  simp only [upd_upd] at hfin
  have hle : w.heap.size ≤ T := by omega
  replace hfin := Lib.hid hfin
  replace hTe := Lib.hid hTe
  replace hle := Lib.hid hle
  clear hb h hc hx hT hcT hbr
  go_enter Tryz.func116, Tryz.ntmps116
  go_upto_region 2 with (fail)
  rw [hTe.out]
  generalize w.alloc (.cells #[.int .u32 0, .int .i32 0, .int .i32 0, .int .u32 0, .string ⟨#[]⟩] 105 (0, 0)) = W at *
  go_wp2
  go_ret
  exact ⟨T, rfl, hle.out, hfin.out⟩

set_option maxRecDepth 20000 in
set_option maxHeartbeats 2000000 in
theorem quant_up {w0 w : World} {σ : Sg} (h : Hold w0 w σ) {d x c k : Nat} {e f' e' : Int} {n n' g' : Bool} {N N' : Nat} (hd : σ d = some (dec f' n' e' g' N')) (hx : σ x = some (dec 0 n e false N)) (hN : nbits N ≤ 200) (_he : -1000 ≤ e ∧ e ≤ 1000) (hk : 1 ≤ k ∧ k ≤ 400) {q : Int} (hq : q - e = -(k : Int)) :
    Calls Tryz.prog 79 #[.pointer (some ⟨c, 0, none⟩), .pointer (some ⟨d, 0, none⟩), .pointer (some ⟨x, 0, none⟩), .int .i32 q] w fun E w' => E = .returned (.int .u32 ((0 : Nat) : Int)) ∧ Hold w0 w' (upd σ d (dec 0 n q false (N * 10 ^ k))) := by
  have x2 := h.c2 hx
  have hNl : (digs N).length < 40 := Nat.lt_of_le_of_lt (bits_w (k := 4) (by omega)) (by omega)
  have kS := decSet_c h hd hx (by omega)
  have eq1 : IntKind.i32.wrap (q - e) = -(k : Int) := by rw [hq]; exact IntWalk.i32_in _ (by omega)
  have eq2 : IntKind.i64.wrap (-(k : Int)) = -(k : Int) := IntWalk.i64_in _ (by omega)
  have eq3 : IntKind.i64.wrap (- -(k : Int)) = (k : Int) := by rw [Int.neg_neg]; exact IntWalk.i64_in _ (by omega)
  have eq4 : IntKind.i64.wrap (k : Int) = (k : Int) := IntWalk.i64_in _ (by omega)
  have l1 : -(k : Int) < 0 := by omega
  have l2 : ¬ -(k : Int) < -100000 := by omega
  have l3 : ¬ 0 < -(k : Int) := by omega
  have hk4 := hk.2
  replace kS := Lib.hid kS
  replace hq := Lib.hid hq
  clear h hd hx hk
  go_enter Tryz.func79, Tryz.ntmps79
  go_wp2_with fail
  with_reducible refine kS.out.mono ?_
  rintro E w1 ⟨rfl, h1⟩
  have hT := h1.fresh (Nat.le_refl w1.heap.size)
  have h2 := h1.newBig
  obtain ⟨T, hTe⟩ : ∃ T, w1.heap.size = T := ⟨_, rfl⟩
  rw [hTe] at hT h2
  have hdT : d ≠ T := by rintro rfl; rw [upd_eq] at hT; cases hT
  have hsT : σ T = none := by rw [upd_ne _ _ (Ne.symm hdT)] at hT; exact hT
  have kt := fun wx (hc : Chg (w1.alloc (.cells #[.bool false, .slice none 0 0, .bool false] 73 (0, 0))) wx (fun _ => False)) => tableExp_c (h2.keep hc) (bnum_big (upd_eq _ _ _)) k hk4
  rw [put_big (upd_eq _ _ _), upd_upd] at kt
  have hd3 : (upd (upd σ d (dec 0 n e false N)) T (big false (10 ^ k))) d = some (dec 0 n e false N) := by rw [upd_ne _ _ hdT, upd_eq]
  have km := fun w5 wx (h5 : Hold w0 w5 (upd (upd σ d (dec 0 n e false N)) T (big false (10 ^ k)))) (hc : Chg w5 wx (fun _ => False)) => bigMul_c (h5.keep hc) (bnum_dec hd3) (num_dec hd3) (num_big (upd_eq _ _ _)) (by intro e0; injection e0 with e0; exact hdT e0) hNl (ten_40 hk4)
  rw [put_dec hd3, upd_swap (upd σ d (dec 0 n e false N)) _ _ (Ne.symm hdT), upd_upd] at km
  have hle : ∀ it jt, Le (upd σ d it) (upd (upd σ d it) T jt) := fun it jt => Le.skip (by rw [upd_ne _ _ (Ne.symm hdT)]; exact hsT) (Le.refl _)
  replace hTe := Lib.hid hTe
  replace kt := Lib.hid kt
  replace km := Lib.hid km
  replace hle := Lib.hid hle
  clear h1 h2 hT hsT hd3 x2 kS
  go_upto_region 8 with (fail)
  rw [hTe.out]
  generalize w1.alloc (.cells #[.bool false, .slice none 0 0, .bool false] 73 (0, 0)) = W at kt ⊢
  go_region_held3 (fun w' => Anyw w') (exact anyw _) (first
    | (go_at_call 103
       refine (kt.out _ (by exact ⟨rfl, rfl, rfl, Nat.le_refl _, fun _ _ _ => rfl⟩)).mono ?_
       rintro E w5 ⟨rfl, h5⟩
       replace h5 := Lib.hid h5)
    | (go_at_call 97
       refine (km.out _ _ h5.out (by exact ⟨rfl, rfl, rfl, Nat.le_refl _, fun _ _ _ => rfl⟩)).mono ?_
       rintro E w6 ⟨rfl, h6'⟩
       have h6 := h6'.le (hle.out _ _)
       replace h6 := Lib.hid h6
       clear h6'))
  have d2 := h6.out.c2 (upd_eq _ _ _)
  have f2 := h6.out.fz (upd_eq _ _ _) 2
  have h7 := h6.out.setExp (upd_eq _ _ _) q
  rw [upd_upd] at h7
  replace h7 := Lib.hid h7
  clear h5 h6 kt km hle
  go_wp2
  go_ret
  exact ⟨rfl, h7.out⟩

set_option maxRecDepth 20000 in
set_option maxHeartbeats 2000000 in
theorem quant_eq {w0 w : World} {σ : Sg} (h : Hold w0 w σ) {d x c : Nat} {e f' e' : Int} {n n' g' : Bool} {N N' : Nat} (hd : σ d = some (dec f' n' e' g' N')) (hx : σ x = some (dec 0 n e false N)) (hN : nbits N ≤ 200) :
    Calls Tryz.prog 79 #[.pointer (some ⟨c, 0, none⟩), .pointer (some ⟨d, 0, none⟩), .pointer (some ⟨x, 0, none⟩), .int .i32 e] w fun E w' => E = .returned (.int .u32 ((0 : Nat) : Int)) ∧ Hold w0 w' (upd σ d (dec 0 n e false N)) := by
  have x2 := h.c2 hx
  have kS := decSet_c h hd hx (Nat.le_trans (bits_w (k := 4) (by omega)) (by omega))
  have eq1 : IntKind.i32.wrap (e - e) = 0 := by rw [Int.sub_self]; exact IntWalk.i32_in _ (by omega)
  have eq2 : IntKind.i32.wrap 0 = 0 := IntWalk.i32_in _ (by omega)
  replace kS := Lib.hid kS
  clear h hd hx
  go_enter Tryz.func79, Tryz.ntmps79
  go_wp2_with fail
  with_reducible refine kS.out.mono ?_
  rintro E w1 ⟨rfl, h1⟩
  have d2 := h1.c2 (upd_eq _ _ _)
  have f2 := h1.fz (upd_eq _ _ _) 2
  have h7 := h1.setExp (upd_eq _ _ _) e
  rw [upd_upd] at h7
  replace h7 := Lib.hid h7
  clear h1 kS
  go_wp2
  go_ret
  exact ⟨rfl, h7.out⟩

set_option maxRecDepth 20000 in
set_option maxHeartbeats 2000000 in
theorem quant_far {w0 w : World} {σ : Sg} (h : Hold w0 w σ) {d x c k : Nat} {e f' e' : Int} {n n' g' : Bool} {N N' : Nat} (hd : σ d = some (dec f' n' e' g' N')) (hx : σ x = some (dec 0 n e false N)) (hN : nbits N ≤ 200) (hk : figs N < k ∧ k ≤ 2000) {q : Int} (hq : q - e = (k : Int)) :
    Calls Tryz.prog 79 #[.pointer (some ⟨c, 0, none⟩), .pointer (some ⟨d, 0, none⟩), .pointer (some ⟨x, 0, none⟩), .int .i32 q] w fun E w' => E = .returned (.int .u32 ((if N = 0 then 0 else 80 : Nat) : Int)) ∧ Hold w0 w' (upd σ d (dec 0 n q false 0)) := by
  have x2 := h.c2 hx
  have kS := decSet_c h hd hx (Nat.le_trans (bits_w (k := 4) (by omega)) (by omega))
  have hf := figs_200 hN
  have hfp := figs_pos N
  obtain ⟨rr, hrr⟩ : ∃ rr : Nat, (if N = 0 then 0 else 80) = rr := ⟨_, rfl⟩
  rw [hrr]
  have hr0 : N = 0 → rr = 0 := fun h => by rw [← hrr, if_pos h]
  have hr1 : N ≠ 0 → rr = 80 := fun h => by rw [← hrr, if_neg h]
  replace hr0 := Lib.hid hr0
  replace hr1 := Lib.hid hr1
  replace hrr := Lib.hid hrr
  have eq1 : IntKind.i32.wrap (q - e) = (k : Int) := by rw [hq]; exact IntWalk.i32_in _ (by omega)
  have eq2 : IntKind.i32.wrap (figs N : Int) = (figs N : Int) := IntWalk.i32_in _ (by omega)
  have eq3 : IntKind.i32.wrap ((figs N : Int) - (k : Int)) = (figs N : Int) - (k : Int) := IntWalk.i32_in _ (by omega)
  have l1 : ¬ (k : Int) < 0 := by omega
  have l2 : 0 < (k : Int) := by omega
  have l3 : (figs N : Int) - (k : Int) < 0 := by omega
  replace kS := Lib.hid kS
  replace hq := Lib.hid hq
  clear h hd hx hk hfp hf
  go_enter Tryz.func79, Tryz.ntmps79
  go_wp2_with fail
  with_reducible refine kS.out.mono ?_
  rintro E w1 ⟨rfl, h1⟩
  have kn := decDigits_c h1 (upd_eq _ _ _) (by omega)
  replace kn := Lib.hid kn
  clear h1 kS
  go_wp2_with fail
  with_reducible refine kn.out.mono ?_
  rintro E w2 ⟨rfl, h2⟩
  have kz := isZeroH_c h2 (upd_eq _ _ _)
  by_cases h0 : N = 0
  · rw [decide_eq_true h0] at kz
    obtain rfl := hr0.out h0
    have d2 := h2.c2 (upd_eq _ _ _)
    have f2 := h2.fz (upd_eq _ _ _) 2
    have h7 := h2.setExp (upd_eq _ _ _) q
    rw [upd_upd] at h7
    have h8 : Hold w0 (w2.setCell ⟨d, 2, none⟩ (.int .i32 q)) (upd σ d (dec 0 n q false 0)) := by rw [h0] at h7; exact h7
    replace h8 := Lib.hid h8
    replace kz := Lib.hid kz
    replace h0 := Lib.hid h0
    clear h2 h7 kn
    go_wp2_with fail
    with_reducible refine kz.out.mono ?_
    rintro E w' ⟨rfl, hw⟩
    obtain rfl := hw
    go_wp2
    go_ret
    exact ⟨rfl, h8.out⟩
  · rw [decide_eq_false h0] at kz
    obtain rfl := hr1.out h0
    have k0 := bigSet0_c h2 (bnum_dec (upd_eq _ _ _))
    rw [put_dec (upd_eq _ _ _), upd_upd] at k0
    replace kz := Lib.hid kz
    replace k0 := Lib.hid k0
    replace h0 := Lib.hid h0
    clear h2 kn
    go_wp2_with fail
    with_reducible refine kz.out.mono ?_
    rintro E w' ⟨rfl, hw⟩
    obtain rfl := hw
    go_wp2_with fail
    with_reducible refine k0.out.mono ?_
    rintro E w3 ⟨rfl, h3⟩
    have d2 := h3.c2 (upd_eq _ _ _)
    have f2 := h3.fz (upd_eq _ _ _) 2
    have h7 := h3.setExp (upd_eq _ _ _) q
    rw [upd_upd] at h7
    replace h7 := Lib.hid h7
    clear h3 k0
    go_wp2
    go_ret
    exact ⟨rfl, h7.out⟩

set_option maxRecDepth 20000 in
set_option maxHeartbeats 4000000 in
theorem quant_cut {w0 w : World} {σ : Sg} (h : Hold w0 w σ) {d x c p m k : Nat} {e f' e' a b : Int} {n n' g' : Bool} {N N' : Nat} (hd : σ d = some (dec f' n' e' g' N')) (hx : σ x = some (dec 0 n e false N)) (hc : σ c = some (ctxO p a b (modeS m)))
    (ha : 50000 ≤ a ∧ a ≤ 2000000) (hb : -2000000 ≤ b ∧ b ≤ -50000) (hm : m < 8) (hN : nbits N ≤ 200) (hk : 1 ≤ k ∧ k ≤ figs N) {q : Int} (hq : q - e = (k : Int)) :
    Calls Tryz.prog 79 #[.pointer (some ⟨c, 0, none⟩), .pointer (some ⟨d, 0, none⟩), .pointer (some ⟨x, 0, none⟩), .int .i32 q] w fun E w' => E = .returned (.int .u32 ((if inexN N k then 80 else 64 : Nat) : Int)) ∧ Hold w0 w' (upd σ d (dec 0 n q false (cutN n N k m))) := by
  obtain ⟨N1, k1, r1, hways, hcut, hr1⟩ := ways_ex n N k m
  rw [← hr1]
  obtain ⟨R, hR⟩ : ∃ R, cutN n N k m = R := ⟨_, rfl⟩
  rw [hR] at hcut ⊢
  have x2 := h.c2 hx
  have hcd : c ≠ d := by rintro rfl; rw [hc] at hd; cases hd
  have kS := decSet_c h hd hx (Nat.le_trans (bits_w (k := 4) (by omega)) (by omega))
  have hf := figs_200 hN
  have hfp := figs_pos N
  obtain ⟨w1b, w2b, w3b⟩ := ways_bits hways (by omega)
  obtain ⟨pp, hpp⟩ : ∃ pp, figs N - k = pp := ⟨_, rfl⟩
  have hk2 : figs N - pp = k := by omega
  rw [← hk2] at hways
  have eq1 : IntKind.i32.wrap (q - e) = (k : Int) := by rw [hq]; exact IntWalk.i32_in _ (by omega)
  have eq2 : IntKind.i32.wrap (figs N : Int) = (figs N : Int) := IntWalk.i32_in _ (by omega)
  have eq3 : IntKind.i32.wrap ((figs N : Int) - (k : Int)) = (pp : Int) := by rw [show (figs N : Int) - (k : Int) = (pp : Int) by omega]; exact IntWalk.i32_in _ (by omega)
  have eq4 : IntKind.u32.wrap (pp : Int) = (pp : Int) := IntWalk.u32_in _ (by omega)
  have eq5 : IntKind.i32.wrap (-(k : Int)) = -(k : Int) := IntWalk.i32_in _ (by omega)
  have l1 : ¬ (k : Int) < 0 := by omega
  have l2 : 0 < (k : Int) := by omega
  have l3 : ¬ (pp : Int) < 0 := by omega
  have hm2 := hm
  have hcx : ∀ it, (upd σ d it) c = some (ctxO p a b (modeS m)) := fun it => by rw [upd_ne _ _ hcd]; exact hc
  obtain ⟨P, hP⟩ : ∃ P, modeS m = P := ⟨_, rfl⟩
  have hkr : ∀ w3 c2, σ c2 = none → d ≠ c2 → Hold w0 w3 (upd (upd σ d (dec 0 n (-(k : Int)) false N)) c2 (ctxO pp a b P)) → Calls Tryz.prog 128 #[.string P, .pointer (some ⟨c2, 0, none⟩), .pointer (some ⟨d, 0, none⟩), .pointer (some ⟨d, 0, none⟩), .bool false] w3 fun E w' => E = .returned (.int .u32 (r1 : Int)) ∧ Hold w0 w' (upd σ d (dec 0 n (-(k : Int) + (k1 : Int)) false N1)) := fun w3 c2 hs hdc h3 => by
    rw [← hP] at h3 ⊢
    refine (roundQ_c h3 (d := d) (c := c2) (by rw [upd_ne _ _ hdc]; exact upd_eq _ _ _) (upd_eq _ _ _) (by omega) ha hb (by omega) hm2 (by omega) (by omega) (by omega) hways).mono (fun E w' hh => ?_)
    obtain ⟨hE, hh⟩ := hh
    rw [upd_swap _ _ _ (Ne.symm hdc), upd_upd] at hh
    exact ⟨hE, hh.le (Le.skip (by rw [upd_ne _ _ (Ne.symm hdc)]; exact hs) (Le.refl _))⟩
  rw [hP] at hcx
  replace hkr := Lib.hid hkr
  replace hcx := Lib.hid hcx
  replace kS := Lib.hid kS
  replace hq := Lib.hid hq
  replace hR := Lib.hid hR
  replace hP := Lib.hid hP
  clear h hd hx hk hways hr1 hc hk2 hpp
  go_enter Tryz.func79, Tryz.ntmps79
  go_wp2_with fail
  with_reducible refine kS.out.mono ?_
  rintro E w1 ⟨rfl, h1⟩
  have kn := decDigits_c h1 (upd_eq _ _ _) (by omega)
  replace kn := Lib.hid kn
  clear h1 kS x2
  go_wp2_with fail
  with_reducible refine kn.out.mono ?_
  rintro E w2 ⟨rfl, h2⟩
  have kw := withPrec_c h2 (hcx.out _) (pp : Int)
  have hfr := fun j (hj : w2.heap.size ≤ j) => h2.fresh hj
  replace kw := Lib.hid kw
  replace hfr := Lib.hid hfr
  clear h2 kn
  go_wp2_with fail
  with_reducible refine kw.out.mono ?_
  rintro E w3 ⟨c2, rfl, hc2, h3⟩
  have hs2 := hfr.out c2 hc2
  have hdc : d ≠ c2 := by rintro rfl; rw [upd_eq] at hs2; cases hs2
  have hsc : σ c2 = none := by rw [upd_ne _ _ (Ne.symm hdc)] at hs2; exact hs2
  have hd3 : (upd (upd σ d (dec 0 n e false N)) c2 (ctxO (pp : Int) a b P)) d = some (dec 0 n e false N) := by rw [upd_ne _ _ hdc, upd_eq]
  have d2 := h3.c2 hd3
  have f2 := h3.fz hd3 2
  have h4 := h3.setExp hd3 (-(k : Int))
  rw [upd_swap (upd σ d (dec 0 n e false N)) _ _ (Ne.symm hdc), upd_upd] at h4
  have kr := fun wx (hc : Chg (w3.setCell ⟨d, 2, none⟩ (.int .i32 (-(k : Int)))) wx (fun _ => False)) => hkr.out wx c2 hsc hdc (h4.keep hc)
  have hS0 := (h4.ctx (upd_eq _ _ _)).c4
  replace h4 := Lib.hid h4
  replace kr := Lib.hid kr
  clear h3 hs2 hfr kw hd3
  go_upto_region 17 with (fail)
  clear d2 f2
  generalize w3.setCell ⟨d, 2, none⟩ (.int .i32 (-(k : Int))) = W at kr h4 hS0 ⊢
  go_wp2_with fail
  with_reducible refine (kr.out _ (by exact ⟨rfl, rfl, rfl, Nat.le_refl _, fun _ _ _ => rfl⟩)).mono ?_
  rintro E w5 ⟨rfl, h5⟩
  clear kr h4 hS0 hkr
  rcases hcut with ⟨hk1, hN1⟩ | ⟨hk1, hN1⟩
  · have e9 : -(k : Int) + (k1 : Int) = 0 := by omega
    rw [e9] at h5
    have d2 := h5.c2 (upd_eq _ _ _)
    have f2 := h5.fz (upd_eq _ _ _) 2
    have h7 := h5.setExp (upd_eq _ _ _) q
    rw [upd_upd, hN1] at h7
    replace h7 := Lib.hid h7
    clear h5 e9
    go_wp2
    go_ret
    exact ⟨rfl, h7.out⟩
  · have e9 : -(k : Int) + (k1 : Int) = 1 := by omega
    rw [e9] at h5
    have d2 := h5.c2 (upd_eq _ _ _)
    have kt := fun wx (hc : Chg w5 wx (fun _ => False)) => bigTen_c (h5.keep hc)
    have hfr := fun wx (hc : Chg w5 wx (fun _ => False)) j (hj : wx.heap.size ≤ j) => (h5.keep hc).fresh hj
    have hNl : (digs N1).length < 40 := Nat.lt_of_le_of_lt (bits_w (k := 18) (by omega)) (by omega)
    have km := fun w6 wx j (h6 : Hold w0 w6 (upd (upd σ d (dec 0 n 1 false N1)) j (big false 10))) (hdj : d ≠ j) (hc : Chg w6 wx (fun _ => False)) => bigMul_c (h6.keep hc) (bnum_dec (by rw [upd_ne _ _ hdj]; exact upd_eq _ _ _)) (num_dec (by rw [upd_ne _ _ hdj]; exact upd_eq _ _ _)) (num_big (upd_eq _ _ _)) (by intro e0; injection e0 with e0; exact hdj e0) hNl (Nat.lt_of_le_of_lt (bits_w (k := 1) (by decide +kernel)) (by omega))
    replace kt := Lib.hid kt
    replace km := Lib.hid km
    replace hfr := Lib.hid hfr
    replace h5 := Lib.hid h5
    go_upto_region 19 with (fail)
    clear d2
    go_region_held3 (fun w' => Anyw w') (exact anyw _) (first
      | (go_at_call 105
         refine (kt.out _ (by exact ⟨rfl, rfl, rfl, Nat.le_refl _, fun _ _ _ => rfl⟩)).mono ?_
         rintro E w6 ⟨j, rfl, hj, h6⟩
         have hsj := hfr.out _ (by exact ⟨rfl, rfl, rfl, Nat.le_refl _, fun _ _ _ => rfl⟩) j hj
         have hdj : d ≠ j := by rintro rfl; rw [upd_eq] at hsj; cases hsj
         have hsj2 : σ j = none := by rw [upd_ne _ _ (Ne.symm hdj)] at hsj; exact hsj
         replace h6 := Lib.hid h6
         replace hsj2 := Lib.hid hsj2
         clear hsj hj)
      | (go_at_call 97
         refine (km.out _ _ _ h6.out hdj (by exact ⟨rfl, rfl, rfl, Nat.le_refl _, fun _ _ _ => rfl⟩)).mono ?_
         rintro E w7 ⟨rfl, h7'⟩
         rw [put_dec (by rw [upd_ne _ _ hdj]; exact upd_eq _ _ _ : (upd (upd σ d (dec 0 n 1 false N1)) j (big false 10)) d = some (dec 0 n 1 false N1)), upd_swap (upd σ d (dec 0 n 1 false N1)) _ _ (Ne.symm hdj), upd_upd, hN1] at h7'
         have h7 := h7'.le (Le.skip (by rw [upd_ne _ _ (Ne.symm hdj)]; exact hsj2.out) (Le.refl _))
         replace h7 := Lib.hid h7
         clear h7'))
    have d2 := h7.out.c2 (upd_eq _ _ _)
    have f2 := h7.out.fz (upd_eq _ _ _) 2
    have h8 := h7.out.setExp (upd_eq _ _ _) q
    rw [upd_upd] at h8
    replace h8 := Lib.hid h8
    clear h5 h6 h7 kt km hfr
    go_wp2
    go_ret
    exact ⟨rfl, h8.out⟩
/-- What quantizing makes of a coefficient, and the conditions. -/
def QCase (n : Bool) (N : Nat) (e q : Int) (m R r : Nat) : Prop :=
  (q ≤ e ∧ R = N * 10 ^ (e - q).toNat ∧ r = 0) ∨ (e < q ∧ figs N < (q - e).toNat ∧ R = 0 ∧ r = if N = 0 then 0 else 80) ∨ (e < q ∧ (q - e).toNat ≤ figs N ∧ R = cutN n N (q - e).toNat m ∧ r = if inexN N (q - e).toNat then 80 else 64)
theorem qcase_ex (n : Bool) (N : Nat) (e q : Int) (m : Nat) : ∃ R r, QCase n N e q m R r := by
  by_cases h : q ≤ e
  · exact ⟨_, _, .inl ⟨h, rfl, rfl⟩⟩
  · by_cases h2 : figs N < (q - e).toNat
    · exact ⟨_, _, .inr (.inl ⟨by omega, h2, rfl, rfl⟩)⟩
    · exact ⟨_, _, .inr (.inr ⟨by omega, by omega, rfl, rfl⟩)⟩
theorem quantize_c {w0 w : World} {σ : Sg} (h : Hold w0 w σ) {d x c p m R r : Nat} {e f' e' a b : Int} {n n' g' : Bool} {N N' : Nat} (hd : σ d = some (dec f' n' e' g' N')) (hx : σ x = some (dec 0 n e false N)) (hc : σ c = some (ctxO p a b (modeS m)))
    (ha : 50000 ≤ a ∧ a ≤ 2000000) (hb : -2000000 ≤ b ∧ b ≤ -50000) (hm : m < 8) (hN : nbits N ≤ 200) (he : -200 ≤ e ∧ e ≤ 200) {q : Int} (hq : -200 ≤ q ∧ q ≤ 200) (hqc : QCase n N e q m R r) :
    Calls Tryz.prog 79 #[.pointer (some ⟨c, 0, none⟩), .pointer (some ⟨d, 0, none⟩), .pointer (some ⟨x, 0, none⟩), .int .i32 q] w fun E w' => E = .returned (.int .u32 (r : Int)) ∧ Hold w0 w' (upd σ d (dec 0 n q false R)) := by
  rcases hqc with ⟨h1, rfl, rfl⟩ | ⟨h1, h2, rfl, rfl⟩ | ⟨h1, h2, rfl, rfl⟩
  · by_cases h0 : q = e
    · subst h0
      have k := quant_eq h (c := c) hd hx hN
      rw [Int.sub_self, show (0 : Int).toNat = 0 from rfl, Nat.pow_zero, Nat.mul_one]
      exact k
    · exact quant_up h (c := c) hd hx hN (by omega) (k := (e - q).toNat) (by omega) (by omega)
  · exact quant_far h (c := c) hd hx hN (k := (q - e).toNat) (by omega) (by omega)
  · exact quant_cut h hd hx hc ha hb hm hN (k := (q - e).toNat) (by omega) (by omega)
theorem qcase_calm {n : Bool} {N : Nat} {e q : Int} {m R r : Nat} (h : QCase n N e q m R r) : calm r := by
  rcases h with ⟨_, _, rfl⟩ | ⟨_, _, _, rfl⟩ | ⟨_, _, _, rfl⟩
  · exact .inl rfl
  · split
    · exact .inl rfl
    · exact .inr (.inr (.inr rfl))
  · split
    · exact .inr (.inr (.inr rfl))
    · exact .inr (.inr (.inl rfl))
end Go.Proofs.YtcoljeafgiemkaaGreatDoor
