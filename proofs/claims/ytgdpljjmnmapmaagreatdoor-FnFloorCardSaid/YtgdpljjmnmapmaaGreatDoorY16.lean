/- An exponent that is set below the least one: the number is subnormal. -/
import Derived.Test.YtgdpljjmnmapmaaGreatDoorC34
namespace Go.Proofs.YtgdpljjmnmapmaaGreatDoor
open Go Go.RowKit

/-- Decimal.Modf of a decimal whose exponent is not above 0. -/
theorem modfC_c {w0 w : World} {σ : Sg} (h : Hold w0 w σ) {x i f k : Nat} {e ei ef : Int} {n ni nf : Bool} {N Ni Nf : Nat} (hx : σ x = some (dec 0 n e false N)) (hi : σ i = some (dec 0 ni ei false Ni)) (hf : σ f = some (dec 0 nf ef false Nf)) (hxi : x ≠ i) (hxf : x ≠ f) (hif : i ≠ f)
    (hN : nbits N < 1100) (he : -e = (k : Int)) (hk4 : k ≤ 400) :
    Calls Tryz.prog 49 #[.pointer (some ⟨x, 0, none⟩), .pointer (some ⟨i, 0, none⟩), .pointer (some ⟨f, 0, none⟩)] w fun E w' => E = .returned (.tuple #[]) ∧ Hold w0 w' (upd (upd σ i (dec 0 n 0 false (N / 10 ^ k))) f (dec 0 n e false (N % 10 ^ k))) := by
  by_cases hk : k ≤ figs N
  · exact modf_cut h hx hi hf hxi hxf hif hN he hk hk4
  · have h1 : N < 10 ^ k := Nat.lt_of_lt_of_le (figs_lt N) (ten_le (by omega))
    rw [Nat.div_eq_of_lt h1, Nat.mod_eq_of_lt h1]
    exact modf_far h hx hi hf hxi hif hN (by omega) (by omega)
/-- Conditions of a subnormal number: is it inexact, is it 0. -/
def subA (x : Bool) : Nat := if x then 48 else 32
def subB (x z : Bool) : Nat := (if x then 112 else 96) + (if z then 2048 else 0)
def subC (x z : Bool) : Nat := (if x then 120 else 96) + (if z then 2048 else 0)
theorem inexS_c (w : World) (x z : Bool) : Calls Tryz.prog 117 #[.int .u32 (subB x z : Int)] w fun e w' => e = .returned (.bool x) ∧ w = w' := by
  cases x <;> cases z
  all_goals
    unfold subB
    go_enter Tryz.func117, Tryz.ntmps117
    go_wp2
    go_ret
    exact ⟨by kernel_rfl, rfl⟩
theorem subS_c (w : World) (z : Bool) : Calls Tryz.prog 118 #[.int .u32 (subB true z : Int)] w fun e w' => e = .returned (.bool true) ∧ w = w' := by
  cases z
  all_goals
    unfold subB
    go_enter Tryz.func118, Tryz.ntmps118
    go_wp2
    go_ret
    exact ⟨by kernel_rfl, rfl⟩
theorem inex32_c (w : World) : Calls Tryz.prog 117 #[.int .u32 32] w fun e w' => e = .returned (.bool false) ∧ w = w' := by
  go_enter Tryz.func117, Tryz.ntmps117
  go_wp2
  go_ret
  exact ⟨by kernel_rfl, rfl⟩

set_option maxRecDepth 20000 in
set_option maxHeartbeats 4000000 in
theorem setSub0_c {w0 w : World} {σ : Sg} (h : Hold w0 w σ) {d c s p cap : Nat} {a b e e0 : Int} {n : Bool} {N : Nat} {m : ByteArray} (hd : σ d = some (dec 0 n e0 false N)) (hc : σ c = some (ctxO p a b m)) (hN : nbits N < 1100) (h0 : N ≠ 0) (hp : 1 ≤ p ∧ p ≤ 1000)
    (he : -3000 ≤ e ∧ e ≤ 3000) (hs : w.cell? ⟨s, 0, none⟩ = some (.int .i64 e)) (hb : -200000 ≤ b ∧ b ≤ 200000) (hlo : e + (figs N : Int) - 1 < b) (hr : b - ((p : Int) - 1) ≤ e) (_hcap : 1 ≤ cap ∧ cap ≤ 100) :
    Calls Tryz.prog 77 #[.pointer (some ⟨d, 0, none⟩), .pointer (some ⟨c, 0, none⟩), .int .i64 (figs N : Int), .int .u32 32, .slice (some ⟨s, 0, none⟩) 1 cap] w fun E w' => E = .returned (.int .u32 32) ∧ Hold w0 w' (upd σ d (dec 0 n e false N)) := by
  have hfN := figs_401 (N := N) (by omega)
  have hfp := figs_pos N
  obtain ⟨q, hq⟩ : ∃ q, figs N = q := ⟨_, rfl⟩
  rw [hq] at hlo hfN hfp ⊢
  have kz := isZeroH_c h hd
  rw [decide_eq_false h0] at kz
  have hctx := h.ctx hc
  have c0 := hctx.c0
  have c2 := hctx.c2
  have d2 := h.c2 hd
  have f2 := h.fz hd 2
  have hend := h.setExp hd e
  have s1 : IntKind.i32.wrap e = e := IntWalk.i32_in _ (by omega)
  have s2 : IntKind.i64.wrap (e + (q : Int)) = e + (q : Int) := IntWalk.i64_in _ (by omega)
  have s3 : IntKind.i64.wrap (e + (q : Int) - 1) = e + (q : Int) - 1 := IntWalk.i64_in _ (by omega)
  have s4 : IntKind.i32.wrap (e + (q : Int) - 1) = e + (q : Int) - 1 := IntWalk.i32_in _ (by omega)
  have s5 : ¬ 100000 < e + (q : Int) - 1 := by omega
  have s6 : ¬ e + (q : Int) - 1 < -100000 := by omega
  have s9 : IntKind.i32.wrap (p : Int) = (p : Int) := IntWalk.i32_in _ (by omega)
  have s10 : IntKind.i32.wrap ((p : Int) - 1) = (p : Int) - 1 := IntWalk.i32_in _ (by omega)
  have s11 : IntKind.i32.wrap (b - ((p : Int) - 1)) = b - ((p : Int) - 1) := IntWalk.i32_in _ (by omega)
  have s12 : ¬ e < b - ((p : Int) - 1) := by omega
  have qn : ((q : Int) == -1) = false := by simp
  have t1 : ¬ 100000 < e := by omega
  have t2 : ¬ e < -100000 := by omega
  have b32 : bits .or .u32 32 32 = 32 := by kernel_rfl
  have e64 : IntKind.i64.wrap e = e := IntWalk.i64_in _ (by omega)
  have ki := inex32_c
  replace ki := Lib.hid ki
  replace kz := Lib.hid kz
  replace hend := Lib.hid hend
  replace hq := Lib.hid hq
  replace h0 := Lib.hid h0
  clear h hd hc hctx
  go_enter Tryz.func77, Tryz.ntmps77
  go_wp2
  go_loop [11, 23] (fun v i => ∃ k : Nat, k ≤ 1 ∧ v = .int .i64 (if k = 0 then 0 else e) ∧ i = .int .i64 (k : Int)) (fun _ i => 1 - (intOf i).toNat)
  case atStart => exact ⟨0, by omega, rfl, rfl⟩
  case round =>
    obtain ⟨k, hk, rfl, rfl⟩ := hrel
    rcases (by omega : k = 0 ∨ k = 1) with rfl | rfl
    · rw [if_pos rfl]
      go_wp2
      go_round
      case rel => exact ⟨1, by omega, by simp, by go_num⟩
      case measure => simp [intOf]
    · rw [if_neg (by omega)]
      clear hs
      go_upto_region 21 with (fail)
      go_wp2_with fail
      with_reducible refine kz.out.mono ?_
      rintro E w' ⟨rfl, hw⟩
      obtain rfl := hw
      go_wp2_with fail
      go_quiet (fail)
      go_wp2_with fail
      with_reducible refine (ki.out _).mono ?_
      rintro E w' ⟨rfl, hw⟩
      obtain rfl := hw
      go_wp2
      go_ret
      exact ⟨rfl, by first | exact hend.out.drewN _ | exact (hend.out.drewN _).drewN _⟩
set_option maxRecDepth 20000 in
set_option maxHeartbeats 4000000 in
theorem setSub1_c {w0 w : World} {σ : Sg} (h : Hold w0 w σ) {d c s p cap k m : Nat} {a b e e0 : Int} {n : Bool} {N : Nat} (hd : σ d = some (dec 0 n e0 false N)) (hc : σ c = some (ctxO p a b (modeS m))) (hN : nbits N < 1100) (h0 : N ≠ 0) (hp : 1 ≤ p ∧ p ≤ 1000)
    (he : -3000 ≤ e ∧ e ≤ 3000) (hs : w.cell? ⟨s, 0, none⟩ = some (.int .i64 e)) (hb : -200000 ≤ b ∧ b ≤ 200000) (hlo : e + (figs N : Int) - 1 < b) (hk : b - ((p : Int) - 1) - e = (k : Int)) (hk1 : 1 ≤ k) (hk4 : k ≤ 400) (hm : m < 8) (_hcap : 1 ≤ cap ∧ cap ≤ 100) :
    Calls Tryz.prog 77 #[.pointer (some ⟨d, 0, none⟩), .pointer (some ⟨c, 0, none⟩), .int .i64 (figs N : Int), .int .u32 32, .slice (some ⟨s, 0, none⟩) 1 cap] w fun E w' => E = .returned (.int .u32 (subC (!decide (N % 10 ^ k = 0)) (decide (cutN false N k m = 0)) : Int)) ∧ Hold w0 w' (upd σ d (dec 0 n (b - ((p : Int) - 1)) false (cutN false N k m))) := by
  have hfN := figs_401 (N := N) (by omega)
  have hfp := figs_pos N
  obtain ⟨q, hq⟩ : ∃ q, figs N = q := ⟨_, rfl⟩
  rw [hq] at hlo hfN hfp ⊢
  have kz := isZeroH_c h hd
  rw [decide_eq_false h0] at kz
  have hctx := h.ctx hc
  have c0 := hctx.c0
  have c2 := hctx.c2
  have c4 := hctx.c4
  have s1 : IntKind.i32.wrap e = e := IntWalk.i32_in _ (by omega)
  have s2 : IntKind.i64.wrap (e + (q : Int)) = e + (q : Int) := IntWalk.i64_in _ (by omega)
  have s3 : IntKind.i64.wrap (e + (q : Int) - 1) = e + (q : Int) - 1 := IntWalk.i64_in _ (by omega)
  have s4 : IntKind.i32.wrap (e + (q : Int) - 1) = e + (q : Int) - 1 := IntWalk.i32_in _ (by omega)
  have s5 : ¬ 100000 < e + (q : Int) - 1 := by omega
  have s6 : ¬ e + (q : Int) - 1 < -100000 := by omega
  have s9 : IntKind.i32.wrap (p : Int) = (p : Int) := IntWalk.i32_in _ (by omega)
  have s10 : IntKind.i32.wrap ((p : Int) - 1) = (p : Int) - 1 := IntWalk.i32_in _ (by omega)
  have s11 : IntKind.i32.wrap (b - ((p : Int) - 1)) = b - ((p : Int) - 1) := IntWalk.i32_in _ (by omega)
  have s12 : e < b - ((p : Int) - 1) := by omega
  have s13 : e - (b - ((p : Int) - 1)) = -(k : Int) := by omega
  have s14 : IntKind.i32.wrap (-(k : Int)) = -(k : Int) := IntWalk.i32_in _ (by omega)
  have qn : ((q : Int) == -1) = false := by simp
  have t1 : ¬ 100000 < e := by omega
  have t2 : ¬ e < -100000 := by omega
  have b32 : bits .or .u32 32 32 = 32 := by kernel_rfl
  have e64 : IntKind.i64.wrap e = e := IntWalk.i64_in _ (by omega)
  replace kz := Lib.hid kz
  replace h := Lib.hid h
  replace hd := Lib.hid hd
  replace hc := Lib.hid hc
  replace hq := Lib.hid hq
  replace h0 := Lib.hid h0
  clear hctx
  go_enter Tryz.func77, Tryz.ntmps77
  go_wp2
  go_loop [11, 23] (fun v i => ∃ u : Nat, u ≤ 1 ∧ v = .int .i64 (if u = 0 then 0 else e) ∧ i = .int .i64 (u : Int)) (fun _ i => 1 - (intOf i).toNat)
  case atStart => exact ⟨0, by omega, rfl, rfl⟩
  case round =>
    obtain ⟨u, hu, rfl, rfl⟩ := hrel
    rcases (by omega : u = 0 ∨ u = 1) with rfl | rfl
    · rw [if_pos rfl]
      go_wp2
      go_round
      case rel => exact ⟨1, by omega, by simp, by go_num⟩
      case measure => simp [intOf]
    · rw [if_neg (by omega)]
      clear hs
      go_upto_region 21 with (fail)
      go_wp2_with fail
      with_reducible refine kz.out.mono ?_
      rintro E w' ⟨rfl, hw⟩
      obtain rfl := hw
      go_wp2_with fail
      go_quiet (fail)
      have h1 := h.out.drewN nq
      generalize w.drewN nq = w1 at h1 ⊢
      clear kz c0 c2 h
      have hfT := h1.fresh (k := w1.heap.size) (Nat.le_refl _)
      have h2 := h1.newDec 0 0 false
      obtain ⟨T, hT⟩ : ∃ T, w1.heap.size = T := ⟨_, rfl⟩
      rw [hT] at h2 hfT
      have hdT : d ≠ T := by rintro rfl; have := hd.out; rw [hfT] at this; cases this
      have kset := bigSetH_c h2 (bnum_dec (upd_eq _ _ _)) (bnum_dec (b := d) (by rw [upd_ne _ _ hdT]; exact hd.out)) (bits_words (by omega))
      rw [put_dec (upd_eq _ _ _), upd_upd] at kset
      replace kset := Lib.hid kset
      replace hT := Lib.hid hT
      replace hfT := Lib.hid hfT
      clear h1 h2
      go_wp2_with fail
      rw [hT.out]
      with_reducible refine kset.out.mono ?_
      rintro E w3 ⟨rfl, h3⟩
      have f2 := h3.fz (upd_eq _ _ _) 2
      have d2 := h3.c2 (upd_eq _ _ _)
      have h4 := h3.setExp (upd_eq _ _ _) (-(k : Int))
      rw [upd_upd] at h4
      replace h4 := Lib.hid h4
      clear h3 kset
      go_upto_region 28 with (fail)
      clear f2 d2
      have h4 := h4.out
      generalize w3.setCell ⟨T, 2, none⟩ (.int .i32 (-(k : Int))) = w4 at h4 ⊢
      have hfI := h4.fresh (k := w4.heap.size) (Nat.le_refl _)
      have hfF := h4.fresh (k := w4.heap.size + 1) (by omega)
      have h5 := (h4.newDec 0 0 false).newDec 0 0 false
      simp only [World.size_alloc] at h5
      have hd4 : upd σ T (dec 0 false (-(k : Int)) false N) d = some (dec 0 n e0 false N) := by rw [upd_ne _ _ hdT]; exact hd.out
      have hc4 : upd σ T (dec 0 false (-(k : Int)) false N) c = some (ctxO p a b (modeS m)) := by
        rw [upd_ne _ _ (by rintro rfl; have := hc.out; rw [hfT.out] at this; cases this)]; exact hc.out
      have hT4 := upd_eq σ T (dec 0 false (-(k : Int)) false N)
      have hle4 : Le σ (upd σ T (dec 0 false (-(k : Int)) false N)) := Le.skip hfT.out (Le.refl _)
      generalize upd σ T (dec 0 false (-(k : Int)) false N) = σ4 at h4 h5 hfI hfF hd4 hc4 hT4 hle4
      obtain ⟨I, hI⟩ : ∃ I, w4.heap.size = I := ⟨_, rfl⟩
      rw [hI] at h5 hfI hfF
      have hTI : T ≠ I := by rintro rfl; rw [hfI] at hT4; cases hT4
      have hTF : T ≠ I + 1 := by rintro rfl; rw [hfF] at hT4; cases hT4
      have hdI : d ≠ I := by rintro rfl; rw [hfI] at hd4; cases hd4
      have hdF : d ≠ I + 1 := by rintro rfl; rw [hfF] at hd4; cases hd4
      have kmod := modfC_c (x := T) (i := I) (f := I + 1) (k := k) h5 (by rw [upd_ne _ _ hTF, upd_ne _ _ hTI]; exact hT4) (by rw [upd_ne _ _ (by omega), upd_eq]) (upd_eq _ _ _) hTI hTF (by omega) hN (by omega) hk4
      rw [upd_swap _ _ _ (show I + 1 ≠ I by omega), upd_upd, upd_upd] at kmod
      have aI : upd (upd σ4 I (dec 0 false 0 false (N / 10 ^ k))) (I + 1) (dec 0 false (-(k : Int)) false (N % 10 ^ k)) I = some (dec 0 false 0 false (N / 10 ^ k)) := by rw [upd_ne _ _ (by omega), upd_eq]
      have aF := upd_eq (upd σ4 I (dec 0 false 0 false (N / 10 ^ k))) (I + 1) (dec 0 false (-(k : Int)) false (N % 10 ^ k))
      have hle6 : Le σ (upd (upd σ4 I (dec 0 false 0 false (N / 10 ^ k))) (I + 1) (dec 0 false (-(k : Int)) false (N % 10 ^ k))) := hle4.trans (Le.skip hfF (Le.skip hfI (Le.refl _)))
      generalize upd (upd σ4 I (dec 0 false 0 false (N / 10 ^ k))) (I + 1) (dec 0 false (-(k : Int)) false (N % 10 ^ k)) = σ6 at kmod aI aF hle6
      have hsI : σ I = none := Le.none hle4 hfI
      replace hsI := Lib.hid hsI
      replace kmod := Lib.hid kmod
      replace hI := Lib.hid hI
      replace aI := Lib.hid aI
      replace aF := Lib.hid aF
      replace hle6 := Lib.hid hle6
      clear h4 h5 hd4 hc4 hT4 hle4 hTI hTF hfI hfF hdT
      go_wp2_with fail
      rw [hI.out]
      with_reducible refine kmod.out.mono ?_
      rintro E w6 ⟨rfl, h6⟩
      have hRd : (digs (N % 10 ^ k)).length ≤ 1000 := Nat.le_trans (digs_len_mono (Nat.mod_le _ _)) (bits_words (by omega))
      have hAd : (digs (N / 10 ^ k)).length ≤ 250 := Nat.le_trans (digs_len_mono (Nat.div_le_self _ _)) (Nat.le_trans (bits_w (k := 18) (by omega)) (by omega))
      have hRb : nbits (N % 10 ^ k) < 1200 := Nat.lt_of_le_of_lt (nbits_mono (Nat.mod_le _ _)) (by omega)
      have kabs := decAbs_c (d := I + 1) (x := I + 1) h6 aF.out aF.out hRd
      rw [upd_self aF.out] at kabs
      replace kabs := Lib.hid kabs
      clear h6 kmod
      go_wp2_with fail
      with_reducible refine kabs.out.mono ?_
      rintro E w7 ⟨rfl, h7⟩
      have kz := isZeroH_c h7 aF.out
      obtain ⟨rz, hrz⟩ : ∃ rz, decide (N % 10 ^ k = 0) = rz := ⟨_, rfl⟩
      rw [hrz] at kz
      replace kz := Lib.hid kz
      replace hrz := Lib.hid hrz
      replace h7 := Lib.hid h7
      clear kabs
      go_wp2_with fail
      with_reducible refine kz.out.mono ?_
      rintro E w' ⟨rfl, hw⟩
      obtain rfl := hw
      go_upto_if 88 with (fail)
      obtain ⟨P, hP⟩ : ∃ P, modeS m = P := ⟨_, rfl⟩
      rw [hP] at hc c4
      replace hP := Lib.hid hP
      clear c4
      go_cut [3] (fun v wx => v = .int .u32 (subA (!rz) : Int) ∧ ∃ σ', Hold w0 wx σ' ∧ σ' I = some (dec 0 false 0 false (cutN false N k m)) ∧ Le σ σ')
      case first =>
        cases rz with
        | true =>
          have hR0 : N % 10 ^ k = 0 := of_decide_eq_true hrz.out
          have hC : cutN false N k m = N / 10 ^ k := by unfold cutN; rw [if_pos hR0]
          replace hC := Lib.hid hC
          replace hR0 := Lib.hid hR0
          go_wp2_with fail
          go_meet
          exact ⟨rfl, σ6, h7.out, by rw [hC.out]; exact aI.out, hle6.out⟩
        | false =>
          have hR0 : N % 10 ^ k ≠ 0 := of_decide_eq_false hrz.out
          obtain ⟨half, hhalf⟩ : ∃ half, ord3 (2 * (N % 10 ^ k)) (10 ^ k) = half := ⟨_, rfl⟩
          obtain ⟨aw, haw⟩ : ∃ aw, awayN false (N / 10 ^ k % 10) half m = aw := ⟨_, rfl⟩
          have hC : cutN false N k m = if aw = true then N / 10 ^ k + 1 else N / 10 ^ k := by unfold cutN; rw [if_neg hR0, hhalf, haw]
          have hcmpv : cmpD (N % 10 ^ k) (-(k : Int)) 5 (-1) = half := by
            rw [cmpD_up (by omega), ← hhalf, ← ord3_half hk1, show (-1 - -(k : Int)).toNat = k - 1 by omega]; rfl
          have b48 : bits .or .u32 32 16 = 48 := by kernel_rfl
          have hS0 : w7.drew.cell? ⟨c, 4, none⟩ = some (.string P) ∧ w7.drew.cell? ⟨I, 1, none⟩ = some (.bool false) := ⟨(h7.out.ctx (hle6.out _ _ hc.out)).c4, h7.out.c1 aI.out⟩
          have kh := decHalf_c h7.out.drew
          have hfr := fun j (hj : w7.heap.size ≤ j) => h7.out.fresh hj
          replace kh := Lib.hid kh
          replace hfr := Lib.hid hfr
          replace hR0 := Lib.hid hR0
          replace hhalf := Lib.hid hhalf
          replace hcmpv := Lib.hid hcmpv
          replace haw := Lib.hid haw
          replace hC := Lib.hid hC
          go_wp2_with fail
          go_region_held3 (fun w' => w'.cell? ⟨c, 4, none⟩ = some (.string P) ∧ w'.cell? ⟨I, 1, none⟩ = some (.bool false)) (first | exact hS0 | exact hS1 | exact hS2 | exact hS3) (first
            | (go_at_call 114
               with_reducible refine kh.out.mono ?_
               rintro E w8 ⟨H, rfl, hH, h8⟩
               have hH6 : σ6 H = none := hfr.out H hH
               have hle8 : Le σ6 (upd σ6 H (dec 0 false (-1) false 5)) := Le.skip hH6 (Le.refl _)
               have hS1 : w8.cell? ⟨c, 4, none⟩ = some (.string P) ∧ w8.cell? ⟨I, 1, none⟩ = some (.bool false) := ⟨(h8.ctx (hle8 _ _ (hle6.out _ _ hc.out))).c4, h8.c1 (hle8 _ _ aI.out)⟩
               have hFH : I + 1 ≠ H := by rintro rfl; have := aF.out; rw [hH6] at this; cases this
               have kc := decCmp_c h8 (hle8 _ _ aF.out) (upd_eq _ _ _) hFH hR0.out (by omega) hRb (by decide +kernel) (by omega) (by omega)
               rw [hcmpv.out] at kc
               replace kc := Lib.hid kc
               replace hle8 := Lib.hid hle8
               clear h8 hH hFH hH6)
            | (go_at_call 113
               with_reducible refine kc.out.mono ?_
               rintro E w9 ⟨rfl, h9⟩
               have hS2 : w9.cell? ⟨c, 4, none⟩ = some (.string P) ∧ w9.cell? ⟨I, 1, none⟩ = some (.bool false) := ⟨(h9.ctx (hle8.out _ _ (hle6.out _ _ hc.out))).c4, h9.c1 (hle8.out _ _ aI.out)⟩
               have kS := shouldAdd_c h9 (bnum_dec (hle8.out _ _ aI.out)) hAd false half m hm
               rw [haw.out, hP.out] at kS
               replace kS := Lib.hid kS
               clear h9)
            | (go_at_call 112
               with_reducible refine kS.out.mono ?_
               rintro E w10 ⟨rfl, h10⟩
               have h11 := h10.le hle8.out
               have hS3 : w10.cell? ⟨c, 4, none⟩ = some (.string P) ∧ w10.cell? ⟨I, 1, none⟩ = some (.bool false) := ⟨(h11.ctx (hle6.out _ _ hc.out)).c4, h11.c1 aI.out⟩
               replace h11 := Lib.hid h11
               clear h10))
          clear hS0 hS1 hS2 hS3 kh kc kS hfr
          cases aw with
          | false =>
            have hC1 := hC.out
            rw [if_neg (by decide)] at hC1
            replace hC1 := Lib.hid hC1
            clear hC
            go_wp2_with fail
            go_meet
            exact ⟨rfl, σ6, h11.out, by rw [hC1.out]; exact aI.out, hle6.out⟩
          | true =>
            have hC1 := hC.out
            rw [if_pos rfl] at hC1
            replace hC1 := Lib.hid hC1
            have ko := bigOne_c h11.out
            have hfr := fun j (hj : w10.heap.size ≤ j) => h11.out.fresh hj
            replace ko := Lib.hid ko
            replace hfr := Lib.hid hfr
            clear hC
            go_wp2_with fail
            with_reducible refine ko.out.mono ?_
            rintro E w11 ⟨o, rfl, ho, h12⟩
            have ho6 : σ6 o = none := hfr.out o ho
            have hIo : I ≠ o := by rintro rfl; have := aI.out; rw [ho6] at this; cases this
            have aI2 : upd σ6 o (big false 1) I = some (dec 0 false 0 false (N / 10 ^ k)) := by rw [upd_ne _ _ hIo]; exact aI.out
            have ka := bigAdd_c h12 (bnum_dec aI2) (num_dec aI2) (num_big (upd_eq _ _ _)) (by omega) (by rw [digs_word (by rw [WB_eq]; omega) (by omega)]; exact Nat.le_of_ble_eq_true rfl)
            rw [put_dec aI2] at ka
            have hlo : Le σ (upd (upd σ6 o (big false 1)) I (dec 0 false 0 false (N / 10 ^ k + 1))) := Le.skip hsI.out (Le.skip (Le.none hle6.out ho6) hle6.out)
            replace ka := Lib.hid ka
            replace hlo := Lib.hid hlo
            clear h12 ho hIo ho6 aI2
            go_wp2_with fail
            with_reducible refine ka.out.mono ?_
            rintro E w12 ⟨rfl, h13⟩
            replace h13 := Lib.hid h13
            go_wp2_with fail
            go_meet
            exact ⟨rfl, _, h13.out, by rw [hC1.out]; exact upd_eq _ _ _, hlo.out⟩
      case rest =>
        obtain ⟨rfl, σ', h8, aC, hle⟩ := hcut
        have hC1 := (cutN_le false N k m).2
        have hCb : nbits (cutN false N k m) < 1150 := by
          have h1 := nbits_succ N
          have h2 := Nat.div_le_self N (10 ^ k)
          exact Nat.lt_of_le_of_lt (nbits_mono (b := N + 1) (by omega)) (by omega)
        obtain ⟨C, hCe⟩ : ∃ C, cutN false N k m = C := ⟨_, rfl⟩
        rw [hCe] at aC hCb
        have kz3 := isZeroH_c h8 aC
        obtain ⟨z, hz⟩ : ∃ z, decide (C = 0) = z := ⟨_, rfl⟩
        rw [hz] at kz3
        have kset := bigSetH_c h8 (bnum_dec (hle _ _ hd.out)) (bnum_dec aC) (bits_words (by omega))
        rw [put_dec (hle _ _ hd.out)] at kset
        replace kz3 := Lib.hid kz3
        replace kset := Lib.hid kset
        replace hCe := Lib.hid hCe
        replace hz := Lib.hid hz
        clear h8 aC hC1 kz h7
        cases rz with
        | true =>
          cases z with
          | true =>
            have b1 : bits .or .u32 32 2048 = 2080 := by kernel_rfl
            have b2 : bits .or .u32 2080 64 = 2144 := by kernel_rfl
            have ki := fun w => inexS_c w false true
            rw [show ((subB false true : Nat) : Int) = 2144 from rfl] at ki
            replace ki := Lib.hid ki
            rw [show ((subA (!true) : Nat) : Int) = 32 from rfl]
            have hfin : ((subC (!true) true : Nat) : Int) = 2144 := rfl
            go_wp2_with fail
            with_reducible refine kz3.out.mono ?_
            rintro E w' ⟨rfl, hw⟩
            obtain rfl := hw
            go_wp2_with fail
            with_reducible refine kset.out.mono ?_
            rintro E w9 ⟨rfl, h9⟩
            have d2 := h9.c2 (upd_eq _ _ _)
            have f2 := h9.fz (upd_eq _ _ _) 2
            have h10 := h9.setExp (upd_eq _ _ _) (b - ((p : Int) - 1))
            rw [upd_upd] at h10
            have h10 := h10.le (Le.both hle)
            replace h10 := Lib.hid h10
            clear h9
            go_wp2_with fail
            with_reducible refine (ki.out _).mono ?_
            rintro E w' ⟨rfl, hw⟩
            obtain rfl := hw
            go_wp2
            go_ret
            rw [hrz.out, hCe.out, hz.out]
            exact ⟨ret_i hfin.symm, h10.out⟩
          | false =>
            have b2 : bits .or .u32 32 64 = 96 := by kernel_rfl
            have ki := fun w => inexS_c w false false
            rw [show ((subB false false : Nat) : Int) = 96 from rfl] at ki
            replace ki := Lib.hid ki
            rw [show ((subA (!true) : Nat) : Int) = 32 from rfl]
            have hfin : ((subC (!true) false : Nat) : Int) = 96 := rfl
            go_wp2_with fail
            with_reducible refine kz3.out.mono ?_
            rintro E w' ⟨rfl, hw⟩
            obtain rfl := hw
            go_wp2_with fail
            with_reducible refine kset.out.mono ?_
            rintro E w9 ⟨rfl, h9⟩
            have d2 := h9.c2 (upd_eq _ _ _)
            have f2 := h9.fz (upd_eq _ _ _) 2
            have h10 := h9.setExp (upd_eq _ _ _) (b - ((p : Int) - 1))
            rw [upd_upd] at h10
            have h10 := h10.le (Le.both hle)
            replace h10 := Lib.hid h10
            clear h9
            go_wp2_with fail
            with_reducible refine (ki.out _).mono ?_
            rintro E w' ⟨rfl, hw⟩
            obtain rfl := hw
            go_wp2
            go_ret
            rw [hrz.out, hCe.out, hz.out]
            exact ⟨ret_i hfin.symm, h10.out⟩
        | false =>
          cases z with
          | true =>
            have b1 : bits .or .u32 48 2048 = 2096 := by kernel_rfl
            have b2 : bits .or .u32 2096 64 = 2160 := by kernel_rfl
            have b3 : bits .or .u32 2160 8 = 2168 := by kernel_rfl
            have ki := fun w => inexS_c w true true
            rw [show ((subB true true : Nat) : Int) = 2160 from rfl] at ki
            replace ki := Lib.hid ki
            have ku := fun w => subS_c w true
            rw [show ((subB true true : Nat) : Int) = 2160 from rfl] at ku
            replace ku := Lib.hid ku
            rw [show ((subA (!false) : Nat) : Int) = 48 from rfl]
            have hfin : ((subC (!false) true : Nat) : Int) = 2168 := rfl
            go_wp2_with fail
            with_reducible refine kz3.out.mono ?_
            rintro E w' ⟨rfl, hw⟩
            obtain rfl := hw
            go_wp2_with fail
            with_reducible refine kset.out.mono ?_
            rintro E w9 ⟨rfl, h9⟩
            have d2 := h9.c2 (upd_eq _ _ _)
            have f2 := h9.fz (upd_eq _ _ _) 2
            have h10 := h9.setExp (upd_eq _ _ _) (b - ((p : Int) - 1))
            rw [upd_upd] at h10
            have h10 := h10.le (Le.both hle)
            replace h10 := Lib.hid h10
            clear h9
            go_wp2_with fail
            with_reducible refine (ki.out _).mono ?_
            rintro E w' ⟨rfl, hw⟩
            obtain rfl := hw
            go_wp2_with fail
            with_reducible refine (ku.out _).mono ?_
            rintro E w' ⟨rfl, hw⟩
            obtain rfl := hw
            go_wp2
            go_ret
            rw [hrz.out, hCe.out, hz.out]
            exact ⟨ret_i hfin.symm, h10.out⟩
          | false =>
            have b2 : bits .or .u32 48 64 = 112 := by kernel_rfl
            have b3 : bits .or .u32 112 8 = 120 := by kernel_rfl
            have ki := fun w => inexS_c w true false
            rw [show ((subB true false : Nat) : Int) = 112 from rfl] at ki
            replace ki := Lib.hid ki
            have ku := fun w => subS_c w false
            rw [show ((subB true false : Nat) : Int) = 112 from rfl] at ku
            replace ku := Lib.hid ku
            rw [show ((subA (!false) : Nat) : Int) = 48 from rfl]
            have hfin : ((subC (!false) false : Nat) : Int) = 120 := rfl
            go_wp2_with fail
            with_reducible refine kz3.out.mono ?_
            rintro E w' ⟨rfl, hw⟩
            obtain rfl := hw
            go_wp2_with fail
            with_reducible refine kset.out.mono ?_
            rintro E w9 ⟨rfl, h9⟩
            have d2 := h9.c2 (upd_eq _ _ _)
            have f2 := h9.fz (upd_eq _ _ _) 2
            have h10 := h9.setExp (upd_eq _ _ _) (b - ((p : Int) - 1))
            rw [upd_upd] at h10
            have h10 := h10.le (Le.both hle)
            replace h10 := Lib.hid h10
            clear h9
            go_wp2_with fail
            with_reducible refine (ki.out _).mono ?_
            rintro E w' ⟨rfl, hw⟩
            obtain rfl := hw
            go_wp2_with fail
            with_reducible refine (ku.out _).mono ?_
            rintro E w' ⟨rfl, hw⟩
            obtain rfl := hw
            go_wp2
            go_ret
            rw [hrz.out, hCe.out, hz.out]
            exact ⟨ret_i hfin.symm, h10.out⟩
end Go.Proofs.YtgdpljjmnmapmaaGreatDoor
