/- Context.Quantize, RoundToIntegralExact, RoundToIntegralValue of finite decimals. -/
import Derived.Test.YtcoljeafgiemkaaGreatDoorU11
import Derived.Test.YtcoljeafgiemkaaGreatDoorC38
import Derived.Test.YtcoljeafgiemkaaGreatDoorC47
import Derived.Test.YtcoljeafgiemkaaGreatDoorC52
namespace Go.Proofs.YtcoljeafgiemkaaGreatDoor
open Go Go.RowKit

theorem calmOv_c (w : World) {r : Nat} (h : calm r) : Calls Tryz.prog 82 #[.int .u32 (r : Int)] w fun e w' => e = .returned (.bool false) ∧ w = w' := by
  rcases h with rfl | rfl | rfl | rfl
  all_goals
    go_enter Tryz.func82, Tryz.ntmps82
    go_wp2
    go_ret
    exact ⟨by kernel_rfl, rfl⟩
theorem calmUn_c (w : World) {r : Nat} (h : calm r) : Calls Tryz.prog 83 #[.int .u32 (r : Int)] w fun e w' => e = .returned (.bool false) ∧ w = w' := by
  rcases h with rfl | rfl | rfl | rfl
  all_goals
    go_enter Tryz.func83, Tryz.ntmps83
    go_wp2
    go_ret
    exact ⟨by kernel_rfl, rfl⟩
theorem etiny_c {w0 w : World} {σ : Sg} (h : Hold w0 w σ) {c p : Nat} {a b : Int} {M : ByteArray} (hc : σ c = some (ctxO p a b M)) (hp : p ≤ 1000) (hb : -2000000 ≤ b ∧ b ≤ 2000000) :
    Calls Tryz.prog 75 #[.pointer (some ⟨c, 0, none⟩)] w fun E w' => E = .returned (.int .i32 (b - (p : Int) + 1)) ∧ ∃ n, w' = w.drewN n := by
  have hx := h.ctx hc
  have c0 := hx.c0
  have c2 := hx.c2
  have e1 : IntKind.i32.wrap (p : Int) = (p : Int) := IntWalk.i32_in _ (by omega)
  have e2 : IntKind.i32.wrap (b - (p : Int)) = b - (p : Int) := IntWalk.i32_in _ (by omega)
  have e3 : IntKind.i32.wrap (b - (p : Int) + 1) = b - (p : Int) + 1 := IntWalk.i32_in _ (by omega)
  clear h hc hx
  go_enter Tryz.func75, Tryz.ntmps75
  go_upto_region 1 with (fail)
  go_quiet (fail)
  go_wp2
  go_ret
  exact ⟨rfl, by first | exact ⟨_, rfl⟩ | exact ⟨_, drewN_drewN _ _ _⟩⟩

/-- Quantized, if it then has not more figures than the precision; else no number. -/
def QzRes (w0 : World) (σ : Sg) (d : Nat) (n : Bool) (q : Int) (p R r : Nat) (E : Ending) (w' : World) : Prop :=
  (figs R ≤ p ∧ E = .returned (.tuple #[.int .u32 (r : Int), .nilIface]) ∧ Hold w0 w' (upd σ d (dec 0 n q false R))) ∨ (p < figs R ∧ E = .returned (.tuple #[.int .u32 ((1024 : Nat) : Int), .nilIface]) ∧ Hold w0 w' (upd σ d (dec 3 false 0 false 0)))
theorem qcase_bits {n : Bool} {N : Nat} {e q : Int} {m R r : Nat} (h : QCase n N e q m R r) (hN : nbits N ≤ 200) (he : -200 ≤ e ∧ e ≤ 100) (hq : -100 ≤ q ∧ q ≤ 100) : nbits R ≤ 1000 := by
  rcases h with ⟨h1, rfl, _⟩ | ⟨_, _, rfl, _⟩ | ⟨_, _, rfl, _⟩
  · exact Nat.le_trans (nbits_wide hN) (by omega)
  · decide +kernel
  · have h1 := (cutN_le n N (q - e).toNat m).2
    have h2 : N / 10 ^ (q - e).toNat ≤ N := Nat.div_le_self _ _
    have h3 := nbits_succ N
    exact Nat.le_trans (nbits_mono (show _ ≤ N + 1 by omega)) (by omega)
set_option maxRecDepth 20000 in
set_option maxHeartbeats 4000000 in
theorem cQuantize_c {w0 w : World} {σ : Sg} (h : Hold w0 w σ) {d x c p m R r : Nat} {e f' e' a b : Int} {n n' g' : Bool} {N N' : Nat} (hd : σ d = some (dec f' n' e' g' N')) (hx : σ x = some (dec 0 n e false N)) (hc : σ c = some (ctxO p a b (modeS m)))
    (hp : 1 ≤ p ∧ p ≤ 1000) (ha : 50000 ≤ a ∧ a ≤ 2000000) (hb : -2000000 ≤ b ∧ b ≤ -50000) (hm : m < 8) (hN : nbits N ≤ 200) (he : -100 ≤ e ∧ e ≤ 100) {q : Int} (hq : -100 ≤ q ∧ q ≤ 100) (hqc : QCase n N e q m R r) :
    Calls Tryz.prog 41 #[.pointer (some ⟨c, 0, none⟩), .pointer (some ⟨d, 0, none⟩), .pointer (some ⟨x, 0, none⟩), .int .i32 q] w (QzRes w0 σ d n q p R r) := by
  have kn := shouldNaN1_c w (.pointer (some ⟨c, 0, none⟩)) x 0 (h.c0 hx) (by omega)
  rw [show decide ((2 : Int) ≤ 0) = false from rfl] at kn
  have x0 := h.c0 hx
  have kt := etiny_c h hc (by omega) (by omega)
  have hcd : c ≠ d := by rintro rfl; rw [hc] at hd; cases hd
  have kz := fun n' => quantize_c (h.drewN n') hd hx hc ha hb hm hN (by omega) (by omega) hqc
  have hRb := qcase_bits hqc hN (by omega) hq
  have hcm := qcase_calm hqc
  have hcx : ∀ it, upd σ d it c = some (ctxO p a b (modeS m)) := fun it => by rw [upd_ne _ _ hcd]; exact hc
  have l1 : ¬ q < b - (p : Int) + 1 := by omega
  have l2 : ¬ a < q := by omega
  have ewp : IntKind.i64.wrap (p : Int) = (p : Int) := IntWalk.i64_in _ (by omega)
  have hor : bits .or .u32 (r : Int) 0 = (r : Int) := by rcases hcm with rfl | rfl | rfl | rfl <;> kernel_rfl
  unfold QzRes
  replace kn := Lib.hid kn
  replace kt := Lib.hid kt
  replace kz := Lib.hid kz
  replace hcx := Lib.hid hcx
  replace hqc := Lib.hid hqc
  clear h hd hx hc
  go_enter Tryz.func41, Tryz.ntmps41
  go_wp2_with fail
  with_reducible refine kn.out.mono ?_
  rintro E w' ⟨rfl, hw⟩
  obtain rfl := hw
  go_wp2_with fail
  with_reducible refine kt.out.mono ?_
  rintro E w' ⟨rfl, n0, hw⟩
  obtain rfl := hw
  clear x0 kn kt
  go_wp2_with fail
  with_reducible refine (kz.out _).mono ?_
  rintro E w2 ⟨rfl, h2⟩
  have kd := fun wx (hch : Chg w2 wx (fun _ => False)) => decDigits_c (h2.keep hch) (upd_eq _ _ _) (by omega)
  have hfc := Lib.hid (fun w' (hh : Hold w0 w' (upd σ d (dec 0 n q false R))) => hh.ctx (hcx.out _))
  have c0 := (hfc.out _ h2).c0
  have c1 := (hfc.out _ h2).c1
  replace kd := Lib.hid kd
  replace h2 := Lib.hid h2
  clear kz
  go_wp2_with fail
  with_reducible refine (kd.out _ (by exact ⟨rfl, rfl, rfl, Nat.le_refl _, fun _ _ _ => rfl⟩)).mono ?_
  rintro E w3 ⟨rfl, h3⟩
  clear c0 c1 kd h2
  have c0 := (hfc.out _ h3).c0
  have c1 := (hfc.out _ h3).c1
  by_cases hq1 : p < figs R
  · have l3 : (p : Int) < (figs R : Int) := by omega
    have kN := decNaNH_c h3
    replace kN := Lib.hid kN
    replace h3 := Lib.hid h3
    go_wp2_with fail
    with_reducible refine kN.out.mono ?_
    rintro E w6 ⟨k, rfl, hk, h7⟩
    have hfk := h3.out.fresh hk
    have hdk : d ≠ k := by rintro rfl; rw [upd_eq] at hfk; cases hfk
    have kS := decSet_c h7 (d := d) (by rw [upd_ne _ _ hdk]; exact upd_eq _ _ _) (upd_eq _ _ _) (by rw [digs_zero]; simp)
    have hsk : σ k = none := by rw [upd_ne _ _ (Ne.symm hdk)] at hfk; exact hfk
    have hle7 : Le (upd σ d (dec 3 false 0 false 0)) (upd (upd (upd σ d (dec 0 n q false R)) k (dec 3 false 0 false 0)) d (dec 3 false 0 false 0)) := by
      rw [upd_swap σ _ _ hdk, upd_upd]
      exact Le.both (Le.skip hsk (Le.refl _))
    replace kS := Lib.hid kS
    replace hle7 := Lib.hid hle7
    clear h7 hfk kN hk hsk c0 c1
    go_wp2_with fail
    with_reducible refine kS.out.mono ?_
    rintro E w7 ⟨rfl, h7'⟩
    have h7 := h7'.le hle7.out
    have ke := (show Calls Tryz.prog 78 #[.pointer (some ⟨c, 0, none⟩), .int .u32 1024] w7 _ from goError_c w7 c 1024 p a b (modeS m) (h7.ctx (hcx.out _)) (by omega) (by omega))
    replace h7 := Lib.hid h7
    replace ke := Lib.hid ke
    clear h7'
    go_wp2_with fail
    with_reducible refine ke.out.mono ?_
    rintro E w' ⟨rfl, hw⟩
    obtain rfl := hw
    go_wp2
    go_ret2
    exact .inr ⟨hq1, rfl, h7.out⟩
  · have l3 : ¬ (p : Int) < (figs R : Int) := by omega
    have kr := round_c h3 (upd_eq _ _ _) (upd_eq _ _ _) (hcx.out _) hp ha hb (by omega) hm (by omega)
    obtain ⟨g1, g2, g3⟩ := rnd_few (n := n) (N := R) (p := p) (m := m) (by omega)
    rw [upd_upd, g1, g2, g3, show q + ((0 : Nat) : Int) = q by omega] at kr
    replace kr := Lib.hid kr
    clear h3 g1 g2 g3
    go_wp2_with fail
    refine kr.out.mono ?_
    rintro E w4 ⟨rfl, h4⟩
    have kov := fun W => calmOv_c W hcm
    have kun := fun W => calmUn_c W hcm
    have ke := errH_c h4 (hcx.out _) hcm
    replace ke := Lib.hid ke
    replace kov := Lib.hid kov
    replace kun := Lib.hid kun
    replace h4 := Lib.hid h4
    clear kr c0 c1
    go_wp2_with fail
    with_reducible refine (kov.out _).mono ?_
    rintro E w' ⟨rfl, hw⟩
    obtain rfl := hw
    go_wp2_with fail
    with_reducible refine (kun.out _).mono ?_
    rintro E w' ⟨rfl, hw⟩
    obtain rfl := hw
    go_wp2_with fail
    with_reducible refine ke.out.mono ?_
    rintro E w' ⟨rfl, hw⟩
    obtain rfl := hw
    go_wp2
    go_ret2
    exact .inl ⟨by omega, rfl, h4.out⟩

/-- Nothing special about a finite decimal. -/
theorem intSp_c {w0 w : World} {σ : Sg} (h : Hold w0 w σ) {d x : Nat} {e : Int} {n : Bool} {N : Nat} (hx : σ x = some (dec 0 n e false N)) (cv : Value) :
    Calls Tryz.prog 90 #[cv, .pointer (some ⟨d, 0, none⟩), .pointer (some ⟨x, 0, none⟩)] w fun E w' => E = .returned (.tuple #[.bool false, .int .u32 0, .nilIface]) ∧ w = w' := by
  have kn := shouldNaN1_c w cv x 0 (h.c0 hx) (by omega)
  rw [show decide ((2 : Int) ≤ 0) = false from rfl] at kn
  have x0 := h.c0 hx
  replace kn := Lib.hid kn
  clear h hx
  go_enter Tryz.func90, Tryz.ntmps90
  go_wp2_with fail
  with_reducible refine kn.out.mono ?_
  rintro E w' ⟨rfl, hw⟩
  obtain rfl := hw
  go_wp2
  go_ret3
  exact ⟨rfl, rfl⟩
set_option maxRecDepth 20000 in
theorem toInt_c {w0 w : World} {σ : Sg} (h : Hold w0 w σ) {d x c p m R r : Nat} {e f' e' a b : Int} {n n' g' : Bool} {N N' : Nat} (hd : σ d = some (dec f' n' e' g' N')) (hx : σ x = some (dec 0 n e false N)) (hc : σ c = some (ctxO p a b (modeS m)))
    (ha : 50000 ≤ a ∧ a ≤ 2000000) (hb : -2000000 ≤ b ∧ b ≤ -50000) (hm : m < 8) (hN : nbits N ≤ 200) (he : -100 ≤ e ∧ e ≤ 100) (hqc : QCase n N e 0 m R r) :
    Calls Tryz.prog 91 #[.pointer (some ⟨c, 0, none⟩), .pointer (some ⟨d, 0, none⟩), .pointer (some ⟨x, 0, none⟩)] w fun E w' => E = .returned (.int .u32 (r : Int)) ∧ Hold w0 w' (upd σ d (dec 0 n 0 false R)) := by
  have kz := quantize_c h hd hx hc ha hb hm hN (by omega) (q := 0) (by omega) hqc
  replace kz := Lib.hid kz
  clear h hd hx hc hqc
  go_enter Tryz.func91, Tryz.ntmps91
  go_wp2_with fail
  with_reducible refine kz.out.mono ?_
  rintro E w2 ⟨rfl, h2⟩
  replace h2 := Lib.hid h2
  go_wp2
  go_ret
  exact ⟨rfl, h2.out⟩
set_option maxRecDepth 20000 in
theorem cExact_c {w0 w : World} {σ : Sg} (h : Hold w0 w σ) {d x c p m R r : Nat} {e f' e' a b : Int} {n n' g' : Bool} {N N' : Nat} (hd : σ d = some (dec f' n' e' g' N')) (hx : σ x = some (dec 0 n e false N)) (hc : σ c = some (ctxO p a b (modeS m)))
    (ha : 50000 ≤ a ∧ a ≤ 2000000) (hb : -2000000 ≤ b ∧ b ≤ -50000) (hm : m < 8) (hN : nbits N ≤ 200) (he : -100 ≤ e ∧ e ≤ 100) (hqc : QCase n N e 0 m R r) :
    Calls Tryz.prog 52 #[.pointer (some ⟨c, 0, none⟩), .pointer (some ⟨d, 0, none⟩), .pointer (some ⟨x, 0, none⟩)] w fun E w' => E = .returned (.tuple #[.int .u32 (r : Int), .nilIface]) ∧ Hold w0 w' (upd σ d (dec 0 n 0 false R)) := by
  have ks := intSp_c h (d := d) hx (.pointer (some ⟨c, 0, none⟩))
  have kz := toInt_c h hd hx hc ha hb hm hN he hqc
  have hcm := qcase_calm hqc
  have hcd : c ≠ d := by rintro rfl; rw [hc] at hd; cases hd
  have ke := fun w1 (h1 : Hold w0 w1 (upd σ d (dec 0 n 0 false R))) => errH_c h1 (c := c) (by rw [upd_ne _ _ hcd]; exact hc) hcm
  replace ks := Lib.hid ks
  replace kz := Lib.hid kz
  replace ke := Lib.hid ke
  clear h hd hx hc hqc
  go_enter Tryz.func52, Tryz.ntmps52
  go_wp2_with fail
  with_reducible refine ks.out.mono ?_
  rintro E w' ⟨rfl, hw⟩
  obtain rfl := hw
  go_wp2_with fail
  with_reducible refine kz.out.mono ?_
  rintro E w2 ⟨rfl, h2⟩
  have ke := ke.out _ h2
  replace ke := Lib.hid ke
  replace h2 := Lib.hid h2
  go_wp2_with fail
  with_reducible refine ke.out.mono ?_
  rintro E w' ⟨rfl, hw⟩
  obtain rfl := hw
  go_wp2
  go_ret2
  exact ⟨rfl, h2.out⟩
set_option maxRecDepth 20000 in
theorem cValue_c {w0 w : World} {σ : Sg} (h : Hold w0 w σ) {d x c p m R r : Nat} {e f' e' a b : Int} {n n' g' : Bool} {N N' : Nat} (hd : σ d = some (dec f' n' e' g' N')) (hx : σ x = some (dec 0 n e false N)) (hc : σ c = some (ctxO p a b (modeS m)))
    (ha : 50000 ≤ a ∧ a ≤ 2000000) (hb : -2000000 ≤ b ∧ b ≤ -50000) (hm : m < 8) (hN : nbits N ≤ 200) (he : -100 ≤ e ∧ e ≤ 100) (hqc : QCase n N e 0 m R r) :
    Calls Tryz.prog 53 #[.pointer (some ⟨c, 0, none⟩), .pointer (some ⟨d, 0, none⟩), .pointer (some ⟨x, 0, none⟩)] w fun E w' => E = .returned (.tuple #[.int .u32 ((0 : Nat) : Int), .nilIface]) ∧ Hold w0 w' (upd σ d (dec 0 n 0 false R)) := by
  have ks := intSp_c h (d := d) hx (.pointer (some ⟨c, 0, none⟩))
  have kz := toInt_c h hd hx hc ha hb hm hN he hqc
  have hcm := qcase_calm hqc
  have hcd : c ≠ d := by rintro rfl; rw [hc] at hd; cases hd
  have ke := fun w1 (h1 : Hold w0 w1 (upd σ d (dec 0 n 0 false R))) => errH_c h1 (c := c) (by rw [upd_ne _ _ hcd]; exact hc) (r := 0) (.inl rfl)
  have han : bits .and .u32 (r : Int) 4294967215 = 0 := by rcases hcm with rfl | rfl | rfl | rfl <;> kernel_rfl
  have han2 : bits .andNot .u32 (r : Int) 80 = 0 := by rcases hcm with rfl | rfl | rfl | rfl <;> kernel_rfl
  replace ks := Lib.hid ks
  replace kz := Lib.hid kz
  replace ke := Lib.hid ke
  clear h hd hx hc hqc
  go_enter Tryz.func53, Tryz.ntmps53
  go_wp2_with fail
  with_reducible refine ks.out.mono ?_
  rintro E w' ⟨rfl, hw⟩
  obtain rfl := hw
  go_wp2_with fail
  with_reducible refine kz.out.mono ?_
  rintro E w2 ⟨rfl, h2⟩
  have ke := ke.out _ h2
  replace ke := Lib.hid ke
  replace h2 := Lib.hid h2
  go_wp2_with fail
  refine ke.out.mono ?_
  rintro E w' ⟨rfl, hw⟩
  obtain rfl := hw
  go_wp2
  go_ret2
  exact ⟨rfl, h2.out⟩
end Go.Proofs.YtcoljeafgiemkaaGreatDoor
