/- apd: QuoRem on what is held. Rounder.Round where figures are cut off. Context.round, Round, Abs, Neg. -/
import Derived.Test.YtonepclpllelfaaGreatDoorC27
import Derived.Test.YtonepclpllelfaaGreatDoorC29
import Derived.Test.YtonepclpllelfaaGreatDoorC32
namespace Go.Proofs.YtonepclpllelfaaGreatDoor
open Go Go.RowKit

set_option maxRecDepth 20000 in
theorem bigQuoRemG_c {w0 w : World} {σ : Sg} (h : Hold w0 w σ) {bz oz bx ox yb yo br ro : Nat} {gz : Bool} {Z X Y R : Nat} (hz : BNum σ bz oz gz Z) (hx : Num σ bx ox false X) (hy : Num σ yb yo false Y) (hr : BNum σ br ro false R) (hne : bz ≠ br) (hY0 : Y ≠ 0) (hX : (digs X).length ≤ 250) (hY : (digs Y).length < 40) :
    Calls Tryz.prog 85 #[.pointer (some ⟨bz, oz, none⟩), .pointer (some ⟨bx, ox, none⟩), .pointer (some ⟨yb, yo, none⟩), .pointer (some ⟨br, ro, none⟩)] w fun e w' =>
      e = .returned (.tuple #[.pointer (some ⟨bz, oz, none⟩), .pointer (some ⟨br, ro, none⟩)]) ∧ Hold w0 w' (put (put σ bz oz false (X / Y)) br ro false (X % Y)) := by
  obtain ⟨fm, cm, hm⟩ := h.bmin hz
  obtain ⟨fr, cr, hmr⟩ := hm.bmin hr
  obtain ⟨fr0, cr0, _⟩ := h.bmin hr
  have key := fun w2 (hc : Chg ((w.setCell ⟨bz, oz + 2, none⟩ (.bool false)).setCell ⟨br, ro + 2, none⟩ (.bool false)) w2 (fun _ => False)) => intQuoRemG_c (hmr.keep hc) hz.num hx hy hr.num hne hY0 hX hY
  replace key := Lib.hid key
  clear hz hx hy hr h hm hmr hY0 hX hY
  go_enter Tryz.func85, Tryz.ntmps85
  go_upto_region 3 with (fail)
  go_still_tail 12, (by kernel_rfl)
  change wpList _ _ _ _ _ (World.drew _)
  go_wp2_with fail
  with_reducible refine (key.out _ (by exact ⟨rfl, rfl, rfl, Nat.le_refl _, fun _ _ _ => rfl⟩)).mono ?_
  rintro e w1 ⟨rfl, h1⟩
  replace h1 := Lib.hid h1
  go_wp2
  go_ret2
  exact ⟨rfl, h1.out⟩

theorem bigQuoRem_c {w0 w : World} {σ : Sg} (h : Hold w0 w σ) {bz oz bx ox yb yo br ro : Nat} {Z X Y R : Nat} (hz : BNum σ bz oz false Z) (hx : Num σ bx ox false X) (hy : Num σ yb yo false Y) (hr : BNum σ br ro false R) (hne : bz ≠ br) (hY0 : Y ≠ 0) (hX : (digs X).length ≤ 250) (hY : (digs Y).length < 40) :
    Calls Tryz.prog 85 #[.pointer (some ⟨bz, oz, none⟩), .pointer (some ⟨bx, ox, none⟩), .pointer (some ⟨yb, yo, none⟩), .pointer (some ⟨br, ro, none⟩)] w fun e w' =>
      e = .returned (.tuple #[.pointer (some ⟨bz, oz, none⟩), .pointer (some ⟨br, ro, none⟩)]) ∧ Hold w0 w' (put (put σ bz oz false (X / Y)) br ro false (X % Y)) :=
  bigQuoRemG_c h hz hx hy hr hne hY0 hX hY
end Go.Proofs.YtonepclpllelfaaGreatDoor

namespace Go.Proofs.YtonepclpllelfaaGreatDoor
open Go Go.RowKit

theorem Le.none {τ σ : Sg} {k : Nat} (h : Le τ σ) (hk : σ k = Option.none) : τ k = Option.none := by
  cases hc : τ k with
  | none => rfl
  | some it => have := h _ _ hc; rw [hk] at this; cases this
theorem rnd_cut {n : Bool} {N p m : Nat} (hp : 1 ≤ p) (h : p < figs N) :
    (N % 10 ^ (figs N - p) = 0 ∧ rndN n N p m = N / 10 ^ (figs N - p) ∧ rndK n N p m = figs N - p ∧ rndC N p = 64) ∨
    (N % 10 ^ (figs N - p) ≠ 0 ∧ awayN n (N / 10 ^ (figs N - p) % 10) (ord3 (2 * (N % 10 ^ (figs N - p))) (10 ^ (figs N - p))) m = false ∧ rndN n N p m = N / 10 ^ (figs N - p) ∧ rndK n N p m = figs N - p ∧ rndC N p = 80) ∨
    (N % 10 ^ (figs N - p) ≠ 0 ∧ awayN n (N / 10 ^ (figs N - p) % 10) (ord3 (2 * (N % 10 ^ (figs N - p))) (10 ^ (figs N - p))) m = true ∧
      (figs (N / 10 ^ (figs N - p)) < figs (N / 10 ^ (figs N - p) + 1) ∧ rndN n N p m = (N / 10 ^ (figs N - p) + 1) / 10 ∧ rndK n N p m = figs N - p + 1 ∨
       ¬ figs (N / 10 ^ (figs N - p)) < figs (N / 10 ^ (figs N - p) + 1) ∧ rndN n N p m = N / 10 ^ (figs N - p) + 1 ∧ rndK n N p m = figs N - p) ∧ rndC N p = 80) := by
  have hN0 : N ≠ 0 := by rintro rfl; rw [figs_zero] at h; omega
  have hf : figs (N / 10 ^ (figs N - p)) = p := by rw [figs_div_pow (by omega) hN0]; omega
  rw [hf]
  unfold rndN rndK rndC inexN
  have hn : ¬ figs N ≤ p := by omega
  rw [if_neg hn, if_neg hn, if_neg hn]
  unfold cutN
  by_cases h0 : N % 10 ^ (figs N - p) = 0
  · left
    rw [if_pos h0, hf]
    simp [h0]
  · right
    rw [if_neg h0]
    cases ha : awayN n (N / 10 ^ (figs N - p) % 10) (ord3 (2 * (N % 10 ^ (figs N - p))) (10 ^ (figs N - p))) m with
    | false => left; simp [h0, hf]
    | true =>
      right
      by_cases hg : p < figs (N / 10 ^ (figs N - p) + 1)
      · simp [h0, hg]
      · simp [h0, hg]

set_option maxRecDepth 20000 in
set_option maxHeartbeats 2000000 in
theorem round_cutG {w0 w : World} {σ : Sg} (h : Hold w0 w σ) {d x c p m : Nat} {e f' e' a b : Int} {n n' g' : Bool} {N N' : Nat} (hd : σ d = some (dec f' n' e' g' N')) (hx : σ x = some (dec 0 n e false N)) (hc : σ c = some (ctxO p a b (modeS m)))
    (hp : 1 ≤ p ∧ p ≤ 1000) (hb : -2000000 ≤ b ∧ b ≤ 2000000) (hN : nbits N < 1100) (hm : m < 8) (he : -3000 ≤ e ∧ e ≤ 3000) (hq : p < figs N) (hlow : b ≤ e + (figs N : Int) - 1) {rz rr Nz : Nat} {fz ez : Int}
    (hor : bits .or .u32 (rndC N p : Int) (rz : Int) = (rr : Int) ∧ IntKind.u32.wrap (rr : Int) = (rr : Int))
    (hset : ∀ w1 (σ1 : Sg), Hold w0 w1 σ1 → σ1 d = some (dec 0 n e false (rndN n N p m)) → σ1 c = some (ctxO p a b (modeS m)) → Calls Tryz.prog 80 #[.pointer (some ⟨d, 0, none⟩), .pointer (some ⟨c, 0, none⟩), .int .i64 (-1), .int .u32 (rndC N p : Int), .slice (some ⟨w1.heap.size, 0, none⟩) 2 2] ((w1.alloc (.cells #[.int .i64 e, .int .i64 (rndK n N p m : Int)] 2 (0, 0))).drew) fun E w' => E = .returned (.int .u32 (rz : Int)) ∧ Hold w0 w' (upd σ1 d (dec fz n ez false Nz))) :
    Calls Tryz.prog 63 #[.string (modeS m), .pointer (some ⟨c, 0, none⟩), .pointer (some ⟨d, 0, none⟩), .pointer (some ⟨x, 0, none⟩), .bool true] w fun E w' => E = .returned (.int .u32 (rr : Int)) ∧ Hold w0 w' (upd σ d (dec fz n ez false Nz)) := by
  obtain ⟨ho1, ho2⟩ := hor
  have hcd : c ≠ d := by
    rintro rfl
    rw [hc] at hd; cases hd
  have ks := decSet_c h hd hx (bits_words (by omega))
  have hx1 : upd σ d (dec 0 n e false N) x = some (dec 0 n e false N) := by
    by_cases hxd : x = d
    · subst hxd; exact upd_eq _ _ _
    · rw [upd_ne _ _ hxd]; exact hx
  have hd1 := upd_eq σ d (dec 0 n e false N)
  have hc1 : upd σ d (dec 0 n e false N) c = some (ctxO p a b (modeS m)) := by rw [upd_ne _ _ hcd]; exact hc
  have hqp := figs_pos N
  have hN0 : N ≠ 0 := by rintro rfl; rw [figs_zero] at hq; omega
  have hend0 : ∀ it, upd (upd σ d (dec 0 n e false N)) d it = upd σ d it := fun _ => upd_upd _ _ _ _
  have hq401 := figs_401 (N := N) (by omega)
  obtain ⟨k, hk⟩ : ∃ k, k = figs N - p := ⟨_, rfl⟩
  have hways := rnd_cut (n := n) (m := m) hp.1 hq
  rw [← hk] at hways
  obtain ⟨N1, hN1⟩ : ∃ N1, rndN n N p m = N1 := ⟨_, rfl⟩
  obtain ⟨k1, hk1⟩ : ∃ k1, rndK n N p m = k1 := ⟨_, rfl⟩
  obtain ⟨r1, hr1⟩ : ∃ r1, rndC N p = r1 := ⟨_, rfl⟩
  rw [hN1, hk1, hr1] at hways
  rw [hN1, hk1, hr1] at hset
  rw [hr1] at ho1
  rw [← hend0 (dec fz n ez false Nz)]
  clear hend0 hN1 hk1 hr1
  generalize upd σ d (dec 0 n e false N) = τ at *
  obtain ⟨q, hqe⟩ : ∃ q, figs N = q := ⟨_, rfl⟩
  rw [hqe] at hq hqp hq401 hk hlow
  have kn := fun w2 (h2 : Hold w0 w2 τ) => decDigits_c h2 hx1 (by omega)
  have kg := fun w2 (h2 : Hold w0 w2 τ) => decSignH_c h2 hx1
  have hsg := sgD_ne (n := n) (N := N)
  rw [hqe] at kn
  obtain ⟨sg, hse⟩ : ∃ sg, sgD 0 n N = sg := ⟨_, rfl⟩
  rw [hse] at hsg kg
  rw [show (!decide (N = 0)) = true by simp [hN0]] at hsg
  obtain ⟨P, hP⟩ : ∃ P, modeS m = P := ⟨_, rfl⟩
  rw [hP] at hc1 hset ⊢
  replace hset := Lib.hid hset
  replace hP := Lib.hid hP
  replace hse := Lib.hid hse
  replace hqe := Lib.hid hqe
  replace ks := Lib.hid ks
  replace kn := Lib.hid kn
  replace kg := Lib.hid kg
  replace hx1 := Lib.hid hx1
  replace hd1 := Lib.hid hd1
  replace hc1 := Lib.hid hc1
  have e1 : IntKind.i64.wrap e = e := IntWalk.i64_in _ (by omega)
  have e2 : IntKind.i64.wrap (e + (q : Int)) = e + (q : Int) := IntWalk.i64_in _ (by omega)
  have e3 : IntKind.i64.wrap (e + (q : Int) - 1) = e + (q : Int) - 1 := IntWalk.i64_in _ (by omega)
  have e4 : IntKind.i64.wrap b = b := IntWalk.i64_in _ (by omega)
  have e5 : IntKind.i64.wrap (p : Int) = (p : Int) := IntWalk.i64_in _ (by omega)
  have e6 : IntKind.i64.wrap ((q : Int) - (p : Int)) = (q : Int) - (p : Int) := IntWalk.i64_in _ (by omega)
  have p0 : ((p : Int) == 0) = false := by simp; omega
  have l1 : decide (e + (q : Int) - 1 < b) = false := by simp; omega
  have e7 : (q : Int) - (p : Int) = (k : Int) := by omega
  rw [e7] at e6
  have b64 : bits .or .u32 0 64 = 64 := by kernel_rfl
  have b80 : bits .or .u32 64 16 = 80 := by kernel_rfl
  have l2 : 0 < (k : Int) := by omega
  have l3 : ¬ 100000 < (k : Int) := by omega
  have l4 : ¬ (k : Int) < -100000 := by omega
  have hk4 : k ≤ 400 ∧ 1 ≤ k := by omega
  replace hk := Lib.hid hk
  replace hways := Lib.hid hways
  clear h hd hx hc
  go_enter Tryz.func63, Tryz.ntmps63
  go_wp2_with fail
  with_reducible refine ks.out.mono ?_
  rintro E w1 ⟨rfl, h1⟩
  have kn := kn.out _ h1
  replace kn := Lib.hid kn
  clear h1
  go_wp2_with fail
  with_reducible refine kn.out.mono ?_
  rintro E w2 ⟨rfl, h2⟩
  have kg := kg.out _ h2
  replace kg := Lib.hid kg
  have x2 := h2.c2 hx1.out
  have d2 := h2.c2 hd1.out
  have hctx := h2.ctx hc1.out
  have c0 := hctx.c0
  have c2 := hctx.c2
  replace h2 := Lib.hid h2
  clear hctx
  go_wp2_with fail
  with_reducible refine kg.out.mono ?_
  rintro E w' ⟨rfl, hw⟩
  obtain rfl := hw
  go_upto_region 20 with (fail)
  have hfr := fun j (hj : w2.heap.size ≤ j) => h2.out.fresh hj
  have hfK := hfr _ (Nat.le_refl _)
  have hfK1 := hfr (w2.heap.size + 1) (by omega)
  have hfK2 := hfr (w2.heap.size + 1 + 1) (by omega)
  have h3 := ((h2.out.newRaw (.cells #[.int .i64 (k : Int)] 2 (0, 0))).newBig).newBig
  simp only [World.size_alloc] at h3
  clear h2 x2 d2 c0 c2 hfr kn kg
  obtain ⟨K, hK⟩ : ∃ K, w2.heap.size = K := ⟨_, rfl⟩
  rw [hK] at h3 hfK hfK1 hfK2 ⊢
  replace hK := Lib.hid hK
  generalize ((w2.alloc (.cells #[.int .i64 (k : Int)] 2 (0, 0))).alloc (.cells #[.bool false, .slice none 0 0, .bool false] 53 (0, 0))).alloc (.cells #[.bool false, .slice none 0 0, .bool false] 53 (0, 0)) = W at h3 ⊢
  change Hold w0 W (upd (upd (upd τ K (c64 (k : Int))) (K + 1) (big false 0)) (K + 1 + 1) (big false 0)) at h3
  have a0 : upd (upd (upd τ K (c64 (k : Int))) (K + 1) (big false 0)) (K + 1 + 1) (big false 0) K = some (c64 (k : Int)) := by rw [upd_ne _ _ (by omega), upd_ne _ _ (by omega), upd_eq]
  have a1 : upd (upd (upd τ K (c64 (k : Int))) (K + 1) (big false 0)) (K + 1 + 1) (big false 0) (K + 1) = some (big false 0) := by rw [upd_ne _ _ (by omega), upd_eq]
  have a2 : upd (upd (upd τ K (c64 (k : Int))) (K + 1) (big false 0)) (K + 1 + 1) (big false 0) (K + 1 + 1) = some (big false 0) := upd_eq _ _ _
  have hle : Le τ (upd (upd (upd τ K (c64 (k : Int))) (K + 1) (big false 0)) (K + 1 + 1) (big false 0)) := Le.skip hfK2 (Le.skip hfK1 (Le.skip hfK (Le.refl _)))
  generalize upd (upd (upd τ K (c64 (k : Int))) (K + 1) (big false 0)) (K + 1 + 1) (big false 0) = ρ at h3 a0 a1 a2 hle
  have t0 := (h3.c64At a0).1
  have kt := tableExp_c h3 (bnum_big a1) k hk4.1
  rw [put_big a1] at kt
  have a0' : upd ρ (K + 1) (big false (10 ^ k)) K = some (c64 (k : Int)) := by rw [upd_ne _ _ (by omega)]; exact a0
  have a1' := upd_eq ρ (K + 1) (big false (10 ^ k))
  have a2' : upd ρ (K + 1) (big false (10 ^ k)) (K + 1 + 1) = some (big false 0) := by rw [upd_ne _ _ (by omega)]; exact a2
  have hle' : Le τ (upd ρ (K + 1) (big false (10 ^ k))) := Le.skip hfK1 hle
  generalize upd ρ (K + 1) (big false (10 ^ k)) = ρ1 at kt a0' a1' a2' hle'
  replace kt := Lib.hid kt
  clear h3 a0 a1 a2 hle
  have hNd : (digs N).length ≤ 250 := Nat.le_trans (bits_w (k := 18) (by omega)) (by omega)
  have kq := fun w' (h' : Hold w0 w' ρ1) => bigQuoRem_c h' (bnum_big a1') (num_dec (hle' _ _ hd1.out)) (num_big a1') (bnum_big a2') (by omega) (Nat.ne_of_gt (ten_pos k)) hNd (ten_40 hk4.1)
  have b2 : upd ρ1 (K + 1) (big false (N / 10 ^ k)) (K + 1 + 1) = some (big false 0) := by rw [upd_ne _ _ (by omega)]; exact a2'
  rw [put_big a1', put_big b2] at kq
  have c0 : upd (upd ρ1 (K + 1) (big false (N / 10 ^ k))) (K + 1 + 1) (big false (N % 10 ^ k)) K = some (c64 (k : Int)) := by rw [upd_ne _ _ (by omega), upd_ne _ _ (by omega)]; exact a0'
  have c1 : upd (upd ρ1 (K + 1) (big false (N / 10 ^ k))) (K + 1 + 1) (big false (N % 10 ^ k)) (K + 1) = some (big false (N / 10 ^ k)) := by rw [upd_ne _ _ (by omega), upd_eq]
  have c2 : upd (upd ρ1 (K + 1) (big false (N / 10 ^ k))) (K + 1 + 1) (big false (N % 10 ^ k)) (K + 1 + 1) = some (big false (N % 10 ^ k)) := upd_eq _ _ _
  have hle2 : Le τ (upd (upd ρ1 (K + 1) (big false (N / 10 ^ k))) (K + 1 + 1) (big false (N % 10 ^ k))) := Le.skip hfK2 (Le.skip hfK1 hle')
  generalize upd (upd ρ1 (K + 1) (big false (N / 10 ^ k))) (K + 1 + 1) (big false (N % 10 ^ k)) = ρ2 at kq c0 c1 c2 hle2
  replace kq := Lib.hid kq
  clear a0' a1' a2' hle' b2
  replace hfK := Lib.hid hfK
  replace hfK1 := Lib.hid hfK1
  replace hfK2 := Lib.hid hfK2
  replace c0 := Lib.hid c0
  replace c1 := Lib.hid c1
  replace c2 := Lib.hid c2
  replace hle2 := Lib.hid hle2
  go_wp2_with fail
  with_reducible refine kt.out.mono ?_
  rintro E w3 ⟨rfl, h3⟩
  have kq := kq.out _ h3
  replace kq := Lib.hid kq
  clear h3 t0
  go_wp2_with fail
  with_reducible refine kq.out.mono ?_
  rintro E w4 ⟨rfl, h4⟩
  have ksg := bigSignH_c h4 (bnum_big c2.out)
  have hz : (sgN false (N % 10 ^ k) != 0) = !(N % 10 ^ k == 0) := by rw [← sgN_zero]; rfl
  obtain ⟨sr, hsr⟩ : ∃ sr, sgN false (N % 10 ^ k) = sr := ⟨_, rfl⟩
  rw [hsr] at ksg hz
  replace ksg := Lib.hid ksg
  replace hsr := Lib.hid hsr
  replace hz := Lib.hid hz
  replace h4 := Lib.hid h4
  clear kt
  go_wp2_with fail
  with_reducible refine ksg.out.mono ?_
  rintro E w' ⟨rfl, hw⟩
  obtain rfl := hw
  have hRd : (digs (N % 10 ^ k)).length ≤ 1000 := Nat.le_trans (digs_len_mono (Nat.mod_le _ _)) (by omega)
  have hAd : (digs (N / 10 ^ k)).length ≤ 250 := Nat.le_trans (digs_len_mono (Nat.div_le_self _ _)) hNd
  have hRb : nbits (N % 10 ^ k) < 1200 := Nat.lt_of_le_of_lt (nbits_mono (Nat.mod_le _ _)) (by omega)
  have hAb : nbits (N / 10 ^ k) < 1100 := Nat.lt_of_le_of_lt (nbits_mono (Nat.div_le_self _ _)) (by omega)
  go_upto_if 104 with (fail)
  go_cut [13] (fun v wx => v = .int .u32 (r1 : Int) ∧ ∃ σ', Hold w0 wx σ' ∧ σ' (K + 1) = some (big false N1) ∧ σ' K = some (c64 (k1 : Int)) ∧ Le τ σ')
  case first =>
    have hlast : (N % 10 ^ k = 0 ∧ N1 = N / 10 ^ k ∧ k1 = k ∧ r1 = 64) ∨ ∃ aw, N % 10 ^ k ≠ 0 ∧ awayN n (N / 10 ^ k % 10) (ord3 (2 * (N % 10 ^ k)) (10 ^ k)) m = aw ∧ r1 = 80 ∧ (aw = false → N1 = N / 10 ^ k ∧ k1 = k) ∧
        (aw = true → figs (N / 10 ^ k) < figs (N / 10 ^ k + 1) ∧ N1 = (N / 10 ^ k + 1) / 10 ∧ (k1 : Int) = (k : Int) + 1 ∨ ¬ figs (N / 10 ^ k) < figs (N / 10 ^ k + 1) ∧ N1 = N / 10 ^ k + 1 ∧ (k1 : Int) = (k : Int)) := by
      rcases hways.out with h | ⟨h0, h1, h2, h3, h4⟩ | ⟨h0, h1, h2, h4⟩
      · exact .inl h
      · exact .inr ⟨false, h0, h1, h4, fun _ => ⟨h2, h3⟩, fun h => (by cases h)⟩
      · refine .inr ⟨true, h0, h1, h4, fun h => (by cases h), fun _ => ?_⟩
        rcases h2 with ⟨a1, a2, a3⟩ | ⟨a1, a2, a3⟩
        · exact .inl ⟨a1, a2, by omega⟩
        · exact .inr ⟨a1, a2, by omega⟩
    rcases hlast with ⟨h0, hN1, hk1, hr1⟩ | ⟨aw, h0, haw, hr1, hno, hup⟩
    · have hz' : (sr != 0) = false := by rw [hz.out, h0]; rfl
      replace h0 := Lib.hid h0
      replace hN1 := Lib.hid hN1
      replace hk1 := Lib.hid hk1
      replace hr1 := Lib.hid hr1
      clear hz
      go_wp2_with fail
      go_meet
      exact ⟨by rw [hr1.out]; rfl, _, h4.out, by rw [hN1.out]; exact c1.out, by rw [hk1.out]; exact c0.out, hle2.out⟩
    · have hz' : (sr != 0) = true := by rw [hz.out]; simp [h0]
      have hfL := h4.out.fresh (k := w4.heap.size) (Nat.le_refl _)
      have h5 := h4.out.newDec 0 0 false
      obtain ⟨L, hL⟩ : ∃ L, w4.heap.size = L := ⟨_, rfl⟩
      rw [hL] at h5 hfL
      have hneK : K ≠ L := by rintro rfl; have := c0.out; rw [hfL] at this; cases this
      have hneK1 : K + 1 ≠ L := by rintro rfl; have := c1.out; rw [hfL] at this; cases this
      have hneK2 : K + 1 + 1 ≠ L := by rintro rfl; have := c2.out; rw [hfL] at this; cases this
      have kset := bigSetH_c h5 (bnum_dec (upd_eq _ _ _)) (bnum_big (b := K + 1 + 1) (by rw [upd_ne _ _ hneK2]; exact c2.out)) hRd
      rw [put_dec (upd_eq _ _ _), upd_upd] at kset
      have hτL : τ L = none := by
        cases hc : τ L with
        | none => rfl
        | some jt => have := hle2.out _ _ hc; rw [hfL] at this; cases this
      replace kset := Lib.hid kset
      replace hL := Lib.hid hL
      replace h0 := Lib.hid h0
      replace haw := Lib.hid haw
      replace hr1 := Lib.hid hr1
      replace hno := Lib.hid hno
      replace hup := Lib.hid hup
      replace hfL := Lib.hid hfL
      replace hτL := Lib.hid hτL
      clear hz h4 h5
      go_wp2_with fail
      rw [hL.out]
      with_reducible refine kset.out.mono ?_
      rintro E w5 ⟨rfl, h6⟩
      have t6 := (h6.c64At (b := K) (by rw [upd_ne _ _ hneK]; exact c0.out)).1
      have f6 := h6.fz (upd_eq _ _ _) 2
      have o6 := h6.c2 (upd_eq _ _ _)
      have h7 := h6.setExp (upd_eq _ _ _) (-(k : Int))
      rw [upd_upd] at h7
      have hL3 := upd_eq ρ2 L (dec 0 false (-(k : Int)) false (N % 10 ^ k))
      have d1 : upd ρ2 L (dec 0 false (-(k : Int)) false (N % 10 ^ k)) (K + 1) = some (big false (N / 10 ^ k)) := by rw [upd_ne _ _ hneK1]; exact c1.out
      have d0 : upd ρ2 L (dec 0 false (-(k : Int)) false (N % 10 ^ k)) K = some (c64 (k : Int)) := by rw [upd_ne _ _ hneK]; exact c0.out
      have hle3 : Le τ (upd ρ2 L (dec 0 false (-(k : Int)) false (N % 10 ^ k))) := Le.skip hτL.out hle2.out
      generalize upd ρ2 L (dec 0 false (-(k : Int)) false (N % 10 ^ k)) = ρ3 at h7 hL3 d1 d0 hle3
      have n1 : IntKind.i64.wrap (-(k : Int)) = -(k : Int) := IntWalk.i64_in _ (by omega)
      have n2 : IntKind.i32.wrap (-(k : Int)) = -(k : Int) := IntWalk.i32_in _ (by omega)
      clear h6 c0 c1 c2 hle2
      replace h7 := Lib.hid h7
      replace hL3 := Lib.hid hL3
      replace d1 := Lib.hid d1
      replace d0 := Lib.hid d0
      replace hle3 := Lib.hid hle3
      go_upto_region 27 with (fail)
      generalize w5.setCell ⟨L, 2, none⟩ (.int .i32 (-(k : Int))) = W5 at h7 ⊢
      clear t6 f6 o6
      obtain ⟨half, hhalf⟩ : ∃ half, ord3 (2 * (N % 10 ^ k)) (10 ^ k) = half := ⟨_, rfl⟩
      have haw := haw.out
      rw [hhalf] at haw
      have hcmpv : cmpD (N % 10 ^ k) (-(k : Int)) 5 (-1) = half := by
        rw [cmpD_up (by omega), ← hhalf, ← ord3_half hk4.2, show (-1 - -(k : Int)).toNat = k - 1 by omega]; rfl
      have x1 := h7.out.c1 (hle3.out _ _ hx1.out)
      have kh := fun w' (hc : Chg W5 w' (fun _ => False)) => decHalf_c (h7.out.keep hc)
      have hfr5 := fun w' (hc : Chg W5 w' (fun _ => False)) j (hj : w'.heap.size ≤ j) => (h7.out.keep hc).fresh hj
      have kc : ∀ w' H, ρ3 H = none → Hold w0 w' (upd ρ3 H (dec 0 false (-1) false 5)) → Calls Tryz.prog 90 #[.pointer (some ⟨L, 0, none⟩), .pointer (some ⟨H, 0, none⟩)] w' fun E w'' => E = .returned (.int .i64 half) ∧ Hold w0 w'' (upd ρ3 H (dec 0 false (-1) false 5)) := fun w' H hH h' => by
        have hLH : L ≠ H := by rintro rfl; have := hL3.out; rw [hH] at this; cases this
        rw [← hcmpv]
        exact decCmp_c h' (by rw [upd_ne _ _ hLH]; exact hL3.out) (upd_eq _ _ _) hLH h0.out (by omega) hRb (by decide +kernel) (by omega) (by omega)
      have kS : ∀ w' H, ρ3 H = none → Hold w0 w' (upd ρ3 H (dec 0 false (-1) false 5)) → Calls Tryz.prog 87 #[.string P, .pointer (some ⟨K + 1, 0, none⟩), .bool n, .int .i64 half] w' fun E w'' => E = .returned (.bool aw) ∧ Hold w0 w'' (upd ρ3 H (dec 0 false (-1) false 5)) := fun w' H hH h' => by
        have hKH : K + 1 ≠ H := by rintro rfl; have := d1.out; rw [hH] at this; cases this
        rw [← hP.out, ← haw]
        exact shouldAdd_c h' (bnum_big (by rw [upd_ne _ _ hKH]; exact d1.out)) hAd n half m hm
      replace kh := Lib.hid kh
      replace kc := Lib.hid kc
      replace kS := Lib.hid kS
      replace haw := Lib.hid haw
      replace hhalf := Lib.hid hhalf
      replace hcmpv := Lib.hid hcmpv
      replace hfr5 := Lib.hid hfr5
      go_cut [120] (fun v wx => v = .bool aw ∧ Hold w0 wx ρ3)
      case first =>
        go_region_with (first
          | (go_at_call 40; refine (kh.out _ (by exact ⟨rfl, rfl, rfl, Nat.le_refl _, fun _ _ _ => rfl⟩)).mono ?_; rintro E w7 ⟨H, rfl, hH, h8⟩; have hH3 := hfr5.out _ (by exact ⟨rfl, rfl, rfl, Nat.le_refl _, fun _ _ _ => rfl⟩) H hH; have x7 := h8.c1 (Le.skip (Le.none hle3.out hH3) hle3.out _ _ hx1.out); replace h8 := Lib.hid h8; replace hH3 := Lib.hid hH3; clear hH)
          | (go_at_call 90; refine (kc.out _ _ hH3.out h8.out).mono ?_; rintro E w8 ⟨rfl, h9⟩; have x8 := h9.c1 (Le.skip (Le.none hle3.out hH3.out) hle3.out _ _ hx1.out); replace h9 := Lib.hid h9)
          | (go_at_call 87; refine (kS.out _ _ hH3.out h9.out).mono ?_; rintro E w9 ⟨rfl, h10⟩; have h11 := h10.le (Le.skip hH3.out (Le.refl _)); replace h11 := Lib.hid h11; clear h10))
        all_goals
          go_wp2_with fail
          go_meet
          exact ⟨rfl, h11.out⟩
      case rest =>
        obtain ⟨rfl, h11⟩ := hcut
        clear kh kc kS hfr5 x1
        have ko := fun (ha : aw = true) => addOne_c h11 (bnum_big d1.out) d0.out hAb (by omega) (hup.out ha)
        have hpb := fun N2 => put_big (σ := ρ3) (b := K + 1) d1.out false N2
        simp only [hpb] at ko
        replace ko := Lib.hid ko
        replace h11 := Lib.hid h11
        clear hpb h7
        cases aw with
        | false =>
          obtain ⟨hN1, hk1⟩ := hno.out rfl
          replace hN1 := Lib.hid hN1
          replace hk1 := Lib.hid hk1
          go_wp2_with fail
          go_meet
          exact ⟨by rw [hr1.out]; rfl, _, h11.out, by rw [hN1.out]; exact d1.out, by rw [hk1.out]; exact d0.out, hle3.out⟩
        | true =>
          have ko2 := ko.out rfl
          clear ko
          replace ko2 := Lib.hid ko2
          go_wp2_with fail
          with_reducible refine ko2.out.mono ?_
          rintro E w9 ⟨rfl, h12⟩
          replace h12 := Lib.hid h12
          go_wp2_with fail
          go_meet
          exact ⟨by rw [hr1.out]; rfl, _, h12.out, by rw [upd_ne _ _ (by omega), upd_eq], upd_eq _ _ _, Le.skip hfK.out (Le.skip hfK1.out hle3.out)⟩
  case rest =>
    obtain ⟨rfl, σ', h5, s1, s0, hle⟩ := hcut
    have hN1b : nbits N1 < 1150 := by
      have h1 := nbits_succ (N / 10 ^ k)
      rcases hways.out with ⟨_, h, _⟩ | ⟨_, _, h, _⟩ | ⟨_, _, ⟨_, h, _⟩ | ⟨_, h, _⟩, _⟩
      · rw [h]; omega
      · rw [h]; omega
      · rw [h]
        exact Nat.lt_of_le_of_lt (nbits_mono (Nat.div_le_self _ _)) (by omega)
      · rw [h]; omega
    have hk1b : (k1 : Int) ≤ 401 := by
      rcases hways.out with ⟨_, _, h, _⟩ | ⟨_, _, _, h, _⟩ | ⟨_, _, ⟨_, _, h⟩ | ⟨_, _, h⟩, _⟩ <;> omega
    replace hways := Lib.hid hways.out
    clear h4 c0 c1 c2 hle2 hz
    have hd5 := hle _ _ hd1.out
    have kset := bigSetH_c h5 (bnum_dec hd5) (bnum_big s1) (bits_words (by omega))
    rw [put_dec hd5] at kset
    have hKd : K ≠ d := by rintro rfl; rw [hd5] at s0; cases s0
    have hcc : upd σ' d (dec 0 n e false N1) c = some (ctxO (p : Int) a b P) := by rw [upd_ne _ _ hcd]; exact hle _ _ hc1.out
    have hKK : upd σ' d (dec 0 n e false N1) K = some (c64 (k1 : Int)) := by rw [upd_ne _ _ hKd]; exact s0
    replace kset := Lib.hid kset
    replace hle := Lib.hid hle
    replace hcc := Lib.hid hcc
    replace hKK := Lib.hid hKK
    clear h5 s1 s0 hd5
    go_wp2_with fail
    with_reducible refine kset.out.mono ?_
    rintro E w6 ⟨rfl, h6⟩
    have dW := h6.c2 (upd_eq _ _ _)
    have tW := (h6.c64At hKK.out).1
    have km := hset.out _ _ h6 (upd_eq _ _ _) hcc.out
    rw [upd_upd] at km
    replace km := Lib.hid km
    replace h6 := Lib.hid h6
    go_upto_region 32 with (fail)
    go_region_with ((go_at_call 80; refine km.out.mono ?_; rintro E w7 ⟨rfl, h7⟩; replace h7 := Lib.hid h7))
    all_goals
      have hend := h7.out.le (Le.both (k := d) (jt := dec fz n ez false Nz) hle.out)
      replace hend := Lib.hid hend
      go_wp2
      go_ret
      exact ⟨rfl, hend.out⟩
theorem rndC_calm' (N p : Nat) : calm (rndC N p) := by
  unfold rndC; split
  · exact .inl rfl
  · split
    · exact .inr (.inr (.inr rfl))
    · exact .inr (.inr (.inl rfl))
theorem rndN_bits {n : Bool} {N p m : Nat} (hN : nbits N < 1100) : nbits (rndN n N p m) < 1150 := by
  have h1 := nbits_succ N
  have h2 : rndN n N p m ≤ N + 1 := by
    unfold rndN
    split
    · omega
    · have h3 := (cutN_le n N (figs N - p) m).2
      have h4 : N / 10 ^ (figs N - p) ≤ N := Nat.div_le_self _ _
      split
      · have h5 := Nat.div_le_self (cutN n N (figs N - p) m) 10
        omega
      · omega
  exact Nat.lt_of_le_of_lt (nbits_mono h2) (by omega)
theorem rndK_le' (n : Bool) (N p m : Nat) : rndK n N p m ≤ figs N + 1 := by
  unfold rndK; split
  · omega
  · split <;> omega
theorem round_cut {w0 w : World} {σ : Sg} (h : Hold w0 w σ) {d x c p m : Nat} {e f' e' a b : Int} {n n' g' : Bool} {N N' : Nat} (hd : σ d = some (dec f' n' e' g' N')) (hx : σ x = some (dec 0 n e false N)) (hc : σ c = some (ctxO p a b (modeS m)))
    (hp : 1 ≤ p ∧ p ≤ 1000) (ha : 50000 ≤ a ∧ a ≤ 2000000) (hb : -2000000 ≤ b ∧ b ≤ -50000) (hN : nbits N < 1100) (hm : m < 8) (he : -3000 ≤ e ∧ e ≤ 3000) (hq : p < figs N) :
    Calls Tryz.prog 63 #[.string (modeS m), .pointer (some ⟨c, 0, none⟩), .pointer (some ⟨d, 0, none⟩), .pointer (some ⟨x, 0, none⟩), .bool true] w fun E w' => E = .returned (.int .u32 (rndC N p : Int)) ∧ Hold w0 w' (upd σ d (dec 0 n (e + (rndK n N p m : Int)) false (rndN n N p m))) := by
  have hq401 := figs_401 (N := N) (by omega)
  have hk := rndK_le' n N p m
  have hb2 := rndN_bits (n := n) (p := p) (m := m) hN
  have hcm := rndC_calm' N p
  exact round_cutG h hd hx hc hp (by omega) hN hm he hq (by have := figs_pos N; omega) (calm_or hcm) (fun w1 σ1 h1 hd1 hc1 => setExp2_c h1 e _ hd1 hc1 (by omega) (nd := -1) (.inl rfl) hcm (by omega) (by omega) ha hb)
end Go.Proofs.YtonepclpllelfaaGreatDoor

namespace Go.Proofs.YtonepclpllelfaaGreatDoor
open Go Go.RowKit

theorem rnd_few {n : Bool} {N p m : Nat} (h : figs N ≤ p) : rndN n N p m = N ∧ rndK n N p m = 0 ∧ rndC N p = 0 := by
  unfold rndN rndK rndC
  rw [if_pos h, if_pos h, if_pos h]
  exact ⟨rfl, rfl, rfl⟩
theorem rndC_calm (N p : Nat) : calm (rndC N p) := by
  unfold rndC calm
  split
  · exact .inl rfl
  · split
    · exact .inr (.inr (.inr rfl))
    · exact .inr (.inr (.inl rfl))
/-- A decimal is rounded. -/
theorem Round_c {w0 w : World} {σ : Sg} (h : Hold w0 w σ) {d x c p m : Nat} {e f' e' a b : Int} {n n' g' : Bool} {N N' : Nat} (hd : σ d = some (dec f' n' e' g' N')) (hx : σ x = some (dec 0 n e false N)) (hc : σ c = some (ctxO p a b (modeS m)))
    (hp : 1 ≤ p ∧ p ≤ 1000) (ha : 50000 ≤ a ∧ a ≤ 2000000) (hb : -2000000 ≤ b ∧ b ≤ -50000) (hN : nbits N < 1100) (hm : m < 8) (he : -3000 ≤ e ∧ e ≤ 3000) :
    Calls Tryz.prog 63 #[.string (modeS m), .pointer (some ⟨c, 0, none⟩), .pointer (some ⟨d, 0, none⟩), .pointer (some ⟨x, 0, none⟩), .bool true] w fun E w' => E = .returned (.int .u32 (rndC N p : Int)) ∧ Hold w0 w' (upd σ d (dec 0 n (e + (rndK n N p m : Int)) false (rndN n N p m))) := by
  by_cases hq : figs N ≤ p
  · obtain ⟨h1, h2, h3⟩ := rnd_few (n := n) (m := m) hq
    rw [h1, h2, h3]
    have k := round_few h hd hx hc hp ha hb hN he hq
    rw [show e + ((0 : Nat) : Int) = e by omega]
    exact k
  · exact round_cut h hd hx hc hp ha hb hN hm he (by omega)
theorem round_c {w0 w : World} {σ : Sg} (h : Hold w0 w σ) {d x c p m : Nat} {e f' e' a b : Int} {n n' g' : Bool} {N N' : Nat} (hd : σ d = some (dec f' n' e' g' N')) (hx : σ x = some (dec 0 n e false N)) (hc : σ c = some (ctxO p a b (modeS m)))
    (hp : 1 ≤ p ∧ p ≤ 1000) (ha : 50000 ≤ a ∧ a ≤ 2000000) (hb : -2000000 ≤ b ∧ b ≤ -50000) (hN : nbits N < 1100) (hm : m < 8) (he : -3000 ≤ e ∧ e ≤ 3000) :
    Calls Tryz.prog 42 #[.pointer (some ⟨c, 0, none⟩), .pointer (some ⟨d, 0, none⟩), .pointer (some ⟨x, 0, none⟩)] w fun E w' => E = .returned (.int .u32 (rndC N p : Int)) ∧ Hold w0 w' (upd σ d (dec 0 n (e + (rndK n N p m : Int)) false (rndN n N p m))) := by
  have k := Round_c h hd hx hc hp ha hb hN hm he
  have c4 := (h.ctx hc).c4
  generalize modeS m = P at *
  generalize rndC N p = r at *
  replace k := Lib.hid k
  clear h hd hx hc
  go_enter Tryz.func42, Tryz.ntmps42
  go_wp2_with fail
  with_reducible refine k.out.mono ?_
  rintro E w1 ⟨rfl, h1⟩
  replace h1 := Lib.hid h1
  go_wp2
  go_ret
  exact ⟨rfl, h1.out⟩
theorem calm_4096 {r : Nat} (h : calm r) : r < 4096 ∧ r % 4 = 0 := by rcases h with rfl | rfl | rfl | rfl <;> decide
/-- A calm condition is no error. -/
theorem errH_c {w0 w : World} {σ : Sg} (h : Hold w0 w σ) {c r : Nat} {p a b : Int} {m : ByteArray} (hc : σ c = some (ctxO p a b m)) (hr : calm r) :
    Calls Tryz.prog 43 #[.pointer (some ⟨c, 0, none⟩), .int .u32 (r : Int)] w fun E w' => E = .returned (.tuple #[.int .u32 (r : Int), .nilIface]) ∧ w = w' :=
  goError_c w c r p a b m (h.ctx hc) (calm_4096 hr).1 (calm_4096 hr).2
/-- What a Context's method hands back. -/
def CRes (w0 : World) (σ : Sg) (d : Nat) (n : Bool) (e : Int) (p m N : Nat) (E : Ending) (w' : World) : Prop :=
  E = .returned (.tuple #[.int .u32 (rndC N p : Int), .nilIface]) ∧ Hold w0 w' (upd σ d (dec 0 n (e + (rndK n N p m : Int)) false (rndN n N p m)))
end Go.Proofs.YtonepclpllelfaaGreatDoor

