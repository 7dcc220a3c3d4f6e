/- Rounder.Round of a number that is subnormal. -/
import Derived.Test.YtffjgkghmdhlkaaGreatDoorC35
namespace Go.Proofs.YtffjgkghmdhlkaaGreatDoor
open Go Go.RowKit

set_option maxRecDepth 20000 in
set_option maxHeartbeats 2000000 in
theorem roundSubG {w0 w : World} {σ : Sg} (h : Hold w0 w σ) {d x c p m : Nat} {e f' e' a b : Int} {n n' g' : Bool} {N N' : Nat} (hd : σ d = some (dec f' n' e' g' N')) (hx : σ x = some (dec 0 n e false N)) (hc : σ c = some (ctxO p a b (modeS m)))
    (hp : 1 ≤ p ∧ p ≤ 1000) (hb : -2000000 ≤ b ∧ b ≤ 2000000) (hN : nbits N < 1100) (he : -3000 ≤ e ∧ e ≤ 3000) (h0 : N ≠ 0) (hlow : e + (figs N : Int) - 1 < b) {rz : Nat} {D : It}
    (hor : bits .or .u32 32 (rz : Int) = (rz : Int) ∧ IntKind.u32.wrap (rz : Int) = (rz : Int))
    (hset : ∀ w1 (σ1 : Sg), Hold w0 w1 σ1 → σ1 d = some (dec 0 n e false N) → σ1 c = some (ctxO p a b (modeS m)) → Calls Tryz.prog 76 #[.pointer (some ⟨d, 0, none⟩), .pointer (some ⟨c, 0, none⟩), .int .i64 (figs N : Int), .int .u32 32, .slice (some ⟨w1.heap.size, 0, none⟩) 1 1] (w1.alloc (.cells #[.int .i64 e] 2 (0, 0))) fun E w' => E = .returned (.int .u32 (rz : Int)) ∧ Hold w0 w' (upd σ1 d D)) :
    Calls Tryz.prog 92 #[.string (modeS m), .pointer (some ⟨c, 0, none⟩), .pointer (some ⟨d, 0, none⟩), .pointer (some ⟨x, 0, none⟩), .bool true] w fun E w' => E = .returned (.int .u32 (rz : Int)) ∧ Hold w0 w' (upd σ d D) := by
  have hcd : c ≠ d := by
    rintro rfl
    rw [hc] at hd; cases hd
  have ks := decSet_c h hd hx (bits_words (by omega))
  have hx1 : upd σ d (dec 0 n e false N) x = some (dec 0 n e false N) := by
    by_cases hxd : x = d
    · subst hxd; exact upd_eq _ _ _
    · rw [upd_ne _ _ hxd]; exact hx
  have hd1 := upd_eq σ d (dec 0 n e false N)
  have hc1 : upd σ d (dec 0 n e false N) c = some (ctxO p a b (modeS m)) := by rw [upd_ne _ _ hcd]; exact hc
  have hqp := figs_pos N
  have hq4 := figs_401 (N := N) (by omega)
  have hup : ∀ it, upd (upd σ d (dec 0 n e false N)) d it = upd σ d it := fun it => upd_upd _ _ _ _
  simp only [← hup D]
  obtain ⟨ho1, ho2⟩ := hor
  replace hup := Lib.hid hup
  generalize upd σ d (dec 0 n e false N) = τ at *
  obtain ⟨q, hqe⟩ : ∃ q, figs N = q := ⟨_, rfl⟩
  rw [hqe] at hqp hlow hset hq4
  have kn := fun w2 (h2 : Hold w0 w2 τ) => decDigits_c h2 hx1 (by omega)
  have kg := fun w2 (h2 : Hold w0 w2 τ) => decSignH_c h2 hx1
  have hsg := sgD_ne (n := n) (N := N)
  rw [hqe] at kn
  obtain ⟨sg, hse⟩ : ∃ sg, sgD 0 n N = sg := ⟨_, rfl⟩
  rw [hse] at hsg kg
  rw [show (!decide (N = 0)) = true by simp [h0]] at hsg
  obtain ⟨P, hP⟩ : ∃ P, modeS m = P := ⟨_, rfl⟩
  rw [hP] at hc1 hset ⊢
  replace hset := Lib.hid hset
  replace hP := Lib.hid hP
  replace hse := Lib.hid hse
  replace hqe := Lib.hid hqe
  replace ks := Lib.hid ks
  replace kn := Lib.hid kn
  replace kg := Lib.hid kg
  replace hx1 := Lib.hid hx1
  replace hd1 := Lib.hid hd1
  replace hc1 := Lib.hid hc1
  have e1 : IntKind.i64.wrap e = e := IntWalk.i64_in _ (by omega)
  have e2 : IntKind.i64.wrap (e + (q : Int)) = e + (q : Int) := IntWalk.i64_in _ (by omega)
  have e3 : IntKind.i64.wrap (e + (q : Int) - 1) = e + (q : Int) - 1 := IntWalk.i64_in _ (by omega)
  have e4 : IntKind.i64.wrap b = b := IntWalk.i64_in _ (by omega)
  have e5 : IntKind.i64.wrap (p : Int) = (p : Int) := IntWalk.i64_in _ (by omega)
  have e6 : IntKind.i64.wrap ((q : Int) - (p : Int)) = (q : Int) - (p : Int) := IntWalk.i64_in _ (by omega)
  have p0 : ((p : Int) == 0) = false := by simp; omega
  have l1 : decide (e + (q : Int) - 1 < b) = true := by simp; omega
  have b32 : bits .or .u32 0 32 = 32 := by kernel_rfl
  clear h hd hx hc
  go_enter Tryz.func92, Tryz.ntmps92
  go_wp2_with fail
  with_reducible refine ks.out.mono ?_
  rintro E w1 ⟨rfl, h1⟩
  have kn := kn.out _ h1
  replace kn := Lib.hid kn
  clear h1
  go_wp2_with fail
  with_reducible refine kn.out.mono ?_
  rintro E w2 ⟨rfl, h2⟩
  have kg := kg.out _ h2
  replace kg := Lib.hid kg
  have x2 := h2.c2 hx1.out
  have d2 := h2.c2 hd1.out
  have hctx := h2.ctx hc1.out
  have c0 := hctx.c0
  have c2 := hctx.c2
  replace h2 := Lib.hid h2
  clear hctx
  go_wp2_with fail
  with_reducible refine kg.out.mono ?_
  rintro E w' ⟨rfl, hw⟩
  obtain rfl := hw
  have kset := hset.out _ _ h2.out hd1.out hc1.out
  replace kset := Lib.hid kset
  go_wp2_with fail
  with_reducible refine kset.out.mono ?_
  rintro E w4 ⟨rfl, h4⟩
  replace h4 := Lib.hid h4
  go_wp2
  go_ret
  exact ⟨rfl, h4.out⟩
theorem subC_bits (x z : Bool) : bits .or .u32 32 (subC x z : Int) = (subC x z : Int) ∧ IntKind.u32.wrap (subC x z : Int) = (subC x z : Int) := by
  cases x <;> cases z <;> exact ⟨by kernel_rfl, by kernel_rfl⟩
theorem roundSub0_c {w0 w : World} {σ : Sg} (h : Hold w0 w σ) {d x c p m : Nat} {e f' e' a b : Int} {n n' g' : Bool} {N N' : Nat} (hd : σ d = some (dec f' n' e' g' N')) (hx : σ x = some (dec 0 n e false N)) (hc : σ c = some (ctxO p a b (modeS m)))
    (hp : 1 ≤ p ∧ p ≤ 1000) (hb : -200000 ≤ b ∧ b ≤ 200000) (hN : nbits N < 1100) (he : -3000 ≤ e ∧ e ≤ 3000) (h0 : N ≠ 0) (hlow : e + (figs N : Int) - 1 < b) (hr : b - ((p : Int) - 1) ≤ e) :
    Calls Tryz.prog 92 #[.string (modeS m), .pointer (some ⟨c, 0, none⟩), .pointer (some ⟨d, 0, none⟩), .pointer (some ⟨x, 0, none⟩), .bool true] w fun E w' => E = .returned (.int .u32 ((32 : Nat) : Int)) ∧ Hold w0 w' (upd σ d (dec 0 n e false N)) :=
  roundSubG h hd hx hc hp (by omega) hN he h0 hlow (rz := 32) ⟨by kernel_rfl, by kernel_rfl⟩ (fun w1 σ1 k1 kd kc => setSub0_c (s := w1.heap.size) (cap := 1) (k1.keep ((Chg.refl w1 _).alloc _)) kd kc hN h0 hp he (cellB (allocB w1 _) rfl) hb hlow hr (by omega))
theorem roundSub1_c {w0 w : World} {σ : Sg} (h : Hold w0 w σ) {d x c p m k : Nat} {e f' e' a b : Int} {n n' g' : Bool} {N N' : Nat} (hd : σ d = some (dec f' n' e' g' N')) (hx : σ x = some (dec 0 n e false N)) (hc : σ c = some (ctxO p a b (modeS m)))
    (hp : 1 ≤ p ∧ p ≤ 1000) (hb : -200000 ≤ b ∧ b ≤ 200000) (hN : nbits N < 1100) (he : -3000 ≤ e ∧ e ≤ 3000) (h0 : N ≠ 0) (hlow : e + (figs N : Int) - 1 < b) (hk : b - ((p : Int) - 1) - e = (k : Int)) (hk1 : 1 ≤ k) (hk4 : k ≤ 400) (hm : m < 8) :
    Calls Tryz.prog 92 #[.string (modeS m), .pointer (some ⟨c, 0, none⟩), .pointer (some ⟨d, 0, none⟩), .pointer (some ⟨x, 0, none⟩), .bool true] w fun E w' => E = .returned (.int .u32 (subC (!decide (N % 10 ^ k = 0)) (decide (cutN false N k m = 0)) : Int)) ∧ Hold w0 w' (upd σ d (dec 0 n (b - ((p : Int) - 1)) false (cutN false N k m))) :=
  roundSubG h hd hx hc hp (by omega) hN he h0 hlow (subC_bits _ _) (fun w1 σ1 k1 kd kc => setSub1_c (s := w1.heap.size) (cap := 1) (k1.keep ((Chg.refl w1 _).alloc _)) kd kc hN h0 hp he (cellB (allocB w1 _) rfl) hb hlow hk hk1 hk4 hm (by omega))
end Go.Proofs.YtffjgkghmdhlkaaGreatDoor
