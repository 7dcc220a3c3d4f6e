/- One is added to a magnitude that was cut. A decimal is set; signs. Comparing decimals above 0. Comparing decimals above 0 whose first figures lie at one place. -/
import Derived.Test.YtonepclpllelfaaGreatDoorC11
import Derived.Test.YtonepclpllelfaaGreatDoorC30
namespace Go.Proofs.YtonepclpllelfaaGreatDoor
open Go Go.RowKit

/-- A cell of a block of plain data is stored. -/
theorem Hold.setRaw {w0 w : World} {σ : Sg} (h : Hold w0 w σ) {b i : Nat} {cs : Array Value} {T : TypeId} {x : Value} (hb : σ b = some (Go.Proofs.YtonepclpllelfaaGreatDoor.raw (.cells cs T (0, 0)))) : Hold w0 (w.setCell ⟨b, i, none⟩ x) (upd σ b (Go.Proofs.YtonepclpllelfaaGreatDoor.raw (.cells (cs.setIfInBounds i x) T (0, 0)))) := by
  have hr := h.raw hb
  obtain ⟨st, h⟩ := h
  have hc := chg_setB w b i x
  have hnn : ∀ o p, (Go.Proofs.YtonepclpllelfaaGreatDoor.raw o).num p = none := fun o p => by
    cases hh : (Go.Proofs.YtonepclpllelfaaGreatDoor.raw o).num p with
    | none => rfl
    | some gn => obtain ⟨g1, N1⟩ := gn; rcases It.num_cases hh with ⟨hk, _⟩ | ⟨hk, _⟩ | ⟨hk, _⟩ | ⟨hk, _⟩ | ⟨hk, _⟩ <;> exact absurd hk (Nat.ne_of_beq_eq_false rfl)
  have old : ∀ c p g1 N1, Num (upd σ b (Go.Proofs.YtonepclpllelfaaGreatDoor.raw (.cells (cs.setIfInBounds i x) T (0, 0)))) c p g1 N1 → Num σ c p g1 N1 := by
    rintro c p g1 N1 ⟨jt, hj, hjn⟩
    by_cases e : c = b
    · subst e
      rw [upd_eq] at hj; cases hj
      rw [hnn] at hjn; cases hjn
    · rw [upd_ne _ _ e] at hj
      exact ⟨jt, hj, hjn⟩
  refine ⟨st, h.chg.trans (hc.mono (fun k _ e => .inr (by subst e; exact (h.it _ _ hb).1))), h.glob, ?_, ?_, ?_⟩
  · intro c jt hj
    by_cases e : c = b
    · subst e
      rw [upd_eq] at hj; cases hj
      exact ⟨(h.it _ _ hb).1, .inr ⟨Nat.le_refl 4, setB hr⟩⟩
    · rw [upd_ne _ _ e] at hj
      refine ⟨(h.it _ _ hj).1, (h.it _ _ hj).2.chg hc e ?_⟩
      rintro p g1 N1 k hp hk rfl
      have := (h.sto c p g1 N1 _ ⟨jt, hj, hp⟩ hk).2
      rw [hb] at this; cases this
  · intro c p g1 N1 k hcn hk
    have h3 := h.sto c p g1 N1 k (old _ _ _ _ hcn) hk
    exact ⟨h3.1, by rw [upd_ne _ _ (by rintro rfl; rw [hb] at h3; cases h3.2)]; exact h3.2⟩
  · intro c p g1 N1 c' p' g2 N2 k h3 h4 hk hk'
    exact h.inj c p g1 N1 c' p' g2 N2 k (old _ _ _ _ h3) (old _ _ _ _ h4) hk hk'
/-- An int64 in a block of its own. -/
def c64 (d : Int) : It := raw (.cells #[.int .i64 d] 2 (0, 0))
theorem Hold.c64At {w0 w : World} {σ : Sg} (h : Hold w0 w σ) {b : Nat} {d : Int} (hb : σ b = some (c64 d)) : w.cell? ⟨b, 0, none⟩ = some (.int .i64 d) ∧ w.frozen? ⟨b, 0, none⟩ = false ∧ ∀ d', Hold w0 (w.setCell ⟨b, 0, none⟩ (.int .i64 d')) (upd σ b (c64 d')) := by
  have hr := h.raw hb
  exact ⟨cellB hr rfl, frozenB hr _, fun d' => h.setRaw hb⟩
theorem put_ne {σ : Sg} {b o k : Nat} {g : Bool} {N : Nat} (h : k ≠ b) : put σ b o g N k = σ k := by unfold put; rw [if_neg h]
theorem nbits_mono {a b : Nat} (h : a ≤ b) : nbits a ≤ nbits b := nbits_le_iff.2 (Nat.lt_of_le_of_lt h (nbits_lt b))
theorem nbits_succ (N : Nat) : nbits (N + 1) ≤ nbits N + 1 := by
  refine nbits_le_iff.2 ?_
  have := nbits_lt N
  rw [Nat.pow_succ]; omega
theorem bits_w {N k : Nat} (h : nbits N ≤ 64 * k) : (digs N).length ≤ k := by
  refine digs_len_le.2 ?_
  rw [WB_bits, ← Nat.pow_mul]
  exact nbits_le_iff.1 h
theorem sgN_nn (N : Nat) : 0 ≤ sgN false N := by unfold sgN; split <;> simp

set_option maxRecDepth 20000 in
set_option maxHeartbeats 1000000 in
theorem addOne_c {w0 w : World} {σ : Sg} (h : Hold w0 w σ) {bx ox q N N' : Nat} {d d' : Int} (hx : BNum σ bx ox false N) (hq : σ q = some (c64 d)) (hN : nbits N < 1100) (hd : -1000000 ≤ d ∧ d ≤ 1000000)
    (hc : figs N < figs (N + 1) ∧ N' = (N + 1) / 10 ∧ d' = d + 1 ∨ ¬ figs N < figs (N + 1) ∧ N' = N + 1 ∧ d' = d) :
    Calls Tryz.prog 91 #[.pointer (some ⟨bx, ox, none⟩), .pointer (some ⟨q, 0, none⟩)] w fun e w' => e = .returned (.tuple #[]) ∧ Hold w0 w' (upd (put σ bx ox false N') q (c64 d')) := by
  obtain ⟨it, hbx, hin, hin2⟩ := id hx
  have hqx : q ≠ bx := by
    rintro rfl
    rw [hbx] at hq; cases hq
    exact absurd rfl (Nat.ne_of_lt (Nat.lt_of_le_of_ne (Nat.zero_le _) (fun _ => by cases hin)))
  have ksg := bigSignH_c h hx
  have hsg : decide (sgN false N < 0) = false := by have := sgN_nn N; simp; omega
  obtain ⟨sg, hsge⟩ : ∃ sg, sgN false N = sg := ⟨_, rfl⟩
  rw [hsge] at ksg hsg
  have kd := NumDigits_c h hx (by omega)
  have hb1 : nbits (N + 1) < 1101 := by have := nbits_succ N; omega
  obtain ⟨a, ha⟩ : ∃ a, figs N = a := ⟨_, rfl⟩
  obtain ⟨b, hb⟩ : ∃ b, figs (N + 1) = b := ⟨_, rfl⟩
  rw [ha, hb] at hc
  rw [ha] at kd
  have ew : IntKind.i64.wrap (d + 1) = d + 1 := IntWalk.i64_in _ (by omega)
  replace ksg := Lib.hid ksg
  replace kd := Lib.hid kd
  replace hsge := Lib.hid hsge
  replace ha := Lib.hid ha
  replace hb := Lib.hid hb
  replace hbx := Lib.hid hbx
  replace hin := Lib.hid hin
  replace hq := Lib.hid hq
  replace hx := Lib.hid hx
  replace hc := Lib.hid hc
  clear h
  go_enter Tryz.func91, Tryz.ntmps91
  go_wp2_with fail
  with_reducible refine ksg.out.mono ?_
  rintro e w' ⟨rfl, hw⟩
  obtain rfl := hw
  go_wp2_with fail
  with_reducible refine kd.out.mono ?_
  rintro e w1 ⟨rfl, h1⟩
  have k1 := bigOne_c h1
  have hfr1 : ∀ k, w1.heap.size ≤ k → σ k = none := fun k hk => h1.fresh hk
  replace k1 := Lib.hid k1
  replace hfr1 := Lib.hid hfr1
  clear h1
  go_wp2_with fail
  with_reducible refine k1.out.mono ?_
  rintro e w2 ⟨k, rfl, hk, h2⟩
  have hfk := hfr1.out k hk
  have ka := bigAdd_c h2 (hx.out.upd hfk) (hx.out.upd hfk).num (num_big (upd_eq _ _ _)) (Nat.le_trans (bits_w (k := 18) (by omega)) (by omega)) (Nat.le_of_lt (Nat.lt_trans (five_len (by omega) (by omega)) (by omega)))
  replace ka := Lib.hid ka
  clear h2 hfr1
  go_wp2_with fail
  with_reducible refine ka.out.mono ?_
  rintro e w3 ⟨rfl, h3⟩
  have h4 := h3.le (Le.put (Le.skip hfk (Le.refl _)) bx ox false (N + 1) hbx.out)
  have hx4 := hx.out.put false (N + 1)
  have kd2 := NumDigits_c h4 hx4 (by omega)
  rw [hb.out] at kd2
  replace kd2 := Lib.hid kd2
  replace hx4 := Lib.hid hx4
  clear h3 h4 hfk
  go_wp2_with fail
  with_reducible refine kd2.out.mono ?_
  rintro e w4 ⟨rfl, h4⟩
  have hq4 : put σ bx ox false (N + 1) q = some (c64 d) := by rw [put_ne hqx]; exact hq.out
  rcases hc.out with ⟨hl, hN', hd'⟩ | ⟨hl, hN', hd'⟩
  · have hl1 : decide ((a : Int) < (b : Int)) = true := by simp; omega
    have k5 := bigTen_c h4
    have hfr4 : ∀ k, w4.heap.size ≤ k → put σ bx ox false (N + 1) k = none := fun k hk => h4.fresh hk
    replace k5 := Lib.hid k5
    replace hfr4 := Lib.hid hfr4
    replace hq4 := Lib.hid hq4
    replace hN' := Lib.hid hN'
    replace hd' := Lib.hid hd'
    clear h4
    go_wp2_with fail
    with_reducible refine k5.out.mono ?_
    rintro e w5 ⟨m, rfl, hm, h5⟩
    have hfm := hfr4.out m hm
    have kq := bigQuo_c h5 (hx4.out.upd hfm) (hx4.out.upd hfm).num (num_big (upd_eq _ _ _)) (by omega) (Nat.le_trans (bits_w (k := 18) (by omega)) (by omega)) (five_len (by omega) (by omega))
    replace kq := Lib.hid kq
    clear h5 hfr4
    go_wp2_with fail
    with_reducible refine kq.out.mono ?_
    rintro e w6 ⟨rfl, h6⟩
    obtain ⟨it4, hb4, _, _⟩ := hx4.out
    have h7 := h6.le (Le.put (Le.skip hfm (Le.refl _)) bx ox false ((N + 1) / 10) hb4)
    rw [put_put hx.out.num, ← hN'.out] at h7
    have hq7 : put σ bx ox false N' q = some (c64 d) := by rw [put_ne hqx]; exact hq.out
    obtain ⟨c0, f0, hset⟩ := h7.c64At hq7
    have hset2 : Hold w0 (w6.setCell ⟨q, 0, none⟩ (.int .i64 (d + 1))) (upd (put σ bx ox false N') q (c64 d')) := by rw [hd'.out]; exact hset _
    replace hset := Lib.hid hset2
    clear hset2
    clear h6 h7 hq7 hb4
    go_wp2
    go_end0
    exact ⟨rfl, hset.out⟩
  · have hl1 : decide ((a : Int) < (b : Int)) = false := by simp; omega
    have hend : Hold w0 w4 (upd (put σ bx ox false N') q (c64 d')) := by
      rw [hd', hN', upd_self hq4]; exact h4
    replace hend := Lib.hid hend
    replace hq4 := Lib.hid hq4
    replace hN' := Lib.hid hN'
    replace hd' := Lib.hid hd'
    clear h4
    go_wp2
    go_end0
    exact ⟨rfl, hend.out⟩
end Go.Proofs.YtonepclpllelfaaGreatDoor

namespace Go.Proofs.YtonepclpllelfaaGreatDoor
open Go Go.RowKit

theorem eqlDecSame {w : World} (a : Addr) : (binOp .eql 45 (.pointer (some a)) (.pointer (some a))).run Tryz.prog w = .ok (.bool true) w := by
  obtain ⟨j, hj, _⟩ := infoDec
  exact run_eql_ptr_same a Tryz.underlying45 hj
set_option maxRecDepth 20000 in
theorem setSlow_c {w0 w : World} {σ : Sg} (h : Hold w0 w σ) {d x : Nat} {f e f' e' : Int} {n g n' g' : Bool} {N N' : Nat} (hd : σ d = some (dec f' n' e' g' N')) (hx : σ x = some (dec f n e g N)) (hne : x ≠ d) (hN : (digs N).length ≤ 1000) :
    Calls Tryz.prog 57 #[.pointer (some ⟨d, 0, none⟩), .pointer (some ⟨x, 0, none⟩)] w fun E w' => E = .returned (.pointer (some ⟨d, 0, none⟩)) ∧ Hold w0 w' (upd σ d (dec f n e g N)) := by
  have x0 := h.c0 hx
  have d0 := h.fz hd 0
  have p0 := h.c0 hd
  have p1 := h.c1 hd
  have p2 := h.c2 hd
  have q1 := h.c1 hx
  have q2 := h.c2 hx
  have g1 := h.fz hd 1
  have g2 := h.fz hd 2
  have h1 := h.setForm hd f
  have hx1 : upd σ d (dec f n' e' g' N') x = some (dec f n e g N) := by rw [upd_ne _ _ hne]; exact hx
  have x1 := h1.c1 hx1
  have d1 := h1.fz (upd_eq _ _ _) 1
  have h2 := h1.setSign (upd_eq _ _ _) n
  rw [upd_upd] at h2
  have hx2 : upd σ d (dec f n e' g' N') x = some (dec f n e g N) := by rw [upd_ne _ _ hne]; exact hx
  have x2 := h2.c2 hx2
  have d2 := h2.fz (upd_eq _ _ _) 2
  have h3 := h2.setExp (upd_eq _ _ _) e
  rw [upd_upd] at h3
  have hx3 : upd σ d (dec f n e g' N') x = some (dec f n e g N) := by rw [upd_ne _ _ hne]; exact hx
  have hd3 := upd_eq σ d (dec f n e g' N')
  have ks := fun w2 (hc : Chg (((w.setCell ⟨d, 0, none⟩ (.int .i8 f)).setCell ⟨d, 1, none⟩ (.bool n)).setCell ⟨d, 2, none⟩ (.int .i32 e)) w2 (fun _ => False)) => bigSetH_c (h3.keep hc) (bnum_dec hd3) (bnum_dec hx3) hN
  rw [put_dec hd3, upd_upd] at ks
  replace ks := Lib.hid ks
  clear h h1 h2 h3 hd hx hx1 hx2 hx3 hd3 hne hN
  go_enter Tryz.func57, Tryz.ntmps57
  go_upto_region 4 with (fail)
  go_still_tail 6, (by kernel_rfl)
  change wpList _ _ _ _ _ (World.drew _)
  go_wp2_with fail
  with_reducible refine (ks.out _ (by exact ⟨rfl, rfl, rfl, Nat.le_refl _, fun _ _ _ => rfl⟩)).mono ?_
  rintro e w1 ⟨rfl, h1⟩
  replace h1 := Lib.hid h1
  go_wp2
  go_ret
  exact ⟨rfl, h1.out⟩
set_option maxRecDepth 20000 in
theorem decSet_c {w0 w : World} {σ : Sg} (h : Hold w0 w σ) {d x : Nat} {f e f' e' : Int} {n g n' g' : Bool} {N N' : Nat} (hd : σ d = some (dec f' n' e' g' N')) (hx : σ x = some (dec f n e g N)) (hN : (digs N).length ≤ 1000) :
    Calls Tryz.prog 32 #[.pointer (some ⟨d, 0, none⟩), .pointer (some ⟨x, 0, none⟩)] w fun E w' => E = .returned (.pointer (some ⟨d, 0, none⟩)) ∧ Hold w0 w' (upd σ d (dec f n e g N)) := by
  by_cases hne : x = d
  · subst hne
    have hend : Hold w0 w (upd σ x (dec f n e g N)) := by rw [upd_self hx]; exact h
    have hq := eqlDecSame (w := w) ⟨x, 0, none⟩
    replace hend := Lib.hid hend
    clear h hx hd hN
    go_enter Tryz.func32, Tryz.ntmps32
    go_wp2
    go_ret
    exact ⟨rfl, hend.out⟩
  · have ks := setSlow_c h hd hx hne hN
    obtain ⟨_, _, hbd, _⟩ := h.decAt hd
    obtain ⟨_, _, hbx, _⟩ := h.decAt hx
    have hq := eqlDec (Ne.symm hne) hbd hbx
    clear hbd hbx
    replace ks := Lib.hid ks
    clear h hx hd hN
    go_enter Tryz.func32, Tryz.ntmps32
    go_wp2_with fail
    with_reducible refine ks.out.mono ?_
    rintro e w1 ⟨rfl, h1⟩
    replace h1 := Lib.hid h1
    go_wp2
    go_ret
    exact ⟨rfl, h1.out⟩

theorem decSignH_c {w0 w : World} {σ : Sg} (h : Hold w0 w σ) {b : Nat} {e : Int} {n : Bool} {N : Nat} (hx : σ b = some (dec 0 n e false N)) :
    Calls Tryz.prog 55 #[.pointer (some ⟨b, 0, none⟩)] w fun E w' => E = .returned (.int .i64 (sgD 0 n N)) ∧ w = w' := by
  obtain ⟨v, s, h1, h2⟩ := h.decAt hx
  exact decSign_c w b 0 e n N s ⟨v, h1, h2⟩ (by omega)
theorem isZeroH_c {w0 w : World} {σ : Sg} (h : Hold w0 w σ) {b : Nat} {e : Int} {n : Bool} {N : Nat} (hx : σ b = some (dec 0 n e false N)) :
    Calls Tryz.prog 78 #[.pointer (some ⟨b, 0, none⟩)] w fun E w' => E = .returned (.bool (decide (N = 0))) ∧ w = w' := by
  obtain ⟨v, s, h1, h2⟩ := h.decAt hx
  have k := isZero_c w b 0 e n N s ⟨v, h1, h2⟩ (by omega)
  rw [show decide ((0 : Int) = 0 ∧ N = 0) = decide (N = 0) by simp] at k
  exact k
end Go.Proofs.YtonepclpllelfaaGreatDoor

namespace Go.Proofs.YtonepclpllelfaaGreatDoor
open Go Go.RowKit

/-- How two magnitudes with exponents lie. -/
def cmpD (N : Nat) (e : Int) (M : Nat) (f : Int) : Int := ordN (N * 10 ^ (e - f).toNat) (M * 10 ^ (f - e).toNat)
theorem cmpD_same (N M : Nat) (e : Int) : cmpD N e M e = ordN N M := by unfold cmpD; rw [Int.sub_self]; simp
theorem cmpD_lt {N M : Nat} {e f : Int} (hM : M ≠ 0) (h : (figs N : Int) + e < (figs M : Int) + f) : cmpD N e M f = -1 := by
  have h1 := figs_lt N
  have h2 := figs_ge hM
  have hp := figs_pos N
  have hp2 := figs_pos M
  unfold cmpD
  rw [ordN_lt]
  calc N * 10 ^ (e - f).toNat < 10 ^ figs N * 10 ^ (e - f).toNat := Nat.mul_lt_mul_of_pos_right h1 (ten_pos _)
    _ = 10 ^ (figs N + (e - f).toNat) := (Nat.pow_add _ _ _).symm
    _ ≤ 10 ^ (figs M - 1 + (f - e).toNat) := ten_le (by omega)
    _ = 10 ^ (figs M - 1) * 10 ^ (f - e).toNat := Nat.pow_add _ _ _
    _ ≤ M * 10 ^ (f - e).toNat := Nat.mul_le_mul_right _ h2
theorem ordN_swap (a b : Nat) : ordN a b = - ordN b a := by
  unfold ordN
  by_cases h1 : a < b
  · rw [if_pos h1, if_neg (by omega), if_pos h1]
  · by_cases h2 : b < a
    · rw [if_neg h1, if_pos h2, if_pos h2]; rfl
    · rw [if_neg h1, if_neg h2, if_neg h2, if_neg h1]; rfl
theorem cmpD_gt {N M : Nat} {e f : Int} (hN : N ≠ 0) (h : (figs M : Int) + f < (figs N : Int) + e) : cmpD N e M f = 1 := by
  have := cmpD_lt hN h
  unfold cmpD at this ⊢
  rw [ordN_swap, this]; rfl
theorem cmpD_up {N M : Nat} {e f : Int} (h : e ≤ f) : cmpD N e M f = ordN N (M * 10 ^ (f - e).toNat) := by
  unfold cmpD; rw [show (e - f).toNat = 0 by omega]; simp
theorem cmpD_down {N M : Nat} {e f : Int} (h : f ≤ e) : cmpD N e M f = ordN (N * 10 ^ (e - f).toNat) M := by
  unfold cmpD; rw [show (f - e).toNat = 0 by omega]; simp
set_option exponentiation.threshold 500 in
theorem figs_401 {N : Nat} (h : nbits N < 1200) : figs N ≤ 401 := by
  obtain ⟨q, q1, q2, q3, q4, q5⟩ := fguess_spec h
  exact (figs_le_iff (by omega)).2 (Nat.lt_of_lt_of_le (nbits_lt N) (Nat.le_trans q4 (ten_le (by omega))))
theorem sgD_pos {N : Nat} (h : N ≠ 0) : sgD 0 false N = 1 := by unfold sgD; rw [if_neg (by simp [h])]; rfl

set_option maxRecDepth 20000 in
set_option maxHeartbeats 1000000 in
theorem cmp_same {w0 w : World} {σ : Sg} (h : Hold w0 w σ) {d x : Nat} {e : Int} {N M : Nat} (hd : σ d = some (dec 0 false e false N)) (hx : σ x = some (dec 0 false e false M)) (hne : d ≠ x) (hN : N ≠ 0) (hM : M ≠ 0) :
    Calls Tryz.prog 90 #[.pointer (some ⟨d, 0, none⟩), .pointer (some ⟨x, 0, none⟩)] w fun E w' => E = .returned (.int .i64 (cmpD N e M e)) ∧ Hold w0 w' σ := by
  have k1 := decSignH_c h hd
  have k2 := decSignH_c h hx
  rw [sgD_pos hN] at k1
  rw [sgD_pos hM] at k2
  rw [cmpD_same]
  have d0 := h.c0 hd
  have x0 := h.c0 hx
  have d2 := h.c2 hd
  have x2 := h.c2 hx
  have kc := fun w2 (hc : Chg w w2 (fun _ => False)) => bigCmpH_c (h.keep hc) (bnum_dec hd) (bnum_dec hx) (fun e => hne (congrArg Addr.block e))
  have he : (e == e) = true := by simp
  generalize ordN N M = o at *
  replace kc := Lib.hid kc
  replace k1 := Lib.hid k1
  replace k2 := Lib.hid k2
  replace h := Lib.hid h
  clear hd hx hne hN hM
  go_enter Tryz.func90, Tryz.ntmps90
  go_wp2_with fail
  with_reducible refine k1.out.mono ?_
  rintro E w' ⟨rfl, hw⟩
  obtain rfl := hw
  go_wp2_with fail
  with_reducible refine k2.out.mono ?_
  rintro E w' ⟨rfl, hw⟩
  obtain rfl := hw
  go_upto_region 20 with (fail)
  go_quiet (fail)
  go_upto_region 21 with (fail)
  go_still_tail 6, (by kernel_rfl)
  change wpList _ _ _ _ _ (World.drew _)
  go_wp2_with fail
  with_reducible refine (kc.out _ (by exact ⟨rfl, rfl, rfl, Nat.le_refl _, fun _ _ _ => rfl⟩)).mono ?_
  rintro E w' ⟨rfl, n, rfl⟩
  go_wp2
  go_ret
  exact ⟨rfl, (h.out.keep (by exact ⟨rfl, rfl, rfl, Nat.le_refl _, fun _ _ _ => rfl⟩))⟩

set_option maxRecDepth 20000 in
set_option maxHeartbeats 2000000 in
/-- The places of the first figures differ. -/
theorem cmp_far {w0 w : World} {σ : Sg} (h : Hold w0 w σ) {d x : Nat} {e f : Int} {N M : Nat} (hd : σ d = some (dec 0 false e false N)) (hx : σ x = some (dec 0 false f false M)) (hN : N ≠ 0) (hM : M ≠ 0)
    (hNb : nbits N < 1200) (hMb : nbits M < 1200) (he : -10000 ≤ e ∧ e ≤ 10000) (hf : -10000 ≤ f ∧ f ≤ 10000) (hef : e ≠ f) (hfar : (figs N : Int) + e ≠ (figs M : Int) + f) :
    Calls Tryz.prog 90 #[.pointer (some ⟨d, 0, none⟩), .pointer (some ⟨x, 0, none⟩)] w fun E w' => E = .returned (.int .i64 (cmpD N e M f)) ∧ Hold w0 w' σ := by
  have k1 := decSignH_c h hd
  have k2 := decSignH_c h hx
  rw [sgD_pos hN] at k1
  rw [sgD_pos hM] at k2
  have d0 := h.c0 hd
  have x0 := h.c0 hx
  have d2 := h.c2 hd
  have x2 := h.c2 hx
  have kn1 := fun w2 (h2 : Hold w0 w2 σ) => decDigits_c h2 hd hNb
  have kn2 := fun w2 (h2 : Hold w0 w2 σ) => decDigits_c h2 hx hMb
  have ee : (e == f) = false := by simp [hef]
  have hfN := figs_401 hNb
  have hfM := figs_401 hMb
  have hlt := fun h => cmpD_lt (N := N) (e := e) (f := f) hM h
  have hgt := fun h => cmpD_gt (M := M) (e := e) (f := f) hN h
  obtain ⟨a, ha⟩ : ∃ a, figs N = a := ⟨_, rfl⟩
  obtain ⟨b, hb⟩ : ∃ b, figs M = b := ⟨_, rfl⟩
  rw [ha] at hlt hgt hfar hfN
  rw [hb] at hlt hgt hfar hfM
  simp only [ha] at kn1
  simp only [hb] at kn2
  have e1 : IntKind.i64.wrap e = e := IntWalk.i64_in _ (by omega)
  have f1 : IntKind.i64.wrap f = f := IntWalk.i64_in _ (by omega)
  have ae : IntKind.i64.wrap ((a : Int) + e) = (a : Int) + e := IntWalk.i64_in _ (by omega)
  have bf : IntKind.i64.wrap ((b : Int) + f) = (b : Int) + f := IntWalk.i64_in _ (by omega)
  have hcm : cmpD N e M f = if (a : Int) + e < (b : Int) + f then -1 else 1 := by
    by_cases hl : (a : Int) + e < (b : Int) + f
    · rw [if_pos hl]; exact hlt hl
    · rw [if_neg hl]; exact hgt (by omega)
  generalize cmpD N e M f = o at *
  replace kn1 := Lib.hid kn1
  replace kn2 := Lib.hid kn2
  replace k1 := Lib.hid k1
  replace k2 := Lib.hid k2
  replace h := Lib.hid h
  replace hd := Lib.hid hd
  replace hx := Lib.hid hx
  replace hcm := Lib.hid hcm
  replace ha := Lib.hid ha
  replace hb := Lib.hid hb
  clear hN hM hlt hgt hNb hMb
  go_enter Tryz.func90, Tryz.ntmps90
  go_wp2_with fail
  with_reducible refine k1.out.mono ?_
  rintro E w' ⟨rfl, hw⟩
  obtain rfl := hw
  go_wp2_with fail
  with_reducible refine k2.out.mono ?_
  rintro E w' ⟨rfl, hw⟩
  obtain rfl := hw
  go_upto_region 20 with (fail)
  go_quiet (fail)
  go_upto_region 25 with (fail)
  go_cut [10] (fun v wx => v = .int .i64 ((a : Int) + e) ∧ Hold w0 wx σ)
  case first =>
    go_region_with ((go_at_call 31; refine (kn1.out _ (h.out.keep (by exact ⟨rfl, rfl, rfl, Nat.le_refl _, fun _ _ _ => rfl⟩))).mono ?_; rintro E w1 ⟨rfl, h1⟩; have d21 := h1.c2 hd.out; replace h1 := Lib.hid h1))
    all_goals
      go_wp2_with fail
      go_meet
      exact ⟨rfl, h1.out⟩
  case rest =>
    obtain ⟨rfl, h1⟩ := hcut
    clear d0 x0 d2 x2 h k1 k2 kn1
    have x2 := h1.c2 hx.out
    replace h1 := Lib.hid h1
    go_upto_region 26 with (fail)
    go_cut [11] (fun v wx => v = .int .i64 ((b : Int) + f) ∧ Hold w0 wx σ)
    case first =>
      go_region_with ((go_at_call 31; refine (kn2.out _ (h1.out.keep (by exact ⟨rfl, rfl, rfl, Nat.le_refl _, fun _ _ _ => rfl⟩))).mono ?_; rintro E w2 ⟨rfl, h2⟩; have d21 := h2.c2 hx.out; replace h2 := Lib.hid h2))
      all_goals
        go_wp2_with fail
        go_meet
        exact ⟨rfl, h2.out⟩
    case rest =>
      obtain ⟨rfl, h2⟩ := hcut
      replace h2 := Lib.hid h2
      by_cases hl : (a : Int) + e < (b : Int) + f
      · have hl1 : decide ((a : Int) + e < (b : Int) + f) = true := by simp; omega
        go_wp2
        go_ret
        exact ⟨by rw [hcm.out, if_pos (by omega)]; rfl, h2.out⟩
      · have hl1 : decide ((a : Int) + e < (b : Int) + f) = false := by simp; omega
        have hl2 : decide ((b : Int) + f < (a : Int) + e) = true := by simp; omega
        have hg : (b : Int) + f < (a : Int) + e := by omega
        go_wp2
        go_ret
        exact ⟨by rw [hcm.out, if_neg (by omega)]; rfl, h2.out⟩
end Go.Proofs.YtonepclpllelfaaGreatDoor

namespace Go.Proofs.YtonepclpllelfaaGreatDoor
open Go Go.RowKit

set_option exponentiation.threshold 2000 in
theorem ten_40 {g : Nat} (h : g ≤ 400) : (digs (10 ^ g)).length < 40 := by
  refine Nat.lt_of_le_of_lt (digs_len_le (k := 21).2 (Nat.lt_of_le_of_lt (ten_le h) ?_)) (by omega)
  rw [WB_eq]; decide +kernel

set_option maxRecDepth 20000 in
set_option maxHeartbeats 2000000 in
theorem cmp_up {w0 w : World} {σ : Sg} (h : Hold w0 w σ) {d x : Nat} {e f : Int} {N M : Nat} (hd : σ d = some (dec 0 false e false N)) (hx : σ x = some (dec 0 false f false M)) (hN : N ≠ 0) (hM : M ≠ 0)
    (hNb : nbits N < 1200) (hMb : nbits M < 1200) (he : -10000 ≤ e ∧ e ≤ 10000) (hf : -10000 ≤ f ∧ f ≤ 10000) (hef : e < f) (hfar : (figs N : Int) + e = (figs M : Int) + f) :
    Calls Tryz.prog 90 #[.pointer (some ⟨d, 0, none⟩), .pointer (some ⟨x, 0, none⟩)] w fun E w' => E = .returned (.int .i64 (cmpD N e M f)) ∧ Hold w0 w' σ := by
  have k1 := decSignH_c h hd
  have k2 := decSignH_c h hx
  rw [sgD_pos hN] at k1
  rw [sgD_pos hM] at k2
  have d0 := h.c0 hd
  have x0 := h.c0 hx
  have d2 := h.c2 hd
  have x2 := h.c2 hx
  have kn1 := fun w2 (h2 : Hold w0 w2 σ) => decDigits_c h2 hd hNb
  have kn2 := fun w2 (h2 : Hold w0 w2 σ) => decDigits_c h2 hx hMb
  have ee : (e == f) = false := by simp; omega
  have hfN := figs_401 hNb
  have hfM := figs_401 hMb
  have hNp := figs_pos N
  have hMp := figs_pos M
  obtain ⟨a, ha⟩ : ∃ a, figs N = a := ⟨_, rfl⟩
  obtain ⟨b, hb⟩ : ∃ b, figs M = b := ⟨_, rfl⟩
  rw [ha] at hfar hfN hNp
  rw [hb] at hfar hfM hMp
  simp only [ha] at kn1
  simp only [hb] at kn2
  have e1 : IntKind.i64.wrap e = e := IntWalk.i64_in _ (by omega)
  have f1 : IntKind.i64.wrap f = f := IntWalk.i64_in _ (by omega)
  have ae : IntKind.i64.wrap ((a : Int) + e) = (a : Int) + e := IntWalk.i64_in _ (by omega)
  have bf : IntKind.i64.wrap ((b : Int) + f) = (b : Int) + f := IntWalk.i64_in _ (by omega)
  obtain ⟨g, hg⟩ : ∃ g : Nat, f - e = (g : Int) := ⟨(f - e).toNat, by omega⟩
  have hg4 : g ≤ 400 := by omega
  have hgw : IntKind.i64.wrap (f - e) = (g : Int) := by rw [hg]; exact IntWalk.i64_in _ (by omega)
  have hcm : cmpD N e M f = ordN N (M * 10 ^ g) := by rw [cmpD_up (by omega), hg]; simp
  have hne : d ≠ x := by
    rintro rfl
    rw [hd] at hx; cases hx
    omega
  have l1 : decide ((a : Int) + e < (b : Int) + f) = false := by simp; omega
  have l2 : decide ((b : Int) + f < (a : Int) + e) = false := by simp; omega
  have l1' : ¬ (a : Int) + e < (b : Int) + f := by omega
  have l2' : ¬ (b : Int) + f < (a : Int) + e := by omega
  have hel : decide (e < f) = true := by simp; omega
  have hMw : (digs M).length ≤ 1000 := bits_words hMb
  have hNw : (digs N).length ≤ 1000 := bits_words hNb
  have hS40 : (digs M).length < 40 := Nat.lt_of_le_of_lt (bits_w (k := 19) (by omega)) (by omega)
  have h10 : (digs (10 ^ g)).length < 40 := ten_40 hg4
  replace hg := Lib.hid hg
  replace hcm := Lib.hid hcm
  replace ha := Lib.hid ha
  replace hb := Lib.hid hb
  replace hfar := Lib.hid hfar
  generalize cmpD N e M f = o at *
  replace kn1 := Lib.hid kn1
  replace kn2 := Lib.hid kn2
  replace k1 := Lib.hid k1
  replace k2 := Lib.hid k2
  replace h := Lib.hid h
  replace hd := Lib.hid hd
  replace hx := Lib.hid hx
  clear hN hM hNb hMb
  go_enter Tryz.func90, Tryz.ntmps90
  go_wp2_with fail
  with_reducible refine k1.out.mono ?_
  rintro E w' ⟨rfl, hw⟩
  obtain rfl := hw
  go_wp2_with fail
  with_reducible refine k2.out.mono ?_
  rintro E w' ⟨rfl, hw⟩
  obtain rfl := hw
  go_upto_region 20 with (fail)
  go_quiet (fail)
  go_upto_region 25 with (fail)
  go_cut [10] (fun v wx => v = .int .i64 ((a : Int) + e) ∧ Hold w0 wx σ)
  case first =>
    go_region_with ((go_at_call 31; refine (kn1.out _ (h.out.keep (by exact ⟨rfl, rfl, rfl, Nat.le_refl _, fun _ _ _ => rfl⟩))).mono ?_; rintro E w1 ⟨rfl, h1⟩; have d21 := h1.c2 hd.out; replace h1 := Lib.hid h1))
    all_goals
      go_wp2_with fail
      go_meet
      exact ⟨rfl, h1.out⟩
  case rest =>
    obtain ⟨rfl, h1⟩ := hcut
    clear d0 x0 d2 x2 h k1 k2 kn1
    have x2 := h1.c2 hx.out
    replace h1 := Lib.hid h1
    go_upto_region 26 with (fail)
    go_cut [11] (fun v wx => v = .int .i64 ((b : Int) + f) ∧ Hold w0 wx σ)
    case first =>
      go_region_with ((go_at_call 31; refine (kn2.out _ (h1.out.keep (by exact ⟨rfl, rfl, rfl, Nat.le_refl _, fun _ _ _ => rfl⟩))).mono ?_; rintro E w2 ⟨rfl, h2⟩; have d21 := h2.c2 hx.out; replace h2 := Lib.hid h2))
      all_goals
        go_wp2_with fail
        go_meet
        exact ⟨rfl, h2.out⟩
    case rest =>
      obtain ⟨rfl, h2⟩ := hcut
      clear x2 h1 kn2
      have d2 := h2.c2 hd.out
      have x2 := h2.c2 hx.out
      replace h2 := Lib.hid h2
      have hfr : ∀ k, wc.heap.size ≤ k → σ k = none := fun k hk => h2.out.fresh hk
      have hK := hfr _ (Nat.le_refl _)
      have hK1 := hfr (wc.heap.size + 1) (by omega)
      have h3 : ∀ n, Hold w0 (((wc.drewN n).alloc (.cells #[.bool false, .slice none 0 0, .bool false] 53 (0, 0))).alloc (.cells #[.bool false, .slice none 0 0, .bool false] 53 (0, 0))) (upd (upd σ wc.heap.size (big false 0)) (wc.heap.size + 1) (big false 0)) := fun n => by
        have h4 := (h2.out.drewN n).newBig.newBig
        rw [World.size_alloc] at h4
        exact h4
      clear h2 hfr
      have hle0 : Le σ (upd (upd σ wc.heap.size (big false 0)) (wc.heap.size + 1) (big false 0)) := Le.skip hK1 (Le.skip hK (Le.refl _))
      obtain ⟨K, hKe⟩ : ∃ K, wc.heap.size = K := ⟨_, rfl⟩
      simp only [hKe] at h3 hle0 hK hK1
      have a1 : upd (upd σ K (big false 0)) (K + 1) (big false 0) K = some (big false 0) := by rw [upd_ne _ _ (by omega), upd_eq]
      have a2 : upd (upd σ K (big false 0)) (K + 1) (big false 0) (K + 1) = some (big false 0) := upd_eq _ _ _
      generalize upd (upd σ K (big false 0)) (K + 1) (big false 0) = τ at *
      have ks := fun n => bigSetH_c (h3 n) (bnum_big a1) (bnum_dec (hle0 _ _ hx.out)) hMw
      rw [put_big a1] at ks
      have hle1 : Le σ (upd τ K (big false M)) := Le.skip hK hle0
      have b1 := upd_eq τ K (big false M)
      have b2 : upd τ K (big false M) (K + 1) = some (big false 0) := by rw [upd_ne _ _ (by omega)]; exact a2
      generalize upd τ K (big false M) = ρ at *
      replace ks := Lib.hid ks
      replace hle1 := Lib.hid hle1
      replace b1 := Lib.hid b1
      replace b2 := Lib.hid b2
      replace hK := Lib.hid hK
      replace hK1 := Lib.hid hK1
      replace hKe := Lib.hid hKe
      clear h3 hle0 a1 a2
      go_upto_region 32 with (fail)
      go_quiet (fail)
      go_wp2_with fail
      rw [hKe.out]
      with_reducible refine (ks.out _).mono ?_
      rintro E w5 ⟨rfl, h5⟩
      have d25 := h5.c2 (hle1.out _ _ hd.out)
      have x25 := h5.c2 (hle1.out _ _ hx.out)
      have kt := fun w2 (hc : Chg w5 w2 (fun _ => False)) => tableExp_c (h5.keep hc) (bnum_big b2.out) g hg4
      rw [put_big b2.out] at kt
      have c1 : upd ρ (K + 1) (big false (10 ^ g)) K = some (big false M) := by rw [upd_ne _ _ (by omega)]; exact b1.out
      have c2 := upd_eq ρ (K + 1) (big false (10 ^ g))
      have hle2 : Le σ (upd ρ (K + 1) (big false (10 ^ g))) := Le.skip hK1.out hle1.out
      generalize upd ρ (K + 1) (big false (10 ^ g)) = ρ2 at *
      have km := fun w2 (h2 : Hold w0 w2 ρ2) => bigMul_c h2 (bnum_big c1) (num_big c1) (num_big c2) (by intro e; injection e with e; omega) hS40 h10
      rw [put_big c1] at km
      have hle3 : Le σ (upd ρ2 K (big false (M * 10 ^ g))) := Le.skip hK.out hle2
      have kc := fun w2 (h2 : Hold w0 w2 (upd ρ2 K (big false (M * 10 ^ g)))) => bigCmpH_c h2 (bnum_dec (hle3 _ _ hd.out)) (bnum_big (upd_eq _ _ _)) (by intro e; injection e with e; exact absurd (hd.out) (by rw [e, hK.out]; simp))
      have e3 := upd_eq ρ2 K (big false (M * 10 ^ g))
      generalize upd ρ2 K (big false (M * 10 ^ g)) = ρ3 at *
      clear h5 c1 c2 hle2 hle1 b1 b2 ks d2 x2
      replace kt := Lib.hid kt
      replace km := Lib.hid km
      replace kc := Lib.hid kc
      replace hle3 := Lib.hid hle3
      replace e3 := Lib.hid e3
      go_upto_region 35 with (fail)
      go_still_tail 11, (by kernel_rfl)
      change wpList _ _ _ _ _ (World.drew _)
      go_wp2_with fail
      with_reducible refine (kt.out _ (by exact ⟨rfl, rfl, rfl, Nat.le_refl _, fun _ _ _ => rfl⟩)).mono ?_
      rintro E w6 ⟨rfl, h6⟩
      have km := km.out _ h6
      replace km := Lib.hid km
      clear h6
      go_wp2_with fail
      with_reducible refine km.out.mono ?_
      rintro E w7 ⟨rfl, h7⟩
      have kc := kc.out _ h7
      have hend := fun n => (h7.drewN n).le hle3.out
      rw [← hcm.out] at kc
      replace kc := Lib.hid kc
      replace hend := Lib.hid hend
      clear h7
      go_wp2_with fail
      with_reducible refine kc.out.mono ?_
      rintro E w' ⟨rfl, n, rfl⟩
      go_wp2
      go_ret
      exact ⟨rfl, hend.out _⟩

end Go.Proofs.YtonepclpllelfaaGreatDoor
