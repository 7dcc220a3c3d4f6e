/- One is added to a magnitude that was cut. A decimal is set; signs. Comparing decimals above 0. An exponent is set, where it is in the middle. -/
import Derived.Test.YtlnillnngckegaaGreatDoorM15
import Derived.Test.YtlnillnngckegaaGreatDoorM31
namespace Go.Proofs.YtlnillnngckegaaGreatDoor
open Go Go.RowKit

/-- A cell of a block of plain data is stored. -/
theorem Hold.setRaw {w0 w : World} {σ : Sg} (h : Hold w0 w σ) {b i : Nat} {cs : Array Value} {T : TypeId} {x : Value} (hb : σ b = some (Go.Proofs.YtlnillnngckegaaGreatDoor.raw (.cells cs T (0, 0)))) : Hold w0 (w.setCell ⟨b, i, none⟩ x) (upd σ b (Go.Proofs.YtlnillnngckegaaGreatDoor.raw (.cells (cs.setIfInBounds i x) T (0, 0)))) := by
  have hr := h.raw hb
  obtain ⟨st, h⟩ := h
  have hc := chg_setB w b i x
  have hnn : ∀ o p, (Go.Proofs.YtlnillnngckegaaGreatDoor.raw o).num p = none := fun o p => by
    cases hh : (Go.Proofs.YtlnillnngckegaaGreatDoor.raw o).num p with
    | none => rfl
    | some gn => obtain ⟨g1, N1⟩ := gn; rcases It.num_cases hh with ⟨hk, _⟩ | ⟨hk, _⟩ | ⟨hk, _⟩ | ⟨hk, _⟩ | ⟨hk, _⟩ <;> exact absurd hk (Nat.ne_of_beq_eq_false rfl)
  have old : ∀ c p g1 N1, Num (upd σ b (Go.Proofs.YtlnillnngckegaaGreatDoor.raw (.cells (cs.setIfInBounds i x) T (0, 0)))) c p g1 N1 → Num σ c p g1 N1 := by
    rintro c p g1 N1 ⟨jt, hj, hjn⟩
    by_cases e : c = b
    · subst e
      rw [upd_eq] at hj; cases hj
      rw [hnn] at hjn; cases hjn
    · rw [upd_ne _ _ e] at hj
      exact ⟨jt, hj, hjn⟩
  refine ⟨st, h.chg.trans (hc.mono (fun k _ e => .inr (by subst e; exact (h.it _ _ hb).1))), h.glob, ?_, ?_, ?_⟩
  · intro c jt hj
    by_cases e : c = b
    · subst e
      rw [upd_eq] at hj; cases hj
      exact ⟨(h.it _ _ hb).1, .inr ⟨Nat.le_refl 4, setB hr⟩⟩
    · rw [upd_ne _ _ e] at hj
      refine ⟨(h.it _ _ hj).1, (h.it _ _ hj).2.chg hc e ?_⟩
      rintro p g1 N1 k hp hk rfl
      have := (h.sto c p g1 N1 _ ⟨jt, hj, hp⟩ hk).2
      rw [hb] at this; cases this
  · intro c p g1 N1 k hcn hk
    have h3 := h.sto c p g1 N1 k (old _ _ _ _ hcn) hk
    exact ⟨h3.1, by rw [upd_ne _ _ (by rintro rfl; rw [hb] at h3; cases h3.2)]; exact h3.2⟩
  · intro c p g1 N1 c' p' g2 N2 k h3 h4 hk hk'
    exact h.inj c p g1 N1 c' p' g2 N2 k (old _ _ _ _ h3) (old _ _ _ _ h4) hk hk'
/-- An int64 in a block of its own. -/
def c64 (d : Int) : It := raw (.cells #[.int .i64 d] 2 (0, 0))
theorem Hold.c64At {w0 w : World} {σ : Sg} (h : Hold w0 w σ) {b : Nat} {d : Int} (hb : σ b = some (c64 d)) : w.cell? ⟨b, 0, none⟩ = some (.int .i64 d) ∧ w.frozen? ⟨b, 0, none⟩ = false ∧ ∀ d', Hold w0 (w.setCell ⟨b, 0, none⟩ (.int .i64 d')) (upd σ b (c64 d')) := by
  have hr := h.raw hb
  exact ⟨cellB hr rfl, frozenB hr _, fun d' => h.setRaw hb⟩
theorem put_ne {σ : Sg} {b o k : Nat} {g : Bool} {N : Nat} (h : k ≠ b) : put σ b o g N k = σ k := by unfold put; rw [if_neg h]
theorem nbits_mono {a b : Nat} (h : a ≤ b) : nbits a ≤ nbits b := nbits_le_iff.2 (Nat.lt_of_le_of_lt h (nbits_lt b))
theorem nbits_succ (N : Nat) : nbits (N + 1) ≤ nbits N + 1 := by
  refine nbits_le_iff.2 ?_
  have := nbits_lt N
  rw [Nat.pow_succ]; omega
theorem bits_w {N k : Nat} (h : nbits N ≤ 64 * k) : (digs N).length ≤ k := by
  refine digs_len_le.2 ?_
  rw [WB_bits, ← Nat.pow_mul]
  exact nbits_le_iff.1 h
theorem sgN_nn (N : Nat) : 0 ≤ sgN false N := by unfold sgN; split <;> simp

set_option maxRecDepth 20000 in
set_option maxHeartbeats 1000000 in
theorem addOne_c {w0 w : World} {σ : Sg} (h : Hold w0 w σ) {bx ox q N N' : Nat} {d d' : Int} (hx : BNum σ bx ox false N) (hq : σ q = some (c64 d)) (hN : nbits N < 1100) (hd : -1000000 ≤ d ∧ d ≤ 1000000)
    (hc : figs N < figs (N + 1) ∧ N' = (N + 1) / 10 ∧ d' = d + 1 ∨ ¬ figs N < figs (N + 1) ∧ N' = N + 1 ∧ d' = d) :
    Calls Tryz.prog 98 #[.pointer (some ⟨bx, ox, none⟩), .pointer (some ⟨q, 0, none⟩)] w fun e w' => e = .returned (.tuple #[]) ∧ Hold w0 w' (upd (put σ bx ox false N') q (c64 d')) := by
  obtain ⟨it, hbx, hin, hin2⟩ := id hx
  have hqx : q ≠ bx := by
    rintro rfl
    rw [hbx] at hq; cases hq
    exact absurd rfl (Nat.ne_of_lt (Nat.lt_of_le_of_ne (Nat.zero_le _) (fun _ => by cases hin)))
  have ksg := bigSignH_c h hx
  have hsg : decide (sgN false N < 0) = false := by have := sgN_nn N; simp; omega
  obtain ⟨sg, hsge⟩ : ∃ sg, sgN false N = sg := ⟨_, rfl⟩
  rw [hsge] at ksg hsg
  have kd := NumDigits_c h hx (by omega)
  have hb1 : nbits (N + 1) < 1101 := by have := nbits_succ N; omega
  obtain ⟨a, ha⟩ : ∃ a, figs N = a := ⟨_, rfl⟩
  obtain ⟨b, hb⟩ : ∃ b, figs (N + 1) = b := ⟨_, rfl⟩
  rw [ha, hb] at hc
  rw [ha] at kd
  have ew : IntKind.i64.wrap (d + 1) = d + 1 := IntWalk.i64_in _ (by omega)
  replace ksg := Lib.hid ksg
  replace kd := Lib.hid kd
  replace hsge := Lib.hid hsge
  replace ha := Lib.hid ha
  replace hb := Lib.hid hb
  replace hbx := Lib.hid hbx
  replace hin := Lib.hid hin
  replace hq := Lib.hid hq
  replace hx := Lib.hid hx
  replace hc := Lib.hid hc
  clear h
  go_enter Tryz.func98, Tryz.ntmps98
  go_wp2_with fail
  with_reducible refine ksg.out.mono ?_
  rintro e w' ⟨rfl, hw⟩
  obtain rfl := hw
  go_wp2_with fail
  with_reducible refine kd.out.mono ?_
  rintro e w1 ⟨rfl, h1⟩
  have k1 := bigOne_c h1
  have hfr1 : ∀ k, w1.heap.size ≤ k → σ k = none := fun k hk => h1.fresh hk
  replace k1 := Lib.hid k1
  replace hfr1 := Lib.hid hfr1
  clear h1
  go_wp2_with fail
  with_reducible refine k1.out.mono ?_
  rintro e w2 ⟨k, rfl, hk, h2⟩
  have hfk := hfr1.out k hk
  have ka := bigAdd_c h2 (hx.out.upd hfk) (hx.out.upd hfk).num (num_big (upd_eq _ _ _)) (Nat.le_trans (bits_w (k := 18) (by omega)) (by omega)) (Nat.le_of_lt (Nat.lt_trans (five_len (by omega) (by omega)) (by omega)))
  replace ka := Lib.hid ka
  clear h2 hfr1
  go_wp2_with fail
  with_reducible refine ka.out.mono ?_
  rintro e w3 ⟨rfl, h3⟩
  have h4 := h3.le (Le.put (Le.skip hfk (Le.refl _)) bx ox false (N + 1) hbx.out)
  have hx4 := hx.out.put false (N + 1)
  have kd2 := NumDigits_c h4 hx4 (by omega)
  rw [hb.out] at kd2
  replace kd2 := Lib.hid kd2
  replace hx4 := Lib.hid hx4
  clear h3 h4 hfk
  go_wp2_with fail
  with_reducible refine kd2.out.mono ?_
  rintro e w4 ⟨rfl, h4⟩
  have hq4 : put σ bx ox false (N + 1) q = some (c64 d) := by rw [put_ne hqx]; exact hq.out
  rcases hc.out with ⟨hl, hN', hd'⟩ | ⟨hl, hN', hd'⟩
  · have hl1 : decide ((a : Int) < (b : Int)) = true := by simp; omega
    have k5 := bigTen_c h4
    have hfr4 : ∀ k, w4.heap.size ≤ k → put σ bx ox false (N + 1) k = none := fun k hk => h4.fresh hk
    replace k5 := Lib.hid k5
    replace hfr4 := Lib.hid hfr4
    replace hq4 := Lib.hid hq4
    replace hN' := Lib.hid hN'
    replace hd' := Lib.hid hd'
    clear h4
    go_wp2_with fail
    with_reducible refine k5.out.mono ?_
    rintro e w5 ⟨m, rfl, hm, h5⟩
    have hfm := hfr4.out m hm
    have kq := bigQuo_c h5 (hx4.out.upd hfm) (hx4.out.upd hfm).num (num_big (upd_eq _ _ _)) (by omega) (Nat.le_trans (bits_w (k := 18) (by omega)) (by omega)) (five_len (by omega) (by omega))
    replace kq := Lib.hid kq
    clear h5 hfr4
    go_wp2_with fail
    with_reducible refine kq.out.mono ?_
    rintro e w6 ⟨rfl, h6⟩
    obtain ⟨it4, hb4, _, _⟩ := hx4.out
    have h7 := h6.le (Le.put (Le.skip hfm (Le.refl _)) bx ox false ((N + 1) / 10) hb4)
    rw [put_put hx.out.num, ← hN'.out] at h7
    have hq7 : put σ bx ox false N' q = some (c64 d) := by rw [put_ne hqx]; exact hq.out
    obtain ⟨c0, f0, hset⟩ := h7.c64At hq7
    have hset2 : Hold w0 (w6.setCell ⟨q, 0, none⟩ (.int .i64 (d + 1))) (upd (put σ bx ox false N') q (c64 d')) := by rw [hd'.out]; exact hset _
    replace hset := Lib.hid hset2
    clear hset2
    clear h6 h7 hq7 hb4
    go_wp2
    go_end0
    exact ⟨rfl, hset.out⟩
  · have hl1 : decide ((a : Int) < (b : Int)) = false := by simp; omega
    have hend : Hold w0 w4 (upd (put σ bx ox false N') q (c64 d')) := by
      rw [hd', hN', upd_self hq4]; exact h4
    replace hend := Lib.hid hend
    replace hq4 := Lib.hid hq4
    replace hN' := Lib.hid hN'
    replace hd' := Lib.hid hd'
    clear h4
    go_wp2
    go_end0
    exact ⟨rfl, hend.out⟩
end Go.Proofs.YtlnillnngckegaaGreatDoor

namespace Go.Proofs.YtlnillnngckegaaGreatDoor
open Go Go.RowKit

theorem eqlDecSame {w : World} (a : Addr) : (binOp .eql 46 (.pointer (some a)) (.pointer (some a))).run Tryz.prog w = .ok (.bool true) w := by
  obtain ⟨j, hj, _⟩ := infoDec
  exact run_eql_ptr_same a Tryz.underlying46 hj
set_option maxRecDepth 20000 in
theorem setSlow_c {w0 w : World} {σ : Sg} (h : Hold w0 w σ) {d x : Nat} {f e f' e' : Int} {n g n' g' : Bool} {N N' : Nat} (hd : σ d = some (dec f' n' e' g' N')) (hx : σ x = some (dec f n e g N)) (hne : x ≠ d) (hN : (digs N).length ≤ 1000) :
    Calls Tryz.prog 80 #[.pointer (some ⟨d, 0, none⟩), .pointer (some ⟨x, 0, none⟩)] w fun E w' => E = .returned (.pointer (some ⟨d, 0, none⟩)) ∧ Hold w0 w' (upd σ d (dec f n e g N)) := by
  have x0 := h.c0 hx
  have d0 := h.fz hd 0
  have p0 := h.c0 hd
  have p1 := h.c1 hd
  have p2 := h.c2 hd
  have q1 := h.c1 hx
  have q2 := h.c2 hx
  have g1 := h.fz hd 1
  have g2 := h.fz hd 2
  have h1 := h.setForm hd f
  have hx1 : upd σ d (dec f n' e' g' N') x = some (dec f n e g N) := by rw [upd_ne _ _ hne]; exact hx
  have x1 := h1.c1 hx1
  have d1 := h1.fz (upd_eq _ _ _) 1
  have h2 := h1.setSign (upd_eq _ _ _) n
  rw [upd_upd] at h2
  have hx2 : upd σ d (dec f n e' g' N') x = some (dec f n e g N) := by rw [upd_ne _ _ hne]; exact hx
  have x2 := h2.c2 hx2
  have d2 := h2.fz (upd_eq _ _ _) 2
  have h3 := h2.setExp (upd_eq _ _ _) e
  rw [upd_upd] at h3
  have hx3 : upd σ d (dec f n e g' N') x = some (dec f n e g N) := by rw [upd_ne _ _ hne]; exact hx
  have hd3 := upd_eq σ d (dec f n e g' N')
  have ks := fun w2 (hc : Chg (((w.setCell ⟨d, 0, none⟩ (.int .i8 f)).setCell ⟨d, 1, none⟩ (.bool n)).setCell ⟨d, 2, none⟩ (.int .i32 e)) w2 (fun _ => False)) => bigSetH_c (h3.keep hc) (bnum_dec hd3) (bnum_dec hx3) hN
  rw [put_dec hd3, upd_upd] at ks
  replace ks := Lib.hid ks
  clear h h1 h2 h3 hd hx hx1 hx2 hx3 hd3 hne hN
  go_enter Tryz.func80, Tryz.ntmps80
  go_upto_region 4 with (fail)
  go_still_tail 6, (by kernel_rfl)
  change wpList _ _ _ _ _ (World.drew _)
  go_wp2_with fail
  with_reducible refine (ks.out _ (by exact ⟨rfl, rfl, rfl, Nat.le_refl _, fun _ _ _ => rfl⟩)).mono ?_
  rintro e w1 ⟨rfl, h1⟩
  replace h1 := Lib.hid h1
  go_wp2
  go_ret
  exact ⟨rfl, h1.out⟩
set_option maxRecDepth 20000 in
theorem decSet_c {w0 w : World} {σ : Sg} (h : Hold w0 w σ) {d x : Nat} {f e f' e' : Int} {n g n' g' : Bool} {N N' : Nat} (hd : σ d = some (dec f' n' e' g' N')) (hx : σ x = some (dec f n e g N)) (hN : (digs N).length ≤ 1000) :
    Calls Tryz.prog 57 #[.pointer (some ⟨d, 0, none⟩), .pointer (some ⟨x, 0, none⟩)] w fun E w' => E = .returned (.pointer (some ⟨d, 0, none⟩)) ∧ Hold w0 w' (upd σ d (dec f n e g N)) := by
  by_cases hne : x = d
  · subst hne
    have hend : Hold w0 w (upd σ x (dec f n e g N)) := by rw [upd_self hx]; exact h
    have hq := eqlDecSame (w := w) ⟨x, 0, none⟩
    replace hend := Lib.hid hend
    clear h hx hd hN
    go_enter Tryz.func57, Tryz.ntmps57
    go_wp2
    go_ret
    exact ⟨rfl, hend.out⟩
  · have ks := setSlow_c h hd hx hne hN
    obtain ⟨_, _, hbd, _⟩ := h.decAt hd
    obtain ⟨_, _, hbx, _⟩ := h.decAt hx
    have hq := eqlDec (Ne.symm hne) hbd hbx
    clear hbd hbx
    replace ks := Lib.hid ks
    clear h hx hd hN
    go_enter Tryz.func57, Tryz.ntmps57
    go_wp2_with fail
    with_reducible refine ks.out.mono ?_
    rintro e w1 ⟨rfl, h1⟩
    replace h1 := Lib.hid h1
    go_wp2
    go_ret
    exact ⟨rfl, h1.out⟩

theorem decSignH_c {w0 w : World} {σ : Sg} (h : Hold w0 w σ) {b : Nat} {e : Int} {n : Bool} {N : Nat} (hx : σ b = some (dec 0 n e false N)) :
    Calls Tryz.prog 79 #[.pointer (some ⟨b, 0, none⟩)] w fun E w' => E = .returned (.int .i64 (sgD 0 n N)) ∧ w = w' := by
  obtain ⟨v, s, h1, h2⟩ := h.decAt hx
  exact decSign_c w b 0 e n N s ⟨v, h1, h2⟩ (by omega)
theorem isZeroH_c {w0 w : World} {σ : Sg} (h : Hold w0 w σ) {b : Nat} {e : Int} {n : Bool} {N : Nat} (hx : σ b = some (dec 0 n e false N)) :
    Calls Tryz.prog 56 #[.pointer (some ⟨b, 0, none⟩)] w fun E w' => E = .returned (.bool (decide (N = 0))) ∧ w = w' := by
  obtain ⟨v, s, h1, h2⟩ := h.decAt hx
  have k := isZero_c w b 0 e n N s ⟨v, h1, h2⟩ (by omega)
  rw [show decide ((0 : Int) = 0 ∧ N = 0) = decide (N = 0) by simp] at k
  exact k
end Go.Proofs.YtlnillnngckegaaGreatDoor

namespace Go.Proofs.YtlnillnngckegaaGreatDoor
open Go Go.RowKit

/-- How two magnitudes with exponents lie. -/
def cmpD (N : Nat) (e : Int) (M : Nat) (f : Int) : Int := ordN (N * 10 ^ (e - f).toNat) (M * 10 ^ (f - e).toNat)
theorem cmpD_same (N M : Nat) (e : Int) : cmpD N e M e = ordN N M := by unfold cmpD; rw [Int.sub_self]; simp
theorem cmpD_lt {N M : Nat} {e f : Int} (hM : M ≠ 0) (h : (figs N : Int) + e < (figs M : Int) + f) : cmpD N e M f = -1 := by
  have h1 := figs_lt N
  have h2 := figs_ge hM
  have hp := figs_pos N
  have hp2 := figs_pos M
  unfold cmpD
  rw [ordN_lt]
  calc N * 10 ^ (e - f).toNat < 10 ^ figs N * 10 ^ (e - f).toNat := Nat.mul_lt_mul_of_pos_right h1 (ten_pos _)
    _ = 10 ^ (figs N + (e - f).toNat) := (Nat.pow_add _ _ _).symm
    _ ≤ 10 ^ (figs M - 1 + (f - e).toNat) := ten_le (by omega)
    _ = 10 ^ (figs M - 1) * 10 ^ (f - e).toNat := Nat.pow_add _ _ _
    _ ≤ M * 10 ^ (f - e).toNat := Nat.mul_le_mul_right _ h2
theorem ordN_swap (a b : Nat) : ordN a b = - ordN b a := by
  unfold ordN
  by_cases h1 : a < b
  · rw [if_pos h1, if_neg (by omega), if_pos h1]
  · by_cases h2 : b < a
    · rw [if_neg h1, if_pos h2, if_pos h2]; rfl
    · rw [if_neg h1, if_neg h2, if_neg h2, if_neg h1]; rfl
theorem cmpD_gt {N M : Nat} {e f : Int} (hN : N ≠ 0) (h : (figs M : Int) + f < (figs N : Int) + e) : cmpD N e M f = 1 := by
  have := cmpD_lt hN h
  unfold cmpD at this ⊢
  rw [ordN_swap, this]; rfl
theorem cmpD_up {N M : Nat} {e f : Int} (h : e ≤ f) : cmpD N e M f = ordN N (M * 10 ^ (f - e).toNat) := by
  unfold cmpD; rw [show (e - f).toNat = 0 by omega]; simp
theorem cmpD_down {N M : Nat} {e f : Int} (h : f ≤ e) : cmpD N e M f = ordN (N * 10 ^ (e - f).toNat) M := by
  unfold cmpD; rw [show (f - e).toNat = 0 by omega]; simp
set_option exponentiation.threshold 500 in
theorem figs_401 {N : Nat} (h : nbits N < 1200) : figs N ≤ 401 := by
  obtain ⟨q, q1, q2, q3, q4, q5⟩ := fguess_spec h
  exact (figs_le_iff (by omega)).2 (Nat.lt_of_lt_of_le (nbits_lt N) (Nat.le_trans q4 (ten_le (by omega))))
theorem sgD_pos {N : Nat} (h : N ≠ 0) : sgD 0 false N = 1 := by unfold sgD; rw [if_neg (by simp [h])]; rfl

set_option maxRecDepth 20000 in
set_option maxHeartbeats 1000000 in
theorem cmp_same {w0 w : World} {σ : Sg} (h : Hold w0 w σ) {d x : Nat} {e : Int} {N M : Nat} (hd : σ d = some (dec 0 false e false N)) (hx : σ x = some (dec 0 false e false M)) (hne : d ≠ x) (hN : N ≠ 0) (hM : M ≠ 0) :
    Calls Tryz.prog 85 #[.pointer (some ⟨d, 0, none⟩), .pointer (some ⟨x, 0, none⟩)] w fun E w' => E = .returned (.int .i64 (cmpD N e M e)) ∧ Hold w0 w' σ := by
  have k1 := decSignH_c h hd
  have k2 := decSignH_c h hx
  rw [sgD_pos hN] at k1
  rw [sgD_pos hM] at k2
  rw [cmpD_same]
  have d0 := h.c0 hd
  have x0 := h.c0 hx
  have d2 := h.c2 hd
  have x2 := h.c2 hx
  have kc := fun w2 (hc : Chg w w2 (fun _ => False)) => bigCmpH_c (h.keep hc) (bnum_dec hd) (bnum_dec hx) (fun e => hne (congrArg Addr.block e))
  have he : (e == e) = true := by simp
  generalize ordN N M = o at *
  replace kc := Lib.hid kc
  replace k1 := Lib.hid k1
  replace k2 := Lib.hid k2
  replace h := Lib.hid h
  clear hd hx hne hN hM
  go_enter Tryz.func85, Tryz.ntmps85
  go_wp2_with fail
  with_reducible refine k1.out.mono ?_
  rintro E w' ⟨rfl, hw⟩
  obtain rfl := hw
  go_wp2_with fail
  with_reducible refine k2.out.mono ?_
  rintro E w' ⟨rfl, hw⟩
  obtain rfl := hw
  go_upto_region 20 with (fail)
  go_quiet (fail)
  go_upto_region 21 with (fail)
  go_still_tail 6, (by kernel_rfl)
  change wpList _ _ _ _ _ (World.drew _)
  go_wp2_with fail
  with_reducible refine (kc.out _ (by exact ⟨rfl, rfl, rfl, Nat.le_refl _, fun _ _ _ => rfl⟩)).mono ?_
  rintro E w' ⟨rfl, n, rfl⟩
  go_wp2
  go_ret
  exact ⟨rfl, (h.out.keep (by exact ⟨rfl, rfl, rfl, Nat.le_refl _, fun _ _ _ => rfl⟩))⟩

set_option maxRecDepth 20000 in
set_option maxHeartbeats 2000000 in
/-- The places of the first figures differ. -/
theorem cmp_far {w0 w : World} {σ : Sg} (h : Hold w0 w σ) {d x : Nat} {e f : Int} {N M : Nat} (hd : σ d = some (dec 0 false e false N)) (hx : σ x = some (dec 0 false f false M)) (hN : N ≠ 0) (hM : M ≠ 0)
    (hNb : nbits N < 1200) (hMb : nbits M < 1200) (he : -10000 ≤ e ∧ e ≤ 10000) (hf : -10000 ≤ f ∧ f ≤ 10000) (hef : e ≠ f) (hfar : (figs N : Int) + e ≠ (figs M : Int) + f) :
    Calls Tryz.prog 85 #[.pointer (some ⟨d, 0, none⟩), .pointer (some ⟨x, 0, none⟩)] w fun E w' => E = .returned (.int .i64 (cmpD N e M f)) ∧ Hold w0 w' σ := by
  have k1 := decSignH_c h hd
  have k2 := decSignH_c h hx
  rw [sgD_pos hN] at k1
  rw [sgD_pos hM] at k2
  have d0 := h.c0 hd
  have x0 := h.c0 hx
  have d2 := h.c2 hd
  have x2 := h.c2 hx
  have kn1 := fun w2 (h2 : Hold w0 w2 σ) => decDigits_c h2 hd hNb
  have kn2 := fun w2 (h2 : Hold w0 w2 σ) => decDigits_c h2 hx hMb
  have ee : (e == f) = false := by simp [hef]
  have hfN := figs_401 hNb
  have hfM := figs_401 hMb
  have hlt := fun h => cmpD_lt (N := N) (e := e) (f := f) hM h
  have hgt := fun h => cmpD_gt (M := M) (e := e) (f := f) hN h
  obtain ⟨a, ha⟩ : ∃ a, figs N = a := ⟨_, rfl⟩
  obtain ⟨b, hb⟩ : ∃ b, figs M = b := ⟨_, rfl⟩
  rw [ha] at hlt hgt hfar hfN
  rw [hb] at hlt hgt hfar hfM
  simp only [ha] at kn1
  simp only [hb] at kn2
  have e1 : IntKind.i64.wrap e = e := IntWalk.i64_in _ (by omega)
  have f1 : IntKind.i64.wrap f = f := IntWalk.i64_in _ (by omega)
  have ae : IntKind.i64.wrap ((a : Int) + e) = (a : Int) + e := IntWalk.i64_in _ (by omega)
  have bf : IntKind.i64.wrap ((b : Int) + f) = (b : Int) + f := IntWalk.i64_in _ (by omega)
  have hcm : cmpD N e M f = if (a : Int) + e < (b : Int) + f then -1 else 1 := by
    by_cases hl : (a : Int) + e < (b : Int) + f
    · rw [if_pos hl]; exact hlt hl
    · rw [if_neg hl]; exact hgt (by omega)
  generalize cmpD N e M f = o at *
  replace kn1 := Lib.hid kn1
  replace kn2 := Lib.hid kn2
  replace k1 := Lib.hid k1
  replace k2 := Lib.hid k2
  replace h := Lib.hid h
  replace hd := Lib.hid hd
  replace hx := Lib.hid hx
  replace hcm := Lib.hid hcm
  replace ha := Lib.hid ha
  replace hb := Lib.hid hb
  clear hN hM hlt hgt hNb hMb
  go_enter Tryz.func85, Tryz.ntmps85
  go_wp2_with fail
  with_reducible refine k1.out.mono ?_
  rintro E w' ⟨rfl, hw⟩
  obtain rfl := hw
  go_wp2_with fail
  with_reducible refine k2.out.mono ?_
  rintro E w' ⟨rfl, hw⟩
  obtain rfl := hw
  go_upto_region 20 with (fail)
  go_quiet (fail)
  go_upto_region 25 with (fail)
  go_cut [10] (fun v wx => v = .int .i64 ((a : Int) + e) ∧ Hold w0 wx σ)
  case first =>
    go_region_with ((go_at_call 82; refine (kn1.out _ (h.out.keep (by exact ⟨rfl, rfl, rfl, Nat.le_refl _, fun _ _ _ => rfl⟩))).mono ?_; rintro E w1 ⟨rfl, h1⟩; have d21 := h1.c2 hd.out; replace h1 := Lib.hid h1))
    all_goals
      go_wp2_with fail
      go_meet
      exact ⟨rfl, h1.out⟩
  case rest =>
    obtain ⟨rfl, h1⟩ := hcut
    clear d0 x0 d2 x2 h k1 k2 kn1
    have x2 := h1.c2 hx.out
    replace h1 := Lib.hid h1
    go_upto_region 26 with (fail)
    go_cut [11] (fun v wx => v = .int .i64 ((b : Int) + f) ∧ Hold w0 wx σ)
    case first =>
      go_region_with ((go_at_call 82; refine (kn2.out _ (h1.out.keep (by exact ⟨rfl, rfl, rfl, Nat.le_refl _, fun _ _ _ => rfl⟩))).mono ?_; rintro E w2 ⟨rfl, h2⟩; have d21 := h2.c2 hx.out; replace h2 := Lib.hid h2))
      all_goals
        go_wp2_with fail
        go_meet
        exact ⟨rfl, h2.out⟩
    case rest =>
      obtain ⟨rfl, h2⟩ := hcut
      replace h2 := Lib.hid h2
      by_cases hl : (a : Int) + e < (b : Int) + f
      · have hl1 : decide ((a : Int) + e < (b : Int) + f) = true := by simp; omega
        go_wp2
        go_ret
        exact ⟨by rw [hcm.out, if_pos (by omega)]; rfl, h2.out⟩
      · have hl1 : decide ((a : Int) + e < (b : Int) + f) = false := by simp; omega
        have hl2 : decide ((b : Int) + f < (a : Int) + e) = true := by simp; omega
        have hg : (b : Int) + f < (a : Int) + e := by omega
        go_wp2
        go_ret
        exact ⟨by rw [hcm.out, if_neg (by omega)]; rfl, h2.out⟩
end Go.Proofs.YtlnillnngckegaaGreatDoor

namespace Go.Proofs.YtlnillnngckegaaGreatDoor
open Go Go.RowKit

/-- A context as a block of plain data. -/
def ctxO (p a b : Int) (m : ByteArray) : It := raw (.cells #[.int .u32 p, .int .i32 a, .int .i32 b, .int .u32 0, .string m] 81 (0, 0))
theorem Hold.ctx {w0 w : World} {σ : Sg} (h : Hold w0 w σ) {c : Nat} {p a b : Int} {m : ByteArray} (hc : σ c = some (ctxO p a b m)) : Ctx w c p a b m := h.raw hc

def sumN (x : Nat → Int) : Nat → Int
  | 0 => 0
  | k + 1 => sumN x k + x k
theorem sumN_le {x : Nat → Int} {l : Nat} (hx : ∀ k, k < l → -10000 ≤ x k ∧ x k ≤ 10000) : ∀ k, k ≤ l → -10000 * (k : Int) ≤ sumN x k ∧ sumN x k ≤ 10000 * (k : Int)
  | 0, _ => by simp [sumN]
  | k + 1, h => by
    have h1 := sumN_le hx k (by omega)
    have h2 := hx k (by omega)
    simp only [sumN]
    omega

/-- Conditions that tell of no subnormal number. -/
def calm (r : Nat) : Prop := r = 0 ∨ r = 16 ∨ r = 64 ∨ r = 80
def inexR (r : Nat) : Bool := r == 16 || r == 80
theorem inexact_c (w : World) {r : Nat} (h : calm r) : Calls Tryz.prog 89 #[.int .u32 (r : Int)] w fun e w' => e = .returned (.bool (inexR r)) ∧ w = w' := by
  rcases h with rfl | rfl | rfl | rfl
  all_goals
    go_enter Tryz.func89, Tryz.ntmps89
    go_wp2
    go_ret
    exact ⟨by kernel_rfl, rfl⟩
theorem subnormal_c (w : World) {r : Nat} (h : calm r) : Calls Tryz.prog 90 #[.int .u32 (r : Int)] w fun e w' => e = .returned (.bool false) ∧ w = w' := by
  rcases h with rfl | rfl | rfl | rfl
  all_goals
    go_enter Tryz.func90, Tryz.ntmps90
    go_wp2
    go_ret
    exact ⟨by kernel_rfl, rfl⟩

set_option maxRecDepth 20000 in
set_option maxHeartbeats 2000000 in
theorem setExp_c {w0 w : World} {σ : Sg} (h : Hold w0 w σ) {d c s l cap r : Nat} {f0 e p a b nd : Int} {n : Bool} {N : Nat} {m : ByteArray} (x : Nat → Int) (hd : σ d = some (dec f0 n e false N)) (hc : σ c = some (ctxO p a b m)) (hN : nbits N < 1200)
    (hnd : nd = -1 ∨ nd = (figs N : Int)) (hr : calm r) (hl : l ≤ 3) (hx : ∀ k, k < l → -10000 ≤ x k ∧ x k ≤ 10000) (hs : ∀ k, k < l → w.cell? ⟨s, k, none⟩ = some (.int .i64 (x k))) (ha : 50000 ≤ a ∧ a ≤ 2000000) (hb : -2000000 ≤ b ∧ b ≤ -50000) (hcap : l ≤ cap ∧ cap ≤ 100) :
    Calls Tryz.prog 61 #[.pointer (some ⟨d, 0, none⟩), .pointer (some ⟨c, 0, none⟩), .int .i64 nd, .int .u32 (r : Int), .slice (some ⟨s, 0, none⟩) l cap] w fun E w' => E = .returned (.int .u32 (r : Int)) ∧ Hold w0 w' (upd σ d (dec f0 n (sumN x l) false N)) := by
  have hsum := sumN_le hx
  have kn := decDigits_c h hd hN
  have hfN := figs_401 hN
  have hfp := figs_pos N
  obtain ⟨q, hq⟩ : ∃ q, figs N = q := ⟨_, rfl⟩
  rw [hq] at kn hnd hfN hfp
  replace h := Lib.hid h
  replace hd := Lib.hid hd
  replace hc := Lib.hid hc
  replace hs := Lib.hid hs
  replace hx := Lib.hid hx
  replace hsum := Lib.hid hsum
  replace kn := Lib.hid kn
  replace hq := Lib.hid hq
  replace hr := Lib.hid hr
  replace hnd := Lib.hid hnd
  clear hN
  go_enter Tryz.func61, Tryz.ntmps61
  go_wp2
  go_loop [11, 23] (fun v i => ∃ k : Nat, k ≤ l ∧ v = .int .i64 (sumN x k) ∧ i = .int .i64 (k : Int)) (fun _ i => l - (intOf i).toNat)
  case atStart => exact ⟨0, by omega, rfl, rfl⟩
  case round =>
    obtain ⟨k, hk, rfl, rfl⟩ := hrel
    by_cases hkl : k < l
    · have cs := hs.out k hkl
      have hxk := hx.out k hkl
      have hsk := hsum.out k hk
      have hst : sumN x (k + 1) = sumN x k + x k := rfl
      have ew : IntKind.i64.wrap (sumN x k + x k) = sumN x k + x k := IntWalk.i64_in _ (by omega)
      have h1 : ¬ 100000 < x k := by omega
      have h2 : ¬ x k < -100000 := by omega
      replace hst := Lib.hid hst
      generalize sumN x k = S at *
      generalize x k = X at *
      go_wp2
      go_round
      case rel => exact ⟨k + 1, by omega, by rw [hst.out], by go_num⟩
      case measure => simp [intOf]; omega
    · obtain rfl : k = l := by omega
      have hS := hsum.out k (Nat.le_refl _)
      obtain ⟨S, hSe⟩ : ∃ S, sumN x k = S := ⟨_, rfl⟩
      rw [hSe] at hS ⊢
      have hS1 : -30000 ≤ S ∧ S ≤ 30000 := by omega
      replace hSe := Lib.hid hSe
      have ki := fun w => inexact_c w hr.out
      have ku := fun w => subnormal_c w hr.out
      obtain ⟨ib, hib⟩ : ∃ ib, inexR r = ib := ⟨_, rfl⟩
      rw [hib] at ki
      replace hib := Lib.hid hib
      replace ki := Lib.hid ki
      replace ku := Lib.hid ku
      have s1 : IntKind.i32.wrap S = S := IntWalk.i32_in _ (by omega)
      have s2 : IntKind.i64.wrap (S + (q : Int)) = S + (q : Int) := IntWalk.i64_in _ (by omega)
      have s3 : IntKind.i64.wrap (S + (q : Int) - 1) = S + (q : Int) - 1 := IntWalk.i64_in _ (by omega)
      have s4 : IntKind.i32.wrap (S + (q : Int) - 1) = S + (q : Int) - 1 := IntWalk.i32_in _ (by omega)
      have s5 : ¬ 100000 < S + (q : Int) - 1 := by omega
      have s6 : ¬ S + (q : Int) - 1 < -100000 := by omega
      have s7 : ¬ S + (q : Int) - 1 < b := by omega
      have s8 : ¬ a < S + (q : Int) - 1 := by omega
      have qn : ((q : Int) == -1) = false := by simp
      clear hs hx hsum hS hkl hk hl hcap
      go_upto_if 38 with (fail)
      go_cut [2] (fun v wx => v = .int .i64 (q : Int) ∧ Hold w0 wx σ)
      case first =>
        rcases hnd.out with rfl | rfl
        · go_wp2_with fail
          with_reducible refine kn.out.mono ?_
          rintro E w1 ⟨rfl, h1⟩
          replace h1 := Lib.hid h1
          go_wp2_with fail
          go_meet
          exact ⟨rfl, h1.out⟩
        · go_wp2_with fail
          go_meet
          exact ⟨rfl, h.out⟩
      case rest =>
        obtain ⟨rfl, h1⟩ := hcut
        clear kn h hnd qn
        have hctx := h1.ctx hc.out
        have c1 := hctx.c1
        have c2 := hctx.c2
        have d2 := h1.c2 hd.out
        have f2 := h1.fz hd.out 2
        have hend := h1.setExp hd.out S
        replace hend := Lib.hid hend
        clear hctx h1
        cases ib
        · go_wp2_with fail
          with_reducible refine (ki.out _).mono ?_
          rintro E w' ⟨rfl, hw⟩
          obtain rfl := hw
          go_wp2
          go_ret
          rw [hSe.out]
          exact ⟨rfl, hend.out⟩
        · go_wp2_with fail
          with_reducible refine (ki.out _).mono ?_
          rintro E w' ⟨rfl, hw⟩
          obtain rfl := hw
          go_wp2_with fail
          with_reducible refine (ku.out _).mono ?_
          rintro E w' ⟨rfl, hw⟩
          obtain rfl := hw
          go_wp2
          go_ret
          rw [hSe.out]
          exact ⟨rfl, hend.out⟩
end Go.Proofs.YtlnillnngckegaaGreatDoor
