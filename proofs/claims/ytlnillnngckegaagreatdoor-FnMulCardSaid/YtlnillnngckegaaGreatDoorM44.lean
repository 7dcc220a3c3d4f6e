/- The reference's rounding: Cut, Rounded. The reference's rounding to so many figures. -/
import Derived.Test.YtlnillnngckegaaGreatDoorM43
namespace Go.Proofs.YtlnillnngckegaaGreatDoor
open Go Go.RowKit

theorem pow10_c (w : World) (n : Nat) (hn : n ≤ 10000) :
    Calls Tryz.prog 64 #[.int .i64 10, .int .i64 (n : Int)] w fun e w' => ∃ p m cc, e = .returned (.slice p m cc) ∧ DRes w w' p m cc (10 ^ n) := powD_c w 10 n (by decide) hn
theorem small1_c (w : World) : Calls Tryz.prog 77 #[.int .i64 1] w fun e w' => ∃ p n cc, e = .returned (.slice p n cc) ∧ DRes w w' p n cc 1 := smallD_c w 1 (by decide)
theorem bkeep {w w' : World} {k : Nat} {cs : Array Value} {T : TypeId} (hb : Below w.heap.size w w') (h : w.heap[k]? = some (.cells cs T (0, 0))) : w'.heap[k]? = some (.cells cs T (0, 0)) := (Below.chg hb).heapB h (fun h => h)
theorem d16_len0 {n l : Nat} (h : (d16 n).length = l) : l = 0 ↔ n = 0 := by
  rw [← h, List.length_eq_zero_iff]; exact dB_eq_nil two16
/-- A value in new memory, and whether it is not exact. -/
def ValB (w w' : World) (E : Ending) (n : Bool) (e : Int) (R : Nat) (x : Bool) : Prop :=
  ∃ q a b, E = .returned (.tuple #[.agg #[.bool n, .slice q a b, .int .i64 e], .bool x]) ∧ DRes w w' q a b R
theorem bundrew {w w' : World} (h : Below w.drew.heap.size w.drew w') : Below w.heap.size w w' := ⟨h.os, h.tape, h.output, h.size, h.block⟩
theorem cutN_lt (n : Bool) (N k m : Nat) : cutN n N k m ≤ N + 1 := Nat.le_trans (cutN_le n N k m).2 (Nat.succ_le_succ (Nat.div_le_self _ _))

set_option maxRecDepth 20000 in
set_option maxHeartbeats 8000000 in
theorem cutV_c (w : World) (n : Bool) (p : Option Addr) (l c : Nat) (e : Int) (N k m : Nat) (hX : RdD w p l c (d16 N)) (hl : l ≤ 950) (hk : k ≤ 900) (hm : m < 8) (he : -1000000 ≤ e ∧ e ≤ 1000000) :
    Calls Tryz.prog 51 #[.agg #[.bool n, .slice p l c, .int .i64 e], .int .i64 (k : Int), .int .i64 (m : Int)] w fun E w' => ValB w w' E n (e + (k : Int)) (cutN n N k m) (inexN N k) := by
  have hlx := hX.len
  have hc0 : N % 10 ^ k = 0 → cutN n N k m = N / 10 ^ k ∧ inexN N k = false := fun hz => ⟨by unfold cutN; rw [if_pos hz], by unfold inexN; rw [decide_eq_true hz]; rfl⟩
  have hc1 : N % 10 ^ k ≠ 0 → awayN n (N / 10 ^ k % 10) (ord3 (N % 10 ^ k + N % 10 ^ k) (10 ^ k)) m = true → cutN n N k m = N / 10 ^ k + 1 ∧ inexN N k = true := fun hz ha => by
    rw [← Nat.two_mul] at ha
    exact ⟨by unfold cutN; rw [if_neg hz, if_pos ha], by unfold inexN; rw [decide_eq_false hz]; rfl⟩
  have hc2 : N % 10 ^ k ≠ 0 → awayN n (N / 10 ^ k % 10) (ord3 (N % 10 ^ k + N % 10 ^ k) (10 ^ k)) m = false → cutN n N k m = N / 10 ^ k ∧ inexN N k = true := fun hz ha => by
    rw [← Nat.two_mul] at ha
    exact ⟨by unfold cutN; rw [if_neg hz, if_neg (by rw [ha]; decide)], by unfold inexN; rw [decide_eq_false hz]; rfl⟩
  generalize cutN n N k m = R at hc0 hc1 hc2 ⊢
  generalize inexN N k = x at hc0 hc1 hc2 ⊢
  replace hX := Lib.hid hX
  replace hlx := Lib.hid hlx
  replace hc0 := Lib.hid hc0
  replace hc1 := Lib.hid hc1
  replace hc2 := Lib.hid hc2
  go_enter Tryz.func51, Tryz.ntmps51
  go_upto_region 1 with (fail)
  generalize hW : (w.alloc (.cells #[.bool n, .slice p l c, .int .i64 e] 29 (0, 0))).alloc (.cells #[.bool false, .slice none 0 0, .int .i64 0] 29 (0, 0)) = W
  have hB0 : Below w.heap.size w W := by rw [← hW]; exact ((Below.refl _ _).alloc (Nat.le_refl _) _).alloc (by simp) _
  have hV0 : W.heap[w.heap.size]? = some (.cells #[.bool n, .slice p l c, .int .i64 e] 29 (0, 0)) := by rw [← hW]; exact allocB_old (allocB _ _)
  have hR0 : W.heap[w.heap.size + 1]? = some (.cells #[.bool false, .slice none 0 0, .int .i64 0] 29 (0, 0)) := by rw [← hW]; exact allocB_at _ _ (by simp)
  have hsz : W.heap.size = w.heap.size + 2 := by rw [← hW]; simp
  clear hW
  have hXW := hX.out.below hB0
  have kp := pow10_c W k (by omega)
  have fin : ∀ (w9 : World) (q : Option Addr) (a b R : Nat), DRes W w9 q a b R → DRes w (((w9.setCell ⟨w.heap.size + 1, 0, none⟩ (.bool n)).setCell ⟨w.heap.size + 1, 1, none⟩ (.slice q a b)).setCell ⟨w.heap.size + 1, 2, none⟩ (.int .i64 (e + (k : Int)))) q a b R := fun w9 q a b R h =>
    h.chg (Below.chg hB0) (chg3 w9 (w.heap.size + 1) (.bool n) (.slice q a b) (.int .i64 (e + (k : Int)))) (fun j hj => ⟨by omega, .inl (by omega)⟩)
  have hew : IntKind.i64.wrap (e + (k : Int)) = e + (k : Int) := IntWalk.i64_in _ (by omega)
  replace kp := Lib.hid kp
  replace hB0 := Lib.hid hB0
  replace hV0 := Lib.hid hV0
  replace hR0 := Lib.hid hR0
  replace hsz := Lib.hid hsz
  replace hXW := Lib.hid hXW
  replace fin := Lib.hid fin
  go_wp2_with fail
  with_reducible refine kp.out.mono ?_
  rintro E w1 ⟨pp, lp, cp, rfl, hp⟩
  have hb1 := hp.bel
  have hV1 := bkeep hb1 hV0.out
  have v1 := cellB hV1 (i := 1) rfl
  have hlp : lp ≤ 901 := by have := d16_len_pow 10 k (by decide); rw [hp.rd.len] at this; omega
  have kd := divMod_c w1 p pp l c lp cp N (10 ^ k) (hXW.out.below hb1) hp.rd (Nat.pos_iff_ne_zero.1 (ten_pos k)) (by omega) (by omega)
  replace kd := Lib.hid kd
  replace hp := Lib.hid hp
  replace hb1 := Lib.hid hb1
  clear hV1 kp
  go_wp2_with fail
  with_reducible refine kd.out.mono ?_
  rintro E w2 ⟨pq, lq, cq, pr, lr, cr, rfl, hq, hr⟩
  have hb2' := hq.bel
  have hrd := hr.rd (hXW.out.below hb1.out) hb2'
  have hrl := d16_len0 hrd.len
  have hb2 := brise hb1.out hb2'
  have hqW := hq.early hb1.out
  have hpd := hp.out.rd.below hb2'
  have hV2 := bkeep hb2 hV0.out
  have hR2 := bkeep hb2 hR0.out
  clear v1 kd hp hq hr hb2'
  by_cases hz : N % 10 ^ k = 0
  · have hlr0 := hrl.2 hz
    subst hlr0
    obtain ⟨hc, hi⟩ := hc0.out hz
    replace hc := Lib.hid hc
    replace hi := Lib.hid hi
    have v0 := cellB hV2 (i := 0) rfl
    have v2 := cellB hV2 (i := 2) rfl
    have r0 := cellB hR2 (i := 0) rfl
    have r1 := cellB hR2 (i := 1) rfl
    have r2 := cellB hR2 (i := 2) rfl
    have y0 := frozenB hR2 0
    have y1 := frozenB hR2 1
    have y2 := frozenB hR2 2
    have hE := end3 hR2 (.bool n) (.slice pq lq cq) (.int .i64 (e + (k : Int)))
    have hf := fin.out w2 pq lq cq _ hqW
    replace hE := Lib.hid hE
    replace hf := Lib.hid hf
    replace hz := Lib.hid hz
    clear hV2 hR2 hqW hpd hrd hrl hb2
    go_wp2
    clear v0 v2 r0 r1 r2 y0 y1 y2
    have hE := hE.out
    have hf := hf.out
    generalize ((w2.setCell ⟨w.heap.size + 1, 0, none⟩ (.bool n)).setCell ⟨w.heap.size + 1, 1, none⟩ (.slice pq lq cq)).setCell ⟨w.heap.size + 1, 2, none⟩ (.int .i64 (e + (k : Int))) = W9 at hE hf ⊢
    have e0 := cellB hE (i := 0) (v := .bool n) rfl
    have e1 := cellB hE (i := 1) (v := .slice pq lq cq) rfl
    have e2 := cellB hE (i := 2) (v := .int .i64 (e + (k : Int))) rfl
    exact bodyPost_ret (v := .tuple #[.agg #[.bool n, .slice pq lq cq, .int .i64 (e + (k : Int))], .bool false]) (by simp [results, Tryz.results51, go_sem, e0, e1, e2]) rfl ⟨pq, lq, cq, by rw [hi.out], hf.eq hc.out.symm⟩
  · have e0 : ((lr : Int) == 0) = false := by
      have := mt hrl.1 hz
      simp; omega
    have hlq : lq ≤ 950 := by
      have h1 := d16_len_mono (Nat.div_le_self N (10 ^ k))
      rw [hlx.out, hqW.rd.len] at h1
      omega
    have hlr : lr ≤ 950 := by
      have h1 := d16_len_mono (Nat.mod_le N (10 ^ k))
      rw [hlx.out, hrd.len] at h1
      omega
    have kb := by10_c w2 pq lq cq _ hqW.rd (by omega)
    obtain ⟨la, hla⟩ : ∃ la, N / 10 ^ k % 10 = la := ⟨_, rfl⟩
    have hlal : la < 10 := by rw [← hla]; exact Nat.mod_lt _ (by decide)
    rw [hla] at kb
    have hc1 := hc1.out hz
    have hc2 := hc2.out hz
    rw [hla] at hc1 hc2
    obtain ⟨r, hre⟩ : ∃ r, N % 10 ^ k = r := ⟨_, rfl⟩
    rw [hre] at hc1 hc2 hrd
    obtain ⟨Q, hQ⟩ : ∃ Q, N / 10 ^ k = Q := ⟨_, rfl⟩
    rw [hQ] at hc1 hc2 hqW
    replace kb := Lib.hid kb
    replace hc1 := Lib.hid hc1
    replace hc2 := Lib.hid hc2
    replace hz := Lib.hid hz
    replace hla := Lib.hid hla
    replace hre := Lib.hid hre
    replace hQ := Lib.hid hQ
    replace hrl := Lib.hid hrl
    replace hqW := Lib.hid hqW
    replace hpd := Lib.hid hpd
    replace hrd := Lib.hid hrd
    replace hb2 := Lib.hid hb2
    replace hV2 := Lib.hid hV2
    replace hR2 := Lib.hid hR2
    clear hc0
    go_wp2_with fail
    with_reducible refine kb.out.mono ?_
    rintro E w3 ⟨p3, l3, c3, rfl, h3⟩
    have hb23 := h3.bel
    have hq3 := hqW.out.later hb23
    have hp3 := hpd.out.below hb23
    have hr3 := hrd.out.below hb23
    have hV3 := bkeep hb23 hV2.out
    have hR3 := bkeep hb23 hR2.out
    have hb3 := brise hb2.out hb23
    have kadd := addD_c w3.drew pr pr lr cr lr cr r r (hr3.below (Below.drw (Below.refl _ _))) (hr3.below (Below.drw (Below.refl _ _))) (by omega) (by omega)
    have hS0 : w3.drew.cell? ⟨w.heap.size, 0, none⟩ = some (.bool n) := cellB hV3 rfl
    replace kadd := Lib.hid kadd
    replace hq3 := Lib.hid hq3
    replace hp3 := Lib.hid hp3
    replace hV3 := Lib.hid hV3
    replace hR3 := Lib.hid hR3
    replace hb3 := Lib.hid hb3
    clear h3 hb23 hr3 kb hqW hpd hrd hV2 hR2 hb2
    have kaw := fun w half => awayD_c w n la half m hlal hm
    replace kaw := Lib.hid kaw
    go_wp2_with fail
    go_region_held3 (fun w' => w'.cell? ⟨w.heap.size, 0, none⟩ = some (.bool n)) (first | exact hS0 | exact hS1 | exact hS2) (first
      | (go_at_call 38
         with_reducible refine kadd.out.mono ?_
         rintro E w4 ⟨p4, l4, c4, rfl, h4⟩
         have hb34 := bundrew h4.bel
         have hS1 := cellB (bkeep hb34 hV3.out) (i := 0) rfl
         have kc := cmpD_c w4 p4 pp l4 c4 lp cp (r + r) (10 ^ k) h4.rd (hp3.out.below hb34)
         replace kc := Lib.hid kc
         replace hb34 := Lib.hid hb34
         clear h4)
      | (go_at_call 39
         with_reducible refine kc.out.mono ?_
         rintro E w5 ⟨rfl, nd, rfl⟩
         have hS2 : (w4.drewN nd).cell? ⟨w.heap.size, 0, none⟩ = some (.bool n) := hS1)
      | (go_at_call 76
         with_reducible refine (kaw.out _ _).mono ?_
         rintro E w6 ⟨rfl, hw⟩
         obtain rfl := hw))
    have hb4 := brise hb34.out (Below.drwS nd)
    have hq4 := hq3.out.later hb4
    have hV4 := bkeep hb4 hV3.out
    have hR4 := bkeep hb4 hR3.out
    clear hS0 hS1 hS2 kadd kc kaw hq3 hp3 hV3 hR3
    generalize w4.drewN nd = w5 at hb4 hq4 hV4 hR4 ⊢
    obtain ⟨aw, haw⟩ : ∃ aw, awayN n la (ord3 (r + r) (10 ^ k)) m = aw := ⟨_, rfl⟩
    rw [haw] at hc1 hc2 ⊢
    replace haw := Lib.hid haw
    cases aw with
    | false =>
      obtain ⟨hc, hi⟩ := hc2.out rfl
      replace hc := Lib.hid hc
      replace hi := Lib.hid hi
      clear hc1 hc2 hb4
      have hV9 := hV4
      have hR9 := hR4
      have hq9 := hq4
      clear hV4 hR4 hq4
      have v0 := cellB hV9 (i := 0) rfl
      have v2 := cellB hV9 (i := 2) rfl
      have r0 := cellB hR9 (i := 0) rfl
      have r1 := cellB hR9 (i := 1) rfl
      have r2 := cellB hR9 (i := 2) rfl
      have y0 := frozenB hR9 0
      have y1 := frozenB hR9 1
      have y2 := frozenB hR9 2
      have hE := end3 hR9 (.bool n) (.slice pq lq cq) (.int .i64 (e + (k : Int)))
      have hf := fin.out w5 pq lq cq _ hq9
      replace hE := Lib.hid hE
      replace hf := Lib.hid hf
      clear hV9 hR9 hq9
      go_wp2
      clear v0 v2 r0 r1 r2 y0 y1 y2
      have hE := hE.out
      have hf := hf.out
      generalize ((w5.setCell ⟨w.heap.size + 1, 0, none⟩ (.bool n)).setCell ⟨w.heap.size + 1, 1, none⟩ (.slice pq lq cq)).setCell ⟨w.heap.size + 1, 2, none⟩ (.int .i64 (e + (k : Int))) = W9 at hE hf ⊢
      have e0 := cellB hE (i := 0) (v := .bool n) rfl
      have e1 := cellB hE (i := 1) (v := .slice pq lq cq) rfl
      have e2 := cellB hE (i := 2) (v := .int .i64 (e + (k : Int))) rfl
      exact bodyPost_ret (v := .tuple #[.agg #[.bool n, .slice pq lq cq, .int .i64 (e + (k : Int))], .bool true]) (by simp [results, Tryz.results51, go_sem, e0, e1, e2]) rfl ⟨pq, lq, cq, by rw [hi.out], hf.eq hc.out.symm⟩
    | true =>
      obtain ⟨hc, hi⟩ := hc1.out rfl
      replace hc := Lib.hid hc
      replace hi := Lib.hid hi
      clear hc1 hc2 hb4
      have k1 := small1_c w5
      replace k1 := Lib.hid k1
      replace hV4 := Lib.hid hV4
      replace hR4 := Lib.hid hR4
      replace hq4 := Lib.hid hq4
      go_wp2_with fail
      with_reducible refine k1.out.mono ?_
      rintro E w6 ⟨p6, l6, c6, rfl, h6⟩
      have hl6 : l6 ≤ 1 := by have := d16_len_small (b := 1) (by decide); rw [h6.rd.len] at this; exact this
      have hq6 := hq4.out.later h6.bel
      have kadd := addD_c w6 pq p6 lq cq l6 c6 Q 1 hq6.rd h6.rd (by omega) (by omega)
      have hV6 := bkeep h6.bel hV4.out
      have hR6 := bkeep h6.bel hR4.out
      have hb6 := hq6.bel
      replace kadd := Lib.hid kadd
      replace hV6 := Lib.hid hV6
      replace hR6 := Lib.hid hR6
      replace hb6 := Lib.hid hb6
      clear h6 hq6 hq4 hV4 hR4 k1
      go_wp2_with fail
      with_reducible refine kadd.out.mono ?_
      rintro E w7 ⟨p7, l7, c7, rfl, h7⟩
      have hV9 := bkeep h7.bel hV6.out
      have hR9 := bkeep h7.bel hR6.out
      have hq9 := h7.early hb6.out
      clear h7 hV6 hR6 hb6 kadd
      have v0 := cellB hV9 (i := 0) rfl
      have v2 := cellB hV9 (i := 2) rfl
      have r0 := cellB hR9 (i := 0) rfl
      have r1 := cellB hR9 (i := 1) rfl
      have r2 := cellB hR9 (i := 2) rfl
      have y0 := frozenB hR9 0
      have y1 := frozenB hR9 1
      have y2 := frozenB hR9 2
      have hE := end3 hR9 (.bool n) (.slice p7 l7 c7) (.int .i64 (e + (k : Int)))
      have hf := fin.out w7 p7 l7 c7 _ hq9
      replace hE := Lib.hid hE
      replace hf := Lib.hid hf
      clear hV9 hR9 hq9
      go_wp2
      clear v0 v2 r0 r1 r2 y0 y1 y2
      have hE := hE.out
      have hf := hf.out
      generalize ((w7.setCell ⟨w.heap.size + 1, 0, none⟩ (.bool n)).setCell ⟨w.heap.size + 1, 1, none⟩ (.slice p7 l7 c7)).setCell ⟨w.heap.size + 1, 2, none⟩ (.int .i64 (e + (k : Int))) = W9 at hE hf ⊢
      have e0 := cellB hE (i := 0) (v := .bool n) rfl
      have e1 := cellB hE (i := 1) (v := .slice p7 l7 c7) rfl
      have e2 := cellB hE (i := 2) (v := .int .i64 (e + (k : Int))) rfl
      exact bodyPost_ret (v := .tuple #[.agg #[.bool n, .slice p7 l7 c7, .int .i64 (e + (k : Int))], .bool true]) (by simp [results, Tryz.results51, go_sem, e0, e1, e2]) rfl ⟨p7, l7, c7, by rw [hi.out], hf.eq hc.out.symm⟩
end Go.Proofs.YtlnillnngckegaaGreatDoor

namespace Go.Proofs.YtlnillnngckegaaGreatDoor
open Go Go.RowKit

/-- What Rounded hands back. -/
def RndV (w w' : World) (E : Ending) (n : Bool) (p : Option Addr) (l c : Nat) (e : Int) (N f m : Nat) : Prop :=
  ∃ q a b, E = .returned (.tuple #[.agg #[.bool n, .slice q a b, .int .i64 (e + (rndK n N f m : Int))], .bool (decide (f < figs N)), .bool (rndX N f)]) ∧ DOr w w' p l c N q a b (rndN n N f m) ∧ Below w.heap.size w w'
theorem bbox {w W w9 w10 : World} {box : Nat} (hB : Below w.heap.size w W) (h9 : Below W.heap.size W w9) (hc : Chg w9 w10 (fun k => k = box)) (hb : w.heap.size ≤ box) : Below w.heap.size w w10 := by
  have h1 := (Below.chg (brise hB h9)).trans (hc.mono (fun k _ e => .inr (by omega)))
  exact ⟨h1.os, h1.tape, h1.output, h1.size, fun k hk => h1.block k hk (fun h => h)⟩
theorem d16_len_add {N j : Nat} (h : (d16 N).length ≤ j) : (d16 (N + 1)).length ≤ j + 1 := by
  have h1 := (dB_len_le two16 (n := N) (k := j)).1 h
  refine (dB_len_le two16).2 ?_
  rw [Nat.pow_succ]
  omega
theorem cut1 (n : Bool) (C : Nat) : cutN n C 1 0 = C / 10 := by
  unfold cutN; split <;> rfl
theorem cut10_c (w : World) (n : Bool) (p : Option Addr) (l c : Nat) (e : Int) (N : Nat) (hX : RdD w p l c (d16 N)) (hl : l ≤ 950) (he : -1000000 ≤ e ∧ e ≤ 1000000) :
    Calls Tryz.prog 51 #[.agg #[.bool n, .slice p l c, .int .i64 e], .int .i64 1, .int .i64 0] w fun E w' => ValB w w' E n (e + 1) (N / 10) (inexN N 1) := by
  rw [← cut1 n N]; exact cutV_c w n p l c e N 1 0 hX hl (by decide) (by decide) he
theorem DRes.chgBox {w W w9 w10 : World} {q : Option Addr} {a b R box : Nat} (h : DRes W w9 q a b R) (hB : Below w.heap.size w W) (hc : Chg w9 w10 (fun k => k = box)) (hb : w.heap.size ≤ box) (hb2 : box < W.heap.size) : DRes w w10 q a b R :=
  h.chg (Below.chg hB) hc (fun j hj => ⟨by omega, .inl (by omega)⟩)

set_option maxRecDepth 20000 in
set_option maxHeartbeats 8000000 in
theorem rndV_c (w : World) (n : Bool) (p : Option Addr) (l c : Nat) (e : Int) (N f m : Nat) (hX : RdD w p l c (d16 N)) (hl : l ≤ 900) (hN : figs N ≤ 900) (hf : 1 ≤ f ∧ f ≤ 900) (hm : m < 8) (he : -100000 ≤ e ∧ e ≤ 100000) :
    Calls Tryz.prog 29 #[.agg #[.bool n, .slice p l c, .int .i64 e], .int .i64 (f : Int), .int .i64 (m : Int)] w fun E w' => RndV w w' E n p l c e N f m := by
  have hlx := hX.len
  have hfp := figs_pos N
  have r0 : figs N ≤ f → rndN n N f m = N ∧ rndK n N f m = 0 ∧ rndX N f = false := fun h => ⟨by unfold rndN; rw [if_pos h], by unfold rndK; rw [if_pos h], by unfold rndX; rw [if_pos h]⟩
  have r1 : ¬ figs N ≤ f → ¬ figs (cutN n N (figs N - f) m) > f → rndN n N f m = cutN n N (figs N - f) m ∧ rndK n N f m = figs N - f ∧ rndX N f = inexN N (figs N - f) := fun h h2 => ⟨by unfold rndN; rw [if_neg h, if_neg h2], by unfold rndK; rw [if_neg h, if_neg h2], by unfold rndX; rw [if_neg h]⟩
  have r2 : ¬ figs N ≤ f → figs (cutN n N (figs N - f) m) > f → rndN n N f m = cutN n N (figs N - f) m / 10 ∧ rndK n N f m = figs N - f + 1 ∧ rndX N f = inexN N (figs N - f) := fun h h2 => ⟨by unfold rndN; rw [if_neg h, if_pos h2], by unfold rndK; rw [if_neg h, if_pos h2], by unfold rndX; rw [if_neg h]⟩
  have hle : cutN n N (figs N - f) m ≤ N + 1 := cutN_lt n N _ m
  unfold RndV
  generalize rndN n N f m = RN at *
  generalize rndK n N f m = RK at *
  generalize rndX N f = RX at *
  have kf := fun W (hb : Below w.heap.size w W) => figuresD_c W p l c N (hX.below hb) (by omega)
  have kcut := fun W k (hk : k ≤ 900) (hb : Below w.heap.size w W) => cutV_c W n p l c e N k m (hX.below hb) (by omega) hk hm (by omega)
  obtain ⟨F, hF⟩ : ∃ F, figs N = F := ⟨_, rfl⟩
  rw [hF] at r0 r1 r2 hN hfp
  simp only [hF] at kf hle ⊢
  have hlN : (d16 (N + 1)).length ≤ 900 + 1 := d16_len_add (by rw [hlx]; exact hl)
  replace hX := Lib.hid hX
  replace hlx := Lib.hid hlx
  replace r0 := Lib.hid r0
  replace r1 := Lib.hid r1
  replace r2 := Lib.hid r2
  replace kf := Lib.hid kf
  replace kcut := Lib.hid kcut
  replace hF := Lib.hid hF
  replace hle := Lib.hid hle
  replace hlN := Lib.hid hlN
  go_enter Tryz.func29, Tryz.ntmps29
  go_upto_region 1 with (fail)
  generalize hW : (w.alloc (.cells #[.bool n, .slice p l c, .int .i64 e] 29 (0, 0))).alloc (.cells #[.bool false, .slice none 0 0, .int .i64 0] 29 (0, 0)) = W
  have hB0 : Below w.heap.size w W := by rw [← hW]; exact ((Below.refl _ _).alloc (Nat.le_refl _) _).alloc (by simp) _
  have hV0 : W.heap[w.heap.size]? = some (.cells #[.bool n, .slice p l c, .int .i64 e] 29 (0, 0)) := by rw [← hW]; exact allocB_old (allocB _ _)
  have hR0 : W.heap[w.heap.size + 1]? = some (.cells #[.bool false, .slice none 0 0, .int .i64 0] 29 (0, 0)) := by rw [← hW]; exact allocB_at _ _ (by simp)
  have hsz : W.heap.size = w.heap.size + 2 := by rw [← hW]; simp
  clear hW
  have v1 := cellB hV0 (i := 1) rfl
  have kf := kf.out W hB0
  replace kf := Lib.hid kf
  replace hB0 := Lib.hid hB0
  replace hV0 := Lib.hid hV0
  replace hR0 := Lib.hid hR0
  replace hsz := Lib.hid hsz
  go_wp2_with fail
  with_reducible refine kf.out.mono ?_
  rintro E w1 ⟨rfl, hb1⟩
  have hV1 := bkeep hb1 hV0.out
  have hR1 := bkeep hb1 hR0.out
  clear v1 kf
  by_cases hle0 : F ≤ f
  · obtain ⟨q0, q1, q2⟩ := r0.out hle0
    replace q0 := Lib.hid q0
    replace q1 := Lib.hid q1
    replace q2 := Lib.hid q2
    have v0 := cellB hV1 (i := 0) rfl
    have v1 := cellB hV1 (i := 1) rfl
    have v2 := cellB hV1 (i := 2) rfl
    have z0 := cellB hR1 (i := 0) rfl
    have z1 := cellB hR1 (i := 1) rfl
    have z2 := cellB hR1 (i := 2) rfl
    have y0 := frozenB hR1 0
    have y1 := frozenB hR1 1
    have y2 := frozenB hR1 2
    have hE := end3 hR1 (.bool n) (.slice p l c) (.int .i64 e)
    have hch := chg3 w1 (w.heap.size + 1) (.bool n) (.slice p l c) (.int .i64 e)
    replace hch := Lib.hid hch
    replace hE := Lib.hid hE
    replace hb1 := Lib.hid hb1
    clear hV1 hR1
    go_wp2
    clear v0 v1 v2 z0 z1 z2 y0 y1 y2
    have hE := hE.out
    have hch := hch.out
    generalize ((w1.setCell ⟨w.heap.size + 1, 0, none⟩ (.bool n)).setCell ⟨w.heap.size + 1, 1, none⟩ (.slice p l c)).setCell ⟨w.heap.size + 1, 2, none⟩ (.int .i64 e) = W9 at hE hch ⊢
    have e0 := cellB hE (i := 0) (v := .bool n) rfl
    have e1 := cellB hE (i := 1) (v := .slice p l c) rfl
    have e2 := cellB hE (i := 2) (v := .int .i64 e) rfl
    exact bodyPost_ret (v := .tuple #[.agg #[.bool n, .slice p l c, .int .i64 e], .bool false, .bool false]) (by simp [results, Tryz.results29, go_sem, e0, e1, e2]) rfl ⟨p, l, c, by rw [q1.out, q2.out, decide_eq_false (by omega)]; simp, .inr ⟨rfl, rfl, rfl, q0.out⟩, bbox hB0.out hb1.out hch (by omega)⟩
  · have r1 := r1.out hle0
    have r2 := r2.out hle0
    obtain ⟨k, hk⟩ : ∃ k, F - f = k := ⟨_, rfl⟩
    have hk2 : (F : Int) - (f : Int) = (k : Int) := by omega
    have hk1 : 1 ≤ k := by omega
    rw [hk] at r1 r2 hle
    have kc := kcut.out w1 k (by omega) (brise hB0.out hb1)
    obtain ⟨C, hC⟩ : ∃ C, cutN n N k m = C := ⟨_, rfl⟩
    rw [hC] at r1 r2 kc hle
    obtain ⟨ix, hix⟩ : ∃ ix, inexN N k = ix := ⟨_, rfl⟩
    rw [hix] at r1 r2 kc
    have v0 := cellB hV1 (i := 0) rfl
    have v1 := cellB hV1 (i := 1) rfl
    have v2 := cellB hV1 (i := 2) rfl
    replace kc := Lib.hid kc
    replace r1 := Lib.hid r1
    replace r2 := Lib.hid r2
    replace hC := Lib.hid hC
    replace hix := Lib.hid hix
    replace hk := Lib.hid hk
    replace hb1 := Lib.hid hb1
    replace hR1 := Lib.hid hR1
    clear hV1 r0
    go_wp2_with fail
    with_reducible refine kc.out.mono ?_
    rintro E w2 ⟨q, a, b, rfl, h2⟩
    clear v0 v1 v2 kc
    have hR2 := bkeep h2.bel hR1.out
    have hb2 := brise hb1.out h2.bel
    have ha : a ≤ 901 := by
      have h3 := d16_len_mono hle.out
      rw [h2.rd.len] at h3
      have := hlN.out
      omega
    replace hR2 := Lib.hid hR2
    replace hb2 := Lib.hid hb2
    replace h2 := Lib.hid h2
    go_upto_region 5 with (fail)
    have hG : (w2.alloc (.cells #[.bool n, .slice q a b, .int .i64 (e + (k : Int))] 29 (0, 0))).heap[w2.heap.size]? = some (.cells #[.bool n, .slice q a b, .int .i64 (e + (k : Int))] 29 (0, 0)) := allocB _ _
    have hbV : Below w2.heap.size w2 (w2.alloc (.cells #[.bool n, .slice q a b, .int .i64 (e + (k : Int))] 29 (0, 0))) := (Below.refl _ _).alloc (Nat.le_refl _) _
    obtain ⟨g, hge⟩ : ∃ g, w2.heap.size = g := ⟨_, rfl⟩
    have hgV : g < (w2.alloc (.cells #[.bool n, .slice q a b, .int .i64 (e + (k : Int))] 29 (0, 0))).heap.size := by rw [World.size_alloc, hge]; omega
    have hgh : w.heap.size + 1 < g := by have h3 := hb2.out.size; have h4 := hsz.out; omega
    have hb2 := brise hb2.out hbV
    have hR2 := bkeep hbV hR2.out
    have h2 := h2.out.later hbV
    rw [hge] at hG ⊢
    generalize w2.alloc (.cells #[.bool n, .slice q a b, .int .i64 (e + (k : Int))] 29 (0, 0)) = V at hG hb2 hR2 h2 hgV ⊢
    have g1 := cellB hG (i := 1) rfl
    have kg := figuresD_c V q a b C h2.rd (by omega)
    obtain ⟨FC, hFC⟩ : ∃ FC, figs C = FC := ⟨_, rfl⟩
    rw [hFC] at r1 r2 kg
    replace hFC := Lib.hid hFC
    replace kg := Lib.hid kg
    replace hG := Lib.hid hG
    replace hR2 := Lib.hid hR2
    replace h2 := Lib.hid h2
    replace hb2 := Lib.hid hb2
    replace hge := Lib.hid hge
    clear hbV
    go_wp2_with fail
    with_reducible refine kg.out.mono ?_
    rintro E w3 ⟨rfl, hb3'⟩
    have hG3 := bkeep hb3' hG.out
    have hR3 := bkeep hb3' hR2.out
    have h3 := h2.out.later hb3'
    have hb3 := brise hb2.out hb3'
    have hg3 : g < w3.heap.size := Nat.lt_of_lt_of_le hgV hb3'.size
    clear g1 kg hb3'
    by_cases hfc : FC ≤ f
    · obtain ⟨q0, q1, q2⟩ := r1.out (by omega)
      replace q0 := Lib.hid q0
      replace q1 := Lib.hid q1
      replace q2 := Lib.hid q2
      have v0 := cellB hG3 (i := 0) rfl
      have v1 := cellB hG3 (i := 1) rfl
      have v2 := cellB hG3 (i := 2) rfl
      have z0 := cellB hR3 (i := 0) rfl
      have z1 := cellB hR3 (i := 1) rfl
      have z2 := cellB hR3 (i := 2) rfl
      have y0 := frozenB hR3 0
      have y1 := frozenB hR3 1
      have y2 := frozenB hR3 2
      have hE := end3 hR3 (.bool n) (.slice q a b) (.int .i64 (e + (k : Int)))
      have hch := chg3 w3 (w.heap.size + 1) (.bool n) (.slice q a b) (.int .i64 (e + (k : Int)))
      replace hE := Lib.hid hE
      replace hb3 := Lib.hid hb3
      replace h3 := Lib.hid h3
      replace hch := Lib.hid hch
      replace r1 := Lib.hid r1
      replace r2 := Lib.hid r2
      clear hG3 hR3
      go_wp2
      clear v0 v1 v2 z0 z1 z2 y0 y1 y2
      have hE := hE.out
      have hch := hch.out
      generalize ((w3.setCell ⟨w.heap.size + 1, 0, none⟩ (.bool n)).setCell ⟨w.heap.size + 1, 1, none⟩ (.slice q a b)).setCell ⟨w.heap.size + 1, 2, none⟩ (.int .i64 (e + (k : Int))) = W9 at hE hch ⊢
      have e0 := cellB hE (i := 0) (v := .bool n) rfl
      have e1 := cellB hE (i := 1) (v := .slice q a b) rfl
      have e2 := cellB hE (i := 2) (v := .int .i64 (e + (k : Int))) rfl
      have hfin := (h3.out.early hb1.out).chgBox hB0.out hch (by omega) (by have := hsz.out; omega)
      exact bodyPost_ret (v := .tuple #[.agg #[.bool n, .slice q a b, .int .i64 (e + (k : Int))], .bool true, .bool ix]) (by simp [results, Tryz.results29, go_sem, e0, e1, e2]) rfl ⟨q, a, b, by rw [q1.out, q2.out, decide_eq_true (by omega)], .inl (hfin.eq q0.out.symm), hfin.bel⟩
    · obtain ⟨q0, q1, q2⟩ := r2.out (by omega)
      replace q0 := Lib.hid q0
      replace q1 := Lib.hid q1
      replace q2 := Lib.hid q2
      have v0 := cellB hG3 (i := 0) rfl
      have v1 := cellB hG3 (i := 1) rfl
      have v2 := cellB hG3 (i := 2) rfl
      have kc := cut10_c w3 n q a b (e + (k : Int)) C h3.rd (by omega) (by omega)
      replace kc := Lib.hid kc
      replace hb3 := Lib.hid hb3
      replace h3 := Lib.hid h3
      replace hG3 := Lib.hid hG3
      replace hR3 := Lib.hid hR3
      replace r1 := Lib.hid r1
      replace r2 := Lib.hid r2
      go_wp2_with fail
      with_reducible refine kc.out.mono ?_
      rintro E w4 ⟨q5, a5, b5, rfl, h4⟩
      clear v0 v1 v2 kc
      have hG4 := bkeep h4.bel hG3.out
      have hR4 := bkeep h4.bel hR3.out
      have v0 := cellB hG4 (i := 0) rfl
      have v1 := cellB hG4 (i := 1) rfl
      have v2 := cellB hG4 (i := 2) rfl
      have y0 := frozenB hG4 0
      have y1 := frozenB hG4 1
      have y2 := frozenB hG4 2
      replace h4 := Lib.hid h4
      replace hG4 := Lib.hid hG4
      replace hR4 := Lib.hid hR4
      go_upto_region 7 with (fail)
      clear v0 v1 v2 y0 y1 y2
      have hE := end3 hG4.out (.bool n) (.slice q5 a5 b5) (.int .i64 (e + (k : Int) + 1))
      have hch := chg3 w4 g (.bool n) (.slice q5 a5 b5) (.int .i64 (e + (k : Int) + 1))
      have hR5 := hch.heapB hR4.out (by omega)
      generalize ((w4.setCell ⟨g, 0, none⟩ (.bool n)).setCell ⟨g, 1, none⟩ (.slice q5 a5 b5)).setCell ⟨g, 2, none⟩ (.int .i64 (e + (k : Int) + 1)) = w5 at hE hch hR5 ⊢
      have v0 := cellB (v := .bool n) hE (i := 0) rfl
      have v1 := cellB (v := .slice q5 a5 b5) hE (i := 1) rfl
      have v2 := cellB (v := .int .i64 (e + (k : Int) + 1)) hE (i := 2) rfl
      have z0 := cellB hR5 (i := 0) rfl
      have z1 := cellB hR5 (i := 1) rfl
      have z2 := cellB hR5 (i := 2) rfl
      have y0 := frozenB hR5 0
      have y1 := frozenB hR5 1
      have y2 := frozenB hR5 2
      have hE2 := end3 hR5 (.bool n) (.slice q5 a5 b5) (.int .i64 (e + (k : Int) + 1))
      have hch2 := chg3 w5 (w.heap.size + 1) (.bool n) (.slice q5 a5 b5) (.int .i64 (e + (k : Int) + 1))
      replace hE2 := Lib.hid hE2
      replace hch := Lib.hid hch
      replace hch2 := Lib.hid hch2
      clear hE hR5
      go_wp2
      clear v0 v1 v2 z0 z1 z2 y0 y1 y2
      have hE := hE2.out
      have hch2 := hch2.out
      generalize ((w5.setCell ⟨w.heap.size + 1, 0, none⟩ (.bool n)).setCell ⟨w.heap.size + 1, 1, none⟩ (.slice q5 a5 b5)).setCell ⟨w.heap.size + 1, 2, none⟩ (.int .i64 (e + (k : Int) + 1)) = W9 at hE hch2 ⊢
      have e0 := cellB hE (i := 0) (v := .bool n) rfl
      have e1 := cellB hE (i := 1) (v := .slice q5 a5 b5) rfl
      have e2 := cellB hE (i := 2) (v := .int .i64 (e + (k : Int) + 1)) rfl
      have hall : Chg w4 W9 (fun j => j = g ∨ j = w.heap.size + 1) := (hch.out.mono (fun _ _ h => .inl h)).trans (hch2.mono (fun _ _ h => .inl (.inr h)))
      have hfin := h4.out.chg (Below.chg (brise hB0.out hb3.out)) hall (fun j hj => ⟨by omega, .inl (by omega)⟩)
      exact bodyPost_ret (v := .tuple #[.agg #[.bool n, .slice q5 a5 b5, .int .i64 (e + (k : Int) + 1)], .bool true, .bool ix]) (by simp [results, Tryz.results29, go_sem, e0, e1, e2]) rfl ⟨q5, a5, b5, by rw [q1.out, q2.out, decide_eq_true (by omega), show e + ((k + 1 : Nat) : Int) = e + (k : Int) + 1 by omega], .inl (hfin.eq q0.out.symm), hfin.bel⟩
end Go.Proofs.YtlnillnngckegaaGreatDoor
