/- Context.add. Context.add where signs differ; Add, Sub. What impl.made makes, as held memory. MathBigInt, Bits. impl.words: the words of a number, in new memory. impl.told of a finite decimal. The thin package's operations where the answer is a number: what they lean on. The thin package's operations, whatever they answer: what is told. impl.Sqrt, whatever the answer is. What the thin package tells: a number, or any answer. -/
import Derived.Test.YtonepclpllelfaaGreatDoorC11
import Derived.Test.YtonepclpllelfaaGreatDoorC14
import Derived.Test.YtonepclpllelfaaGreatDoorC16
import Derived.Test.YtonepclpllelfaaGreatDoorC34
namespace Go.Proofs.YtonepclpllelfaaGreatDoor
open Go Go.RowKit

theorem Num.upd_ne {σ : Sg} {b o k : Nat} {g : Bool} {N : Nat} {it : It} (h : Num σ b o g N) (hne : b ≠ k) : Num (Go.Proofs.YtonepclpllelfaaGreatDoor.upd σ k it) b o g N := by
  obtain ⟨jt, h1, h2⟩ := h
  exact ⟨jt, by rw [Go.Proofs.YtonepclpllelfaaGreatDoor.upd_ne _ _ hne]; exact h1, h2⟩
theorem Num.resign {σ : Sg} {b o d : Nat} {g n s g' : Bool} {N N' : Nat} {f e : Int} (h : Num σ b o g N) (hd : σ d = some (dec f n e g' N')) : Num (Go.Proofs.YtonepclpllelfaaGreatDoor.upd σ d (dec f s e g' N')) b o g N := by
  by_cases hb : b = d
  · subst hb
    obtain ⟨jt, h1, h2⟩ := h
    rw [hd] at h1
    cases h1
    exact ⟨_, upd_eq _ _ _, h2⟩
  · exact h.upd_ne hb
/-- A sum's magnitude and sign (fl: the sign of a difference that is 0). -/
def addN (s t : Bool) (A B : Nat) : Nat := if s = t then A + B else if B ≤ A then A - B else B - A
def addS (s t : Bool) (A B : Nat) (fl : Bool) : Bool := if s = t then s else if A = B then fl else if B < A then s else !s
theorem floorS {m : Nat} (hm : m < 8) : ((modeS m).toList == [102, 108, 111, 111, 114]) = decide (m = 4) := by
  have h8 : m = 0 ∨ m = 1 ∨ m = 2 ∨ m = 3 ∨ m = 4 ∨ m = 5 ∨ m = 6 ∨ m = 7 := by omega
  rcases h8 with rfl | rfl | rfl | rfl | rfl | rfl | rfl | rfl <;> decide +kernel
theorem nbits_add (A B : Nat) {k : Nat} (hA : nbits A ≤ k) (hB : nbits B ≤ k) : nbits (A + B) ≤ k + 1 := by
  rw [nbits_le_iff] at *
  rw [Nat.pow_succ]; omega

set_option maxRecDepth 20000 in
set_option maxHeartbeats 4000000 in
theorem add_alike {w0 w : World} {σ : Sg} (h : Hold w0 w σ) {d x y c p m : Nat} {ex ey f' e' a b : Int} {nx ny sub n' g' : Bool} {X Y N' A B : Nat} {e : Int} (hd : σ d = some (dec f' n' e' g' N')) (hx : σ x = some (dec 0 nx ex false X)) (hy : σ y = some (dec 0 ny ey false Y)) (hc : σ c = some (ctxO p a b (modeS m)))
    (hp : 1 ≤ p ∧ p ≤ 1000) (ha : 50000 ≤ a ∧ a ≤ 2000000) (hb : -2000000 ≤ b ∧ b ≤ -50000) (hX : nbits X ≤ 2000) (hY : nbits Y ≤ 2000) (hm : m < 8) (hex : -1000 ≤ ex ∧ ex ≤ 1000) (hey : -1000 ≤ ey ∧ ey ≤ 1000) (hfar : ey - ex ≤ 400 ∧ ex - ey ≤ 400)
    (he : e = if ex ≤ ey then ex else ey) (hA : A = X * 10 ^ (ex - ey).toNat) (hB : B = Y * 10 ^ (ey - ex).toNat) (hAb : nbits A ≤ 1090) (hBb : nbits B ≤ 1090) (hal : (nx == (ny != sub)) = true) :
    Calls Tryz.prog 81 #[.pointer (some ⟨c, 0, none⟩), .pointer (some ⟨d, 0, none⟩), .pointer (some ⟨x, 0, none⟩), .pointer (some ⟨y, 0, none⟩), .bool sub] w (CRes w0 σ d (addS nx (ny != sub) A B (decide (m = 4))) e p m (addN nx (ny != sub) A B)) := by
  have kn := shouldNaN_c w (.pointer (some ⟨c, 0, none⟩)) x y 0 0 (h.c0 hx) (h.c0 hy) (by omega) (by omega)
  rw [show decide ((2 : Int) ≤ 0 ∨ (2 : Int) ≤ 0) = false from rfl] at kn
  have x0 := h.c0 hx
  have y0 := h.c0 hy
  have x1 := h.c1 hx
  have y1 := h.c1 hy
  have hcd : c ≠ d := by rintro rfl; rw [hc] at hd; cases hd
  have hX40 : (digs X).length < 40 := Nat.lt_of_le_of_lt (bits_w (k := 32) (by omega)) (by omega)
  have hY40 : (digs Y).length < 40 := Nat.lt_of_le_of_lt (bits_w (k := 32) (by omega)) (by omega)
  have hAw : (digs A).length ≤ 900 := Nat.le_trans (bits_w (k := 18) (by omega)) (by omega)
  have hBw : (digs B).length ≤ 900 := Nat.le_trans (bits_w (k := 18) (by omega)) (by omega)
  obtain ⟨t, ht⟩ : ∃ t, (ny != sub) = t := ⟨_, rfl⟩
  rw [ht] at hal ⊢
  have ht2 : (!(ny == sub)) = t := ht
  clear ht
  have hfr := fun j (hj : w.heap.size ≤ j) => h.fresh hj
  have hT := hfr _ (Nat.le_refl _)
  have h1 : ∀ n, Hold w0 ((w.drewN n).alloc (.cells #[.bool false, .slice none 0 0, .bool false] 53 (0, 0))) (upd σ w.heap.size (big false 0)) := fun n => (h.drewN n).newBig
  obtain ⟨T, hTe⟩ : ∃ T, w.heap.size = T := ⟨_, rfl⟩
  rw [hTe] at hT
  simp only [hTe] at h1
  have hTx : x ≠ T := by rintro rfl; rw [hT] at hx; cases hx
  have hTy : y ≠ T := by rintro rfl; rw [hT] at hy; cases hy
  have hdT : d ≠ T := by rintro rfl; rw [hT] at hd; cases hd
  have ku := fun n => upscale_c (h1 n) (by rw [upd_ne _ _ hTx]; exact hx) (by rw [upd_ne _ _ hTy]; exact hy) (upd_eq _ _ _) (by omega) (by omega) hfar hX40 hY40
  have hle : Le σ (upd σ T (big false 0)) := Le.skip hT (Le.refl _)
  have hle2 : ∀ N, Le σ (upd (upd σ T (big false 0)) T (big false N)) := fun N => by rw [upd_upd]; exact Le.skip hT (Le.refl _)
  unfold CRes
  replace hTe := Lib.hid hTe
  replace kn := Lib.hid kn
  replace ku := Lib.hid ku
  replace hle := Lib.hid hle
  replace hle2 := Lib.hid hle2
  replace hd := Lib.hid hd
  replace hc := Lib.hid hc
  replace he := Lib.hid he
  replace hA := Lib.hid hA
  replace hB := Lib.hid hB
  clear h h1 hx hy hfr hT
  go_enter Tryz.func81, Tryz.ntmps81
  go_wp2_with fail
  with_reducible refine kn.out.mono ?_
  rintro E w' ⟨rfl, hw⟩
  obtain rfl := hw
  go_upto_region 5 with (fail)
  go_quiet (fail)
  go_upto_region 16 with (fail)
  go_wp2_with fail
  rw [hTe.out]
  with_reducible refine (ku.out _).mono ?_
  rintro E w3 ⟨σ', ba, oa, bb, ob, rfl, h3, na, nb, hba, hbb, hσ⟩
  rw [← he.out]
  rw [← hA.out] at na
  rw [← hB.out] at nb
  have hle3 : Le σ σ' := by
    rcases hσ with rfl | ⟨N, rfl⟩
    · exact hle.out
    · exact hle2.out N
  have hd3 := hle3 _ _ hd.out
  have hc3 := hle3 _ _ hc.out
  have d1 := h3.c1 hd3
  have f1 := h3.fz hd3 1
  have h4 := h3.setSign hd3 nx
  have na4 := na.resign (s := nx) hd3
  have nb4 := nb.resign (s := nx) hd3
  have eb : -1000 ≤ e ∧ e ≤ 1000 := by rw [he.out]; split <;> omega
  clear x0 y0 x1 y1 kn ku hle hle2 hba hbb hσ h3 na nb
  replace hle3 := Lib.hid hle3
  replace hc3 := Lib.hid hc3
  replace hd3 := Lib.hid hd3
  have hst : nx = t := by simpa using hal
  have hN : addN nx t A B = A + B := by unfold addN; rw [if_pos hst]
  have hS : addS nx t A B (decide (m = 4)) = nx := by unfold addS; rw [if_pos hst]
  have hMb : nbits (A + B) < 1100 := Nat.lt_of_le_of_lt (nbits_add A B hAb hBb) (by omega)
  have ka := bigAdd_c h4 (bnum_dec (upd_eq _ _ _)) na4 nb4 hAw hBw
  rw [put_dec (upd_eq _ _ _), upd_upd] at ka
  replace ka := Lib.hid ka
  replace hN := Lib.hid hN
  replace hS := Lib.hid hS
  clear h4 na4 nb4 hst
  go_wp2_with fail
  with_reducible refine ka.out.mono ?_
  rintro E w5 ⟨rfl, h5⟩
  have t2 := h5.c2 (upd_eq _ _ _)
  have u2 := h5.fz (upd_eq _ _ _) 2
  have t0 := h5.c0 (upd_eq _ _ _)
  have u0 := h5.fz (upd_eq _ _ _) 0
  have h6 := h5.setExp (upd_eq _ _ _) e
  rw [upd_upd] at h6
  have h7 := h6.setForm (upd_eq _ _ _) 0
  rw [upd_upd] at h7
  have hc7 : ∀ it, upd σ' d it c = some (ctxO p a b (modeS m)) := fun it => by rw [upd_ne _ _ hcd]; exact hc3.out
  have kr := round_c h7 (upd_eq _ _ _) (upd_eq _ _ _) (hc7 _) hp ha hb hMb hm (by omega)
  rw [upd_upd] at kr
  have hrc := rndC_calm (A + B) p
  have ke := fun w1 (h1 : Hold w0 w1 (upd σ' d (dec 0 (nx) (e + (rndK (nx) (A + B) p m : Int)) false (rndN (nx) (A + B) p m)))) => errH_c h1 (hc7 _) hrc
  obtain ⟨r, hr⟩ : ∃ r, rndC (A + B) p = r := ⟨_, rfl⟩
  rw [hr] at kr
  simp only [hr] at ke
  replace hr := Lib.hid hr
  replace kr := Lib.hid kr
  replace ke := Lib.hid ke
  clear h5 h6 h7 hc7 hrc
  go_wp2_with fail
  with_reducible refine kr.out.mono ?_
  rintro E w6 ⟨rfl, h8⟩
  have ke := ke.out _ h8
  replace ke := Lib.hid ke
  have hend := h8.le (Le.both (k := d) (jt := dec 0 (nx) (e + (rndK (nx) (A + B) p m : Int)) false (rndN (nx) (A + B) p m)) hle3.out)
  replace hend := Lib.hid hend
  clear h8
  go_wp2_with fail
  with_reducible refine ke.out.mono ?_
  rintro E w' ⟨rfl, hw⟩
  obtain rfl := hw
  go_wp2
  go_ret2
  rw [hS.out, hN.out, hr.out]
  exact ⟨rfl, hend.out⟩
end Go.Proofs.YtonepclpllelfaaGreatDoor

namespace Go.Proofs.YtonepclpllelfaaGreatDoor
open Go Go.RowKit

set_option maxRecDepth 20000 in
set_option maxHeartbeats 4000000 in
theorem add_diff {w0 w : World} {σ : Sg} (h : Hold w0 w σ) {d x y c p m : Nat} {ex ey f' e' a b : Int} {nx ny sub n' g' : Bool} {X Y N' A B : Nat} {e : Int} (hd : σ d = some (dec f' n' e' g' N')) (hx : σ x = some (dec 0 nx ex false X)) (hy : σ y = some (dec 0 ny ey false Y)) (hc : σ c = some (ctxO p a b (modeS m)))
    (hp : 1 ≤ p ∧ p ≤ 1000) (ha : 50000 ≤ a ∧ a ≤ 2000000) (hb : -2000000 ≤ b ∧ b ≤ -50000) (hX : nbits X ≤ 2000) (hY : nbits Y ≤ 2000) (hm : m < 8) (hex : -1000 ≤ ex ∧ ex ≤ 1000) (hey : -1000 ≤ ey ∧ ey ≤ 1000) (hfar : ey - ex ≤ 400 ∧ ex - ey ≤ 400)
    (he : e = if ex ≤ ey then ex else ey) (hA : A = X * 10 ^ (ex - ey).toNat) (hB : B = Y * 10 ^ (ey - ex).toNat) (hAb : nbits A ≤ 1090) (hBb : nbits B ≤ 1090) (hal : (nx == (ny != sub)) = false) :
    Calls Tryz.prog 81 #[.pointer (some ⟨c, 0, none⟩), .pointer (some ⟨d, 0, none⟩), .pointer (some ⟨x, 0, none⟩), .pointer (some ⟨y, 0, none⟩), .bool sub] w (CRes w0 σ d (addS nx (ny != sub) A B (decide (m = 4))) e p m (addN nx (ny != sub) A B)) := by
  have kn := shouldNaN_c w (.pointer (some ⟨c, 0, none⟩)) x y 0 0 (h.c0 hx) (h.c0 hy) (by omega) (by omega)
  rw [show decide ((2 : Int) ≤ 0 ∨ (2 : Int) ≤ 0) = false from rfl] at kn
  have x0 := h.c0 hx
  have y0 := h.c0 hy
  have x1 := h.c1 hx
  have y1 := h.c1 hy
  have hcd : c ≠ d := by rintro rfl; rw [hc] at hd; cases hd
  have hX40 : (digs X).length < 40 := Nat.lt_of_le_of_lt (bits_w (k := 32) (by omega)) (by omega)
  have hY40 : (digs Y).length < 40 := Nat.lt_of_le_of_lt (bits_w (k := 32) (by omega)) (by omega)
  have hAw : (digs A).length ≤ 900 := Nat.le_trans (bits_w (k := 18) (by omega)) (by omega)
  have hBw : (digs B).length ≤ 900 := Nat.le_trans (bits_w (k := 18) (by omega)) (by omega)
  obtain ⟨t, ht⟩ : ∃ t, (ny != sub) = t := ⟨_, rfl⟩
  rw [ht] at hal ⊢
  have ht2 : (!(ny == sub)) = t := ht
  clear ht
  have hfr := fun j (hj : w.heap.size ≤ j) => h.fresh hj
  have hT := hfr _ (Nat.le_refl _)
  have h1 : ∀ n, Hold w0 ((w.drewN n).alloc (.cells #[.bool false, .slice none 0 0, .bool false] 53 (0, 0))) (upd σ w.heap.size (big false 0)) := fun n => (h.drewN n).newBig
  obtain ⟨T, hTe⟩ : ∃ T, w.heap.size = T := ⟨_, rfl⟩
  rw [hTe] at hT
  simp only [hTe] at h1
  have hTx : x ≠ T := by rintro rfl; rw [hT] at hx; cases hx
  have hTy : y ≠ T := by rintro rfl; rw [hT] at hy; cases hy
  have hdT : d ≠ T := by rintro rfl; rw [hT] at hd; cases hd
  have ku := fun n => upscale_c (h1 n) (by rw [upd_ne _ _ hTx]; exact hx) (by rw [upd_ne _ _ hTy]; exact hy) (upd_eq _ _ _) (by omega) (by omega) hfar hX40 hY40
  have hle : Le σ (upd σ T (big false 0)) := Le.skip hT (Le.refl _)
  have hle2 : ∀ N, Le σ (upd (upd σ T (big false 0)) T (big false N)) := fun N => by rw [upd_upd]; exact Le.skip hT (Le.refl _)
  unfold CRes
  replace hTe := Lib.hid hTe
  replace kn := Lib.hid kn
  replace ku := Lib.hid ku
  replace hle := Lib.hid hle
  replace hle2 := Lib.hid hle2
  replace hd := Lib.hid hd
  replace hc := Lib.hid hc
  replace he := Lib.hid he
  replace hA := Lib.hid hA
  replace hB := Lib.hid hB
  clear h h1 hx hy hfr hT
  go_enter Tryz.func81, Tryz.ntmps81
  go_wp2_with fail
  with_reducible refine kn.out.mono ?_
  rintro E w' ⟨rfl, hw⟩
  obtain rfl := hw
  go_upto_region 5 with (fail)
  go_quiet (fail)
  go_upto_region 16 with (fail)
  go_wp2_with fail
  rw [hTe.out]
  with_reducible refine (ku.out _).mono ?_
  rintro E w3 ⟨σ', ba, oa, bb, ob, rfl, h3, na, nb, hba, hbb, hσ⟩
  rw [← he.out]
  rw [← hA.out] at na
  rw [← hB.out] at nb
  have hle3 : Le σ σ' := by
    rcases hσ with rfl | ⟨N, rfl⟩
    · exact hle.out
    · exact hle2.out N
  have hd3 := hle3 _ _ hd.out
  have hc3 := hle3 _ _ hc.out
  have d1 := h3.c1 hd3
  have f1 := h3.fz hd3 1
  have h4 := h3.setSign hd3 nx
  have na4 := na.resign (s := nx) hd3
  have nb4 := nb.resign (s := nx) hd3
  have eb : -1000 ≤ e ∧ e ≤ 1000 := by rw [he.out]; split <;> omega
  clear x0 y0 x1 y1 kn ku hle hle2 hba hbb hσ h3 na nb
  replace hle3 := Lib.hid hle3
  replace hc3 := Lib.hid hc3
  replace hd3 := Lib.hid hd3
  have hst : ¬ nx = t := by simpa using hal
  have hMbA : nbits (A - B) < 1100 := Nat.lt_of_le_of_lt (nbits_mono (Nat.sub_le _ _)) (by omega)
  have hMbB : nbits (B - A) < 1100 := Nat.lt_of_le_of_lt (nbits_mono (Nat.sub_le _ _)) (by omega)
  have hBA : (digs (B - A)).length ≤ 1000 := Nat.le_trans (digs_len_mono (Nat.sub_le _ _)) (by omega)
  obtain ⟨fl, hfl⟩ : ∃ fl, decide (m = 4) = fl := ⟨_, rfl⟩
  have hfl2 := floorS hm
  rw [hfl] at hfl2
  replace hfl := Lib.hid hfl
  rcases Nat.lt_trichotomy A B with hlt | heq | hgt
  · have hN : addN nx t A B = B - A := by unfold addN; rw [if_neg hst, if_neg (by omega)]
    have hS : addS nx t A B (decide (m = 4)) = !nx := by unfold addS; rw [if_neg hst, if_neg (by omega), if_neg (by omega)]
    have ka := bigSub_lt h4 (bnum_dec (upd_eq _ _ _)) na4 nb4 hBw hlt
    rw [put_dec (upd_eq _ _ _), upd_upd] at ka
    have hs1 : sgN true (B - A) = -1 := by unfold sgN; rw [if_neg (by omega)]; rfl
    replace ka := Lib.hid ka
    replace hN := Lib.hid hN
    replace hS := Lib.hid hS
    replace hs1 := Lib.hid hs1
    clear h4 na4 nb4 hst hfl2
    go_wp2_with fail
    with_reducible refine ka.out.mono ?_
    rintro E w4 ⟨rfl, h4⟩
    have ksg := bigSignH_c h4 (bnum_dec (upd_eq _ _ _))
    rw [hs1.out] at ksg
    have d4 := h4.c1 (upd_eq _ _ _)
    have f4 := h4.fz (upd_eq _ _ _) 1
    have h44 := h4.setSign (upd_eq _ _ _) (!nx)
    rw [upd_upd] at h44
    have hdd := upd_eq σ' d (dec f' (!nx) e' true (B - A))
    have kb := fun w2 (hc : Chg (w4.setCell ⟨d, 1, none⟩ (.bool (!nx))) w2 (fun _ => False)) => bigNeg_c (h44.keep hc) (bnum_dec hdd) (bnum_dec hdd) hBA (by omega)
    rw [put_dec hdd, upd_upd, show (!true) = false from rfl] at kb
    replace ksg := Lib.hid ksg
    replace kb := Lib.hid kb
    clear h4 h44 hdd
    go_wp2_with fail
    with_reducible refine ksg.out.mono ?_
    rintro E w' ⟨rfl, hw⟩
    obtain rfl := hw
    go_upto_region 26 with (fail)
    go_still_tail 6, (by kernel_rfl)
    change wpList _ _ _ _ _ (World.drew _)
    go_wp2_with fail
    with_reducible refine (kb.out _ (by exact ⟨rfl, rfl, rfl, Nat.le_refl _, fun _ _ _ => rfl⟩)).mono ?_
    rintro E w5 ⟨rfl, h5⟩
    clear d4 f4
    have t2 := h5.c2 (upd_eq _ _ _)
    have u2 := h5.fz (upd_eq _ _ _) 2
    have t0 := h5.c0 (upd_eq _ _ _)
    have u0 := h5.fz (upd_eq _ _ _) 0
    have h6 := h5.setExp (upd_eq _ _ _) e
    rw [upd_upd] at h6
    have h7 := h6.setForm (upd_eq _ _ _) 0
    rw [upd_upd] at h7
    have hc7 : ∀ it, upd σ' d it c = some (ctxO p a b (modeS m)) := fun it => by rw [upd_ne _ _ hcd]; exact hc3.out
    have kr := round_c h7 (upd_eq _ _ _) (upd_eq _ _ _) (hc7 _) hp ha hb hMbB hm (by omega)
    rw [upd_upd] at kr
    have hrc := rndC_calm (B - A) p
    have ke := fun w1 (h1 : Hold w0 w1 (upd σ' d (dec 0 (!nx) (e + (rndK (!nx) (B - A) p m : Int)) false (rndN (!nx) (B - A) p m)))) => errH_c h1 (hc7 _) hrc
    obtain ⟨r, hr⟩ : ∃ r, rndC (B - A) p = r := ⟨_, rfl⟩
    rw [hr] at kr
    simp only [hr] at ke
    replace hr := Lib.hid hr
    replace kr := Lib.hid kr
    replace ke := Lib.hid ke
    clear h5 h6 h7 hc7 hrc
    go_wp2_with fail
    with_reducible refine kr.out.mono ?_
    rintro E w6 ⟨rfl, h8⟩
    have ke := ke.out _ h8
    replace ke := Lib.hid ke
    have hend := h8.le (Le.both (k := d) (jt := dec 0 (!nx) (e + (rndK (!nx) (B - A) p m : Int)) false (rndN (!nx) (B - A) p m)) hle3.out)
    replace hend := Lib.hid hend
    clear h8
    go_wp2_with fail
    with_reducible refine ke.out.mono ?_
    rintro E w' ⟨rfl, hw⟩
    obtain rfl := hw
    go_wp2
    go_ret2
    rw [hS.out, hN.out, hr.out]
    exact ⟨rfl, hend.out⟩
  · have hN : addN nx t A B = A - B := by unfold addN; rw [if_neg hst, if_pos (by omega)]
    have hS : addS nx t A B (decide (m = 4)) = fl := by unfold addS; rw [if_neg hst, if_pos heq]; exact hfl.out
    have ka := bigSub_ge h4 (bnum_dec (upd_eq _ _ _)) na4 nb4 hAw (by omega)
    rw [put_dec (upd_eq _ _ _), upd_upd] at ka
    have hs1 : sgN false (A - B) = 0 := by unfold sgN; rw [if_pos (by omega)]
    replace ka := Lib.hid ka
    replace hN := Lib.hid hN
    replace hS := Lib.hid hS
    replace hs1 := Lib.hid hs1
    clear h4 na4 nb4 hst
    go_wp2_with fail
    with_reducible refine ka.out.mono ?_
    rintro E w4 ⟨rfl, h4⟩
    have ksg := bigSignH_c h4 (bnum_dec (upd_eq _ _ _))
    rw [hs1.out] at ksg
    have d4 := h4.c1 (upd_eq _ _ _)
    have f4 := h4.fz (upd_eq _ _ _) 1
    have c4 := (h4.ctx (by rw [upd_ne _ _ hcd]; exact hc3.out)).c4
    have h5 := h4.setSign (upd_eq _ _ _) fl
    rw [upd_upd] at h5
    replace ksg := Lib.hid ksg
    clear h4
    go_wp2_with fail
    with_reducible refine ksg.out.mono ?_
    rintro E w' ⟨rfl, hw⟩
    obtain rfl := hw
    go_upto_region 29 with (fail)
    generalize w4.setCell ⟨d, 1, none⟩ (.bool fl) = w5 at h5 ⊢
    clear d4 f4 c4 hfl2
    have t2 := h5.c2 (upd_eq _ _ _)
    have u2 := h5.fz (upd_eq _ _ _) 2
    have t0 := h5.c0 (upd_eq _ _ _)
    have u0 := h5.fz (upd_eq _ _ _) 0
    have h6 := h5.setExp (upd_eq _ _ _) e
    rw [upd_upd] at h6
    have h7 := h6.setForm (upd_eq _ _ _) 0
    rw [upd_upd] at h7
    have hc7 : ∀ it, upd σ' d it c = some (ctxO p a b (modeS m)) := fun it => by rw [upd_ne _ _ hcd]; exact hc3.out
    have kr := round_c h7 (upd_eq _ _ _) (upd_eq _ _ _) (hc7 _) hp ha hb hMbA hm (by omega)
    rw [upd_upd] at kr
    have hrc := rndC_calm (A - B) p
    have ke := fun w1 (h1 : Hold w0 w1 (upd σ' d (dec 0 (fl) (e + (rndK (fl) (A - B) p m : Int)) false (rndN (fl) (A - B) p m)))) => errH_c h1 (hc7 _) hrc
    obtain ⟨r, hr⟩ : ∃ r, rndC (A - B) p = r := ⟨_, rfl⟩
    rw [hr] at kr
    simp only [hr] at ke
    replace hr := Lib.hid hr
    replace kr := Lib.hid kr
    replace ke := Lib.hid ke
    clear h5 h6 h7 hc7 hrc
    go_wp2_with fail
    with_reducible refine kr.out.mono ?_
    rintro E w6 ⟨rfl, h8⟩
    have ke := ke.out _ h8
    replace ke := Lib.hid ke
    have hend := h8.le (Le.both (k := d) (jt := dec 0 (fl) (e + (rndK (fl) (A - B) p m : Int)) false (rndN (fl) (A - B) p m)) hle3.out)
    replace hend := Lib.hid hend
    clear h8
    go_wp2_with fail
    with_reducible refine ke.out.mono ?_
    rintro E w' ⟨rfl, hw⟩
    obtain rfl := hw
    go_wp2
    go_ret2
    rw [hS.out, hN.out, hr.out]
    exact ⟨rfl, hend.out⟩
  · have hN : addN nx t A B = A - B := by unfold addN; rw [if_neg hst, if_pos (by omega)]
    have hS : addS nx t A B (decide (m = 4)) = nx := by unfold addS; rw [if_neg hst, if_neg (by omega), if_pos hgt]
    have ka := bigSub_ge h4 (bnum_dec (upd_eq _ _ _)) na4 nb4 hAw (by omega)
    rw [put_dec (upd_eq _ _ _), upd_upd] at ka
    have hs1 : sgN false (A - B) = 1 := by unfold sgN; rw [if_neg (by omega)]; rfl
    replace ka := Lib.hid ka
    replace hN := Lib.hid hN
    replace hS := Lib.hid hS
    replace hs1 := Lib.hid hs1
    clear h4 na4 nb4 hst hfl2
    go_wp2_with fail
    with_reducible refine ka.out.mono ?_
    rintro E w5 ⟨rfl, h5⟩
    have ksg := bigSignH_c h5 (bnum_dec (upd_eq _ _ _))
    rw [hs1.out] at ksg
    replace ksg := Lib.hid ksg
    replace h5 := Lib.hid h5
    go_wp2_with fail
    with_reducible refine ksg.out.mono ?_
    rintro E w' ⟨rfl, hw⟩
    obtain rfl := hw
    have h5 := h5.out
    have t2 := h5.c2 (upd_eq _ _ _)
    have u2 := h5.fz (upd_eq _ _ _) 2
    have t0 := h5.c0 (upd_eq _ _ _)
    have u0 := h5.fz (upd_eq _ _ _) 0
    have h6 := h5.setExp (upd_eq _ _ _) e
    rw [upd_upd] at h6
    have h7 := h6.setForm (upd_eq _ _ _) 0
    rw [upd_upd] at h7
    have hc7 : ∀ it, upd σ' d it c = some (ctxO p a b (modeS m)) := fun it => by rw [upd_ne _ _ hcd]; exact hc3.out
    have kr := round_c h7 (upd_eq _ _ _) (upd_eq _ _ _) (hc7 _) hp ha hb hMbA hm (by omega)
    rw [upd_upd] at kr
    have hrc := rndC_calm (A - B) p
    have ke := fun w1 (h1 : Hold w0 w1 (upd σ' d (dec 0 (nx) (e + (rndK (nx) (A - B) p m : Int)) false (rndN (nx) (A - B) p m)))) => errH_c h1 (hc7 _) hrc
    obtain ⟨r, hr⟩ : ∃ r, rndC (A - B) p = r := ⟨_, rfl⟩
    rw [hr] at kr
    simp only [hr] at ke
    replace hr := Lib.hid hr
    replace kr := Lib.hid kr
    replace ke := Lib.hid ke
    clear h5 h6 h7 hc7 hrc
    go_wp2_with fail
    with_reducible refine kr.out.mono ?_
    rintro E w6 ⟨rfl, h8⟩
    have ke := ke.out _ h8
    replace ke := Lib.hid ke
    have hend := h8.le (Le.both (k := d) (jt := dec 0 (nx) (e + (rndK (nx) (A - B) p m : Int)) false (rndN (nx) (A - B) p m)) hle3.out)
    replace hend := Lib.hid hend
    clear h8
    go_wp2_with fail
    with_reducible refine ke.out.mono ?_
    rintro E w' ⟨rfl, hw⟩
    obtain rfl := hw
    go_wp2
    go_ret2
    rw [hS.out, hN.out, hr.out]
    exact ⟨rfl, hend.out⟩

/-- Context.add: the sum, with the smaller exponent, rounded. -/
theorem add_c {w0 w : World} {σ : Sg} (h : Hold w0 w σ) {d x y c p m : Nat} {ex ey f' e' a b : Int} {nx ny sub n' g' : Bool} {X Y N' A B : Nat} {e : Int} (hd : σ d = some (dec f' n' e' g' N')) (hx : σ x = some (dec 0 nx ex false X)) (hy : σ y = some (dec 0 ny ey false Y)) (hc : σ c = some (ctxO p a b (modeS m)))
    (hp : 1 ≤ p ∧ p ≤ 1000) (ha : 50000 ≤ a ∧ a ≤ 2000000) (hb : -2000000 ≤ b ∧ b ≤ -50000) (hX : nbits X ≤ 2000) (hY : nbits Y ≤ 2000) (hm : m < 8) (hex : -1000 ≤ ex ∧ ex ≤ 1000) (hey : -1000 ≤ ey ∧ ey ≤ 1000) (hfar : ey - ex ≤ 400 ∧ ex - ey ≤ 400)
    (he : e = if ex ≤ ey then ex else ey) (hA : A = X * 10 ^ (ex - ey).toNat) (hB : B = Y * 10 ^ (ey - ex).toNat) (hAb : nbits A ≤ 1090) (hBb : nbits B ≤ 1090) :
    Calls Tryz.prog 81 #[.pointer (some ⟨c, 0, none⟩), .pointer (some ⟨d, 0, none⟩), .pointer (some ⟨x, 0, none⟩), .pointer (some ⟨y, 0, none⟩), .bool sub] w (CRes w0 σ d (addS nx (ny != sub) A B (decide (m = 4))) e p m (addN nx (ny != sub) A B)) := by
  cases hal : (nx == (ny != sub)) with
  | true => exact add_alike h hd hx hy hc hp ha hb hX hY hm hex hey hfar he hA hB hAb hBb hal
  | false => exact add_diff h hd hx hy hc hp ha hb hX hY hm hex hey hfar he hA hB hAb hBb hal

theorem cAdd_c {w0 w : World} {σ : Sg} (h : Hold w0 w σ) {d x y c p m : Nat} {ex ey f' e' a b : Int} {nx ny n' g' : Bool} {X Y N' A B : Nat} {e : Int} (hd : σ d = some (dec f' n' e' g' N')) (hx : σ x = some (dec 0 nx ex false X)) (hy : σ y = some (dec 0 ny ey false Y)) (hc : σ c = some (ctxO p a b (modeS m)))
    (hp : 1 ≤ p ∧ p ≤ 1000) (ha : 50000 ≤ a ∧ a ≤ 2000000) (hb : -2000000 ≤ b ∧ b ≤ -50000) (hX : nbits X ≤ 2000) (hY : nbits Y ≤ 2000) (hm : m < 8) (hex : -1000 ≤ ex ∧ ex ≤ 1000) (hey : -1000 ≤ ey ∧ ey ≤ 1000) (hfar : ey - ex ≤ 400 ∧ ex - ey ≤ 400)
    (he : e = if ex ≤ ey then ex else ey) (hA : A = X * 10 ^ (ex - ey).toNat) (hB : B = Y * 10 ^ (ey - ex).toNat) (hAb : nbits A ≤ 1090) (hBb : nbits B ≤ 1090) :
    Calls Tryz.prog 61 #[.pointer (some ⟨c, 0, none⟩), .pointer (some ⟨d, 0, none⟩), .pointer (some ⟨x, 0, none⟩), .pointer (some ⟨y, 0, none⟩)] w (CRes w0 σ d (addS nx (ny != false) A B (decide (m = 4))) e p m (addN nx (ny != false) A B)) := by
  have k := add_c (sub := false) h hd hx hy hc hp ha hb hX hY hm hex hey hfar he hA hB hAb hBb
  generalize addS nx (ny != false) A B (decide (m = 4)) = S at *
  generalize addN nx (ny != false) A B = M at *
  unfold CRes at *
  generalize rndC M p = r at *
  replace k := Lib.hid k
  clear h hd hx hy hc he hA hB
  go_enter Tryz.func61, Tryz.ntmps61
  go_wp2_with fail
  with_reducible refine k.out.mono ?_
  rintro E w1 ⟨rfl, h1⟩
  replace h1 := Lib.hid h1
  go_wp2
  go_ret2
  exact ⟨rfl, h1.out⟩

end Go.Proofs.YtonepclpllelfaaGreatDoor

namespace Go.Proofs.YtonepclpllelfaaGreatDoor
open Go Go.RowKit

theorem MadeF.hold {w0 w w' : World} {σ : Sg} {E : Ending} {n : Bool} {ex : Int} {N : Nat} (h : Hold w0 w σ) (hm : MadeF w w' E n ex N) : ∃ k, E = .returned (.pointer (some ⟨k, 0, none⟩)) ∧ w.heap.size ≤ k ∧ Hold w0 w' (upd σ k (dec 0 n ex false N)) := by
  obtain ⟨k, o, rfl, hk, hk2, ⟨v, hv, hN⟩, ho, hc⟩ := hm
  have only3 : ∀ p g M, (dec 0 n ex false N).num p = some (g, M) → p = 3 ∧ M = N := by
    intro p g M hp
    rcases It.num_cases hp with ⟨_, rfl, h3⟩ | ⟨hk, _⟩ | ⟨hk, _⟩ | ⟨hk, _⟩ | ⟨hk, _⟩
    · cases h3; exact ⟨rfl, rfl⟩
    all_goals exact absurd hk (Nat.ne_of_beq_eq_false rfl)
  refine ⟨k, rfl, hk, h.add (s := fun _ => o) hc hk (.inl ⟨Nat.le_of_ble_eq_true rfl, fun _ => v, hv, fun p g M hp => ?_⟩) (fun p g M b hp hb => ⟨(ho b hb).1, (ho b hb).2.2⟩) (fun p g M p' g' M' b hp hp' _ _ => by rw [(only3 _ _ _ hp).1, (only3 _ _ _ hp').1])⟩
  rw [(only3 _ _ _ hp).2]
  exact hN
end Go.Proofs.YtonepclpllelfaaGreatDoor

namespace Go.Proofs.YtonepclpllelfaaGreatDoor
open Go Go.RowKit

set_option maxRecDepth 20000 in
theorem mathBig_c {w0 w : World} {σ : Sg} (h : Hold w0 w σ) {bx ox : Nat} {g : Bool} {N : Nat} (hx : BNum σ bx ox g N) (hN : (digs N).length ≤ 1000) :
    Calls Tryz.prog 68 #[.pointer (some ⟨bx, ox, none⟩)] w fun E w' => ∃ k, E = .returned (.pointer (some ⟨k, 0, none⟩)) ∧ w.heap.size ≤ k ∧ Hold w0 w' (upd σ k (int g N)) := by
  have hf := h.fresh (k := w.heap.size) (Nat.le_refl _)
  have h1 := h.newInt
  have ks := intSetAny_c h1 (num_int (upd_eq _ _ _)) (hx.num.upd hf) hN
  rw [put_int (upd_eq _ _ _), upd_upd] at ks
  replace ks := Lib.hid ks
  clear h h1 hf hx
  go_enter Tryz.func68, Tryz.ntmps68
  go_wp2_with fail
  with_reducible refine ks.out.mono ?_
  rintro e w1 ⟨rfl, h1⟩
  replace h1 := Lib.hid h1
  go_wp2
  go_ret
  exact ⟨_, rfl, Nat.le_refl _, h1.out⟩
theorem bitsH_c {w0 w : World} {σ : Sg} (h : Hold w0 w σ) {bx ox : Nat} {g : Bool} {N : Nat} (hx : Num σ bx ox g N) :
    Calls Tryz.prog 69 #[.pointer (some ⟨bx, ox, none⟩)] w fun E w' => ∃ v o, E = .returned v ∧ IsNat w v N o ∧ w = w' := by
  obtain ⟨v, s, p⟩ := h.op hx
  have x1 := p.c1
  have hn := p.nat
  replace hn := Lib.hid hn
  clear h hx p
  go_enter Tryz.func69, Tryz.ntmps69
  go_wp2
  go_ret
  exact ⟨v, s, rfl, hn.out, rfl⟩
end Go.Proofs.YtonepclpllelfaaGreatDoor

namespace Go.Proofs.YtonepclpllelfaaGreatDoor
open Go Go.RowKit

set_option maxRecDepth 20000 in
set_option maxHeartbeats 2000000 in
theorem wordsOf_c {w0 w : World} {σ : Sg} (h : Hold w0 w σ) {bx ox : Nat} {N : Nat} (hx : BNum σ bx ox false N) (hN : (digs N).length ≤ 900) :
    Calls Tryz.prog 46 #[.pointer (some ⟨bx, ox, none⟩)] w fun E w' => ∃ p cc base, E = .returned (.slice p (digs N).length cc) ∧ w.heap.size ≤ base ∧ w'.ownsRow base 33 1 (.slice p (digs N).length cc) (digs N).length ((digs N).map uw) ∧ Hold w0 w' σ := by
  obtain ⟨i0, hi, hz0, hz1, hz2⟩ := info_parts makeU
  have km := mathBig_c h hx (by omega)
  have hsz := fun k hk => h.fresh (k := k) hk
  replace km := Lib.hid km
  replace hsz := Lib.hid hsz
  clear h hx
  go_enter Tryz.func46, Tryz.ntmps46
  go_wp2_with fail
  with_reducible refine km.out.mono ?_
  rintro E w1 ⟨k, rfl, hk, h1⟩
  have kb := bitsH_c h1 (num_int (upd_eq _ _ _))
  have hend : ∀ w', Chg w1 w' (fun _ => False) → Hold w0 w' σ := fun w' hc => (h1.keep hc).le (Le.skip (hsz.out k hk) (Le.refl _))
  have hks : k < w1.heap.size := (h1.lt (upd_eq _ _ _)).2
  have hb1 : w.heap.size ≤ w1.heap.size := by omega
  replace kb := Lib.hid kb
  replace hend := Lib.hid hend
  replace hb1 := Lib.hid hb1
  clear h1 hks hk
  go_wp2_with fail
  with_reducible refine kb.out.mono ?_
  rintro E w' ⟨v, o, rfl, hv, hw⟩
  obtain rfl := hw
  obtain ⟨D, hD⟩ : ∃ D, digs N = D := ⟨_, rfl⟩
  obtain ⟨vp, vc, rfl, hl1, hl2⟩ := hv.shape
  rw [hD] at hl1 hN ⊢
  have hcells : 0 < D.length → ∃ ad, vp = some ⟨ad, 0, none⟩ ∧ ∀ j, j < D.length → w1.cell? ⟨ad, j, none⟩ = some (.int .u64 (nth D j : Int)) := fun h0 => by
    have hN0 : N ≠ 0 := by rintro rfl; rw [digs_zero] at hD; rw [← hD] at h0; exact absurd h0 (by simp)
    obtain ⟨b, cap, C, rfl, he, ha, hc, hcap, ht, hl, hp⟩ := hv.pos hN0
    injection he with e1 e2 e3
    rw [hD] at ht hl
    refine ⟨b, e1, fun j hj => ?_⟩
    have h1 := ha.cellN (i := j) (by omega)
    have h2 := nth_take (l := C) (i := j) (k := D.length) hj
    rw [ht] at h2
    rw [h2]; exact h1
  replace hcells := Lib.hid hcells
  replace hD := Lib.hid hD
  clear hv hl1 hl2
  go_wp2
  go_loopw [3, 10] (fun v i wr => ∃ (q : Nat) (p : Option Addr) (cc : Nat), q ≤ D.length ∧ i = .int .i64 q ∧ v = .slice p q cc ∧ Below w1.heap.size w1 wr ∧ wr.ownsRow w1.heap.size 33 1 (.slice p q cc) q ((D.take q).map uw)) (fun _ i _ => D.length - (intOf i).toNat)
  case atStart => exact ⟨0, none, 0, Nat.zero_le _, rfl, rfl, Below.refl _ _, ⟨rfl, .inl ⟨rfl, rfl⟩⟩⟩
  case round =>
    obtain ⟨q, p, cc, hq, rfl, rfl, hb, hown⟩ := hrel
    by_cases hlt : q < D.length
    · obtain ⟨ad, rfl, hcs⟩ := hcells.out (by omega)
      have hcell := hb.cell (World.block_lt_of_cell? w1 _ (hcs q hlt)) |>.trans (hcs q hlt)
      have htq : D.take (q + 1) = D.take q ++ [nth D q] := take_nth hlt
      have hbs := hb.size
      replace htq := Lib.hid htq
      replace hown := Lib.hid hown
      replace hb := Lib.hid hb
      clear hcs
      go_wp2_with (at_builtin; refine wpList_append_own _ rfl _ _ 22 rfl w1.heap.size 33 i0 (.int .u64 0) 1 8 Tryz.underlying22 hi hz0 hz1 hz2 rfl (by decide) _ _ _ rfl (hown.out.alloc _) ⟨wr.heap.size, 0, none⟩ 1 1 [.int .u64 (nth D q : Int)] rfl rfl ?c1 ?c2 ?c3 ?c4 ?c5 ?_)
      case c1 => exact cell_one_new _ _ _
      case c2 => intro u hu; simp only [List.mem_cons, List.not_mem_nil, or_false] at hu; subst hu; rfl
      case c3 => unfold maxLen; omega
      case c4 => omega
      case c5 => simp; omega
      intro v' w2 hown' hgrow _
      obtain ⟨p', cc', rfl⟩ := own_slice3 hown'
      replace hown' := Lib.hid hown'
      replace hgrow := Lib.hid hgrow
      go_wp2
      go_roundw
      case rel =>
        refine ⟨q + 1, p', cc', by omega, by go_num, rfl, ?_, ?_⟩
        · exact (hb.out.alloc hbs _).grown hgrow.out (by simp; omega) (fun g hg => (hown.out.lt g hg).1)
        · have h := hown'.out
          rw [htq.out, List.map_append, List.map_take]
          exact h
      case measure => simp [intOf]; omega
    · obtain rfl : q = D.length := by omega
      have htl : D.take D.length = D := List.take_of_length_le (Nat.le_refl _)
      rw [htl] at hown
      replace hown := Lib.hid hown
      replace hb := Lib.hid hb
      go_wp2
      go_ret
      rw [hD.out]
      exact ⟨p, cc, _, rfl, hb1.out, hown.out, hend.out _ (Below.chg hb.out)⟩

/-- An own row of words is a row that is read; where it lies. -/
theorem own_rdW {w : World} {base l c : Nat} {p : Option Addr} {X : List Nat} (hown : w.ownsRow base 33 1 (.slice p l c) l (X.map uw)) (hX : X.length = l) (hW : Wd X) : RdW w p l c X ∧ ∀ ad, p = some ad → base ≤ ad.block := by
  refine ⟨?_, fun ad ha => (hown.lt ad.block (by subst ha; rfl)).1⟩
  rcases hown.2 with ⟨h1, h2⟩ | ⟨g, cap, cur, h1, hg, hgg, hn, hm, hcs, htake⟩
  · injection h1 with h1 h3 h4
    subst h3 h4
    exact ⟨hX, Nat.le_refl _, by omega, hW, fun h => absurd h (Nat.lt_irrefl _)⟩
  · injection h1 with h1 h3 h4
    subst h1 h4
    refine ⟨hX, hn, by unfold maxLen at hm; omega, hW, fun _ => ⟨_, rfl, fun j hj => ?_⟩⟩
    exact hown.cells (g := g) rfl j (uw (nth X j)) (by rw [List.getElem?_map, get_nth (by omega)]; rfl)
theorem RdW.chg {w w' : World} {A : Option Addr} {l c : Nat} {D : List Nat} {S : Nat → Prop} (h : RdW w A l c D) (hb : Chg w w' S) (hS : ∀ k, S k → w.heap.size ≤ k) : RdW w' A l c D :=
  ⟨h.len, h.cap, h.max, h.wd, fun hl => by
    obtain ⟨ad, e, hc⟩ := h.cells hl
    exact ⟨ad, e, fun j hj => hb.cell (hc j hj) (fun hs => by have := World.block_lt_of_cell? w _ (hc j hj); have := hS _ hs; omega)⟩⟩
theorem RdW.chgAt {w w' : World} {A : Option Addr} {l c : Nat} {D : List Nat} {S : Nat → Prop} (h : RdW w A l c D) (hb : Chg w w' S) (hS : ∀ ad, A = some ad → ¬ S ad.block) : RdW w' A l c D :=
  ⟨h.len, h.cap, h.max, h.wd, fun hl => by
    obtain ⟨ad, e, hc⟩ := h.cells hl
    exact ⟨ad, e, fun j hj => hb.cell (hc j hj) (by rw [add_block]; exact hS ad e)⟩⟩
end Go.Proofs.YtonepclpllelfaaGreatDoor

namespace Go.Proofs.YtonepclpllelfaaGreatDoor
open Go Go.RowKit

/-- A finite decimal as it is told: its words lie in new memory. -/
def ToldF (w0 w w' : World) (σ : Sg) (n : Bool) (e : Int) (N : Nat) (E : Ending) : Prop :=
  ∃ p cc, E = .returned (.agg #[.int .i64 0, .bool n, .slice p (digs N).length cc, .int .i64 e]) ∧ RdW w' p (digs N).length cc (digs N) ∧ (∀ ad, p = some ad → w.heap.size ≤ ad.block) ∧ Hold w0 w' σ
theorem Hold.raw23 {w0 w : World} {τ : Sg} (h : Hold w0 w τ) {b : Nat} {a0 a1 a2 a3 : Value} {T : TypeId} (hb : τ b = some (Go.Proofs.YtonepclpllelfaaGreatDoor.raw (.cells #[a0, a1, a2, a3] T (0, 0)))) (x y : Value) :
    ∃ V τ', (w.setCell ⟨b, 2, none⟩ x).setCell ⟨b, 3, none⟩ y = V ∧ Hold w0 V τ' ∧ τ' b = some (Go.Proofs.YtonepclpllelfaaGreatDoor.raw (.cells #[a0, a1, x, y] T (0, 0))) ∧ (∀ c, c ≠ b → τ' c = τ c) ∧ Chg w V (fun k => k = b) :=
  ⟨_, _, rfl, (h.setRaw hb).setRaw (upd_eq _ _ _), by rw [upd_eq]; rfl, fun c hc => by rw [upd_ne _ _ hc, upd_ne _ _ hc], (chg_setB w b 2 x).trans ((chg_setB _ b 3 y).mono (fun _ _ h => .inl h))⟩
theorem Hold.raw32 {w0 w : World} {τ : Sg} (h : Hold w0 w τ) {b : Nat} {a0 a1 a2 a3 : Value} {T : TypeId} (hb : τ b = some (Go.Proofs.YtonepclpllelfaaGreatDoor.raw (.cells #[a0, a1, a2, a3] T (0, 0)))) (x y : Value) :
    ∃ V τ', (w.setCell ⟨b, 3, none⟩ y).setCell ⟨b, 2, none⟩ x = V ∧ Hold w0 V τ' ∧ τ' b = some (Go.Proofs.YtonepclpllelfaaGreatDoor.raw (.cells #[a0, a1, x, y] T (0, 0))) ∧ (∀ c, c ≠ b → τ' c = τ c) ∧ Chg w V (fun k => k = b) :=
  ⟨_, _, rfl, (h.setRaw hb).setRaw (upd_eq _ _ _), by rw [upd_eq]; rfl, fun c hc => by rw [upd_ne _ _ hc, upd_ne _ _ hc], (chg_setB w b 3 y).trans ((chg_setB _ b 2 x).mono (fun _ _ h => .inl h))⟩
theorem Hold.raw4 {w0 w : World} {τ : Sg} (h : Hold w0 w τ) {b : Nat} {a0 a1 a2 a3 : Value} {T : TypeId} (hb : τ b = some (Go.Proofs.YtonepclpllelfaaGreatDoor.raw (.cells #[a0, a1, a2, a3] T (0, 0)))) (x0 x1 x2 x3 : Value) :
    ∃ V τ', (((w.setCell ⟨b, 0, none⟩ x0).setCell ⟨b, 1, none⟩ x1).setCell ⟨b, 2, none⟩ x2).setCell ⟨b, 3, none⟩ x3 = V ∧ Hold w0 V τ' ∧ τ' b = some (Go.Proofs.YtonepclpllelfaaGreatDoor.raw (.cells #[x0, x1, x2, x3] T (0, 0))) ∧ (∀ c, c ≠ b → τ' c = τ c) ∧ Chg w V (fun k => k = b) :=
  ⟨_, _, rfl, (((h.setRaw hb).setRaw (upd_eq _ _ _)).setRaw (upd_eq _ _ _)).setRaw (upd_eq _ _ _), by rw [upd_eq]; rfl, fun c hc => by rw [upd_ne _ _ hc, upd_ne _ _ hc, upd_ne _ _ hc, upd_ne _ _ hc],
    (((chg_setB w b 0 x0).trans ((chg_setB _ b 1 x1).mono (fun _ _ h => .inl h))).trans ((chg_setB _ b 2 x2).mono (fun _ _ h => .inl h))).trans ((chg_setB _ b 3 x3).mono (fun _ _ h => .inl h))⟩
set_option maxRecDepth 20000 in
set_option maxHeartbeats 2000000 in
theorem toldF_c {w0 w : World} {σ : Sg} (h : Hold w0 w σ) {d : Nat} {n : Bool} {e : Int} {N : Nat} (hd : σ d = some (dec 0 n e false N)) (hN : (digs N).length ≤ 900) (he : -100000 ≤ e ∧ e ≤ 100000) :
    Calls Tryz.prog 19 #[.pointer (some ⟨d, 0, none⟩)] w fun E w' => ToldF w0 w w' σ n e N E := by
  have hlt : d < w.heap.size := (h.lt hd).2
  have d0 := h.c0 hd
  have d1 := h.c1 hd
  have ew : IntKind.i64.wrap e = e := IntWalk.i64_in _ (by omega)
  have h2 := (h.newRaw (.cells #[.int .i64 0, .bool false, .slice none 0 0, .int .i64 0] 24 (0, 0))).newRaw (.cells #[.int .i64 0, .bool n, .slice none 0 0, .int .i64 0] 24 (0, 0))
  simp only [World.size_alloc] at h2
  have hT := h.fresh (k := w.heap.size) (Nat.le_refl _)
  have hT1 := h.fresh (k := w.heap.size + 1) (by omega)
  replace h2 := Lib.hid h2
  replace hT := Lib.hid hT
  replace hT1 := Lib.hid hT1
  replace hd := Lib.hid hd
  clear h
  go_enter Tryz.func19, Tryz.ntmps19
  go_upto_region 3 with (fail)
  obtain ⟨T, hTe⟩ : ∃ T, w.heap.size = T := ⟨_, rfl⟩
  have hb0 : w.heap.size ≤ T := Nat.le_of_eq hTe
  replace hb0 := Lib.hid hb0
  clear hlt d0 d1
  rw [hTe] at h2 hT hT1 ⊢
  generalize (w.alloc (.cells #[.int .i64 0, .bool false, .slice none 0 0, .int .i64 0] 24 (0, 0))).alloc (.cells #[.int .i64 0, .bool n, .slice none 0 0, .int .i64 0] 24 (0, 0)) = W at h2 ⊢
  replace hTe := Lib.hid hTe
  have h2 := h2.out
  have hle : Le σ (upd (upd σ T (raw (.cells #[.int .i64 0, .bool false, .slice none 0 0, .int .i64 0] 24 (0, 0)))) (T + 1) (raw (.cells #[.int .i64 0, .bool n, .slice none 0 0, .int .i64 0] 24 (0, 0)))) := Le.skip hT1.out (Le.skip hT.out (Le.refl _))
  have a1 := upd_eq (upd σ T (raw (.cells #[.int .i64 0, .bool false, .slice none 0 0, .int .i64 0] 24 (0, 0)))) (T + 1) (raw (.cells #[.int .i64 0, .bool n, .slice none 0 0, .int .i64 0] 24 (0, 0)))
  have a0 : upd (upd σ T (raw (.cells #[.int .i64 0, .bool false, .slice none 0 0, .int .i64 0] 24 (0, 0)))) (T + 1) (raw (.cells #[.int .i64 0, .bool n, .slice none 0 0, .int .i64 0] 24 (0, 0))) T = some (raw (.cells #[.int .i64 0, .bool false, .slice none 0 0, .int .i64 0] 24 (0, 0))) := by rw [upd_ne _ _ (by omega), upd_eq]
  generalize upd (upd σ T (raw (.cells #[.int .i64 0, .bool false, .slice none 0 0, .int .i64 0] 24 (0, 0)))) (T + 1) (raw (.cells #[.int .i64 0, .bool n, .slice none 0 0, .int .i64 0] 24 (0, 0))) = τ at h2 hle a1 a0
  have d2 := h2.c2 (hle _ _ hd.out)
  have kw := fun w2 (hc : Chg W w2 (fun _ => False)) => wordsOf_c (h2.keep hc) (bnum_dec (hle _ _ hd.out)) hN
  have hWT : T + 1 < W.heap.size := (h2.lt a1).2
  have hdT1 : d ≠ T + 1 := by rintro rfl; have := hd.out; rw [hT1.out] at this; cases this
  have hdT : d ≠ T := by rintro rfl; have := hd.out; rw [hT.out] at this; cases this
  replace kw := Lib.hid kw
  replace a1 := Lib.hid a1
  replace a0 := Lib.hid a0
  replace hle := Lib.hid hle
  replace h2 := Lib.hid h2
  go_region_with ((go_at_call 46; refine (kw.out _ (by exact ⟨rfl, rfl, rfl, Nat.le_refl _, fun _ _ _ => rfl⟩)).mono ?_; rintro E w3 ⟨p, cc, base, rfl, hbase, hown, h3⟩; have e2 := h3.c2 (hle.out _ _ hd.out); have s2 : w3.cell? ⟨T + 1, 2, none⟩ = some (.slice none 0 0) := cellB (h3.raw a1.out) rfl; have s3 : w3.cell? ⟨T + 1, 3, none⟩ = some (.int .i64 0) := cellB (h3.raw a1.out) rfl; have f2 := frozenB (h3.raw a1.out) 2; have f3 := frozenB (h3.raw a1.out) 3; replace h3 := Lib.hid h3; replace hown := Lib.hid hown; replace hbase := Lib.hid hbase))
  all_goals
    clear s2 s3 f2 f3 e2
    first
      | (obtain ⟨V, τ1, hV, h4, a2, hne, hq⟩ := h3.out.raw23 a1.out (.slice p (digs N).length cc) (.int .i64 e)
         rw [hV])
      | (obtain ⟨V, τ1, hV, h4, a2, hne, hq⟩ := h3.out.raw32 a1.out (.slice p (digs N).length cc) (.int .i64 e)
         rw [hV])
    clear hV
    have a3 := (hne T (by omega)).trans a0.out
    have hle1 : Le σ τ1 := fun k it hk => by rw [hne k (by rintro rfl; rw [hT1.out] at hk; cases hk)]; exact hle.out k it hk
    have hb1 := h4.raw a2
    have hb0' := h4.raw a3
    have r0 := cellB hb1 (i := 0) rfl
    have r1 := cellB hb1 (i := 1) rfl
    have r2 := cellB hb1 (i := 2) rfl
    have r3 := cellB hb1 (i := 3) rfl
    have z0 := cellB hb0' (i := 0) rfl
    have z1 := cellB hb0' (i := 1) rfl
    have z2 := cellB hb0' (i := 2) rfl
    have z3 := cellB hb0' (i := 3) rfl
    have y0 := frozenB hb0' 0
    have y1 := frozenB hb0' 1
    have y2 := frozenB hb0' 2
    have y3 := frozenB hb0' 3
    replace h4 := Lib.hid h4
    replace a3 := Lib.hid a3
    replace hq := Lib.hid hq
    replace hle1 := Lib.hid hle1
    clear hb1 hb0' hne a2
    go_wp2
    clear r0 r1 r2 r3 z0 z1 z2 z3 y0 y1 y2 y3
    obtain ⟨V2, τ2, hV, h5, a4, hne, hq2⟩ := h4.out.raw4 a3.out (.int .i64 0) (.bool n) (.slice p (digs N).length cc) (.int .i64 e)
    rw [hV]
    clear hV
    have hb0' := h5.raw a4
    have r0 := cellB hb0' (i := 0) rfl
    have r1 := cellB hb0' (i := 1) rfl
    have r2 := cellB hb0' (i := 2) rfl
    have r3 := cellB hb0' (i := 3) rfl
    have hle2 : Le σ τ2 := fun k it hk => by rw [hne k (by rintro rfl; rw [hT.out] at hk; cases hk)]; exact hle1.out k it hk
    have hch : Chg w3 V2 (fun k => k = T + 1 ∨ k = T) := (hq.out.mono (fun _ _ h => .inl h)).trans (hq2.mono (fun _ _ h => .inl (.inr h)))
    obtain ⟨hw1, hw2⟩ := own_rdW hown.out rfl (Wd_digs N)
    have hbs : T + 1 < base := Nat.lt_of_lt_of_le hWT hbase.out
    have hrd := hw1.chgAt hch (fun ad ha e1 => by have := hw2 ad ha; omega)
    have hlo : ∀ ad, p = some ad → w.heap.size ≤ ad.block := fun ad ha => by have h1 := hw2 ad ha; have h2 := hb0.out; omega
    exact bodyPost_ret (v := .agg #[.int .i64 0, .bool n, .slice p (digs N).length cc, .int .i64 e]) (by simp [results, Tryz.results19, go_sem, r0, r1, r2, r3]) rfl ⟨p, cc, rfl, hrd, hlo, h5.le hle2⟩
end Go.Proofs.YtonepclpllelfaaGreatDoor

namespace Go.Proofs.YtonepclpllelfaaGreatDoor
open Go Go.RowKit

/-- More is told. -/
theorem Hold.more {w0 w w' : World} {σ : Sg} (h : Hold w0 w σ) {k : Nat} {o : Obj} (hc : Chg w w' (fun _ => False)) (hk : w.heap.size ≤ k) (ho : w'.heap[k]? = some o) :
    ∃ τ, Hold w0 w' τ ∧ Le σ τ ∧ τ k = some (Go.Proofs.YtonepclpllelfaaGreatDoor.raw o) :=
  ⟨_, h.add (it := Go.Proofs.YtonepclpllelfaaGreatDoor.raw o) (s := fun _ => none) hc hk (.inr ⟨Nat.le_of_ble_eq_true rfl, ho⟩) (fun _ _ _ _ _ h => by cases h) (fun _ _ _ _ _ _ _ _ _ h => by cases h), Le.skip (h.fresh hk) (Le.refl _), upd_eq _ _ _⟩
theorem MadeF.more {w0 w w' : World} {σ : Sg} {E : Ending} {n : Bool} {ex : Int} {N : Nat} (hm : MadeF w w' E n ex N) (h : Hold w0 w σ) :
    ∃ k τ, E = .returned (.pointer (some ⟨k, 0, none⟩)) ∧ w.heap.size ≤ k ∧ Hold w0 w' τ ∧ Le σ τ ∧ τ k = some (dec 0 n ex false N) := by
  obtain ⟨k, rfl, hk, h2⟩ := MadeF.hold h hm
  exact ⟨k, _, rfl, hk, h2, Le.skip (h.fresh hk) (Le.refl _), upd_eq _ _ _⟩

/-- The boxes at an operation's start. -/
theorem lay4 {w : World} (hG : Glob w) (o1 o2 o3 : Obj) : ∃ σ : Sg, Hold w ((((w.alloc o1).alloc o2).alloc o3).alloc (.cells #[.int .i8 0, .bool false, .int .i32 0, .bool false, .slice none 0 0, .bool false] 55 (0, 0))) σ ∧
    σ w.heap.size = some (raw o1) ∧ σ (w.heap.size + 1) = some (raw o2) ∧ σ (w.heap.size + 2) = some (raw o3) ∧ σ (w.heap.size + 3) = some (dec 0 false 0 false 0) := by
  have h := ((((Hold.start hG).newRaw o1).newRaw o2).newRaw o3).newDec 0 0 false
  refine ⟨_, h, ?_, ?_, ?_, ?_⟩
  all_goals simp only [World.size_alloc]
  · rw [upd_ne _ _ (by omega), upd_ne _ _ (by omega), upd_ne _ _ (by omega), upd_eq]
  · rw [upd_ne _ _ (by omega), upd_ne _ _ (by omega), upd_eq]
  · rw [upd_ne _ _ (by omega), upd_eq]
  · rw [upd_eq]
/-- The boxes of a context and of a decimal as plain data. -/
def Bd2 (s : Nat) (p a b : Int) (m : Nat) (fx ex : Int) (nx : Bool) (Ax : Option Addr) (lx cx : Nat) (w : World) : Prop :=
  w.heap[s]? = some (.cells #[.int .u64 p, .int .i64 a, .int .i64 b, .int .i64 (m : Int)] 35 (0, 0)) ∧ w.heap[s + 1]? = some (.cells #[.int .i64 fx, .bool nx, .slice Ax lx cx, .int .i64 ex] 24 (0, 0))
theorem Bd2.cells {s : Nat} {p a b : Int} {m : Nat} {fx ex : Int} {nx : Bool} {Ax : Option Addr} {lx cx : Nat} {w : World} (h : Bd2 s p a b m fx ex nx Ax lx cx w) :
    w.cell? ⟨s, 0, none⟩ = some (.int .u64 p) ∧ w.cell? ⟨s, 1, none⟩ = some (.int .i64 a) ∧ w.cell? ⟨s, 2, none⟩ = some (.int .i64 b) ∧ w.cell? ⟨s, 3, none⟩ = some (.int .i64 (m : Int)) ∧
    w.cell? ⟨s + 1, 0, none⟩ = some (.int .i64 fx) ∧ w.cell? ⟨s + 1, 1, none⟩ = some (.bool nx) ∧ w.cell? ⟨s + 1, 2, none⟩ = some (.slice Ax lx cx) ∧ w.cell? ⟨s + 1, 3, none⟩ = some (.int .i64 ex) :=
  ⟨cellB h.1 rfl, cellB h.1 rfl, cellB h.1 rfl, cellB h.1 rfl, cellB h.2 rfl, cellB h.2 rfl, cellB h.2 rfl, cellB h.2 rfl⟩
/-- What an operation of the thin package hands back: a finite decimal in new memory, and its conditions. -/
def ImplR (w w' : World) (E : Ending) (n : Bool) (e : Int) (N cn : Nat) : Prop :=
  ∃ p cc, E = .returned (.tuple #[.agg #[.int .i64 0, .bool n, .slice p (digs N).length cc, .int .i64 e], .int .i64 (cn : Int), .bool true]) ∧ RdW w' p (digs N).length cc (digs N) ∧ (∀ ad, p = some ad → w.heap.size ≤ ad.block) ∧ Chg w w' (fun _ => False)
theorem rndC_4096 (N p : Nat) : rndC N p < 4096 := (calm_4096 (rndC_calm N p)).1
end Go.Proofs.YtonepclpllelfaaGreatDoor

namespace Go.Proofs.YtonepclpllelfaaGreatDoor
open Go Go.RowKit

/-- What is told of an answer stays, where a block that is older than its words is written. -/
def StQ (Q : Int → Bool → Option Addr → Nat → Nat → Int → World → Prop) : Prop := ∀ F s q l cc e1 (u v : World) (k : Nat), Q F s q l cc e1 u → (∀ ad, q = some ad → k < ad.block) → Chg u v (fun j => j = k) → Q F s q l cc e1 v
def ToldQ (Q : Int → Bool → Option Addr → Nat → Nat → Int → World → Prop) (w w4 : World) (τ : Sg) (d : Nat) : Prop :=
  Calls Tryz.prog 19 #[.pointer (some ⟨d, 0, none⟩)] w4 fun E w5 => ∃ F s q l cc e1, E = .returned (.agg #[.int .i64 F, .bool s, .slice q l cc, .int .i64 e1]) ∧ Q F s q l cc e1 w5 ∧ (∀ ad, q = some ad → w4.heap.size ≤ ad.block) ∧ Hold w w5 τ
def ImplQ (Q : Int → Bool → Option Addr → Nat → Nat → Int → World → Prop) (w w' : World) (E : Ending) (cn : Nat) : Prop :=
  ∃ F s q l cc e1, E = .returned (.tuple #[.agg #[.int .i64 F, .bool s, .slice q l cc, .int .i64 e1], .int .i64 (cn : Int), .bool true]) ∧ Q F s q l cc e1 w' ∧ Chg w w' (fun _ => False)
/-- A finite decimal is told. -/
def QFin (n : Bool) (e : Int) (N : Nat) (F : Int) (s : Bool) (q : Option Addr) (l cc : Nat) (e1 : Int) (w : World) : Prop := F = 0 ∧ s = n ∧ e1 = e ∧ l = (digs N).length ∧ RdW w q l cc (digs N)
theorem QFin.st (n : Bool) (e : Int) (N : Nat) : StQ (QFin n e N) := fun _ _ _ _ _ _ _ _ _ ⟨h1, h2, h3, h4, h5⟩ hk hc => ⟨h1, h2, h3, h4, h5.chgAt hc (fun ad ha e => by have := hk ad ha; omega)⟩
theorem QFin.told {w w4 : World} {τ : Sg} {d : Nat} {n : Bool} {e : Int} {N : Nat} (h : Hold w w4 τ) (hd : τ d = some (dec 0 n e false N)) (hN : (digs N).length ≤ 900) (he : -100000 ≤ e ∧ e ≤ 100000) : ToldQ (QFin n e N) w w4 τ d :=
  (toldF_c h hd hN he).mono fun _ _ ⟨p, cc, hE, hr, hl, hh⟩ => ⟨0, n, p, _, cc, e, hE, ⟨rfl, rfl, rfl, rfl, hr⟩, hl, hh⟩
/-- Another form is told. -/
def QForm (f : Int) (n : Bool) (F : Int) (s : Bool) (_q : Option Addr) (_l _cc : Nat) (_e1 : Int) (_w : World) : Prop := F = f ∧ s = n
theorem QForm.st (f : Int) (n : Bool) : StQ (QForm f n) := fun _ _ _ _ _ _ _ _ _ h _ _ => h
theorem QForm.told {w w4 : World} {τ : Sg} {d : Nat} {f e : Int} {n g : Bool} {N : Nat} (h : Hold w w4 τ) (hd : τ d = some (dec f n e g N)) (hf : f = 1 ∨ f = 2 ∨ f = 3) : ToldQ (QForm f n) w w4 τ d := by
  have d0 := h.c0 hd
  have d1 := h.c1 hd
  have hlt := (h.lt hd).2
  unfold ToldQ QForm
  replace h := Lib.hid h
  clear hd
  rcases hf with rfl | rfl | rfl
  · go_enter Tryz.func19, Tryz.ntmps19
    go_wp2
    exact bodyPost_ret (v := .agg #[.int .i64 1, .bool n, .slice none 0 0, .int .i64 0]) (by simp [results, Tryz.results19, go_sem]) rfl ⟨_, _, _, _, _, _, rfl, ⟨rfl, rfl⟩, (fun ad h => by cases h), h.out.keep (((Chg.refl _ _).alloc _).alloc _)⟩
  · go_enter Tryz.func19, Tryz.ntmps19
    go_wp2
    exact bodyPost_ret (v := .agg #[.int .i64 2, .bool n, .slice none 0 0, .int .i64 0]) (by simp [results, Tryz.results19, go_sem]) rfl ⟨_, _, _, _, _, _, rfl, ⟨rfl, rfl⟩, (fun ad h => by cases h), h.out.keep (((Chg.refl _ _).alloc _).alloc _)⟩
  · go_enter Tryz.func19, Tryz.ntmps19
    go_wp2
    exact bodyPost_ret (v := .agg #[.int .i64 3, .bool n, .slice none 0 0, .int .i64 0]) (by simp [results, Tryz.results19, go_sem]) rfl ⟨_, _, _, _, _, _, rfl, ⟨rfl, rfl⟩, (fun ad h => by cases h), h.out.keep (((Chg.refl _ _).alloc _).alloc _)⟩
end Go.Proofs.YtonepclpllelfaaGreatDoor

namespace Go.Proofs.YtonepclpllelfaaGreatDoor
open Go Go.RowKit

set_option maxRecDepth 100000 in
set_option maxHeartbeats 4000000 in
theorem implSqrtG_c (w : World) (hG : Glob w) (p m r : Nat) (a b ex : Int) (nx : Bool) (Ax : Option Addr) (lx cx : Nat) (X : List Nat) (D : It) (Q : Int → Bool → Option Addr → Nat → Nat → Int → World → Prop)
    (hm : m < 8) (hp : p ≤ 4294967295) (ha : -2147483648 ≤ a ∧ a ≤ 2147483647) (hb : -2147483648 ≤ b ∧ b ≤ 2147483647) (hr : r < 4096) (hQ : StQ Q) (ht : ∀ w4 (τ : Sg) d, Hold w w4 τ → τ d = some D → ToldQ Q w w4 τ d)
    (hX : RdW w Ax lx cx X) (hlx : lx ≤ 900) (hex : -2147483648 ≤ ex ∧ ex ≤ 2147483647)
    (hop : ∀ w1 (σ : Sg) c d x, Hold w w1 σ → σ c = some (ctxO p a b (modeS m)) → σ d = some (dec 0 false 0 false 0) → σ x = some (dec 0 nx ex false (val X)) → d ≠ x → Calls Tryz.prog 17 #[.pointer (some ⟨c, 0, none⟩), .pointer (some ⟨d, 0, none⟩), .pointer (some ⟨x, 0, none⟩)] w1 (fun E w' => E = .returned (.tuple #[.int .u32 (r : Int), .nilIface]) ∧ Hold w w' (upd σ d D))) :
    Calls Tryz.prog 8 #[.agg #[.int .u64 (p : Int), .int .i64 a, .int .i64 b, .int .i64 (m : Int)], .agg #[.int .i64 0, .bool nx, .slice Ax lx cx, .int .i64 ex]] w fun E w' => ImplQ Q w w' E (condN r) := by
  have kc := fun w => context_c w (p : Int) a b m hm (by omega) ha hb
  have kq := fun w => conditions_c w r hr
  have kx := fun w1 (hc : Chg w w1 (fun _ => False)) => madeF_c w1 nx Ax lx cx X ex (hX.chg hc (fun _ h => h.elim)) hlx hex
  unfold ImplQ
  unfold ToldQ at ht
  replace kc := Lib.hid kc
  replace kq := Lib.hid kq
  replace kx := Lib.hid kx
  replace hop := Lib.hid hop
  replace ht := Lib.hid ht
  replace hQ := Lib.hid hQ
  replace hX := Lib.hid hX
  clear hm hp ha hb hr
  have hL := lay4 hG (.cells #[.int .u64 (p : Int), .int .i64 a, .int .i64 b, .int .i64 (m : Int)] 35 (0, 0)) (.cells #[.int .i64 0, .bool nx, .slice Ax lx cx, .int .i64 ex] 24 (0, 0)) (.cells #[.int .i64 0, .bool false, .slice none 0 0, .int .i64 0] 24 (0, 0))
  replace hL := Lib.hid hL
  replace hG := Lib.hid hG
  go_enter Tryz.func8, Tryz.ntmps8
  go_wp2
  generalize hW : ((((w.alloc (.cells #[.int .u64 (p : Int), .int .i64 a, .int .i64 b, .int .i64 (m : Int)] 35 (0, 0))).alloc (.cells #[.int .i64 0, .bool nx, .slice Ax lx cx, .int .i64 ex] 24 (0, 0))).alloc (.cells #[.int .i64 0, .bool false, .slice none 0 0, .int .i64 0] 24 (0, 0))).alloc (.cells #[.int .i8 0, .bool false, .int .i32 0, .bool false, .slice none 0 0, .bool false] 55 (0, 0))) = W
  have hsz : W.heap.size = w.heap.size + 4 := by rw [← hW]; simp
  obtain ⟨σ, h0, b0, b1, br, bd⟩ := hL.out
  rw [hW] at h0
  clear hW hL
  have hBx : Bd2 w.heap.size (p : Int) a b m 0 ex nx Ax lx cx W := ⟨h0.raw b0, h0.raw b1⟩
  have hBd : Bd2 w.heap.size (p : Int) a b m 0 ex nx Ax lx cx W.drew := hBx
  have hS0 := hBd.cells
  replace hsz := Lib.hid hsz
  replace h0 := Lib.hid h0
  replace b0 := Lib.hid b0
  replace b1 := Lib.hid b1
  replace br := Lib.hid br
  replace bd := Lib.hid bd
  clear hBx hBd
  go_region_held3 (fun w' => w'.cell? ⟨w.heap.size, 0, none⟩ = some (.int .u64 (p : Int)) ∧ w'.cell? ⟨w.heap.size, 1, none⟩ = some (.int .i64 a) ∧ w'.cell? ⟨w.heap.size, 2, none⟩ = some (.int .i64 b) ∧ w'.cell? ⟨w.heap.size, 3, none⟩ = some (.int .i64 (m : Int)) ∧
    w'.cell? ⟨w.heap.size + 1, 0, none⟩ = some (.int .i64 0) ∧ w'.cell? ⟨w.heap.size + 1, 1, none⟩ = some (.bool nx) ∧ w'.cell? ⟨w.heap.size + 1, 2, none⟩ = some (.slice Ax lx cx) ∧ w'.cell? ⟨w.heap.size + 1, 3, none⟩ = some (.int .i64 ex)) (first | exact hS0 | exact hS1 | exact hS2 | exact hS3 | exact hS4) (first
    | (go_at_call 16
       refine (kc.out _).mono ?_
       rintro E w1 ⟨c, rfl, hcl, hc1, hch1⟩
       obtain ⟨τ1, h1, le1, hc⟩ := h0.out.drew.more hch1 hcl hc1
       have hS1 := (show Bd2 w.heap.size (p : Int) a b m 0 ex nx Ax lx cx w1 from ⟨h1.raw (le1 _ _ b0.out), h1.raw (le1 _ _ b1.out)⟩).cells
       replace h1 := Lib.hid h1
       replace le1 := Lib.hid le1
       replace hc := Lib.hid hc
       clear hcl hc1 hch1)
    | (go_at_call 18
       refine (kx.out _ h1.out.chg).mono ?_
       rintro E w2 hm2
       obtain ⟨x, τ2, rfl, hxl, h2, le2, hx⟩ := hm2.more h1.out
       have le02 := le1.out.trans le2
       have hS2 := (show Bd2 w.heap.size (p : Int) a b m 0 ex nx Ax lx cx w2 from ⟨h2.raw (le02 _ _ b0.out), h2.raw (le02 _ _ b1.out)⟩).cells
       have hdx : w.heap.size + 3 ≠ x := by have h3 := (h1.out.lt (le1.out _ _ bd.out)).2; omega
       replace h2 := Lib.hid h2
       replace le2 := Lib.hid le2
       replace le02 := Lib.hid le02
       replace hx := Lib.hid hx
       replace hdx := Lib.hid hdx
       clear hm2 hxl)
    | (go_at_call 17
       refine (hop.out _ τ2 c (w.heap.size + 3) x h2.out (le2.out _ _ hc.out) (le02.out _ _ bd.out) hx.out hdx.out).mono ?_
       rintro E w4 ⟨rfl, h4⟩
       have hd4 := upd_eq τ2 (w.heap.size + 3) D
       have br4 : upd τ2 (w.heap.size + 3) D (w.heap.size + 2) = some (raw (.cells #[.int .i64 0, .bool false, .slice none 0 0, .int .i64 0] 24 (0, 0))) := by rw [upd_ne _ _ (by omega)]; exact le02.out _ _ br.out
       have hS4 := (show Bd2 w.heap.size (p : Int) a b m 0 ex nx Ax lx cx w4 from ⟨h4.raw (by rw [upd_ne _ _ (by omega)]; exact le02.out _ _ b0.out), h4.raw (by rw [upd_ne _ _ (by omega)]; exact le02.out _ _ b1.out)⟩).cells
       generalize upd τ2 (w.heap.size + 3) D = τ4 at h4 hd4 br4
       replace h4 := Lib.hid h4
       replace hd4 := Lib.hid hd4
       replace br4 := Lib.hid br4))
  go_wp2
  clear hS0 hS1 hS2 hS4
  have hrl := (h4.out.lt br4.out).2
  replace hrl := Lib.hid hrl
  go_region_held3 (fun w' => Anyp w') (exact anyp _) (first
    | (go_at_call 19
       refine (ht.out w4.drew _ _ h4.out.drew hd4.out).mono ?_
       rintro E w5 ⟨F, s, q, l, cc, e1, rfl, hq, hql, h5⟩
       have hR5 := h5.raw br4.out
       have r0 := cellB hR5 (i := 0) rfl
       have r1 := cellB hR5 (i := 1) rfl
       have r2 := cellB hR5 (i := 2) rfl
       have r3 := cellB hR5 (i := 3) rfl
       have rz0 := frozenB hR5 0
       have rz1 := frozenB hR5 1
       have rz2 := frozenB hR5 2
       have rz3 := frozenB hR5 3
       replace hR5 := Lib.hid hR5
       replace h5 := Lib.hid h5
       replace hq := Lib.hid hq
       replace hql := Lib.hid hql)
    | (go_at_call 20
       refine (kq.out _).mono ?_
       rintro E w6 ⟨rfl, hw⟩
       obtain rfl := hw))
  go_wp2
  have hfin := setB (i := 3) (v := .int .i64 e1) (setB (i := 2) (v := .slice q l cc) (setB (i := 1) (v := .bool s) (setB (i := 0) (v := .int .i64 F) hR5.out)))
  have hcf : Chg w5 _ (fun k => k = w.heap.size + 2) := ((((Chg.refl w5 (fun k => k = w.heap.size + 2)).trans ((chg_setB w5 (w.heap.size + 2) 0 (.int .i64 F)).mono (fun _ _ h => .inl h))).trans ((chg_setB _ (w.heap.size + 2) 1 (.bool s)).mono (fun _ _ h => .inl h))).trans ((chg_setB _ (w.heap.size + 2) 2 (.slice q l cc)).mono (fun _ _ h => .inl h))).trans ((chg_setB _ (w.heap.size + 2) 3 (.int .i64 e1)).mono (fun _ _ h => .inl h))
  clear r0 r1 r2 r3 rz0 rz1 rz2 rz3
  generalize (((w5.setCell ⟨w.heap.size + 2, 0, none⟩ (.int .i64 F)).setCell ⟨w.heap.size + 2, 1, none⟩ (.bool s)).setCell ⟨w.heap.size + 2, 2, none⟩ (.slice q l cc)).setCell ⟨w.heap.size + 2, 3, none⟩ (.int .i64 e1) = W9 at hfin hcf ⊢
  have c0 : W9.cell? ⟨w.heap.size + 1 + 1, 0, none⟩ = some (.int .i64 F) := cellB hfin rfl
  have c1 : W9.cell? ⟨w.heap.size + 1 + 1, 1, none⟩ = some (.bool s) := cellB hfin rfl
  have c2 : W9.cell? ⟨w.heap.size + 1 + 1, 2, none⟩ = some (.slice q l cc) := cellB hfin rfl
  have c3 : W9.cell? ⟨w.heap.size + 1 + 1, 3, none⟩ = some (.int .i64 e1) := cellB hfin rfl
  have hqf := hQ.out F s q l cc e1 _ _ _ hq.out (fun ad ha => by have h1 : w4.heap.size ≤ ad.block := hql.out ad ha; have h2 := hrl.out; omega) hcf
  have hwf : Chg w W9 (fun _ => False) := h5.out.chg.trans (hcf.mono (fun k _ e1 => .inr (by omega)))
  exact bodyPost_ret (v := .tuple #[.agg #[.int .i64 F, .bool s, .slice q l cc, .int .i64 e1], .int .i64 (condN r : Int), .bool true]) (by simp [results, Tryz.results8, go_sem, c0, c1, c2, c3]) rfl ⟨F, s, q, l, cc, e1, rfl, hqf, hwf⟩
end Go.Proofs.YtonepclpllelfaaGreatDoor

namespace Go.Proofs.YtonepclpllelfaaGreatDoor
open Go Go.RowKit

/-- What is told, but for the answer. -/
def TellC (w w' : World) (E : Ending) (cn : Int) : Prop := ∃ F s q l cc e1, E = .returned (.tuple #[.agg #[.int .i64 F, .bool s, .slice q l cc, .int .i64 e1], .int .i64 cn, .bool true]) ∧ Chg w w' (fun _ => False)
/-- A number is told. -/
def TellN (w w' : World) (E : Ending) (n : Bool) (e : Int) (N : Nat) (cn : Int) : Prop := ∃ q cc, E = .returned (.tuple #[.agg #[.int .i64 0, .bool n, .slice q (digs N).length cc, .int .i64 e], .int .i64 cn, .bool true]) ∧ RdW w' q (digs N).length cc (digs N) ∧ Chg w w' (fun _ => False)
theorem tellN {w w' : World} {E : Ending} {n : Bool} {e : Int} {N cn : Nat} (h : ImplQ (QFin n e N) w w' E cn) : TellN w w' E n e N (cn : Int) := by
  obtain ⟨F, s, q, l, cc, e1, hE, ⟨rfl, rfl, rfl, rfl, hr⟩, hc⟩ := h
  exact ⟨q, cc, hE, hr, hc⟩
theorem TellN.c {w w' : World} {E : Ending} {n : Bool} {e : Int} {N : Nat} {cn : Int} (h : TellN w w' E n e N cn) : TellC w w' E cn := by
  obtain ⟨q, cc, hE, _, hc⟩ := h
  exact ⟨_, _, _, _, _, _, hE, hc⟩
end Go.Proofs.YtonepclpllelfaaGreatDoor
