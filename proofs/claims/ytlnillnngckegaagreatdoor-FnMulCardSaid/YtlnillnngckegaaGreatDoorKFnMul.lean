/- FnMul: the walk. -/
import Derived.Test.YtlnillnngckegaaGreatDoorY11Mul
import Derived.Test.YtlnillnngckegaaGreatDoorM48
namespace Go.Proofs.YtlnillnngckegaaGreatDoor
open Go Go.RowKit

set_option maxHeartbeats 2000000 in
theorem FnMul_facts (w : World) (hG : Glob w) (p m : Nat) (hm : m < 8) (hp : 1 ≤ p ∧ p ≤ 60) (e d : Int) (n o : Bool) (A B : Option Addr) (l c r s : Nat) (X Y : List Nat) (hX : RdW w A l c X) (hY : RdW w B r s Y)
    (hl : l ≤ 3) (hr : r ≤ 3) (he1 : -100 ≤ e) (he2 : e ≤ 100) (hd1 : -100 ≤ d) (hd2 : d ≤ 100) :
    ∃ (nz nv : Bool) (G : Int) (N R : Nat) (E0 cn : Int),
      (∀ W, Below w.heap.size w W → Calls Tryz.prog 18 #[.agg #[.int .u64 (p : Int), .int .i64 100000, .int .i64 (-100000), .int .i64 (m : Int)], .agg #[.int .i64 0, .bool n, .slice A l c, .int .i64 e], .agg #[.int .i64 0, .bool o, .slice B r s, .int .i64 d]] W fun E w' => ∃ q cc, E = .returned (.tuple #[.agg #[.int .i64 0, .bool nz, .slice q (digs R).length cc, .int .i64 E0], .int .i64 cn, .bool true]) ∧ RdW w' q (digs R).length cc (digs R) ∧ (∀ ad, q = some ad → W.heap.size ≤ ad.block) ∧ Chg W w' (fun _ => False)) ∧
      (∀ W p0 m0 k0 q0 n0 j0, RdD W p0 m0 k0 (d16 (val X)) → RdD W q0 n0 j0 (d16 (val Y)) → Calls Tryz.prog 19 #[.agg #[.bool n, .slice p0 m0 k0, .int .i64 e], .agg #[.bool o, .slice q0 n0 j0, .int .i64 d]] W fun E w' => ValN W w' E nv G N) ∧
      (∀ W qz cz pv lv cv, RdW W qz (digs R).length cz (digs R) → RdD W pv lv cv (d16 N) → Calls Tryz.prog 13 #[.agg #[.int .i64 0, .bool nz, .slice qz (digs R).length cz, .int .i64 E0], .int .i64 cn, .bool true, .agg #[.bool nv, .slice pv lv cv, .int .i64 G], .agg #[.int .u64 (p : Int), .int .i64 100000, .int .i64 (-100000), .int .i64 (m : Int)]] W fun E w' => E = .returned (.bool true) ∧ Below W.heap.size W w') := by
  obtain ⟨x1, x2⟩ := val3 hX.wd hX.len hl
  obtain ⟨y1, y2⟩ := val3 hY.wd hY.len hr
  have n1 : val X * val Y < 10 ^ 116 := by
    rw [show (116 : Nat) = 58 + 58 from rfl, Nat.pow_add]
    exact Nat.mul_lt_mul'' x1 y1
  have f1 := figs_ten n1
  obtain ⟨N, hN⟩ : ∃ N, val X * val Y = N := ⟨_, rfl⟩
  rw [hN] at n1 f1
  have hk := rndK_le (n != o) N p m
  have hR := rnd_small (n := (n != o)) (N := N) (m := m) hp.1 hp.2
  refine ⟨n != o, n != o, e + d, N, rndN (n != o) N p m, e + d + (rndK (n != o) N p m : Int), (condN (rndC N p) : Int), ?_, ?_, ?_⟩
  · intro W hb
    have h := implMulF_c W (hG.bel hb) p m 100000 (-100000) e d (e + d) n o (n != o) A B l c r s X Y N hm (by omega) (by omega) (by omega) (by omega) (by omega) (hX.bel hb) (by omega) (by omega) (hY.bel hb) (by omega) (by omega)
      (fun w1 σ c1 d1 x y hh hc hd hx hdx hy hxy hdy => by
        have h := cMul_c hh hd hx hy hxy hdx hdy hc (p := p) (m := m) ⟨hp.1, by omega⟩ (by omega) (by omega) (by omega) (by omega) hm (by omega) (by omega)
        rw [hN] at h
        exact h)
    unfold ImplR at h
    exact h
  · intro W p0 m0 k0 q0 n0 j0 h1 h2
    have h := prodV_c W n o p0 q0 m0 k0 n0 j0 e d (val X) (val Y) h1 h2 (by have h3 := d16_len_ten x1; rw [h1.len] at h3; omega) (by have h3 := d16_len_ten y1; rw [h2.len] at h3; omega) (by omega) (by omega)
    rw [hN] at h
    exact h
  · intro W qz cz pv lv cv h1 h2
    exact rounds_c W (n != o) (n != o) qz pv _ cz lv cv _ (e + d) 100000 (-100000) _ N p m h1 (by omega) rfl (.inl rfl) (condN_flag N p) h2 (by have h3 := d16_len_ten n1; rw [h2.len] at h3; omega) (by omega) ⟨hp.1, by omega⟩ hm (by omega)

set_option maxRecDepth 100000 in
set_option maxHeartbeats 8000000 in
theorem FnMul_walk (prec mode : Int) (f : Int) (n : Bool) (A : Option Addr) (l c : Nat) (X : List Nat) (e : Int) (g : Int) (o : Bool) (B : Option Addr) (r s : Nat) (Y : List Nat) (d : Int) (w : World) (hG : Glob w) (h2 : 0 ≤ prec ∧ prec ≤ 255) (h3 : 0 ≤ mode ∧ mode ≤ 255) (hx : DecIn w f A l c X e) (hy : DecIn w g B r s Y d) :
    Calls Tryz.prog 6 #[.int .u8 prec, .int .u8 mode, .agg #[.int .i64 f, .bool n, .slice A l c, .int .i64 e], .agg #[.int .i64 g, .bool o, .slice B r s, .int .i64 d]] w fun E w' => E = .returned (.bool true) ∧ Below w.heap.size w w' := by
  obtain ⟨m, hmm⟩ : ∃ m : Nat, mode % 8 = (m : Int) := ⟨(mode % 8).toNat, by omega⟩
  obtain ⟨p, hpp⟩ : ∃ p : Nat, 1 + prec % 60 = (p : Int) := ⟨(1 + prec % 60).toNat, by omega⟩
  have hm : m < 8 := by omega
  have hp1 : 1 ≤ p ∧ p ≤ 60 := by omega
  have kw := fun W => wideC_c W prec mode p m h2 h3 hmm hpp
  have hX := hx.rd
  have hY := hy.rd
  have kfacts := FnMul_facts w hG p m hm hp1 e d n o A B l c r s X Y hX hY
  have hlc := hX.cap
  have hcm := hX.max
  have hls := hY.cap
  have hsm := hY.max
  replace kw := Lib.hid kw
  replace kfacts := Lib.hid kfacts
  replace hX := Lib.hid hX
  replace hY := Lib.hid hY
  replace hG := Lib.hid hG
  clear h2 h3 hmm hpp hx hy hm hp1
  go_enter Tryz.func6, Tryz.ntmps6
  go_upto_region 1 with (fail)
  generalize hW : (w.alloc (.cells #[.int .i64 f, .bool n, .slice A l c, .int .i64 e] 24 (0, 0))).alloc (.cells #[.int .i64 g, .bool o, .slice B r s, .int .i64 d] 24 (0, 0)) = W0
  have hB0 : Below w.heap.size w W0 := by rw [← hW]; exact ((Below.refl _ _).alloc (Nat.le_refl _) _).alloc (by simp) _
  have hX0 : Bd22 w.heap.size f n A l c e g o B r s d W0 := by rw [← hW]; exact ⟨allocB_old (allocB _ _), allocB_at _ _ (by simp)⟩
  clear hW
  have kf := fits_c W0 f n A l c e
  obtain ⟨c0, c1, c2, c3, d0, d1, d2, d3⟩ := hX0.cells
  replace hX0 := Lib.hid hX0
  replace hB0 := Lib.hid hB0
  by_cases hfit : l ≤ 2147483647
  · rw [decide_eq_true hfit] at kf
    replace kf := Lib.hid kf
    go_wp2_with fail
    with_reducible refine kf.out.mono ?_
    rintro E w1 ⟨rfl, hb⟩
    have hX1 := hX0.out.new hb
    have hB1 := brise hB0.out hb
    clear c0 c1 c2 c3 d0 d1 d2 d3 kf hb
    obtain ⟨c0, c1, c2, c3, d0, d1, d2, d3⟩ := hX1.cells
    replace hX1 := Lib.hid hX1
    replace hB1 := Lib.hid hB1
    have kf := fits_c w1 g o B r s d
    by_cases hfit2 : r ≤ 2147483647
    · rw [decide_eq_true hfit2] at kf
      replace kf := Lib.hid kf
      go_wp2_with fail
      with_reducible refine kf.out.mono ?_
      rintro E w2 ⟨rfl, hb⟩
      have hX2 := hX1.out.new hb
      have hB2 := brise hB1.out hb
      clear c0 c1 c2 c3 d0 d1 d2 d3 kf hb
      obtain ⟨c0, c1, c2, c3, d0, d1, d2, d3⟩ := hX2.cells
      have kq := both_c w2 f n A l c X e g o B r s Y d (hX.out.bel hB2) (hY.out.bel hB2)
      replace kq := Lib.hid kq
      replace hX2 := Lib.hid hX2
      replace hB2 := Lib.hid hB2
      go_wp2_with fail
      with_reducible refine kq.out.mono ?_
      rintro E w3 ⟨a0, p0, m0, k0, a2, b0, q0, n0, j0, b2, ok, rfl, hb, hfin⟩
      have hX3 := hX2.out.new hb
      have hB3 := brise hB2.out hb
      clear c0 c1 c2 c3 d0 d1 d2 d3 kq hb
      replace hX3 := Lib.hid hX3
      replace hB3 := Lib.hid hB3
      replace hfin := Lib.hid hfin
      cases ok with
      | false =>
        go_wp2
        go_ret
        exact ⟨rfl, (hB3.out.alloc hB3.out.size _).alloc (by have := hB3.out.size; simp; omega) _⟩
      | true =>
        obtain ⟨fx, fy⟩ := hfin.out (by simp)
        obtain ⟨nz, nv, G, N, R, E0, cn, kop, ksum, krnd⟩ := kfacts.out fx.len fy.len fx.lo fx.hi fy.lo fy.hi
        have rx := fx.coeff.rd
        have ry := fy.coeff.rd
        have e1 := fx.form
        have e2 := fy.form
        have e3 := fx.neg.symm
        have e4 := fy.neg.symm
        have e5 := fx.ex.symm
        have e6 := fy.ex.symm
        subst e1 e2 e3 e4 e5 e6
        replace rx := Lib.hid rx
        replace ry := Lib.hid ry
        replace kop := Lib.hid kop
        replace ksum := Lib.hid ksum
        replace krnd := Lib.hid krnd
        clear hfin fx fy kfacts
        go_upto_region 6 with (fail)
        have hbV : Below w3.heap.size w3 ((w3.alloc (.cells #[.bool n, .slice p0 m0 k0, .int .i64 e] 29 (0, 0))).alloc (.cells #[.bool o, .slice q0 n0 j0, .int .i64 d] 29 (0, 0))) := ((Below.refl _ _).alloc (Nat.le_refl _) _).alloc (by simp) _
        have hVa : ((w3.alloc (.cells #[.bool n, .slice p0 m0 k0, .int .i64 e] 29 (0, 0))).alloc (.cells #[.bool o, .slice q0 n0 j0, .int .i64 d] 29 (0, 0))).heap[w3.heap.size]? = some (.cells #[.bool n, .slice p0 m0 k0, .int .i64 e] 29 (0, 0)) := allocB_old (allocB _ _)
        have hVb : ((w3.alloc (.cells #[.bool n, .slice p0 m0 k0, .int .i64 e] 29 (0, 0))).alloc (.cells #[.bool o, .slice q0 n0 j0, .int .i64 d] 29 (0, 0))).heap[w3.heap.size + 1]? = some (.cells #[.bool o, .slice q0 n0 j0, .int .i64 d] 29 (0, 0)) := allocB_at _ _ (by simp)
        generalize (w3.alloc (.cells #[.bool n, .slice p0 m0 k0, .int .i64 e] 29 (0, 0))).alloc (.cells #[.bool o, .slice q0 n0 j0, .int .i64 d] 29 (0, 0)) = W at hbV hVa hVb ⊢
        obtain ⟨va, hva⟩ : ∃ va, w3.heap.size = va := ⟨_, rfl⟩
        obtain ⟨vb, hvb⟩ : ∃ vb, w3.heap.size + 1 = vb := ⟨_, rfl⟩
        rw [hvb, hva]
        rw [hva] at hVa
        rw [hvb] at hVb
        have hX4 := hX3.out.new hbV
        have hB4 := brise hB3.out hbV
        have rx4 := rx.out.below hbV
        have ry4 := ry.out.below hbV
        replace hva := Lib.hid hva
        replace hvb := Lib.hid hvb
        replace hX4 := Lib.hid hX4
        replace hB4 := Lib.hid hB4
        replace rx4 := Lib.hid rx4
        replace ry4 := Lib.hid ry4
        replace hVa := Lib.hid hVa
        replace hVb := Lib.hid hVb
        clear hbV
        go_wp2_with fail
        with_reducible refine (kw.out _).mono ?_
        rintro E w4 ⟨rfl, hb4⟩
        go_upto_region 7 with (fail)
        have hcb : (w4.alloc (.cells #[.int .u64 (p : Int), .int .i64 100000, .int .i64 (-100000), .int .i64 (m : Int)] 34 (0, 0))).heap[w4.heap.size]? = some (.cells #[.int .u64 (p : Int), .int .i64 100000, .int .i64 (-100000), .int .i64 (m : Int)] 34 (0, 0)) := allocB _ _
        have hbC : Below w4.heap.size w4 (w4.alloc (.cells #[.int .u64 (p : Int), .int .i64 100000, .int .i64 (-100000), .int .i64 (m : Int)] 34 (0, 0))) := (Below.refl _ _).alloc (Nat.le_refl _) _
        generalize w4.alloc (.cells #[.int .u64 (p : Int), .int .i64 100000, .int .i64 (-100000), .int .i64 (m : Int)] 34 (0, 0)) = V1 at hcb hbC ⊢
        obtain ⟨cb, hcbe⟩ : ∃ cb, w4.heap.size = cb := ⟨_, rfl⟩
        rw [hcbe] at hcb ⊢
        have hb5 := brise hb4 hbC
        have hX5 := hX4.out.new hb5
        have hB5 := brise hB4.out hb5
        have rx5 := rx4.out.below hb5
        have ry5 := ry4.out.below hb5
        have hVa5 := bkeep hb5 hVa.out
        have hVb5 := bkeep hb5 hVb.out
        have u0 := cellB hcb (i := 0) rfl
        have u1 := cellB hcb (i := 1) rfl
        have u2 := cellB hcb (i := 2) rfl
        have u3 := cellB hcb (i := 3) rfl
        obtain ⟨c0, c1, c2, c3, d0, d1, d2, d3⟩ := hX5.cells
        have kop5 := kop.out V1 hB5
        replace kop5 := Lib.hid kop5
        replace hcbe := Lib.hid hcbe
        replace hcb := Lib.hid hcb
        replace hX5 := Lib.hid hX5
        replace hB5 := Lib.hid hB5
        replace rx5 := Lib.hid rx5
        replace ry5 := Lib.hid ry5
        replace hVa5 := Lib.hid hVa5
        replace hVb5 := Lib.hid hVb5
        clear hb4 hbC hb5 rx ry
        go_wp2_with fail
        with_reducible refine kop5.out.mono ?_
        rintro E w5 ⟨qz, cz, rfl, hq, hql, hch⟩
        have hb6 := cbelow hch
        clear u0 u1 u2 u3 c0 c1 c2 c3 d0 d1 d2 d3 hch kop5
        replace hq := Lib.hid hq
        replace hql := Lib.hid hql
        go_upto_region 8 with (fail)
        have hzb : (w5.alloc (.cells #[.int .i64 0, .bool nz, .slice qz (digs R).length cz, .int .i64 E0] 24 (0, 0))).heap[w5.heap.size]? = some (.cells #[.int .i64 0, .bool nz, .slice qz (digs R).length cz, .int .i64 E0] 24 (0, 0)) := allocB _ _
        have hbZ : Below w5.heap.size w5 (w5.alloc (.cells #[.int .i64 0, .bool nz, .slice qz (digs R).length cz, .int .i64 E0] 24 (0, 0))) := (Below.refl _ _).alloc (Nat.le_refl _) _
        generalize w5.alloc (.cells #[.int .i64 0, .bool nz, .slice qz (digs R).length cz, .int .i64 E0] 24 (0, 0)) = V2 at hzb hbZ ⊢
        obtain ⟨zb, hzbe⟩ : ∃ zb, w5.heap.size = zb := ⟨_, rfl⟩
        rw [hzbe] at hzb ⊢
        have hb7 := brise hb6 hbZ
        have hBl : Bl2 zb va vb cb nz qz (digs R).length cz E0 n p0 m0 k0 e o q0 n0 j0 d p m V2 := ⟨hzb, bkeep hb7 hVa5.out, bkeep hb7 hVb5.out, bkeep hb7 hcb.out⟩
        have hB7 := brise hB5.out hb7
        have rx7 := rx5.out.below hb7
        have ry7 := ry5.out.below hb7
        have rz7 := hq.out.bel hbZ
        have hS0 := (show Bl2 zb va vb cb nz qz (digs R).length cz E0 n p0 m0 k0 e o q0 n0 j0 d p m V2.drew from hBl).cells
        replace hzbe := Lib.hid hzbe
        replace hBl := Lib.hid hBl
        replace hB7 := Lib.hid hB7
        replace rx7 := Lib.hid rx7
        replace ry7 := Lib.hid ry7
        replace rz7 := Lib.hid rz7
        clear hb6 hbZ hb7 hzb
        go_region_held3 (fun w' => w'.cell? ⟨zb, 0, none⟩ = some (.int .i64 0) ∧ w'.cell? ⟨zb, 1, none⟩ = some (.bool nz) ∧ w'.cell? ⟨zb, 2, none⟩ = some (.slice qz (digs R).length cz) ∧ w'.cell? ⟨zb, 3, none⟩ = some (.int .i64 E0) ∧ w'.cell? ⟨va, 0, none⟩ = some (.bool n) ∧ w'.cell? ⟨va, 1, none⟩ = some (.slice p0 m0 k0) ∧ w'.cell? ⟨va, 2, none⟩ = some (.int .i64 e) ∧ w'.cell? ⟨vb, 0, none⟩ = some (.bool o) ∧ w'.cell? ⟨vb, 1, none⟩ = some (.slice q0 n0 j0) ∧ w'.cell? ⟨vb, 2, none⟩ = some (.int .i64 d) ∧ w'.cell? ⟨cb, 0, none⟩ = some (.int .u64 (p : Int)) ∧ w'.cell? ⟨cb, 1, none⟩ = some (.int .i64 100000) ∧ w'.cell? ⟨cb, 2, none⟩ = some (.int .i64 (-100000)) ∧ w'.cell? ⟨cb, 3, none⟩ = some (.int .i64 (m : Int))) (first | exact hS0 | exact hS1 | exact hS2 | exact hS3) (first
          | (go_at_call 19
             with_reducible refine (ksum.out V2.drew p0 m0 k0 q0 n0 j0 (rx7.out.below (Below.drw (Below.refl _ _))) (ry7.out.below (Below.drw (Below.refl _ _)))).mono ?_
             rintro E w8 ⟨pv, lv, cv, rfl, hv⟩
             have hb8 := bundrew hv.bel
             have hBl2 := hBl.out.new hb8
             have hS2 := hBl2.cells
             have kr := krnd.out w8 qz cz pv lv cv (rz7.out.bel hb8) hv.rd
             replace kr := Lib.hid kr
             replace hb8 := Lib.hid hb8
             replace hBl2 := Lib.hid hBl2
             clear hv)
          | (go_at_call 13
             with_reducible refine kr.out.mono ?_
             rintro E w9 ⟨rfl, hb9⟩
             have hS3 := (hBl2.out.new hb9).cells
             replace hb9 := Lib.hid hb9))
        go_wp2
        go_ret
        exact ⟨rfl, brise (brise hB7.out hb8.out) hb9.out⟩
    · rw [decide_eq_false hfit2] at kf
      replace kf := Lib.hid kf
      go_wp2_with fail
      with_reducible refine kf.out.mono ?_
      rintro E w2 ⟨rfl, hb⟩
      go_wp2
      go_ret
      exact ⟨rfl, brise hB1.out hb⟩
  · rw [decide_eq_false hfit] at kf
    replace kf := Lib.hid kf
    go_wp2_with fail
    with_reducible refine kf.out.mono ?_
    rintro E w1 ⟨rfl, hb⟩
    go_wp2
    go_ret
    exact ⟨rfl, brise hB0.out hb⟩
end Go.Proofs.YtlnillnngckegaaGreatDoor
