/- laws.did of sums and products that are numbers. Sums and products in both orders, as laws.did tells them. -/
import Derived.Test.YtffjgkghmdhlkaaGreatDoorC32
import Derived.Test.YtffjgkghmdhlkaaGreatDoorY11Add
import Derived.Test.YtffjgkghmdhlkaaGreatDoorY11Mul
namespace Go.Proofs.YtffjgkghmdhlkaaGreatDoor
open Go Go.RowKit

set_option maxRecDepth 100000 in
set_option maxHeartbeats 2000000 in
theorem didAdd_c (w : World) (p a b m : Int) (ex ey E0 : Int) (nx ny nz : Bool) (Ax Ay : Option Addr) (lx cx ly cy R cn : Nat)
    (hop : ∀ w1, Chg w w1 (fun _ => False) → Calls Tryz.prog 50 #[.agg #[.int .u64 p, .int .i64 a, .int .i64 b, .int .i64 m], .agg #[.int .i64 0, .bool nx, .slice Ax lx cx, .int .i64 ex], .agg #[.int .i64 0, .bool ny, .slice Ay ly cy, .int .i64 ey]] w1 fun E w' => ImplR w1 w' E nz E0 R cn) :
    Calls Tryz.prog 27 #[.int .i64 0, .agg #[.int .u64 p, .int .i64 a, .int .i64 b, .int .i64 m], .agg #[.int .i64 0, .bool nx, .slice Ax lx cx, .int .i64 ex], .agg #[.int .i64 0, .bool ny, .slice Ay ly cy, .int .i64 ey]] w fun E w' => ImplR w w' E nz E0 R cn := by
  unfold ImplR at *
  obtain ⟨l, hl⟩ : ∃ l, (digs R).length = l := ⟨_, rfl⟩
  simp only [hl] at hop ⊢
  replace hop := Lib.hid hop
  replace hl := Lib.hid hl
  go_enter Tryz.func27, Tryz.ntmps27
  go_wp2_with fail
  generalize hW : ((((w.alloc (.cells #[.int .u64 p, .int .i64 a, .int .i64 b, .int .i64 m] 36 (0, 0))).alloc (.cells #[.int .i64 0, .bool nx, .slice Ax lx cx, .int .i64 ex] 25 (0, 0))).alloc (.cells #[.int .i64 0, .bool ny, .slice Ay ly cy, .int .i64 ey] 25 (0, 0))).alloc (.cells #[.int .i64 0, .bool false, .slice none 0 0, .int .i64 0] 25 (0, 0))) = W
  have hC0 : Chg w W (fun _ => False) := by rw [← hW]; exact ((((Chg.refl w (fun _ => False)).alloc _).alloc _).alloc _).alloc _
  have hsz : W.heap.size = w.heap.size + 4 := by rw [← hW]; simp
  have hRs : W.heap[w.heap.size + 3]? = some (.cells #[.int .i64 0, .bool false, .slice none 0 0, .int .i64 0] 25 (0, 0)) := by rw [← hW]; exact allocB_at _ _ (by simp)
  clear hW
  replace hRs := Lib.hid hRs
  with_reducible refine (hop.out W hC0).mono ?_
  rintro e w5 ⟨q, cc, rfl, hq, hql, hch⟩
  have hR5 := hch.heapB hRs.out (fun h => h)
  have hQ5 := hC0.trans (hch.mono (fun _ _ h => h.elim))
  have r0 := cellB hR5 (i := 0) rfl
  have r1 := cellB hR5 (i := 1) rfl
  have r2 := cellB hR5 (i := 2) rfl
  have r3 := cellB hR5 (i := 3) rfl
  have rz0 := frozenB hR5 0
  have rz1 := frozenB hR5 1
  have rz2 := frozenB hR5 2
  have rz3 := frozenB hR5 3
  replace hR5 := Lib.hid hR5
  replace hQ5 := Lib.hid hQ5
  replace hq := Lib.hid hq
  replace hql := Lib.hid hql
  replace hsz := Lib.hid hsz
  clear hch hC0 hop hRs
  go_wp2
  have hfin := setB (i := 3) (v := .int .i64 E0) (setB (i := 2) (v := .slice q l cc) (setB (i := 1) (v := .bool nz) (setB (i := 0) (v := .int .i64 0) hR5.out)))
  have hc5 : Chg w5 _ (fun k => k = w.heap.size + 3) := ((((chg_setB w5 (w.heap.size + 3) 0 (.int .i64 0))).trans ((chg_setB _ (w.heap.size + 3) 1 (.bool nz)).mono (fun _ _ h => .inl h))).trans ((chg_setB _ (w.heap.size + 3) 2 (.slice q l cc)).mono (fun _ _ h => .inl h))).trans ((chg_setB _ (w.heap.size + 3) 3 (.int .i64 E0)).mono (fun _ _ h => .inl h))
  clear r0 r1 r2 r3 rz0 rz1 rz2 rz3
  generalize (((w5.setCell ⟨w.heap.size + 3, 0, none⟩ (.int .i64 0)).setCell ⟨w.heap.size + 3, 1, none⟩ (.bool nz)).setCell ⟨w.heap.size + 3, 2, none⟩ (.slice q l cc)).setCell ⟨w.heap.size + 3, 3, none⟩ (.int .i64 E0) = W9 at hfin hc5 ⊢
  have hcf : Chg w W9 (fun _ => False) := hQ5.out.trans (hc5.mono (fun k _ h => .inr (by omega)))
  have hq9 := hq.out.chgAt hc5 (fun ad ha h => by have h1 := hql.out ad ha; have h2 := hsz.out; omega)
  have hq0 : ∀ ad, q = some ad → w.heap.size ≤ ad.block := fun ad ha => by have h1 := hql.out ad ha; have h2 := hsz.out; omega
  have c0 : W9.cell? ⟨w.heap.size + 1 + 1 + 1, 0, none⟩ = some (.int .i64 0) := cellB hfin rfl
  have c1 : W9.cell? ⟨w.heap.size + 1 + 1 + 1, 1, none⟩ = some (.bool nz) := cellB hfin rfl
  have c2 : W9.cell? ⟨w.heap.size + 1 + 1 + 1, 2, none⟩ = some (.slice q l cc) := cellB hfin rfl
  have c3 : W9.cell? ⟨w.heap.size + 1 + 1 + 1, 3, none⟩ = some (.int .i64 E0) := cellB hfin rfl
  exact bodyPost_ret (v := .tuple #[.agg #[.int .i64 0, .bool nz, .slice q l cc, .int .i64 E0], .int .i64 (cn : Int), .bool true]) (by simp [results, Tryz.results27, go_sem, c0, c1, c2, c3]) rfl ⟨q, cc, rfl, hq9, hq0, hcf⟩
set_option maxRecDepth 100000 in
set_option maxHeartbeats 2000000 in
theorem didMul_c (w : World) (p a b m : Int) (ex ey E0 : Int) (nx ny nz : Bool) (Ax Ay : Option Addr) (lx cx ly cy R cn : Nat)
    (hop : ∀ w1, Chg w w1 (fun _ => False) → Calls Tryz.prog 48 #[.agg #[.int .u64 p, .int .i64 a, .int .i64 b, .int .i64 m], .agg #[.int .i64 0, .bool nx, .slice Ax lx cx, .int .i64 ex], .agg #[.int .i64 0, .bool ny, .slice Ay ly cy, .int .i64 ey]] w1 fun E w' => ImplR w1 w' E nz E0 R cn) :
    Calls Tryz.prog 27 #[.int .i64 2, .agg #[.int .u64 p, .int .i64 a, .int .i64 b, .int .i64 m], .agg #[.int .i64 0, .bool nx, .slice Ax lx cx, .int .i64 ex], .agg #[.int .i64 0, .bool ny, .slice Ay ly cy, .int .i64 ey]] w fun E w' => ImplR w w' E nz E0 R cn := by
  unfold ImplR at *
  obtain ⟨l, hl⟩ : ∃ l, (digs R).length = l := ⟨_, rfl⟩
  simp only [hl] at hop ⊢
  replace hop := Lib.hid hop
  replace hl := Lib.hid hl
  go_enter Tryz.func27, Tryz.ntmps27
  go_wp2_with fail
  generalize hW : ((((w.alloc (.cells #[.int .u64 p, .int .i64 a, .int .i64 b, .int .i64 m] 36 (0, 0))).alloc (.cells #[.int .i64 0, .bool nx, .slice Ax lx cx, .int .i64 ex] 25 (0, 0))).alloc (.cells #[.int .i64 0, .bool ny, .slice Ay ly cy, .int .i64 ey] 25 (0, 0))).alloc (.cells #[.int .i64 0, .bool false, .slice none 0 0, .int .i64 0] 25 (0, 0))) = W
  have hC0 : Chg w W (fun _ => False) := by rw [← hW]; exact ((((Chg.refl w (fun _ => False)).alloc _).alloc _).alloc _).alloc _
  have hsz : W.heap.size = w.heap.size + 4 := by rw [← hW]; simp
  have hRs : W.heap[w.heap.size + 3]? = some (.cells #[.int .i64 0, .bool false, .slice none 0 0, .int .i64 0] 25 (0, 0)) := by rw [← hW]; exact allocB_at _ _ (by simp)
  clear hW
  replace hRs := Lib.hid hRs
  with_reducible refine (hop.out W hC0).mono ?_
  rintro e w5 ⟨q, cc, rfl, hq, hql, hch⟩
  have hR5 := hch.heapB hRs.out (fun h => h)
  have hQ5 := hC0.trans (hch.mono (fun _ _ h => h.elim))
  have r0 := cellB hR5 (i := 0) rfl
  have r1 := cellB hR5 (i := 1) rfl
  have r2 := cellB hR5 (i := 2) rfl
  have r3 := cellB hR5 (i := 3) rfl
  have rz0 := frozenB hR5 0
  have rz1 := frozenB hR5 1
  have rz2 := frozenB hR5 2
  have rz3 := frozenB hR5 3
  replace hR5 := Lib.hid hR5
  replace hQ5 := Lib.hid hQ5
  replace hq := Lib.hid hq
  replace hql := Lib.hid hql
  replace hsz := Lib.hid hsz
  clear hch hC0 hop hRs
  go_wp2
  have hfin := setB (i := 3) (v := .int .i64 E0) (setB (i := 2) (v := .slice q l cc) (setB (i := 1) (v := .bool nz) (setB (i := 0) (v := .int .i64 0) hR5.out)))
  have hc5 : Chg w5 _ (fun k => k = w.heap.size + 3) := ((((chg_setB w5 (w.heap.size + 3) 0 (.int .i64 0))).trans ((chg_setB _ (w.heap.size + 3) 1 (.bool nz)).mono (fun _ _ h => .inl h))).trans ((chg_setB _ (w.heap.size + 3) 2 (.slice q l cc)).mono (fun _ _ h => .inl h))).trans ((chg_setB _ (w.heap.size + 3) 3 (.int .i64 E0)).mono (fun _ _ h => .inl h))
  clear r0 r1 r2 r3 rz0 rz1 rz2 rz3
  generalize (((w5.setCell ⟨w.heap.size + 3, 0, none⟩ (.int .i64 0)).setCell ⟨w.heap.size + 3, 1, none⟩ (.bool nz)).setCell ⟨w.heap.size + 3, 2, none⟩ (.slice q l cc)).setCell ⟨w.heap.size + 3, 3, none⟩ (.int .i64 E0) = W9 at hfin hc5 ⊢
  have hcf : Chg w W9 (fun _ => False) := hQ5.out.trans (hc5.mono (fun k _ h => .inr (by omega)))
  have hq9 := hq.out.chgAt hc5 (fun ad ha h => by have h1 := hql.out ad ha; have h2 := hsz.out; omega)
  have hq0 : ∀ ad, q = some ad → w.heap.size ≤ ad.block := fun ad ha => by have h1 := hql.out ad ha; have h2 := hsz.out; omega
  have c0 : W9.cell? ⟨w.heap.size + 1 + 1 + 1, 0, none⟩ = some (.int .i64 0) := cellB hfin rfl
  have c1 : W9.cell? ⟨w.heap.size + 1 + 1 + 1, 1, none⟩ = some (.bool nz) := cellB hfin rfl
  have c2 : W9.cell? ⟨w.heap.size + 1 + 1 + 1, 2, none⟩ = some (.slice q l cc) := cellB hfin rfl
  have c3 : W9.cell? ⟨w.heap.size + 1 + 1 + 1, 3, none⟩ = some (.int .i64 E0) := cellB hfin rfl
  exact bodyPost_ret (v := .tuple #[.agg #[.int .i64 0, .bool nz, .slice q l cc, .int .i64 E0], .int .i64 (cn : Int), .bool true]) (by simp [results, Tryz.results27, go_sem, c0, c1, c2, c3]) rfl ⟨q, cc, rfl, hq9, hq0, hcf⟩
end Go.Proofs.YtffjgkghmdhlkaaGreatDoor
namespace Go.Proofs.YtffjgkghmdhlkaaGreatDoor
open Go Go.RowKit

theorem addN_comm (s t : Bool) (A B : Nat) : addN t s B A = addN s t A B := by
  unfold addN
  by_cases h : s = t
  · rw [if_pos h, if_pos h.symm, Nat.add_comm]
  · rw [if_neg h, if_neg (Ne.symm h)]
    rcases Nat.lt_trichotomy A B with h1 | h1 | h1
    · rw [if_pos (by omega), if_neg (by omega)]
    · subst h1; rw [if_pos (Nat.le_refl _)]
    · rw [if_neg (by omega), if_pos (by omega)]
theorem addS_comm (s t : Bool) (A B : Nat) (fl : Bool) : addS t s B A fl = addS s t A B fl := by
  unfold addS
  by_cases h : s = t
  · rw [if_pos h, if_pos h.symm, h]
  · rw [if_neg h, if_neg (Ne.symm h)]
    have hst : t = !s := by cases s <;> cases t <;> simp_all
    rcases Nat.lt_trichotomy A B with h1 | h1 | h1
    · rw [if_neg (show ¬ B = A by omega), if_pos h1, if_neg (show ¬ A = B by omega), if_neg (show ¬ B < A by omega), hst]
    · rw [if_pos h1.symm, if_pos h1]
    · rw [if_neg (show ¬ B = A by omega), if_neg (show ¬ A < B by omega), if_neg (show ¬ A = B by omega), if_pos h1, hst, Bool.not_not]
set_option maxHeartbeats 2000000 in
theorem comFacts (w : World) (hG : Glob w) (p m : Nat) (hm : m < 8) (hp : 1 ≤ p ∧ p ≤ 60) (e d : Int) (n o : Bool) (A B : Option Addr) (l c r s : Nat) (X Y : List Nat) (hX : RdW w A l c X) (hY : RdW w B r s Y)
    (hl : l ≤ 3) (hr : r ≤ 3) (he1 : -100 ≤ e) (he2 : e ≤ 100) (hd1 : -100 ≤ d) (hd2 : d ≤ 100) (pr : Bool) (ov : Int) (hov : ov = if pr then 2 else 0) :
    ∃ (nz : Bool) (R : Nat) (E0 : Int) (cn : Nat),
      (∀ W, Below w.heap.size w W → Calls Tryz.prog 27 #[.int .i64 ov, .agg #[.int .u64 (p : Int), .int .i64 100000, .int .i64 (-100000), .int .i64 (m : Int)], .agg #[.int .i64 0, .bool n, .slice A l c, .int .i64 e], .agg #[.int .i64 0, .bool o, .slice B r s, .int .i64 d]] W fun E w' => ImplR W w' E nz E0 R cn) ∧
      (∀ W, Below w.heap.size w W → Calls Tryz.prog 27 #[.int .i64 ov, .agg #[.int .u64 (p : Int), .int .i64 100000, .int .i64 (-100000), .int .i64 (m : Int)], .agg #[.int .i64 0, .bool o, .slice B r s, .int .i64 d], .agg #[.int .i64 0, .bool n, .slice A l c, .int .i64 e]] W fun E w' => ImplR W w' E nz E0 R cn) := by
  obtain ⟨x1, x2⟩ := val3 hX.wd hX.len hl
  obtain ⟨y1, y2⟩ := val3 hY.wd hY.len hr
  cases pr with
  | false =>
    obtain rfl : ov = 0 := hov
    obtain ⟨i, hi⟩ : ∃ i, (e - d).toNat = i := ⟨_, rfl⟩
    obtain ⟨j, hj⟩ : ∃ j, (d - e).toNat = j := ⟨_, rfl⟩
    obtain ⟨G, hGe⟩ : ∃ G : Int, G = if e ≤ d then e else d := ⟨_, rfl⟩
    have hGe2 : G = if d ≤ e then d else e := by rw [hGe]; split <;> split <;> omega
    have hG2 : min e d = G := by omega
    obtain ⟨Aa, hA⟩ : ∃ Aa, Aa = val X * 10 ^ i := ⟨_, rfl⟩
    obtain ⟨Bb, hB⟩ : ∃ Bb, Bb = val Y * 10 ^ j := ⟨_, rfl⟩
    obtain ⟨J, hJ⟩ : ∃ J, J = 258 := ⟨_, rfl⟩
    have a1 : Aa < 10 ^ J := by rw [hA]; exact ten_weak (wide_ten x1) (by omega)
    have b1 : Bb < 10 ^ J := by rw [hB]; exact ten_weak (wide_ten y1) (by omega)
    have a2 : nbits Aa ≤ 1090 := by rw [hA]; exact Nat.le_trans (nbits_wide x2) (by omega)
    have b2 : nbits Bb ≤ 1090 := by rw [hB]; exact Nat.le_trans (nbits_wide y2) (by omega)
    have n1 : addN n o Aa Bb < 10 ^ (J + 1) := sum_ten a1 b1 n o
    obtain ⟨nz, hnz⟩ : ∃ nz, addS n o Aa Bb (decide (m = 4)) = nz := ⟨_, rfl⟩
    obtain ⟨N, hN⟩ : ∃ N, addN n o Aa Bb = N := ⟨_, rfl⟩
    have hnz2 : addS o n Bb Aa (decide (m = 4)) = nz := by rw [addS_comm]; exact hnz
    have hN2 : addN o n Bb Aa = N := by rw [addN_comm]; exact hN
    rw [hN] at n1
    have f1 := figs_ten n1
    have hk := rndK_le nz N p m
    have hR := rnd_small (n := nz) (N := N) (m := m) hp.1 hp.2
    refine ⟨nz, rndN nz N p m, G + (rndK nz N p m : Int), condN (rndC N p), fun W hb => ?_, fun W hb => ?_⟩
    · refine didAdd_c W p 100000 (-100000) m e d _ n o nz A B l c r s _ _ (fun w1 hc => ?_)
      exact implAddF_c w1 (hG.bel (brise hb (cbelow hc))) p m 100000 (-100000) e d G n o nz A B l c r s X Y N hm (by omega) (by omega) (by omega) (by omega) (by omega) (hX.below (brise hb (cbelow hc))) (by omega) (by omega) (hY.below (brise hb (cbelow hc))) (by omega) (by omega)
        (fun w1 σ c1 d1 x y hh hc hd hx hdx hy hxy hdy => by
          have h := cAdd_c hh hd hx hy hc (p := p) (m := m) ⟨hp.1, by omega⟩ (by omega) (by omega) (by omega) (by omega) hm (by omega) (by omega) (by omega) hGe (by rw [hi]; exact hA) (by rw [hj]; exact hB) a2 b2
          rw [show (o != false) = o by cases o <;> rfl] at h
          rw [hnz, hN] at h
          exact h)
    · refine didAdd_c W p 100000 (-100000) m d e _ o n nz B A r s l c _ _ (fun w1 hc => ?_)
      exact implAddF_c w1 (hG.bel (brise hb (cbelow hc))) p m 100000 (-100000) d e G o n nz B A r s l c Y X N hm (by omega) (by omega) (by omega) (by omega) (by omega) (hY.below (brise hb (cbelow hc))) (by omega) (by omega) (hX.below (brise hb (cbelow hc))) (by omega) (by omega)
        (fun w1 σ c1 d1 x y hh hc hd hx hdx hy hxy hdy => by
          have h := cAdd_c hh hd hx hy hc (p := p) (m := m) ⟨hp.1, by omega⟩ (by omega) (by omega) (by omega) (by omega) hm (by omega) (by omega) (by omega) hGe2 (by rw [hj]; exact hB) (by rw [hi]; exact hA) b2 a2
          rw [show (n != false) = n by cases n <;> rfl] at h
          rw [hnz2, hN2] at h
          exact h)
  | true =>
    obtain rfl : ov = 2 := hov
    have n1 : val X * val Y < 10 ^ 116 := by
      rw [show (116 : Nat) = 58 + 58 from rfl, Nat.pow_add]
      exact Nat.mul_lt_mul'' x1 y1
    have f1 := figs_ten n1
    obtain ⟨N, hN⟩ : ∃ N, val X * val Y = N := ⟨_, rfl⟩
    have hN2 : val Y * val X = N := by rw [Nat.mul_comm]; exact hN
    obtain ⟨nz, hnz⟩ : ∃ nz, (n != o) = nz := ⟨_, rfl⟩
    have hnz2 : (o != n) = nz := by rw [← hnz]; cases n <;> cases o <;> rfl
    rw [hN] at n1 f1
    have hk := rndK_le nz N p m
    have hR := rnd_small (n := nz) (N := N) (m := m) hp.1 hp.2
    refine ⟨nz, rndN nz N p m, e + d + (rndK nz N p m : Int), condN (rndC N p), fun W hb => ?_, fun W hb => ?_⟩
    · refine didMul_c W p 100000 (-100000) m e d _ n o nz A B l c r s _ _ (fun w1 hc => ?_)
      exact implMulF_c w1 (hG.bel (brise hb (cbelow hc))) p m 100000 (-100000) e d (e + d) n o nz A B l c r s X Y N hm (by omega) (by omega) (by omega) (by omega) (by omega) (hX.below (brise hb (cbelow hc))) (by omega) (by omega) (hY.below (brise hb (cbelow hc))) (by omega) (by omega)
        (fun w1 σ c1 d1 x y hh hc hd hx hdx hy hxy hdy => by
          have h := cMul_c hh hd hx hy hxy hdx hdy hc (p := p) (m := m) ⟨hp.1, by omega⟩ (by omega) (by omega) (by omega) (by omega) hm (by omega) (by omega)
          rw [hN, hnz] at h
          exact h)
    · refine didMul_c W p 100000 (-100000) m d e _ o n nz B A r s l c _ _ (fun w1 hc => ?_)
      exact implMulF_c w1 (hG.bel (brise hb (cbelow hc))) p m 100000 (-100000) d e (e + d) o n nz B A r s l c Y X N hm (by omega) (by omega) (by omega) (by omega) (by omega) (hY.below (brise hb (cbelow hc))) (by omega) (by omega) (hX.below (brise hb (cbelow hc))) (by omega) (by omega)
        (fun w1 σ c1 d1 x y hh hc hd hx hdx hy hxy hdy => by
          have h := cMul_c hh hd hx hy hxy hdx hdy hc (p := p) (m := m) ⟨hp.1, by omega⟩ (by omega) (by omega) (by omega) (by omega) hm (by omega) (by omega)
          rw [hN2, hnz2, Int.add_comm d e] at h
          exact h)
end Go.Proofs.YtffjgkghmdhlkaaGreatDoor
