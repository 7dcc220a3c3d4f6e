/- The reference's natural numbers: of a small number; a difference; the order. -/
import Derived.Test.YtlnillnngckegaaGreatDoorM40
namespace Go.Proofs.YtlnillnngckegaaGreatDoor
open Go Go.RowKit

theorem drewN_two (w : World) (m n : Nat) : (w.drewN m).drewN n = w.drewN (m + n) := by
  unfold World.drewN; simp only [Nat.add_assoc]
theorem drewN_three (w : World) (m n q : Nat) : ((w.drewN m).drewN n).drewN q = w.drewN (m + n + q) := by rw [drewN_two, drewN_two, Nat.add_assoc]
/-- One digit more in an own row. -/
theorem own_snoc {w1 : World} {B k : Nat} {v' : Value} {O : List Nat} {s : Int} {d : Nat} (hs : s = (d : Int)) (h : w1.ownsRow B 3 1 v' (k + 1) (O.map sw ++ [.int .i64 s])) : ∃ p' cc', v' = .slice p' (k + 1) cc' ∧ w1.ownsRow B 3 1 (.slice p' (k + 1) cc') (k + 1) ((O ++ [d]).map sw) := by
  subst hs
  obtain ⟨p', cc', rfl⟩ := own_slice3 h
  refine ⟨p', cc', rfl, ?_⟩
  rw [List.map_append]
  exact h

set_option maxRecDepth 20000 in
set_option maxHeartbeats 2000000 in
theorem smallD_c (w : World) (N : Nat) (hN : N ≤ 9223372036854775807) :
    Calls Tryz.prog 77 #[.int .i64 (N : Int)] w fun e w' => ∃ p n cc, e = .returned (.slice p n cc) ∧ DRes w w' p n cc N := by
  obtain ⟨i0, hi, hz0, hz1, hz2⟩ := info_parts makeI
  go_enter Tryz.func77, Tryz.ntmps77
  go_wp2
  go_loopw [0, 3] (fun n v wr => ∃ (k M : Nat) (p : Option Addr) (cc : Nat) (O : List Nat), n = .int .i64 (M : Int) ∧ M ≤ N ∧ k ≤ N ∧ v = .slice p k cc ∧ Below w.heap.size w wr ∧ wr.ownsRow w.heap.size 3 1 (.slice p k cc) k (O.map sw) ∧ DgB 65536 O ∧ vB 65536 O + 65536 ^ k * M = N ∧ k + M ≤ N ∧ (∀ x, O.getLast? = some x → M = 0 → x ≠ 0)) (fun n _ _ => (intOf n).toNat)
  case atStart => exact ⟨0, N, _, 0, [], rfl, Nat.le_refl _, Nat.zero_le _, rfl, (Below.refl _ _).alloc (Nat.le_refl _) _, World.ownsRow_made w #[] 0 (Nat.le_refl _) (by decide) rfl, DgB.nil, by simp, by omega, fun x hx => by simp at hx⟩
  case round =>
    obtain ⟨k, M, p, cc, O, rfl, hMN, hk, rfl, hb, hown, hO, hv, hkM, hlast⟩ := hrel
    have hbs := hb.size
    have hOl := own_len hown
    by_cases hM : M = 0
    · subst hM
      have hV : vB 65536 O = N := by simpa using hv
      have hd : d16 N = O := by
        rw [← hV]
        refine dB_of two16 hO ?_
        rcases Nat.eq_zero_or_pos O.length with h | h
        · exact .inl (List.length_eq_zero_iff.1 h)
        · refine .inr (hlast _ ?_ rfl)
          rw [List.getLast?_eq_getElem?]; exact get_nth (by omega)
      obtain ⟨h1, h2⟩ := own_rdD hown hO
      rw [← hd] at h1
      replace h1 := Lib.hid h1
      replace h2 := Lib.hid h2
      replace hb := Lib.hid hb
      clear hown hO hv hV hd hlast hOl
      go_wp2
      go_ret
      exact ⟨p, k, cc, rfl, h1.out, h2.out, hb.out⟩
    · have hM1 : 1 ≤ M := by omega
      have hk4 : k < 4 := by
        rcases Nat.lt_or_ge k 4 with h | h
        · exact h
        · have h1 : 65536 ^ 4 ≤ 65536 ^ k := Nat.pow_le_pow_right (by decide) h
          have h2 := Nat.mul_le_mul_left (65536 ^ k) hM1
          omega
      have hst : vB 65536 (O ++ [M % 65536]) + 65536 ^ (k + 1) * (M / 65536) = N := by
        rw [vB_snoc, hOl, Nat.pow_succ, Nat.mul_assoc, Nat.add_assoc, ← Nat.mul_add, Nat.mod_add_div]; exact hv
      have hdg : DgB 65536 (O ++ [M % 65536]) := hO.snoc (Nat.mod_lt _ (by decide))
      have hla : ∀ x, (O ++ [M % 65536]).getLast? = some x → M / 65536 = 0 → x ≠ 0 := by
        intro x hx h0
        rw [List.getLast?_append] at hx
        simp only [List.getLast?_singleton, Option.some_or, Option.some.injEq] at hx
        omega
      have kM : k + 1 + M / 65536 ≤ N := by omega
      have kM2 : M / 65536 ≤ N := by omega
      replace hst := Lib.hid hst
      replace hdg := Lib.hid hdg
      replace hla := Lib.hid hla
      replace hown := Lib.hid hown
      replace hb := Lib.hid hb
      replace kM := Lib.hid kM
      replace kM2 := Lib.hid kM2
      clear hO hv hlast hOl
      go_wp2_with (at_builtin; refine wpList_append_own _ rfl _ _ 27 rfl w.heap.size 3 i0 (.int .i64 0) 1 8 Tryz.underlying27 hi hz0 hz1 hz2 rfl (by decide) _ _ _ rfl (hown.out.alloc _) ⟨wr.heap.size, 0, none⟩ 1 1 [.int .i64 ((M : Int) % 65536)] rfl rfl ?c1 ?c2 ?c3 ?c4 ?c5 ?_)
      case c1 => exact cell_one_new _ _ _
      case c2 => intro u hu; simp only [List.mem_cons, List.not_mem_nil, or_false] at hu; subst hu; rfl
      case c3 => unfold maxLen; omega
      case c4 => omega
      case c5 => simp; omega
      intro v' w1 hown' hgrow _
      obtain ⟨p', cc', rfl, hown2⟩ := own_snoc (d := M % 65536) (by omega) hown'
      replace hown2 := Lib.hid hown2
      replace hgrow := Lib.hid hgrow
      clear hown'
      go_wp2
      go_roundw
      case rel =>
        exact ⟨k + 1, M / 65536, p', cc', O ++ [M % 65536], by go_num, kM2.out, by have := kM.out; omega, rfl, (hb.out.alloc hbs _).grown hgrow.out (by simp; omega) (fun g hg => (hown.out.lt g hg).1), hown2.out, hdg.out, hst.out, kM.out, hla.out⟩
      case measure => simp [intOf]; omega

set_option maxRecDepth 20000 in
set_option maxHeartbeats 2000000 in
theorem subD_c (w : World) (A B : Option Addr) (l c m d N M : Nat) (hX : RdD w A l c (d16 N)) (hY : RdD w B m d (d16 M)) (hl : l ≤ 1000000) (_hm : m ≤ 1000000) (hle : M ≤ N) :
    Calls Tryz.prog 40 #[.slice A l c, .slice B m d] w fun e w' => ∃ p n cc, e = .returned (.slice p n cc) ∧ DRes w w' p n cc (N - M) := by
  obtain ⟨i0, hi, hz0, hz1, hz2⟩ := info_parts makeI
  have hlx := hX.len
  have hly := hY.len
  have hml : m ≤ l := by rw [← hlx, ← hly]; exact d16_len_mono hle
  replace hX := Lib.hid hX
  replace hY := Lib.hid hY
  replace hlx := Lib.hid hlx
  replace hly := Lib.hid hly
  replace hle := Lib.hid hle
  go_enter Tryz.func40, Tryz.ntmps40
  go_wp2
  go_loopw [5, 6, 12] (fun v cy i wr => ∃ (k t : Nat) (p : Option Addr) (cc : Nat) (O : List Nat), k ≤ l ∧ i = .int .i64 k ∧ cy = .int .i64 t ∧ t ≤ 1 ∧ v = .slice p k cc ∧ Below w.heap.size w wr ∧ wr.ownsRow w.heap.size 3 1 (.slice p k cc) k (O.map sw) ∧ DgB 65536 O ∧ vB 65536 ((d16 N).take k) + 65536 ^ k * t = vB 65536 O + vB 65536 ((d16 M).take k)) (fun _ _ i _ => l - (intOf i).toNat)
  case atStart => exact ⟨0, 0, _, 0, [], Nat.zero_le _, rfl, rfl, by omega, rfl, (Below.refl _ _).alloc (Nat.le_refl _) _, World.ownsRow_made w #[] 0 (Nat.le_refl _) (by decide) rfl, DgB.nil, rfl⟩
  case round =>
    obtain ⟨k, t, p, cc, O, hk, rfl, rfl, ht, rfl, hb, hown, hO, hv⟩ := hrel
    have hbs := hb.size
    have hOl := own_len hown
    by_cases hlt : k < l
    · have hx : ∃ x, nth (d16 N) k = x := ⟨_, rfl⟩
      have hy : ∃ y, nth (d16 M) k = y := ⟨_, rfl⟩
      obtain ⟨x, hx⟩ := hx
      obtain ⟨y, hy⟩ := hy
      have hxb : x < 65536 := by rw [← hx]; exact d16_nth N k
      have hyb : y < 65536 := by rw [← hy]; exact d16_nth M k
      have hst := fun s c' (e : x + 65536 * c' = s + y + t) => subD_step (s := s) (c' := c') hOl hv (by rw [hx, hy]; exact e)
      have hy0 : m ≤ k → y = 0 := fun h => by rw [← hy]; exact nth_ge (by rw [hly.out]; exact h)
      obtain ⟨ada, rfl, ca⟩ := hX.out.at hb hlt
      rw [hx] at ca
      have hcb : k < m → ∃ ad, B = some ad ∧ wr.cell? (ad.add k) = some (.int .i64 (y : Int)) := fun h => by rw [← hy]; exact hY.out.at hb h
      replace hcb := Lib.hid hcb
      replace hy0 := Lib.hid hy0
      replace hx := Lib.hid hx
      replace hy := Lib.hid hy
      replace hst := Lib.hid hst
      replace hown := Lib.hid hown
      replace hb := Lib.hid hb
      replace hO := Lib.hid hO
      replace hv := Lib.hid hv
      replace hOl := Lib.hid hOl
      by_cases hlb : k < m
      · obtain ⟨adb, rfl, cb⟩ := hcb.out hlb
        by_cases hneg : x < y + t
        · have n1 : (x : Int) - (t : Int) - (y : Int) < 0 := by omega
          have se : ((x : Int) - (t : Int) - (y : Int) + 65536) = ((x + 65536 - t - y : Nat) : Int) := by omega
          have s0 : 0 ≤ ((x : Int) - (t : Int) - (y : Int) + 65536) := by omega
          have s1 : ((x : Int) - (t : Int) - (y : Int) + 65536) ≤ 65535 := by omega
          have hs1 := hst.out (x + 65536 - t - y) 1 (by omega)
          have hdg := hO.out.snoc (x := x + 65536 - t - y) (by omega)
          replace se := Lib.hid se
          replace hs1 := Lib.hid hs1
          replace hdg := Lib.hid hdg
          go_wp2_with (at_builtin; refine wpList_append_own _ rfl _ _ 27 rfl w.heap.size 3 i0 (.int .i64 0) 1 8 Tryz.underlying27 hi hz0 hz1 hz2 rfl (by decide) _ _ _ rfl (hown.out.alloc _) ⟨wr.heap.size, 0, none⟩ 1 1 [.int .i64 ((x : Int) - (t : Int) - (y : Int) + 65536)] rfl rfl ?c1 ?c2 ?c3 ?c4 ?c5 ?_)
          case c1 => exact cell_one_new _ _ _
          case c2 => intro u hu; simp only [List.mem_cons, List.not_mem_nil, or_false] at hu; subst hu; rfl
          case c3 => unfold maxLen; omega
          case c4 => omega
          case c5 => simp; omega
          intro v' w1 hown' hgrow _
          obtain ⟨p', cc', rfl, hown2⟩ := own_snoc se.out hown'
          replace hown2 := Lib.hid hown2
          replace hgrow := Lib.hid hgrow
          clear hown'
          go_wp2
          go_roundw
          case rel =>
            exact ⟨k + 1, 1, p', cc', O ++ [x + 65536 - t - y], by omega, by go_num, rfl, by omega, rfl, (hb.out.alloc hbs _).grown hgrow.out (by simp; omega) (fun g hg => (hown.out.lt g hg).1), hown2.out, hdg.out, hs1.out⟩
          case measure => simp [intOf]; omega
        · have n1 : 0 ≤ (x : Int) - (t : Int) - (y : Int) := by omega
          have se : ((x : Int) - (t : Int) - (y : Int)) = ((x - t - y : Nat) : Int) := by omega
          have s0 : 0 ≤ ((x : Int) - (t : Int) - (y : Int)) := by omega
          have s1 : ((x : Int) - (t : Int) - (y : Int)) ≤ 65535 := by omega
          have hs1 := hst.out (x - t - y) 0 (by omega)
          have hdg := hO.out.snoc (x := x - t - y) (by omega)
          replace se := Lib.hid se
          replace hs1 := Lib.hid hs1
          replace hdg := Lib.hid hdg
          go_wp2_with (at_builtin; refine wpList_append_own _ rfl _ _ 27 rfl w.heap.size 3 i0 (.int .i64 0) 1 8 Tryz.underlying27 hi hz0 hz1 hz2 rfl (by decide) _ _ _ rfl (hown.out.alloc _) ⟨wr.heap.size, 0, none⟩ 1 1 [.int .i64 ((x : Int) - (t : Int) - (y : Int))] rfl rfl ?c1 ?c2 ?c3 ?c4 ?c5 ?_)
          case c1 => exact cell_one_new _ _ _
          case c2 => intro u hu; simp only [List.mem_cons, List.not_mem_nil, or_false] at hu; subst hu; rfl
          case c3 => unfold maxLen; omega
          case c4 => omega
          case c5 => simp; omega
          intro v' w1 hown' hgrow _
          obtain ⟨p', cc', rfl, hown2⟩ := own_snoc se.out hown'
          replace hown2 := Lib.hid hown2
          replace hgrow := Lib.hid hgrow
          clear hown'
          go_wp2
          go_roundw
          case rel =>
            exact ⟨k + 1, 0, p', cc', O ++ [x - t - y], by omega, by go_num, rfl, by omega, rfl, (hb.out.alloc hbs _).grown hgrow.out (by simp; omega) (fun g hg => (hown.out.lt g hg).1), hown2.out, hdg.out, hs1.out⟩
          case measure => simp [intOf]; omega
      · have y0 := hy0.out (by omega)
        by_cases hneg : x < t
        · have n1 : (x : Int) - (t : Int) < 0 := by omega
          have se : ((x : Int) - (t : Int) + 65536) = ((x + 65536 - t : Nat) : Int) := by omega
          have s0 : 0 ≤ ((x : Int) - (t : Int) + 65536) := by omega
          have s1 : ((x : Int) - (t : Int) + 65536) ≤ 65535 := by omega
          have hs1 := hst.out (x + 65536 - t) 1 (by omega)
          have hdg := hO.out.snoc (x := x + 65536 - t) (by omega)
          replace se := Lib.hid se
          replace hs1 := Lib.hid hs1
          replace hdg := Lib.hid hdg
          go_wp2_with (at_builtin; refine wpList_append_own _ rfl _ _ 27 rfl w.heap.size 3 i0 (.int .i64 0) 1 8 Tryz.underlying27 hi hz0 hz1 hz2 rfl (by decide) _ _ _ rfl (hown.out.alloc _) ⟨wr.heap.size, 0, none⟩ 1 1 [.int .i64 ((x : Int) - (t : Int) + 65536)] rfl rfl ?c1 ?c2 ?c3 ?c4 ?c5 ?_)
          case c1 => exact cell_one_new _ _ _
          case c2 => intro u hu; simp only [List.mem_cons, List.not_mem_nil, or_false] at hu; subst hu; rfl
          case c3 => unfold maxLen; omega
          case c4 => omega
          case c5 => simp; omega
          intro v' w1 hown' hgrow _
          obtain ⟨p', cc', rfl, hown2⟩ := own_snoc se.out hown'
          replace hown2 := Lib.hid hown2
          replace hgrow := Lib.hid hgrow
          clear hown'
          go_wp2
          go_roundw
          case rel =>
            exact ⟨k + 1, 1, p', cc', O ++ [x + 65536 - t], by omega, by go_num, rfl, by omega, rfl, (hb.out.alloc hbs _).grown hgrow.out (by simp; omega) (fun g hg => (hown.out.lt g hg).1), hown2.out, hdg.out, hs1.out⟩
          case measure => simp [intOf]; omega
        · have n1 : 0 ≤ (x : Int) - (t : Int) := by omega
          have se : ((x : Int) - (t : Int)) = ((x - t : Nat) : Int) := by omega
          have s0 : 0 ≤ ((x : Int) - (t : Int)) := by omega
          have s1 : ((x : Int) - (t : Int)) ≤ 65535 := by omega
          have hs1 := hst.out (x - t) 0 (by omega)
          have hdg := hO.out.snoc (x := x - t) (by omega)
          replace se := Lib.hid se
          replace hs1 := Lib.hid hs1
          replace hdg := Lib.hid hdg
          go_wp2_with (at_builtin; refine wpList_append_own _ rfl _ _ 27 rfl w.heap.size 3 i0 (.int .i64 0) 1 8 Tryz.underlying27 hi hz0 hz1 hz2 rfl (by decide) _ _ _ rfl (hown.out.alloc _) ⟨wr.heap.size, 0, none⟩ 1 1 [.int .i64 ((x : Int) - (t : Int))] rfl rfl ?c1 ?c2 ?c3 ?c4 ?c5 ?_)
          case c1 => exact cell_one_new _ _ _
          case c2 => intro u hu; simp only [List.mem_cons, List.not_mem_nil, or_false] at hu; subst hu; rfl
          case c3 => unfold maxLen; omega
          case c4 => omega
          case c5 => simp; omega
          intro v' w1 hown' hgrow _
          obtain ⟨p', cc', rfl, hown2⟩ := own_snoc se.out hown'
          replace hown2 := Lib.hid hown2
          replace hgrow := Lib.hid hgrow
          clear hown'
          go_wp2
          go_roundw
          case rel =>
            exact ⟨k + 1, 0, p', cc', O ++ [x - t], by omega, by go_num, rfl, by omega, rfl, (hb.out.alloc hbs _).grown hgrow.out (by simp; omega) (fun g hg => (hown.out.lt g hg).1), hown2.out, hdg.out, hs1.out⟩
          case measure => simp [intOf]; omega
    · obtain rfl : k = l := by omega
      have hend := subD_end (a := d16 N) (b := d16 M) (by rw [hOl, hlx.out]) (by rw [hly.out, hlx.out]; exact hml) hO (by rw [hlx.out]; exact hv) (by rw [d16_val, d16_val]; exact hle.out)
      rw [d16_val, d16_val] at hend
      have k1 := trimOwn hb hown hO hend
      replace k1 := Lib.hid k1
      clear hO hv hOl hb hown hend
      go_wp2_with fail
      with_reducible refine k1.out.mono ?_
      rintro E w' ⟨hw, q, rfl, hr⟩
      obtain rfl := hw
      go_wp2
      go_ret
      exact ⟨p, q, cc, rfl, hr⟩

set_option maxRecDepth 20000 in
set_option maxHeartbeats 2000000 in
theorem cmpD_c (w : World) (A B : Option Addr) (l c m d N M : Nat) (hX : RdD w A l c (d16 N)) (hY : RdD w B m d (d16 M)) :
    Calls Tryz.prog 39 #[.slice A l c, .slice B m d] w fun e w' => e = .returned (.int .i64 (ord3 N M)) ∧ ∃ n, w' = w.drewN n := by
  have hlx := hX.len
  have hly := hY.len
  have hc1 := hX.cap
  have hc2 := hX.max
  have hc3 := hY.cap
  have hc4 := hY.max
  have o1 : N < M → ord3 N M = -1 := fun h => by unfold ord3; rw [if_pos h]
  have o2 : M < N → ord3 N M = 1 := fun h => by unfold ord3; rw [if_neg (by omega), if_pos h]
  have o0 : N = M → ord3 N M = 0 := fun h => by unfold ord3; rw [if_neg (by omega), if_neg (by omega)]
  have d1 : l < m → N < M := fun h => d16_len_lt (by rw [hlx, hly]; exact h)
  have d2 : m < l → M < N := fun h => d16_len_lt (by rw [hlx, hly]; exact h)
  generalize ord3 N M = R at *
  replace hX := Lib.hid hX
  replace hY := Lib.hid hY
  replace hlx := Lib.hid hlx
  replace hly := Lib.hid hly
  replace o1 := Lib.hid o1
  replace o2 := Lib.hid o2
  replace o0 := Lib.hid o0
  replace d1 := Lib.hid d1
  replace d2 := Lib.hid d2
  go_enter Tryz.func39, Tryz.ntmps39
  rcases (by omega : l < m ∨ m < l ∨ l = m) with h | h | h
  · have hR := o1.out (d1.out h)
    replace hR := Lib.hid hR
    go_wp2
    go_ret
    exact ⟨ret_i hR.out.symm, 0, rfl⟩
  · have hR := o2.out (d2.out h)
    replace hR := Lib.hid hR
    go_wp2
    go_ret
    exact ⟨ret_i hR.out.symm, 0, rfl⟩
  · subst h
    clear d1 d2
    go_wp2
    go_loopw [5] (fun i wr => ∃ (k nn : Nat), k ≤ l ∧ i = .int .i64 ((k : Int) - 1) ∧ (∀ j, k ≤ j → j < l → nth (d16 N) j = nth (d16 M) j) ∧ wr = w.drewN nn) (fun i _ => (intOf i + 1).toNat)
    case atStart => exact ⟨l, 0, Nat.le_refl _, rfl, (fun j h1 h2 => by omega), rfl⟩
    case round =>
      obtain ⟨k, nn, hk, rfl, hz, rfl⟩ := hrel
      by_cases hk0 : k = 0
      · subst hk0
        have hR := o0.out (d16_inj (digD_eq (by rw [hlx.out, hly.out]) (fun j hj => hz j (Nat.zero_le _) (by rw [hlx.out] at hj; exact hj))))
        replace hR := Lib.hid hR
        replace hz := Lib.hid hz
        go_wp2
        go_ret
        exact ⟨ret_i hR.out.symm, nn, rfl⟩
      · obtain ⟨j, rfl⟩ : ∃ j, k = j + 1 := ⟨k - 1, by omega⟩
        have hj : ((j + 1 : Nat) : Int) - 1 = (j : Int) := by omega
        rw [hj]
        clear hj
        have hjl : j < l := by omega
        obtain ⟨ada, rfl, ca⟩ := hX.out.at (Below.drwN (Below.refl _ w) nn) hjl
        obtain ⟨adb, rfl, cb⟩ := hY.out.at (Below.drwN (Below.refl _ w) nn) hjl
        have ca : w.cell? (ada.add j) = some (.int .i64 (nth (d16 N) j : Int)) := ca
        have cb : w.cell? (adb.add j) = some (.int .i64 (nth (d16 M) j : Int)) := cb
        have hlt := fun h => digD_lt (a := d16 N) (b := d16 M) (k := j) (d16_dg N) (by rw [hlx.out, hly.out]) (by rw [hlx.out]; exact hjl) (fun i h1 h2 => hz i (by omega) (by rw [hlx.out] at h2; exact h2)) h
        have hgt := fun h => digD_lt (a := d16 M) (b := d16 N) (k := j) (d16_dg M) (by rw [hlx.out, hly.out]) (by rw [hly.out]; exact hjl) (fun i h1 h2 => (hz i (by omega) (by rw [hly.out] at h2; exact h2)).symm) h
        rw [d16_val, d16_val] at hlt hgt
        have hze : nth (d16 N) j = nth (d16 M) j → ∀ i, j ≤ i → i < l → nth (d16 N) i = nth (d16 M) i := fun e i h1 h2 => by
          by_cases e1 : i = j
          · subst e1; exact e
          · exact hz i (by omega) h2
        have hx : ∃ x, nth (d16 N) j = x := ⟨_, rfl⟩
        have hy : ∃ y, nth (d16 M) j = y := ⟨_, rfl⟩
        obtain ⟨x, hx⟩ := hx
        obtain ⟨y, hy⟩ := hy
        rw [hx, hy] at hlt hgt hze
        rw [hx] at ca
        rw [hy] at cb
        replace hx := Lib.hid hx
        replace hy := Lib.hid hy
        replace hlt := Lib.hid hlt
        replace hgt := Lib.hid hgt
        replace hze := Lib.hid hze
        replace hz := Lib.hid hz
        rcases (by omega : x < y ∨ y < x ∨ x = y) with h | h | h
        · have hR := o1.out (hlt.out h)
          have e0 : decide (x < y) = true := by simpa using h
          replace hR := Lib.hid hR
          go_wp2_with fail
          go_quiet (fail)
          go_wp2
          go_ret
          exact ⟨ret_i hR.out.symm, _, drewN_two _ _ _⟩
        · have hR := o2.out (hgt.out h)
          have e0 : decide (x < y) = false := by simp; omega
          have e1 : decide (y < x) = true := by simpa using h
          replace hR := Lib.hid hR
          go_wp2_with fail
          go_quiet (fail)
          go_wp2_with fail
          go_quiet (fail)
          go_wp2
          go_ret
          exact ⟨ret_i hR.out.symm, _, drewN_three _ _ _ _⟩
        · subst h
          have e0 : decide (x < x) = false := by simp
          have hz2 := hze.out rfl
          replace hz2 := Lib.hid hz2
          go_wp2_with fail
          go_quiet (fail)
          go_wp2_with fail
          go_quiet (fail)
          go_wp2
          go_roundw
          case rel => exact ⟨j, _, by omega, by go_num, hz2.out, rfl⟩
          case measure => simp [intOf]
end Go.Proofs.YtlnillnngckegaaGreatDoor
