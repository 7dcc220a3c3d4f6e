/- More: The reference's natural numbers: rows of digits in new memory; sum, difference. More: The reference's natural numbers: of a small number; a difference; the order. More: The reference's natural numbers: a product; by one digit. More: The reference's natural numbers: bits, a power of 2, times a power of 2. More: The reference's natural numbers: quotient and remainder; a power. More: The reference's natural numbers: how many figures; when a magnitude is made one greater. More: The reference's rounding: Cut, Rounded. More: The reference's rounding to so many figures. More: The reference's values: a smaller exponent. -/
import Derived.Laws.BytesArg
import Derived.Test.YtcoljeafgiemkaaGreatDoorC07
import Derived.Test.YtcoljeafgiemkaaGreatDoorC09
import Derived.Test.YtcoljeafgiemkaaGreatDoorC11
import Derived.Test.YtcoljeafgiemkaaGreatDoorC21
namespace Go.Proofs.YtcoljeafgiemkaaGreatDoor
open Go Go.RowKit

/-- An own row of digits is a row that is read; where it lies. -/
theorem own_rdD {w : World} {base l c : Nat} {p : Option Addr} {D : List Nat} (hown : w.ownsRow base 3 1 (.slice p l c) l (D.map sw)) (hW : DgB 65536 D) : RdD w p l c D ∧ ∀ ad, p = some ad → base ≤ ad.block := by
  have hX : D.length = l := by have := hown.1; simpa using this
  refine ⟨?_, fun ad ha => (hown.lt ad.block (by subst ha; rfl)).1⟩
  rcases hown.2 with ⟨h1, h2⟩ | ⟨g, cap, cur, h1, hg, hgg, hn, hm, hcs, htake⟩
  · injection h1 with h1 h3 h4
    subst h3 h4
    exact ⟨hX, Nat.le_refl _, by omega, hW, fun h => absurd h (Nat.lt_irrefl _)⟩
  · injection h1 with h1 h3 h4
    subst h1 h4
    refine ⟨hX, hn, by unfold maxLen at hm; omega, hW, fun _ => ⟨_, rfl, fun j hj => ?_⟩⟩
    exact hown.cells (g := g) rfl j (sw (nth D j)) (by rw [List.getElem?_map, get_nth (by omega)]; rfl)
theorem own_len {w : World} {base l : Nat} {v : Value} {D : List Nat} (hown : w.ownsRow base 3 1 v l (D.map sw)) : D.length = l := by have := hown.1; simpa using this
/-- A row that is handed back is trimmed. -/
theorem trimOwn {w wr : World} {p : Option Addr} {l c N : Nat} {D : List Nat} (hb : Below w.heap.size w wr) (hown : wr.ownsRow w.heap.size 3 1 (.slice p l c) l (D.map sw)) (hW : DgB 65536 D) (hv : vB 65536 D = N) :
    Calls Tryz.prog 45 #[.slice p l c] wr fun e w' => wr = w' ∧ ∃ m, e = .returned (.slice p m c) ∧ DRes w wr p m c N := by
  subst hv
  obtain ⟨h1, h2⟩ := own_rdD hown hW
  exact (trim_c wr p l c D h1).mono fun e w' ⟨hw, m, he, hr⟩ => ⟨hw, m, he, hr, h2, hb⟩

set_option maxRecDepth 20000 in
set_option maxHeartbeats 2000000 in
theorem addD_c (w : World) (A B : Option Addr) (l c m d N M : Nat) (hX : RdD w A l c (d16 N)) (hY : RdD w B m d (d16 M)) (hl : l ≤ 1000000) (hm : m ≤ 1000000) :
    Calls Tryz.prog 50 #[.slice A l c, .slice B m d] w fun e w' => ∃ p n cc, e = .returned (.slice p n cc) ∧ DRes w w' p n cc (N + M) := by
  obtain ⟨i0, hi, hz0, hz1, hz2⟩ := info_parts makeI
  have hlx := hX.len
  have hly := hY.len
  replace hX := Lib.hid hX
  replace hY := Lib.hid hY
  replace hlx := Lib.hid hlx
  replace hly := Lib.hid hly
  go_enter Tryz.func50, Tryz.ntmps50
  go_wp2
  go_loopw [5, 6, 7] (fun v cy i wr => ∃ (k t : Nat) (p : Option Addr) (cc : Nat) (O : List Nat), (k ≤ l ∨ k ≤ m) ∧ i = .int .i64 k ∧ cy = .int .i64 t ∧ t ≤ 1 ∧ v = .slice p k cc ∧ Below w.heap.size w wr ∧ wr.ownsRow w.heap.size 3 1 (.slice p k cc) k (O.map sw) ∧ DgB 65536 O ∧ vB 65536 O + 65536 ^ k * t = vB 65536 ((d16 N).take k) + vB 65536 ((d16 M).take k)) (fun _ _ i _ => (l + m) - (intOf i).toNat)
  case atStart => exact ⟨0, 0, _, 0, [], .inl (Nat.zero_le _), rfl, rfl, by omega, rfl, (Below.refl _ _).alloc (Nat.le_refl _) _, World.ownsRow_made w #[] 0 (Nat.le_refl _) (by decide) rfl, DgB.nil, rfl⟩
  case round =>
    obtain ⟨k, t, p, cc, O, hk, rfl, rfl, ht, rfl, hb, hown, hO, hv⟩ := hrel
    have hbs := hb.size
    have hOl := own_len hown
    by_cases hlt : k < l ∨ k < m
    · have hx : ∃ x, nth (d16 N) k = x := ⟨_, rfl⟩
      have hy : ∃ y, nth (d16 M) k = y := ⟨_, rfl⟩
      obtain ⟨x, hx⟩ := hx
      obtain ⟨y, hy⟩ := hy
      have hxb : x < 65536 := by rw [← hx]; exact d16_nth N k
      have hyb : y < 65536 := by rw [← hy]; exact d16_nth M k
      have hst := addD_step hOl hv
      rw [hx, hy] at hst
      have hx0 : l ≤ k → x = 0 := fun h => by rw [← hx]; exact nth_ge (by rw [hlx.out]; exact h)
      have hy0 : m ≤ k → y = 0 := fun h => by rw [← hy]; exact nth_ge (by rw [hly.out]; exact h)
      have hdg : DgB 65536 (O ++ [(t + x + y) % 65536]) := hO.snoc (Nat.mod_lt _ (by decide))
      have ht1 : (t + x + y) / 65536 ≤ 1 := by omega
      have hca : k < l → ∃ ad, A = some ad ∧ wr.cell? (ad.add k) = some (.int .i64 (x : Int)) := fun h => by rw [← hx]; exact hX.out.at hb h
      have hcb : k < m → ∃ ad, B = some ad ∧ wr.cell? (ad.add k) = some (.int .i64 (y : Int)) := fun h => by rw [← hy]; exact hY.out.at hb h
      replace hca := Lib.hid hca
      replace hcb := Lib.hid hcb
      replace hx0 := Lib.hid hx0
      replace hy0 := Lib.hid hy0
      replace hx := Lib.hid hx
      replace hy := Lib.hid hy
      replace hst := Lib.hid hst
      replace hdg := Lib.hid hdg
      replace ht1 := Lib.hid ht1
      replace hown := Lib.hid hown
      replace hb := Lib.hid hb
      replace hO := Lib.hid hO
      replace hv := Lib.hid hv
      replace hOl := Lib.hid hOl
      have fin : ∀ (v' : Value) (w1 : World) (s : Int), s = ((t + x + y : Nat) : Int) → w1.ownsRow w.heap.size 3 1 v' (k + 1) (O.map sw ++ [.int .i64 (s % 65536)]) → ∃ p' cc', v' = .slice p' (k + 1) cc' ∧ w1.ownsRow w.heap.size 3 1 (.slice p' (k + 1) cc') (k + 1) ((O ++ [(t + x + y) % 65536]).map sw) := by
        rintro v' w1 s rfl h
        obtain ⟨p', cc', rfl⟩ := own_slice3 h
        refine ⟨p', cc', rfl, ?_⟩
        rw [List.map_append]
        have e : sw ((t + x + y) % 65536) = .int .i64 (((t + x + y : Nat) : Int) % 65536) := by unfold sw; congr 1
        simp only [List.map_cons, List.map_nil, e]
        exact h
      replace fin := Lib.hid fin
      by_cases hla : k < l
      · by_cases hlb : k < m
        · obtain ⟨ada, rfl, ca⟩ := hca.out hla
          obtain ⟨adb, rfl, cb⟩ := hcb.out hlb
          have se : ((t : Int) + (x : Int) + (y : Int)) = ((t + x + y : Nat) : Int) := by omega
          have s0 : 0 ≤ ((t : Int) + (x : Int) + (y : Int)) := by omega
          have s1 : ((t : Int) + (x : Int) + (y : Int)) ≤ 131073 := by omega
          replace se := Lib.hid se
          go_wp2_with (at_builtin; refine wpList_append_own _ rfl _ _ 28 rfl w.heap.size 3 i0 (.int .i64 0) 1 8 Tryz.underlying28 hi hz0 hz1 hz2 rfl (by decide) _ _ _ rfl (hown.out.alloc _) ⟨wr.heap.size, 0, none⟩ 1 1 [.int .i64 (((t : Int) + (x : Int) + (y : Int)) % 65536)] rfl rfl ?c1 ?c2 ?c3 ?c4 ?c5 ?_)
          case c1 => exact cell_one_new _ _ _
          case c2 => intro u hu; simp only [List.mem_cons, List.not_mem_nil, or_false] at hu; subst hu; rfl
          case c3 => unfold maxLen; omega
          case c4 => omega
          case c5 => simp; omega
          intro v' w1 hown' hgrow _
          obtain ⟨p', cc', rfl, hown2⟩ := fin.out v' w1 _ se.out hown'
          replace hown2 := Lib.hid hown2
          replace hgrow := Lib.hid hgrow
          clear hown'
          go_wp2
          go_roundw
          case rel =>
            exact ⟨k + 1, (t + x + y) / 65536, p', cc', O ++ [(t + x + y) % 65536], by omega, by go_num, by rw [se.out]; go_num, ht1.out, rfl, (hb.out.alloc hbs _).grown hgrow.out (by simp; omega) (fun g hg => (hown.out.lt g hg).1), hown2.out, hdg.out, hst.out⟩
          case measure => simp [intOf]; omega
        · obtain ⟨ada, rfl, ca⟩ := hca.out hla
          have y0 := hy0.out (by omega)
          have se : ((t : Int) + (x : Int)) = ((t + x + y : Nat) : Int) := by omega
          have s0 : 0 ≤ ((t : Int) + (x : Int)) := by omega
          have s1 : ((t : Int) + (x : Int)) ≤ 131073 := by omega
          replace se := Lib.hid se
          go_wp2_with (at_builtin; refine wpList_append_own _ rfl _ _ 28 rfl w.heap.size 3 i0 (.int .i64 0) 1 8 Tryz.underlying28 hi hz0 hz1 hz2 rfl (by decide) _ _ _ rfl (hown.out.alloc _) ⟨wr.heap.size, 0, none⟩ 1 1 [.int .i64 (((t : Int) + (x : Int)) % 65536)] rfl rfl ?c1 ?c2 ?c3 ?c4 ?c5 ?_)
          case c1 => exact cell_one_new _ _ _
          case c2 => intro u hu; simp only [List.mem_cons, List.not_mem_nil, or_false] at hu; subst hu; rfl
          case c3 => unfold maxLen; omega
          case c4 => omega
          case c5 => simp; omega
          intro v' w1 hown' hgrow _
          obtain ⟨p', cc', rfl, hown2⟩ := fin.out v' w1 _ se.out hown'
          replace hown2 := Lib.hid hown2
          replace hgrow := Lib.hid hgrow
          clear hown'
          go_wp2
          go_roundw
          case rel =>
            exact ⟨k + 1, (t + x + y) / 65536, p', cc', O ++ [(t + x + y) % 65536], by omega, by go_num, by rw [se.out]; go_num, ht1.out, rfl, (hb.out.alloc hbs _).grown hgrow.out (by simp; omega) (fun g hg => (hown.out.lt g hg).1), hown2.out, hdg.out, hst.out⟩
          case measure => simp [intOf]; omega
      · have hlb : k < m := by omega
        obtain ⟨adb, rfl, cb⟩ := hcb.out hlb
        have x0 := hx0.out (by omega)
        have se : ((t : Int) + (y : Int)) = ((t + x + y : Nat) : Int) := by omega
        have s0 : 0 ≤ ((t : Int) + (y : Int)) := by omega
        have s1 : ((t : Int) + (y : Int)) ≤ 131073 := by omega
        replace se := Lib.hid se
        go_wp2_with (at_builtin; refine wpList_append_own _ rfl _ _ 28 rfl w.heap.size 3 i0 (.int .i64 0) 1 8 Tryz.underlying28 hi hz0 hz1 hz2 rfl (by decide) _ _ _ rfl (hown.out.alloc _) ⟨wr.heap.size, 0, none⟩ 1 1 [.int .i64 (((t : Int) + (y : Int)) % 65536)] rfl rfl ?c1 ?c2 ?c3 ?c4 ?c5 ?_)
        case c1 => exact cell_one_new _ _ _
        case c2 => intro u hu; simp only [List.mem_cons, List.not_mem_nil, or_false] at hu; subst hu; rfl
        case c3 => unfold maxLen; omega
        case c4 => omega
        case c5 => simp; omega
        intro v' w1 hown' hgrow _
        obtain ⟨p', cc', rfl, hown2⟩ := fin.out v' w1 _ se.out hown'
        replace hown2 := Lib.hid hown2
        replace hgrow := Lib.hid hgrow
        clear hown'
        go_wp2
        go_roundw
        case rel =>
          exact ⟨k + 1, (t + x + y) / 65536, p', cc', O ++ [(t + x + y) % 65536], by omega, by go_num, by rw [se.out]; go_num, ht1.out, rfl, (hb.out.alloc hbs _).grown hgrow.out (by simp; omega) (fun g hg => (hown.out.lt g hg).1), hown2.out, hdg.out, hst.out⟩
        case measure => simp [intOf]; omega
    · have hend := addD_end hOl (by rw [hlx.out]; omega) (by rw [hly.out]; omega) hv
      have hdg : DgB 65536 (O ++ [t]) := hO.snoc (by omega)
      rw [d16_val, d16_val] at hend
      replace hend := Lib.hid hend
      replace hdg := Lib.hid hdg
      replace hown := Lib.hid hown
      replace hb := Lib.hid hb
      clear hO hv hOl
      go_wp2_with (at_builtin; refine wpList_append_own _ rfl _ _ 28 rfl w.heap.size 3 i0 (.int .i64 0) 1 8 Tryz.underlying28 hi hz0 hz1 hz2 rfl (by decide) _ _ _ rfl (hown.out.alloc _) ⟨wr.heap.size, 0, none⟩ 1 1 [.int .i64 ((t : Int))] rfl rfl ?c1 ?c2 ?c3 ?c4 ?c5 ?_)
      case c1 => exact cell_one_new _ _ _
      case c2 => intro u hu; simp only [List.mem_cons, List.not_mem_nil, or_false] at hu; subst hu; rfl
      case c3 => unfold maxLen; omega
      case c4 => omega
      case c5 => simp; omega
      intro v' w1 hown' hgrow _
      obtain ⟨p', cc', rfl⟩ := own_slice3 hown'
      have k1 := trimOwn ((hb.out.alloc hbs _).grown hgrow (by simp; omega) (fun g hg => (hown.out.lt g hg).1)) (D := O ++ [t]) (by rw [List.map_append]; exact hown') hdg.out hend.out
      replace k1 := Lib.hid k1
      clear hown'
      go_wp2_with fail
      with_reducible refine k1.out.mono ?_
      rintro E w' ⟨hw, q, rfl, hr⟩
      obtain rfl := hw
      go_wp2
      go_ret
      exact ⟨p', q, cc', rfl, hr⟩
end Go.Proofs.YtcoljeafgiemkaaGreatDoor

namespace Go.Proofs.YtcoljeafgiemkaaGreatDoor
open Go Go.RowKit

theorem drewN_two (w : World) (m n : Nat) : (w.drewN m).drewN n = w.drewN (m + n) := by
  unfold World.drewN; simp only [Nat.add_assoc]
theorem drewN_three (w : World) (m n q : Nat) : ((w.drewN m).drewN n).drewN q = w.drewN (m + n + q) := by rw [drewN_two, drewN_two, Nat.add_assoc]
/-- One digit more in an own row. -/
theorem own_snoc {w1 : World} {B k : Nat} {v' : Value} {O : List Nat} {s : Int} {d : Nat} (hs : s = (d : Int)) (h : w1.ownsRow B 3 1 v' (k + 1) (O.map sw ++ [.int .i64 s])) : ∃ p' cc', v' = .slice p' (k + 1) cc' ∧ w1.ownsRow B 3 1 (.slice p' (k + 1) cc') (k + 1) ((O ++ [d]).map sw) := by
  subst hs
  obtain ⟨p', cc', rfl⟩ := own_slice3 h
  refine ⟨p', cc', rfl, ?_⟩
  rw [List.map_append]
  exact h

set_option maxRecDepth 20000 in
set_option maxHeartbeats 2000000 in
theorem smallD_c (w : World) (N : Nat) (hN : N ≤ 9223372036854775807) :
    Calls Tryz.prog 33 #[.int .i64 (N : Int)] w fun e w' => ∃ p n cc, e = .returned (.slice p n cc) ∧ DRes w w' p n cc N := by
  obtain ⟨i0, hi, hz0, hz1, hz2⟩ := info_parts makeI
  go_enter Tryz.func33, Tryz.ntmps33
  go_wp2
  go_loopw [0, 3] (fun n v wr => ∃ (k M : Nat) (p : Option Addr) (cc : Nat) (O : List Nat), n = .int .i64 (M : Int) ∧ M ≤ N ∧ k ≤ N ∧ v = .slice p k cc ∧ Below w.heap.size w wr ∧ wr.ownsRow w.heap.size 3 1 (.slice p k cc) k (O.map sw) ∧ DgB 65536 O ∧ vB 65536 O + 65536 ^ k * M = N ∧ k + M ≤ N ∧ (∀ x, O.getLast? = some x → M = 0 → x ≠ 0)) (fun n _ _ => (intOf n).toNat)
  case atStart => exact ⟨0, N, _, 0, [], rfl, Nat.le_refl _, Nat.zero_le _, rfl, (Below.refl _ _).alloc (Nat.le_refl _) _, World.ownsRow_made w #[] 0 (Nat.le_refl _) (by decide) rfl, DgB.nil, by simp, by omega, fun x hx => by simp at hx⟩
  case round =>
    obtain ⟨k, M, p, cc, O, rfl, hMN, hk, rfl, hb, hown, hO, hv, hkM, hlast⟩ := hrel
    have hbs := hb.size
    have hOl := own_len hown
    by_cases hM : M = 0
    · subst hM
      have hV : vB 65536 O = N := by simpa using hv
      have hd : d16 N = O := by
        rw [← hV]
        refine dB_of two16 hO ?_
        rcases Nat.eq_zero_or_pos O.length with h | h
        · exact .inl (List.length_eq_zero_iff.1 h)
        · refine .inr (hlast _ ?_ rfl)
          rw [List.getLast?_eq_getElem?]; exact get_nth (by omega)
      obtain ⟨h1, h2⟩ := own_rdD hown hO
      rw [← hd] at h1
      replace h1 := Lib.hid h1
      replace h2 := Lib.hid h2
      replace hb := Lib.hid hb
      clear hown hO hv hV hd hlast hOl
      go_wp2
      go_ret
      exact ⟨p, k, cc, rfl, h1.out, h2.out, hb.out⟩
    · have hM1 : 1 ≤ M := by omega
      have hk4 : k < 4 := by
        rcases Nat.lt_or_ge k 4 with h | h
        · exact h
        · have h1 : 65536 ^ 4 ≤ 65536 ^ k := Nat.pow_le_pow_right (by decide) h
          have h2 := Nat.mul_le_mul_left (65536 ^ k) hM1
          omega
      have hst : vB 65536 (O ++ [M % 65536]) + 65536 ^ (k + 1) * (M / 65536) = N := by
        rw [vB_snoc, hOl, Nat.pow_succ, Nat.mul_assoc, Nat.add_assoc, ← Nat.mul_add, Nat.mod_add_div]; exact hv
      have hdg : DgB 65536 (O ++ [M % 65536]) := hO.snoc (Nat.mod_lt _ (by decide))
      have hla : ∀ x, (O ++ [M % 65536]).getLast? = some x → M / 65536 = 0 → x ≠ 0 := by
        intro x hx h0
        rw [List.getLast?_append] at hx
        simp only [List.getLast?_singleton, Option.some_or, Option.some.injEq] at hx
        omega
      have kM : k + 1 + M / 65536 ≤ N := by omega
      have kM2 : M / 65536 ≤ N := by omega
      replace hst := Lib.hid hst
      replace hdg := Lib.hid hdg
      replace hla := Lib.hid hla
      replace hown := Lib.hid hown
      replace hb := Lib.hid hb
      replace kM := Lib.hid kM
      replace kM2 := Lib.hid kM2
      clear hO hv hlast hOl
      go_wp2_with (at_builtin; refine wpList_append_own _ rfl _ _ 28 rfl w.heap.size 3 i0 (.int .i64 0) 1 8 Tryz.underlying28 hi hz0 hz1 hz2 rfl (by decide) _ _ _ rfl (hown.out.alloc _) ⟨wr.heap.size, 0, none⟩ 1 1 [.int .i64 ((M : Int) % 65536)] rfl rfl ?c1 ?c2 ?c3 ?c4 ?c5 ?_)
      case c1 => exact cell_one_new _ _ _
      case c2 => intro u hu; simp only [List.mem_cons, List.not_mem_nil, or_false] at hu; subst hu; rfl
      case c3 => unfold maxLen; omega
      case c4 => omega
      case c5 => simp; omega
      intro v' w1 hown' hgrow _
      obtain ⟨p', cc', rfl, hown2⟩ := own_snoc (d := M % 65536) (by omega) hown'
      replace hown2 := Lib.hid hown2
      replace hgrow := Lib.hid hgrow
      clear hown'
      go_wp2
      go_roundw
      case rel =>
        exact ⟨k + 1, M / 65536, p', cc', O ++ [M % 65536], by go_num, kM2.out, by have := kM.out; omega, rfl, (hb.out.alloc hbs _).grown hgrow.out (by simp; omega) (fun g hg => (hown.out.lt g hg).1), hown2.out, hdg.out, hst.out, kM.out, hla.out⟩
      case measure => simp [intOf]; omega

set_option maxRecDepth 20000 in
set_option maxHeartbeats 2000000 in
theorem subD_c (w : World) (A B : Option Addr) (l c m d N M : Nat) (hX : RdD w A l c (d16 N)) (hY : RdD w B m d (d16 M)) (hl : l ≤ 1000000) (_hm : m ≤ 1000000) (hle : M ≤ N) :
    Calls Tryz.prog 70 #[.slice A l c, .slice B m d] w fun e w' => ∃ p n cc, e = .returned (.slice p n cc) ∧ DRes w w' p n cc (N - M) := by
  obtain ⟨i0, hi, hz0, hz1, hz2⟩ := info_parts makeI
  have hlx := hX.len
  have hly := hY.len
  have hml : m ≤ l := by rw [← hlx, ← hly]; exact d16_len_mono hle
  replace hX := Lib.hid hX
  replace hY := Lib.hid hY
  replace hlx := Lib.hid hlx
  replace hly := Lib.hid hly
  replace hle := Lib.hid hle
  go_enter Tryz.func70, Tryz.ntmps70
  go_wp2
  go_loopw [5, 6, 12] (fun v cy i wr => ∃ (k t : Nat) (p : Option Addr) (cc : Nat) (O : List Nat), k ≤ l ∧ i = .int .i64 k ∧ cy = .int .i64 t ∧ t ≤ 1 ∧ v = .slice p k cc ∧ Below w.heap.size w wr ∧ wr.ownsRow w.heap.size 3 1 (.slice p k cc) k (O.map sw) ∧ DgB 65536 O ∧ vB 65536 ((d16 N).take k) + 65536 ^ k * t = vB 65536 O + vB 65536 ((d16 M).take k)) (fun _ _ i _ => l - (intOf i).toNat)
  case atStart => exact ⟨0, 0, _, 0, [], Nat.zero_le _, rfl, rfl, by omega, rfl, (Below.refl _ _).alloc (Nat.le_refl _) _, World.ownsRow_made w #[] 0 (Nat.le_refl _) (by decide) rfl, DgB.nil, rfl⟩
  case round =>
    obtain ⟨k, t, p, cc, O, hk, rfl, rfl, ht, rfl, hb, hown, hO, hv⟩ := hrel
    have hbs := hb.size
    have hOl := own_len hown
    by_cases hlt : k < l
    · have hx : ∃ x, nth (d16 N) k = x := ⟨_, rfl⟩
      have hy : ∃ y, nth (d16 M) k = y := ⟨_, rfl⟩
      obtain ⟨x, hx⟩ := hx
      obtain ⟨y, hy⟩ := hy
      have hxb : x < 65536 := by rw [← hx]; exact d16_nth N k
      have hyb : y < 65536 := by rw [← hy]; exact d16_nth M k
      have hst := fun s c' (e : x + 65536 * c' = s + y + t) => subD_step (s := s) (c' := c') hOl hv (by rw [hx, hy]; exact e)
      have hy0 : m ≤ k → y = 0 := fun h => by rw [← hy]; exact nth_ge (by rw [hly.out]; exact h)
      obtain ⟨ada, rfl, ca⟩ := hX.out.at hb hlt
      rw [hx] at ca
      have hcb : k < m → ∃ ad, B = some ad ∧ wr.cell? (ad.add k) = some (.int .i64 (y : Int)) := fun h => by rw [← hy]; exact hY.out.at hb h
      replace hcb := Lib.hid hcb
      replace hy0 := Lib.hid hy0
      replace hx := Lib.hid hx
      replace hy := Lib.hid hy
      replace hst := Lib.hid hst
      replace hown := Lib.hid hown
      replace hb := Lib.hid hb
      replace hO := Lib.hid hO
      replace hv := Lib.hid hv
      replace hOl := Lib.hid hOl
      by_cases hlb : k < m
      · obtain ⟨adb, rfl, cb⟩ := hcb.out hlb
        by_cases hneg : x < y + t
        · have n1 : (x : Int) - (t : Int) - (y : Int) < 0 := by omega
          have se : ((x : Int) - (t : Int) - (y : Int) + 65536) = ((x + 65536 - t - y : Nat) : Int) := by omega
          have s0 : 0 ≤ ((x : Int) - (t : Int) - (y : Int) + 65536) := by omega
          have s1 : ((x : Int) - (t : Int) - (y : Int) + 65536) ≤ 65535 := by omega
          have hs1 := hst.out (x + 65536 - t - y) 1 (by omega)
          have hdg := hO.out.snoc (x := x + 65536 - t - y) (by omega)
          replace se := Lib.hid se
          replace hs1 := Lib.hid hs1
          replace hdg := Lib.hid hdg
          go_wp2_with (at_builtin; refine wpList_append_own _ rfl _ _ 28 rfl w.heap.size 3 i0 (.int .i64 0) 1 8 Tryz.underlying28 hi hz0 hz1 hz2 rfl (by decide) _ _ _ rfl (hown.out.alloc _) ⟨wr.heap.size, 0, none⟩ 1 1 [.int .i64 ((x : Int) - (t : Int) - (y : Int) + 65536)] rfl rfl ?c1 ?c2 ?c3 ?c4 ?c5 ?_)
          case c1 => exact cell_one_new _ _ _
          case c2 => intro u hu; simp only [List.mem_cons, List.not_mem_nil, or_false] at hu; subst hu; rfl
          case c3 => unfold maxLen; omega
          case c4 => omega
          case c5 => simp; omega
          intro v' w1 hown' hgrow _
          obtain ⟨p', cc', rfl, hown2⟩ := own_snoc se.out hown'
          replace hown2 := Lib.hid hown2
          replace hgrow := Lib.hid hgrow
          clear hown'
          go_wp2
          go_roundw
          case rel =>
            exact ⟨k + 1, 1, p', cc', O ++ [x + 65536 - t - y], by omega, by go_num, rfl, by omega, rfl, (hb.out.alloc hbs _).grown hgrow.out (by simp; omega) (fun g hg => (hown.out.lt g hg).1), hown2.out, hdg.out, hs1.out⟩
          case measure => simp [intOf]; omega
        · have n1 : 0 ≤ (x : Int) - (t : Int) - (y : Int) := by omega
          have se : ((x : Int) - (t : Int) - (y : Int)) = ((x - t - y : Nat) : Int) := by omega
          have s0 : 0 ≤ ((x : Int) - (t : Int) - (y : Int)) := by omega
          have s1 : ((x : Int) - (t : Int) - (y : Int)) ≤ 65535 := by omega
          have hs1 := hst.out (x - t - y) 0 (by omega)
          have hdg := hO.out.snoc (x := x - t - y) (by omega)
          replace se := Lib.hid se
          replace hs1 := Lib.hid hs1
          replace hdg := Lib.hid hdg
          go_wp2_with (at_builtin; refine wpList_append_own _ rfl _ _ 28 rfl w.heap.size 3 i0 (.int .i64 0) 1 8 Tryz.underlying28 hi hz0 hz1 hz2 rfl (by decide) _ _ _ rfl (hown.out.alloc _) ⟨wr.heap.size, 0, none⟩ 1 1 [.int .i64 ((x : Int) - (t : Int) - (y : Int))] rfl rfl ?c1 ?c2 ?c3 ?c4 ?c5 ?_)
          case c1 => exact cell_one_new _ _ _
          case c2 => intro u hu; simp only [List.mem_cons, List.not_mem_nil, or_false] at hu; subst hu; rfl
          case c3 => unfold maxLen; omega
          case c4 => omega
          case c5 => simp; omega
          intro v' w1 hown' hgrow _
          obtain ⟨p', cc', rfl, hown2⟩ := own_snoc se.out hown'
          replace hown2 := Lib.hid hown2
          replace hgrow := Lib.hid hgrow
          clear hown'
          go_wp2
          go_roundw
          case rel =>
            exact ⟨k + 1, 0, p', cc', O ++ [x - t - y], by omega, by go_num, rfl, by omega, rfl, (hb.out.alloc hbs _).grown hgrow.out (by simp; omega) (fun g hg => (hown.out.lt g hg).1), hown2.out, hdg.out, hs1.out⟩
          case measure => simp [intOf]; omega
      · have y0 := hy0.out (by omega)
        by_cases hneg : x < t
        · have n1 : (x : Int) - (t : Int) < 0 := by omega
          have se : ((x : Int) - (t : Int) + 65536) = ((x + 65536 - t : Nat) : Int) := by omega
          have s0 : 0 ≤ ((x : Int) - (t : Int) + 65536) := by omega
          have s1 : ((x : Int) - (t : Int) + 65536) ≤ 65535 := by omega
          have hs1 := hst.out (x + 65536 - t) 1 (by omega)
          have hdg := hO.out.snoc (x := x + 65536 - t) (by omega)
          replace se := Lib.hid se
          replace hs1 := Lib.hid hs1
          replace hdg := Lib.hid hdg
          go_wp2_with (at_builtin; refine wpList_append_own _ rfl _ _ 28 rfl w.heap.size 3 i0 (.int .i64 0) 1 8 Tryz.underlying28 hi hz0 hz1 hz2 rfl (by decide) _ _ _ rfl (hown.out.alloc _) ⟨wr.heap.size, 0, none⟩ 1 1 [.int .i64 ((x : Int) - (t : Int) + 65536)] rfl rfl ?c1 ?c2 ?c3 ?c4 ?c5 ?_)
          case c1 => exact cell_one_new _ _ _
          case c2 => intro u hu; simp only [List.mem_cons, List.not_mem_nil, or_false] at hu; subst hu; rfl
          case c3 => unfold maxLen; omega
          case c4 => omega
          case c5 => simp; omega
          intro v' w1 hown' hgrow _
          obtain ⟨p', cc', rfl, hown2⟩ := own_snoc se.out hown'
          replace hown2 := Lib.hid hown2
          replace hgrow := Lib.hid hgrow
          clear hown'
          go_wp2
          go_roundw
          case rel =>
            exact ⟨k + 1, 1, p', cc', O ++ [x + 65536 - t], by omega, by go_num, rfl, by omega, rfl, (hb.out.alloc hbs _).grown hgrow.out (by simp; omega) (fun g hg => (hown.out.lt g hg).1), hown2.out, hdg.out, hs1.out⟩
          case measure => simp [intOf]; omega
        · have n1 : 0 ≤ (x : Int) - (t : Int) := by omega
          have se : ((x : Int) - (t : Int)) = ((x - t : Nat) : Int) := by omega
          have s0 : 0 ≤ ((x : Int) - (t : Int)) := by omega
          have s1 : ((x : Int) - (t : Int)) ≤ 65535 := by omega
          have hs1 := hst.out (x - t) 0 (by omega)
          have hdg := hO.out.snoc (x := x - t) (by omega)
          replace se := Lib.hid se
          replace hs1 := Lib.hid hs1
          replace hdg := Lib.hid hdg
          go_wp2_with (at_builtin; refine wpList_append_own _ rfl _ _ 28 rfl w.heap.size 3 i0 (.int .i64 0) 1 8 Tryz.underlying28 hi hz0 hz1 hz2 rfl (by decide) _ _ _ rfl (hown.out.alloc _) ⟨wr.heap.size, 0, none⟩ 1 1 [.int .i64 ((x : Int) - (t : Int))] rfl rfl ?c1 ?c2 ?c3 ?c4 ?c5 ?_)
          case c1 => exact cell_one_new _ _ _
          case c2 => intro u hu; simp only [List.mem_cons, List.not_mem_nil, or_false] at hu; subst hu; rfl
          case c3 => unfold maxLen; omega
          case c4 => omega
          case c5 => simp; omega
          intro v' w1 hown' hgrow _
          obtain ⟨p', cc', rfl, hown2⟩ := own_snoc se.out hown'
          replace hown2 := Lib.hid hown2
          replace hgrow := Lib.hid hgrow
          clear hown'
          go_wp2
          go_roundw
          case rel =>
            exact ⟨k + 1, 0, p', cc', O ++ [x - t], by omega, by go_num, rfl, by omega, rfl, (hb.out.alloc hbs _).grown hgrow.out (by simp; omega) (fun g hg => (hown.out.lt g hg).1), hown2.out, hdg.out, hs1.out⟩
          case measure => simp [intOf]; omega
    · obtain rfl : k = l := by omega
      have hend := subD_end (a := d16 N) (b := d16 M) (by rw [hOl, hlx.out]) (by rw [hly.out, hlx.out]; exact hml) hO (by rw [hlx.out]; exact hv) (by rw [d16_val, d16_val]; exact hle.out)
      rw [d16_val, d16_val] at hend
      have k1 := trimOwn hb hown hO hend
      replace k1 := Lib.hid k1
      clear hO hv hOl hb hown hend
      go_wp2_with fail
      with_reducible refine k1.out.mono ?_
      rintro E w' ⟨hw, q, rfl, hr⟩
      obtain rfl := hw
      go_wp2
      go_ret
      exact ⟨p, q, cc, rfl, hr⟩

set_option maxRecDepth 20000 in
set_option maxHeartbeats 2000000 in
theorem cmpD_c (w : World) (A B : Option Addr) (l c m d N M : Nat) (hX : RdD w A l c (d16 N)) (hY : RdD w B m d (d16 M)) :
    Calls Tryz.prog 49 #[.slice A l c, .slice B m d] w fun e w' => e = .returned (.int .i64 (ord3 N M)) ∧ ∃ n, w' = w.drewN n := by
  have hlx := hX.len
  have hly := hY.len
  have hc1 := hX.cap
  have hc2 := hX.max
  have hc3 := hY.cap
  have hc4 := hY.max
  have o1 : N < M → ord3 N M = -1 := fun h => by unfold ord3; rw [if_pos h]
  have o2 : M < N → ord3 N M = 1 := fun h => by unfold ord3; rw [if_neg (by omega), if_pos h]
  have o0 : N = M → ord3 N M = 0 := fun h => by unfold ord3; rw [if_neg (by omega), if_neg (by omega)]
  have d1 : l < m → N < M := fun h => d16_len_lt (by rw [hlx, hly]; exact h)
  have d2 : m < l → M < N := fun h => d16_len_lt (by rw [hlx, hly]; exact h)
  generalize ord3 N M = R at *
  replace hX := Lib.hid hX
  replace hY := Lib.hid hY
  replace hlx := Lib.hid hlx
  replace hly := Lib.hid hly
  replace o1 := Lib.hid o1
  replace o2 := Lib.hid o2
  replace o0 := Lib.hid o0
  replace d1 := Lib.hid d1
  replace d2 := Lib.hid d2
  go_enter Tryz.func49, Tryz.ntmps49
  rcases (by omega : l < m ∨ m < l ∨ l = m) with h | h | h
  · have hR := o1.out (d1.out h)
    replace hR := Lib.hid hR
    go_wp2
    go_ret
    exact ⟨ret_i hR.out.symm, 0, rfl⟩
  · have hR := o2.out (d2.out h)
    replace hR := Lib.hid hR
    go_wp2
    go_ret
    exact ⟨ret_i hR.out.symm, 0, rfl⟩
  · subst h
    clear d1 d2
    go_wp2
    go_loopw [5] (fun i wr => ∃ (k nn : Nat), k ≤ l ∧ i = .int .i64 ((k : Int) - 1) ∧ (∀ j, k ≤ j → j < l → nth (d16 N) j = nth (d16 M) j) ∧ wr = w.drewN nn) (fun i _ => (intOf i + 1).toNat)
    case atStart => exact ⟨l, 0, Nat.le_refl _, rfl, (fun j h1 h2 => by omega), rfl⟩
    case round =>
      obtain ⟨k, nn, hk, rfl, hz, rfl⟩ := hrel
      by_cases hk0 : k = 0
      · subst hk0
        have hR := o0.out (d16_inj (digD_eq (by rw [hlx.out, hly.out]) (fun j hj => hz j (Nat.zero_le _) (by rw [hlx.out] at hj; exact hj))))
        replace hR := Lib.hid hR
        replace hz := Lib.hid hz
        go_wp2
        go_ret
        exact ⟨ret_i hR.out.symm, nn, rfl⟩
      · obtain ⟨j, rfl⟩ : ∃ j, k = j + 1 := ⟨k - 1, by omega⟩
        have hj : ((j + 1 : Nat) : Int) - 1 = (j : Int) := by omega
        rw [hj]
        clear hj
        have hjl : j < l := by omega
        obtain ⟨ada, rfl, ca⟩ := hX.out.at (Below.drwN (Below.refl _ w) nn) hjl
        obtain ⟨adb, rfl, cb⟩ := hY.out.at (Below.drwN (Below.refl _ w) nn) hjl
        have ca : w.cell? (ada.add j) = some (.int .i64 (nth (d16 N) j : Int)) := ca
        have cb : w.cell? (adb.add j) = some (.int .i64 (nth (d16 M) j : Int)) := cb
        have hlt := fun h => digD_lt (a := d16 N) (b := d16 M) (k := j) (d16_dg N) (by rw [hlx.out, hly.out]) (by rw [hlx.out]; exact hjl) (fun i h1 h2 => hz i (by omega) (by rw [hlx.out] at h2; exact h2)) h
        have hgt := fun h => digD_lt (a := d16 M) (b := d16 N) (k := j) (d16_dg M) (by rw [hlx.out, hly.out]) (by rw [hly.out]; exact hjl) (fun i h1 h2 => (hz i (by omega) (by rw [hly.out] at h2; exact h2)).symm) h
        rw [d16_val, d16_val] at hlt hgt
        have hze : nth (d16 N) j = nth (d16 M) j → ∀ i, j ≤ i → i < l → nth (d16 N) i = nth (d16 M) i := fun e i h1 h2 => by
          by_cases e1 : i = j
          · subst e1; exact e
          · exact hz i (by omega) h2
        have hx : ∃ x, nth (d16 N) j = x := ⟨_, rfl⟩
        have hy : ∃ y, nth (d16 M) j = y := ⟨_, rfl⟩
        obtain ⟨x, hx⟩ := hx
        obtain ⟨y, hy⟩ := hy
        rw [hx, hy] at hlt hgt hze
        rw [hx] at ca
        rw [hy] at cb
        replace hx := Lib.hid hx
        replace hy := Lib.hid hy
        replace hlt := Lib.hid hlt
        replace hgt := Lib.hid hgt
        replace hze := Lib.hid hze
        replace hz := Lib.hid hz
        rcases (by omega : x < y ∨ y < x ∨ x = y) with h | h | h
        · have hR := o1.out (hlt.out h)
          have e0 : decide (x < y) = true := by simpa using h
          replace hR := Lib.hid hR
          go_wp2_with fail
          go_quiet (fail)
          go_wp2
          go_ret
          exact ⟨ret_i hR.out.symm, _, drewN_two _ _ _⟩
        · have hR := o2.out (hgt.out h)
          have e0 : decide (x < y) = false := by simp; omega
          have e1 : decide (y < x) = true := by simpa using h
          replace hR := Lib.hid hR
          go_wp2_with fail
          go_quiet (fail)
          go_wp2_with fail
          go_quiet (fail)
          go_wp2
          go_ret
          exact ⟨ret_i hR.out.symm, _, drewN_three _ _ _ _⟩
        · subst h
          have e0 : decide (x < x) = false := by simp
          have hz2 := hze.out rfl
          replace hz2 := Lib.hid hz2
          go_wp2_with fail
          go_quiet (fail)
          go_wp2_with fail
          go_quiet (fail)
          go_wp2
          go_roundw
          case rel => exact ⟨j, _, by omega, by go_num, hz2.out, rfl⟩
          case measure => simp [intOf]
end Go.Proofs.YtcoljeafgiemkaaGreatDoor

namespace Go.Proofs.YtcoljeafgiemkaaGreatDoor
open Go Go.RowKit

theorem arrD_zero (w : World) (c : Nat) : ArrD (w.alloc (zeroI c)) w.heap.size (List.replicate c 0) := ⟨allocB _ _, DgB.zeros (by decide) c⟩
theorem run_makeI (w : World) {l : Int} {l' : Nat} (hl : l = l') (hcap : l' ≤ 100000000) :
    (Instr.makeSlice 28 (.int .i64 l) (.int .i64 l)).run Tryz.prog w = .ok (.slice (some ⟨w.heap.size, 0, none⟩) l' l') (w.alloc (zeroI l')) := by
  have h := makeI
  cases hi : Tryz.prog.info? 3 with
  | none => rw [hi] at h; cases h
  | some i =>
    rw [hi] at h
    simp only [Option.map_some, Option.some.injEq, Prod.mk.injEq] at h
    obtain ⟨h1, h2, h3⟩ := h
    subst hl
    rw [run_make (P := Tryz.prog) w 28 3 i (.int .i64 0) Tryz.underlying28 hi h1 .i64 .i64 l' l' (by omega) (by omega) (by rw [h3]; omega) (by omega)]
    simp only [Int.toNat_natCast]
    have e : madeCells (Value.int .i64 0).cells (l' * i.size) = ((List.replicate l' 0).map sw).toArray := by
      rw [h2, Nat.mul_one]
      unfold madeCells
      apply Array.ext
      · simp
      · intro j h1 h2
        simp [Value.cells, sw]
        have : j % 1 = 0 := Nat.mod_one j
        simp [Nat.mod_one]
    unfold zeroI
    rw [e]
/-- A block that is handed back is trimmed. -/
theorem trimArr {w wr : World} {b n N : Nat} {D : List Nat} (hb : Below w.heap.size w wr) (h : ArrD wr b D) (hg : w.heap.size ≤ b) (hn : D.length = n) (hm : n ≤ 100000000) (hv : vB 65536 D = N) :
    Calls Tryz.prog 45 #[.slice (some ⟨b, 0, none⟩) n n] wr fun e w' => wr = w' ∧ ∃ m, e = .returned (.slice (some ⟨b, 0, none⟩) m n) ∧ DRes w wr (some ⟨b, 0, none⟩) m n N := by
  subst hv
  exact (trim_c wr _ n n D (h.rd hn hm)).mono fun e w' ⟨hw, m, he, hr⟩ => ⟨hw, m, he, hr, fun ad ha => by cases ha; exact hg, hb⟩

set_option maxRecDepth 20000 in
set_option maxHeartbeats 4000000 in
theorem mulD_c (w : World) (A B : Option Addr) (l c m d N M : Nat) (hX : RdD w A l c (d16 N)) (hY : RdD w B m d (d16 M)) (hl : l ≤ 1000000) (hm : m ≤ 1000000) :
    Calls Tryz.prog 15 #[.slice A l c, .slice B m d] w fun e w' => ∃ p n cc, e = .returned (.slice p n cc) ∧ DRes w w' p n cc (N * M) := by
  have hlx := hX.len
  have hly := hY.len
  have hmk := fun w => run_makeI w (l := (l : Int) + (m : Int)) (l' := l + m) (by omega) (by omega)
  have haz := arrD_zero w (l + m)
  obtain ⟨g, hge⟩ : ∃ g, w.heap.size = g := ⟨_, rfl⟩
  have hgw : w.heap.size ≤ g := Nat.le_of_eq hge
  replace hge := Lib.hid hge
  replace haz := Lib.hid haz
  replace hX := Lib.hid hX
  replace hY := Lib.hid hY
  replace hlx := Lib.hid hlx
  replace hly := Lib.hid hly
  go_enter Tryz.func15, Tryz.ntmps15
  go_wp2
  rw [hge.out]
  clear hmk
  go_loopw [19] (fun i wr => ∃ (k : Nat) (O : List Nat), k ≤ l ∧ i = .int .i64 k ∧ Below w.heap.size w wr ∧ ArrD wr g O ∧ O.length = l + m ∧ vB 65536 O = vB 65536 ((d16 N).take k) * M ∧ (∀ j, k + m ≤ j → nth O j = 0)) (fun i _ => l - (intOf i).toNat)
  case atStart =>
    refine ⟨0, List.replicate (l + m) 0, Nat.zero_le _, rfl, (Below.refl _ _).alloc (Nat.le_refl _) _, ?_, by simp, by rw [vB_zeros]; simp, fun j _ => nth_zeros _ _⟩
    have := haz.out
    rw [hge.out] at this
    exact this
  case round =>
    obtain ⟨k, O, hk, rfl, hb, hO, hOl, hv, hz⟩ := hrel
    by_cases hlt : k < l
    · obtain ⟨x, hx⟩ : ∃ x, nth (d16 N) k = x := ⟨_, rfl⟩
      have hxb : x < 65536 := by rw [← hx]; exact d16_nth N k
      obtain ⟨ada, rfl, ca⟩ := hX.out.at hb hlt
      rw [hx] at ca
      replace hx := Lib.hid hx
      replace hb := Lib.hid hb
      replace hO := Lib.hid hO
      replace hOl := Lib.hid hOl
      replace hv := Lib.hid hv
      replace hz := Lib.hid hz
      go_wp2
      go_loopw [8, 26] (fun cy i wi => ∃ (q t : Nat) (P : List Nat), q ≤ m ∧ i = .int .i64 q ∧ cy = .int .i64 t ∧ t < 65536 ∧ Below w.heap.size w wi ∧ ArrD wi g P ∧ P.length = l + m ∧ vB 65536 P + 65536 ^ (k + q) * t = vB 65536 ((d16 N).take k) * M + 65536 ^ k * (x * vB 65536 ((d16 M).take q)) ∧ (∀ j, k + m ≤ j → nth P j = 0)) (fun _ i _ => m - (intOf i).toNat)
      case atStart => exact ⟨0, 0, O, Nat.zero_le _, rfl, rfl, by omega, hb.out, hO.out, hOl.out, by rw [hv.out]; simp, hz.out⟩
      case round =>
        obtain ⟨q, t, P, hq, rfl, rfl, ht, hb2, hP, hPl, hv2, hz2⟩ := hrel
        clear hb hO hOl hv hz ca
        by_cases hlq : q < m
        · obtain ⟨y, hy⟩ : ∃ y, nth (d16 M) q = y := ⟨_, rfl⟩
          obtain ⟨z, hz⟩ : ∃ z, nth P (k + q) = z := ⟨_, rfl⟩
          have hyb : y < 65536 := by rw [← hy]; exact d16_nth M q
          have hzb : z < 65536 := by rw [← hz]; exact hP.dg.nth (by decide) _
          obtain ⟨adb, rfl, cb⟩ := hY.out.at hb2 hlq
          rw [hy] at cb
          have cz := hP.cell (i := k + q) (by omega)
          rw [hz] at cz
          have fz := hP.frozen (k + q)
          have hst := mulD_step (b := d16 M) (O := P) (i := k) (k := q) (c := t) (x := x) (by omega) hv2
          rw [hz, hy] at hst
          obtain ⟨b1, b2, b3⟩ := mulD_bd ht hzb hxb hyb
          have hpe : (x : Int) * (y : Int) = ((x * y : Nat) : Int) := by simp
          generalize x * y = pr at hpe hst b1 b2 b3
          have hset : ∀ s : Int, s = (((t + (z + pr)) % 65536 : Nat) : Int) → ArrD (wr.setCell ⟨g, k + q, none⟩ (.int .i64 s)) g (P.set (k + q) ((t + (z + pr)) % 65536)) := fun s hs => hP.set (k + q) hs (Nat.mod_lt _ (by decide))
          have hz3 : ∀ j, k + m ≤ j → nth (P.set (k + q) ((t + (z + pr)) % 65536)) j = 0 := fun j hj => by rw [setD_ne (by omega)]; exact hz2 j hj
          have hPl3 : (P.set (k + q) ((t + (z + pr)) % 65536)).length = l + m := by rw [List.length_set]; exact hPl
          replace hset := Lib.hid hset
          replace hz3 := Lib.hid hz3
          replace hPl3 := Lib.hid hPl3
          replace hst := Lib.hid hst
          replace hz := Lib.hid hz
          replace hy := Lib.hid hy
          replace hb2 := Lib.hid hb2
          replace b1 := Lib.hid b1
          clear hP hPl hv2 hz2
          go_wp2
          go_roundw
          case rel =>
            refine ⟨q + 1, (t + (z + pr)) / 65536, _, by omega, by go_num, by go_num, b1.out, hb2.out.setCell hgw _, hset.out _ (by omega), hPl3.out, hst.out, hz3.out⟩
          case measure => simp [intOf]; omega
        · obtain rfl : q = m := by omega
          have hend := mulD_end (a := d16 N) (b := d16 M) (O := P) (i := k) (c := t) (by rw [hly.out]; omega) (by rw [hly.out]; exact hz2 _ (Nat.le_refl _)) (by rw [hly.out, hx.out, d16_val]; exact hv2)
          rw [hly.out, d16_val] at hend
          have fz := hP.frozen (k + q)
          have cz := hP.cell (i := k + q) (by omega)
          have hset := hP.set (k + q) (s := (t : Int)) rfl ht
          have hz3 : ∀ j, k + 1 + q ≤ j → nth (P.set (k + q) t) j = 0 := fun j hj => by rw [setD_ne (by omega)]; exact hz2 j (by omega)
          have hPl3 : (P.set (k + q) t).length = l + q := by rw [List.length_set]; exact hPl
          replace hset := Lib.hid hset
          replace hz3 := Lib.hid hz3
          replace hPl3 := Lib.hid hPl3
          replace hend := Lib.hid hend
          replace hb2 := Lib.hid hb2
          clear hP hPl hv2 hz2
          go_wp2
          go_roundw
          case rel => exact ⟨k + 1, _, by omega, by go_num, hb2.out.setCell hgw _, hset.out, hPl3.out, hend.out, hz3.out⟩
          case measure => simp [intOf]; omega
    · obtain rfl : k = l := by omega
      have k1 := trimArr hb hO hgw hOl (by omega) (N := N * M) (by rw [hv, vB_take_all (by rw [hlx.out]; exact Nat.le_refl _), d16_val])
      replace k1 := Lib.hid k1
      clear hb hO hOl hv hz
      go_wp2_with fail
      with_reducible refine k1.out.mono ?_
      rintro E w' ⟨hw, q, rfl, hr⟩
      obtain rfl := hw
      go_wp2
      go_ret
      exact ⟨_, q, _, rfl, hr⟩

set_option maxRecDepth 20000 in
set_option maxHeartbeats 4000000 in
theorem byD_c (w : World) (A : Option Addr) (l c N d : Nat) (hX : RdD w A l c (d16 N)) (hl : l ≤ 1000000) (hd : 0 < d) (hd2 : d < 65536) :
    Calls Tryz.prog 47 #[.slice A l c, .int .i64 (d : Int)] w fun e w' => ∃ p n cc, e = .returned (.tuple #[.slice p n cc, .int .i64 ((N % d : Nat) : Int)]) ∧ DRes w w' p n cc (N / d) := by
  have hlx := hX.len
  have hmk := fun w => run_makeI w (l := (l : Int)) (l' := l) rfl (by omega)
  have haz := arrD_zero w l
  obtain ⟨g, hge⟩ : ∃ g, w.heap.size = g := ⟨_, rfl⟩
  have hgw : w.heap.size ≤ g := Nat.le_of_eq hge
  have hdne : ((d : Int) == 0) = false := by simp; omega
  replace hge := Lib.hid hge
  replace haz := Lib.hid haz
  replace hX := Lib.hid hX
  replace hlx := Lib.hid hlx
  go_enter Tryz.func47, Tryz.ntmps47
  go_wp2
  rw [hge.out]
  clear hmk
  go_loopw [7, 8] (fun rs i wr => ∃ (k r : Nat) (O : List Nat), k ≤ l ∧ i = .int .i64 ((k : Int) - 1) ∧ rs = .int .i64 (r : Int) ∧ r < d ∧ Below w.heap.size w wr ∧ ArrD wr g O ∧ O.length = l ∧ vB 65536 (O.drop k) * d + r = vB 65536 ((d16 N).drop k)) (fun _ i _ => (intOf i + 1).toNat)
  case atStart =>
    refine ⟨l, 0, List.replicate l 0, Nat.le_refl _, rfl, rfl, hd, (Below.refl _ _).alloc (Nat.le_refl _) _, ?_, by simp, ?_⟩
    · have := haz.out
      rw [hge.out] at this
      exact this
    · rw [List.drop_eq_nil_of_le (by simp), List.drop_eq_nil_of_le (by rw [hlx.out]; exact Nat.le_refl _)]; simp
  case round =>
    obtain ⟨k, r, O, hk, rfl, rfl, hr, hb, hO, hOl, hv⟩ := hrel
    by_cases hk0 : k = 0
    · subst hk0
      rw [List.drop_zero, List.drop_zero, d16_val] at hv
      obtain ⟨e1, e2⟩ := divD_end hr hv
      have k1 := trimArr hb hO hgw hOl (by omega) e1
      replace k1 := Lib.hid k1
      subst e2
      clear hb hO hOl hv e1
      go_wp2_with fail
      with_reducible refine k1.out.mono ?_
      rintro E w' ⟨hw, q, rfl, hr⟩
      obtain rfl := hw
      go_wp2
      go_ret2
      exact ⟨_, q, _, rfl, hr⟩
    · obtain ⟨j, rfl⟩ : ∃ j, k = j + 1 := ⟨k - 1, by omega⟩
      have hj : ((j + 1 : Nat) : Int) - 1 = (j : Int) := by omega
      rw [hj]
      clear hj
      obtain ⟨x, hx⟩ : ∃ x, nth (d16 N) j = x := ⟨_, rfl⟩
      have hxb : x < 65536 := by rw [← hx]; exact d16_nth N j
      obtain ⟨ada, rfl, ca⟩ := hX.out.at hb (k := j) (by omega)
      rw [hx] at ca
      obtain ⟨b1, b2, b3⟩ := divD_step (D := d16 N) (O := O) (i := j) (d := d) (r := r) (by rw [hOl, hlx.out]) (by rw [hlx.out]; omega) hd hr (by rw [hx]; exact hxb) hv
      rw [hx] at b1 b2 b3
      have cz := hO.cell (i := j) (by omega)
      have fz := hO.frozen j
      have hset : ∀ s : Int, s = (((r * 65536 + x) / d : Nat) : Int) → ArrD (wr.setCell ⟨g, j, none⟩ (.int .i64 s)) g (O.set j ((r * 65536 + x) / d)) := fun s hs => hO.set j hs b1
      have hOl3 : (O.set j ((r * 65536 + x) / d)).length = l := by rw [List.length_set]; exact hOl
      have hv1 : (r : Int) * 65536 + (x : Int) ≤ 4294967295 := by omega
      replace hset := Lib.hid hset
      replace hOl3 := Lib.hid hOl3
      replace hx := Lib.hid hx
      replace hb := Lib.hid hb
      replace b1 := Lib.hid b1
      replace b2 := Lib.hid b2
      replace b3 := Lib.hid b3
      clear hO hOl hv
      go_wp2
      go_roundw
      case rel =>
        exact ⟨j, (r * 65536 + x) % d, _, by omega, rfl, by go_num, b2.out, hb.out.setCell hgw _, hset.out _ (by simp), hOl3.out, b3.out⟩
      case measure => simp [intOf]
end Go.Proofs.YtcoljeafgiemkaaGreatDoor

namespace Go.Proofs.YtcoljeafgiemkaaGreatDoor
open Go Go.RowKit

theorem d16_pos {n : Nat} (h : n ≠ 0) : 0 < (d16 n).length := Nat.pos_of_ne_zero (fun e => h ((dB_eq_nil two16).1 (List.length_eq_zero_iff.1 e)))
end Go.Proofs.YtcoljeafgiemkaaGreatDoor

namespace Go.Proofs.YtcoljeafgiemkaaGreatDoor
open Go Go.RowKit

theorem DRes.early {w w1 w2 : World} {p : Option Addr} {m cc N : Nat} (h : DRes w1 w2 p m cc N) (hb : Below w.heap.size w w1) : DRes w w2 p m cc N := ⟨h.rd, fun ad ha => Nat.le_trans hb.size (h.loc ad ha), hb.trans (h.bel.mono hb.size)⟩
theorem Below.drwS {w : World} (n : Nat) : Below w.heap.size w (w.drewN n) := Below.drwN (Below.refl _ _) n
theorem d16_len_pow (b j : Nat) (h : b < 65536) : (d16 (b ^ j)).length ≤ j + 1 := by
  refine (dB_len_le two16).2 (Nat.lt_of_le_of_lt (Nat.pow_le_pow_left (Nat.le_of_lt h) j) ?_)
  exact Nat.pow_lt_pow_right (by decide) (by omega)
theorem d16_len_small {b : Nat} (h : b < 65536) : (d16 b).length ≤ 1 := (dB_len_le two16).2 (by simpa using h)
set_option maxRecDepth 20000 in
set_option maxHeartbeats 4000000 in
theorem powD_c (w : World) (b n : Nat) (hb : b < 65536) (hn : n ≤ 10000) :
    Calls Tryz.prog 16 #[.int .i64 (b : Int), .int .i64 (n : Int)] w fun e w' => ∃ p m cc, e = .returned (.slice p m cc) ∧ DRes w w' p m cc (b ^ n) := by
  have k1 := smallD_c w 1 (by omega)
  have kb := fun w => smallD_c w b (by omega)
  replace k1 := Lib.hid k1
  replace kb := Lib.hid kb
  go_enter Tryz.func16, Tryz.ntmps16
  go_wp2_with fail
  refine k1.out.mono ?_
  rintro E w1 ⟨p, m, cc, rfl, h1⟩
  replace h1 := Lib.hid h1
  go_wp2
  go_loopw [1, 5] (fun i v wr => ∃ (k : Nat) (p : Option Addr) (m cc : Nat), k ≤ n ∧ i = .int .i64 (k : Int) ∧ v = .slice p m cc ∧ DRes w wr p m cc (b ^ (n - k))) (fun i _ _ => (intOf i).toNat)
  case atStart => exact ⟨n, p, m, cc, Nat.le_refl _, rfl, rfl, h1.out.eq (by rw [Nat.sub_self, Nat.pow_zero])⟩
  case round =>
    obtain ⟨k, p, m, cc, hk, rfl, rfl, hr⟩ := hrel
    clear h1
    by_cases h0 : k = 0
    · subst h0
      rw [Nat.sub_zero] at hr
      replace hr := Lib.hid hr
      go_wp2
      go_ret
      exact ⟨p, m, cc, rfl, hr.out⟩
    · obtain ⟨j, rfl⟩ : ∃ j, k = j + 1 := ⟨k - 1, by omega⟩
      have hj : ((j + 1 : Nat) : Int) = (j : Int) + 1 := by omega
      rw [hj]
      clear hj
      have hml : m ≤ 10001 := by
        have := d16_len_pow b (n - (j + 1)) hb
        rw [hr.rd.len] at this
        omega
      replace hr := Lib.hid hr
      go_wp2_with fail
      with_reducible refine (kb.out _).mono ?_
      rintro E w2 ⟨p2, m2, c2, rfl, h2⟩
      have hm2 : m2 ≤ 1 := by have := d16_len_small hb; rw [h2.rd.len] at this; exact this
      have hr2 := hr.out.later h2.bel
      have km := mulD_c w2 p p2 m cc m2 c2 _ _ hr2.rd h2.rd (by omega) (by omega)
      have hb2 := hr2.bel
      replace km := Lib.hid km
      replace hb2 := Lib.hid hb2
      clear hr2 h2 hr
      go_wp2_with fail
      with_reducible refine km.out.mono ?_
      rintro E w3 ⟨p3, m3, c3, rfl, h3⟩
      have h4 := (h3.early hb2.out).eq (M := b ^ (n - j)) (by rw [show n - j = n - (j + 1) + 1 by omega, Nat.pow_succ])
      replace h4 := Lib.hid h4
      clear h3
      go_wp2
      go_roundw
      case rel => exact ⟨j, p3, m3, c3, by omega, by go_num, rfl, h4.out⟩
      case measure => simp [intOf]
end Go.Proofs.YtcoljeafgiemkaaGreatDoor

namespace Go.Proofs.YtcoljeafgiemkaaGreatDoor
open Go Go.RowKit

theorem by10_c (w : World) (A : Option Addr) (l c N : Nat) (hX : RdD w A l c (d16 N)) (hl : l ≤ 1000000) :
    Calls Tryz.prog 47 #[.slice A l c, .int .i64 10] w fun e w' => ∃ p n cc, e = .returned (.tuple #[.slice p n cc, .int .i64 ((N % 10 : Nat) : Int)]) ∧ DRes w w' p n cc (N / 10) := byD_c w A l c N 10 hX hl (by decide) (by decide)
set_option maxRecDepth 20000 in
set_option maxHeartbeats 4000000 in
theorem digitsD_c (w : World) (A : Option Addr) (l c N : Nat) (hX : RdD w A l c (d16 N)) (hl : l ≤ 100000) :
    Calls Tryz.prog 51 #[.slice A l c] w fun e w' => ∃ s : ByteArray, e = .returned (.string s) ∧ s.size = figs N ∧ Below w.heap.size w w' := by
  have hlx := hX.len
  by_cases h0 : N = 0
  · subst h0
    have hl0 : l = 0 := by rw [← hlx, show d16 0 = [] from dB_zero two16]; rfl
    subst hl0
    clear hX hlx
    go_enter Tryz.func51, Tryz.ntmps51
    go_wp2
    go_ret
    exact ⟨_, rfl, rfl, Below.refl _ _⟩
  · have hp := d16_pos h0
    rw [hlx] at hp
    have e0 : ((l : Int) == 0) = false := by simp; omega
    have hmono : ∀ a, a ≤ N → (d16 a).length ≤ 100000 := fun a h => Nat.le_trans (d16_len_mono h) (by rw [hlx]; exact hl)
    have hF : figs N ≤ 5 * l := by
      refine (figs_le_iff (by omega)).2 (Nat.lt_of_lt_of_le ((dB_len_le two16 (k := l)).1 (by rw [← hlx]; exact Nat.le_refl _)) ?_)
      rw [Nat.pow_mul]
      exact Nat.pow_le_pow_left (by decide) l
    have hF0 : figs N + 0 = figs N := rfl
    generalize hFe : figs N = F at hF ⊢
    replace hX := Lib.hid hX
    replace hlx := Lib.hid hlx
    replace hmono := Lib.hid hmono
    replace hFe := Lib.hid hFe
    clear hF0
    go_enter Tryz.func51, Tryz.ntmps51
    go_wp2
    go_loopw [0, 3] (fun a s wr => ∃ (pa : Option Addr) (la ca Av k : Nat) (b : ByteArray), a = .slice pa la ca ∧ s = .string b ∧ b.size = k ∧ RdD wr pa la ca (d16 Av) ∧ Av ≤ N ∧ Below w.heap.size w wr ∧ (Av ≠ 0 → figs Av + k = F) ∧ (Av = 0 → k = F)) (fun _ s _ => match s with | .string b => F - b.size | _ => 0)
    case atStart => exact ⟨A, l, c, N, 0, _, rfl, rfl, rfl, hX.out, Nat.le_refl _, Below.refl _ _, fun _ => hFe.out, fun h => absurd h h0⟩
    case round =>
      obtain ⟨pa, la, ca, Av, k, b, rfl, rfl, hbk, hr, hAN, hb, hf1, hf2⟩ := hrel
      by_cases hA : Av = 0
      · have hk := hf2 hA
        have hl0 : la = 0 := by have := hr.len; rw [hA, show d16 0 = [] from dB_zero two16] at this; exact this.symm
        subst hl0
        replace hk := Lib.hid hk
        replace hb := Lib.hid hb
        replace hbk := Lib.hid hbk
        clear hr hf1 hf2
        go_wp2
        go_ret
        exact ⟨b, rfl, by rw [hbk.out, hk.out], hb.out⟩
      · have hf := hf1 hA
        have hfp := figs_pos Av
        have hstep1 : Av / 10 ≠ 0 → figs (Av / 10) + (k + 1) = F := fun h => by have := figs_step (n := Av) (by omega); omega
        have hstep0 : Av / 10 = 0 → k + 1 = F := fun h => by have := figs_small (n := Av) (by omega); omega
        have hkF : k + 1 ≤ F := by omega
        replace hstep1 := Lib.hid hstep1
        replace hstep0 := Lib.hid hstep0
        clear hfp
        have hla := d16_pos hA
        rw [hr.len] at hla
        have hlb : la ≤ 100000 := by have := hmono.out Av hAN; rw [hr.len] at this; exact this
        have kb := by10_c wr pa la ca Av hr (by omega)
        have hrl := Nat.mod_lt Av (show 0 < 10 by decide)
        have hlen2 : (d16 (Av / 10)).length ≤ la := by have := d16_len_mono (Nat.div_le_self Av 10); rw [hr.len] at this; exact this
        generalize hr10 : Av % 10 = r at kb hrl
        replace kb := Lib.hid kb
        replace hf := Lib.hid hf
        replace hb := Lib.hid hb
        replace hr10 := Lib.hid hr10
        clear hr hf1 hf2
        go_wp2_with fail
        with_reducible refine kb.out.mono ?_
        rintro E w1 ⟨p2, l2, c2, rfl, h2⟩
        have hb2 := h2.bel
        replace h2 := Lib.hid h2
        replace hb2 := Lib.hid hb2
        replace hbk := Lib.hid hbk
        have hcv := run_convert_bytes_arg (P := Tryz.prog) (w1.alloc (.cells #[.int .u8 (48 + (r : Int))] 5 (0, 0))) 121 5 Tryz.underlying121 Tryz.underlying5 w1.heap.size 0 1 1 [48 + (r : Int)] (by simp) (by
          intro j hj
          obtain rfl : j = 0 := by omega
          exact cellB (allocB _ _) rfl) 9 Tryz.underlying9
        have hts : (strOfNums [48 + (r : Int)]).size = 1 := by rw [strOfNums_size]; rfl
        generalize strOfNums [48 + (r : Int)] = t at hcv hts
        have hwb : Below w1.heap.size w1 (w1.alloc (.cells #[.int .u8 (48 + (r : Int))] 5 (0, 0))) := (Below.refl _ _).alloc (Nat.le_refl _) _
        have hng : ¬ 9223372036854775807 < t.size + b.size := by rw [hts, hbk.out]; omega
        have hsz : (t ++ b).size = k + 1 := by rw [ByteArray.size_append, hts, hbk.out]; omega
        replace hsz := Lib.hid hsz
        replace hts := Lib.hid hts
        replace hwb := Lib.hid hwb
        go_wp2
        go_roundw
        case rel =>
          exact ⟨p2, l2, c2, Av / 10, k + 1, t ++ b, rfl, rfl, hsz.out, h2.out.rd.below hwb.out, by omega, brise (brise hb.out hb2.out) hwb.out, hstep1.out, hstep0.out⟩
        case measure =>
          have k1 := hsz.out
          have k2 := hbk.out
          show F - (t ++ b).size < F - b.size
          omega
theorem figuresD_c (w : World) (A : Option Addr) (l c N : Nat) (hX : RdD w A l c (d16 N)) (hl : l ≤ 100000) :
    Calls Tryz.prog 18 #[.slice A l c] w fun e w' => e = .returned (.int .i64 (figs N : Int)) ∧ Below w.heap.size w w' := by
  have kd := digitsD_c w A l c N hX hl
  generalize figs N = F at kd ⊢
  replace kd := Lib.hid kd
  clear hX
  go_enter Tryz.func18, Tryz.ntmps18
  go_wp2_with fail
  with_reducible refine kd.out.mono ?_
  rintro E w1 ⟨s, rfl, hs, hb⟩
  replace hb := Lib.hid hb
  replace hs := Lib.hid hs
  go_wp2
  go_ret
  exact ⟨ret_i (by rw [hs.out]), hb.out⟩

end Go.Proofs.YtcoljeafgiemkaaGreatDoor

namespace Go.Proofs.YtcoljeafgiemkaaGreatDoor
open Go Go.RowKit

theorem pow10_c (w : World) (n : Nat) (hn : n ≤ 10000) :
    Calls Tryz.prog 16 #[.int .i64 10, .int .i64 (n : Int)] w fun e w' => ∃ p m cc, e = .returned (.slice p m cc) ∧ DRes w w' p m cc (10 ^ n) := powD_c w 10 n (by decide) hn
theorem bundrew {w w' : World} (h : Below w.drew.heap.size w.drew w') : Below w.heap.size w w' := ⟨h.os, h.tape, h.output, h.size, h.block⟩
end Go.Proofs.YtcoljeafgiemkaaGreatDoor

namespace Go.Proofs.YtcoljeafgiemkaaGreatDoor
open Go Go.RowKit

theorem bbox {w W w9 w10 : World} {box : Nat} (hB : Below w.heap.size w W) (h9 : Below W.heap.size W w9) (hc : Chg w9 w10 (fun k => k = box)) (hb : w.heap.size ≤ box) : Below w.heap.size w w10 := by
  have h1 := (Below.chg (brise hB h9)).trans (hc.mono (fun k _ e => .inr (by omega)))
  exact ⟨h1.os, h1.tape, h1.output, h1.size, fun k hk => h1.block k hk (fun h => h)⟩
theorem DRes.chgBox {w W w9 w10 : World} {q : Option Addr} {a b R box : Nat} (h : DRes W w9 q a b R) (hB : Below w.heap.size w W) (hc : Chg w9 w10 (fun k => k = box)) (hb : w.heap.size ≤ box) (hb2 : box < W.heap.size) : DRes w w10 q a b R :=
  h.chg (Below.chg hB) hc (fun j hj => ⟨by omega, .inl (by omega)⟩)
end Go.Proofs.YtcoljeafgiemkaaGreatDoor

namespace Go.Proofs.YtcoljeafgiemkaaGreatDoor
open Go Go.RowKit

set_option maxRecDepth 20000 in
set_option maxHeartbeats 4000000 in
theorem wideV_c (w : World) (n : Bool) (p : Option Addr) (l c : Nat) (e : Int) (N : Nat) (ex : Int) (j : Nat) (hX : RdD w p l c (d16 N)) (hl : l ≤ 1000000) (hj : e - ex = (j : Int)) (hj2 : j ≤ 10000) (_he : -1000000 ≤ e ∧ e ≤ 1000000) :
    Calls Tryz.prog 69 #[.agg #[.bool n, .slice p l c, .int .i64 e], .int .i64 ex] w fun E w' => ∃ q a b, E = .returned (.slice q a b) ∧ DRes w w' q a b (N * 10 ^ j) := by
  have hj3 : IntKind.i64.wrap (e - ex) = (j : Int) := by rw [hj]; exact IntWalk.i64_in _ (by omega)
  have hj4 : IntKind.i64.wrap (j : Int) = (j : Int) := IntWalk.i64_in _ (by omega)
  have kp := fun w => pow10_c w j hj2
  have hpl := d16_len_pow 10 j (by decide)
  replace hX := Lib.hid hX
  replace kp := Lib.hid kp
  replace hpl := Lib.hid hpl
  go_enter Tryz.func69, Tryz.ntmps69
  go_upto_region 1 with (fail)
  have hB0 : Below w.heap.size w (w.alloc (.cells #[.bool n, .slice p l c, .int .i64 e] 30 (0, 0))) := (Below.refl _ _).alloc (Nat.le_refl _) _
  have hV0 : (w.alloc (.cells #[.bool n, .slice p l c, .int .i64 e] 30 (0, 0))).heap[w.heap.size]? = some (.cells #[.bool n, .slice p l c, .int .i64 e] 30 (0, 0)) := allocB _ _
  generalize w.alloc (.cells #[.bool n, .slice p l c, .int .i64 e] 30 (0, 0)) = W at hB0 hV0 ⊢
  have hS0 : W.drew.cell? ⟨w.heap.size, 1, none⟩ = some (.slice p l c) ∧ W.drew.cell? ⟨w.heap.size, 2, none⟩ = some (.int .i64 e) := ⟨cellB hV0 rfl, cellB hV0 rfl⟩
  replace hB0 := Lib.hid hB0
  replace hV0 := Lib.hid hV0
  go_region_held3 (fun w' => w'.cell? ⟨w.heap.size, 1, none⟩ = some (.slice p l c) ∧ w'.cell? ⟨w.heap.size, 2, none⟩ = some (.int .i64 e)) (first | exact hS0 | exact hS1 | exact hS2) (first
    | (go_at_call 16
       with_reducible refine (kp.out _).mono ?_
       rintro E w1 ⟨q1, a1, b1, rfl, h1⟩
       have hb1 := bundrew h1.bel
       have hV1 := bkeep hb1 hV0.out
       have hS1 : w1.cell? ⟨w.heap.size, 1, none⟩ = some (.slice p l c) ∧ w1.cell? ⟨w.heap.size, 2, none⟩ = some (.int .i64 e) := ⟨cellB hV1 rfl, cellB hV1 rfl⟩
       have km := mulD_c w1 p q1 l c a1 b1 N (10 ^ j) (hX.out.below (brise hB0.out hb1)) h1.rd hl (by have h3 := hpl.out; rw [h1.rd.len] at h3; omega)
       replace km := Lib.hid km
       replace hb1 := Lib.hid hb1
       clear h1 hV1)
    | (go_at_call 15
       with_reducible refine km.out.mono ?_
       rintro E w2 ⟨q2, a2, b2, rfl, h2⟩
       have hS2 : w2.cell? ⟨w.heap.size, 1, none⟩ = some (.slice p l c) ∧ w2.cell? ⟨w.heap.size, 2, none⟩ = some (.int .i64 e) := ⟨cellB (bkeep (brise hb1.out h2.bel) hV0.out) rfl, cellB (bkeep (brise hb1.out h2.bel) hV0.out) rfl⟩
       replace h2 := Lib.hid h2))
  go_wp2
  go_ret
  exact ⟨q2, a2, b2, rfl, h2.out.early (brise hB0.out hb1.out)⟩
end Go.Proofs.YtcoljeafgiemkaaGreatDoor
