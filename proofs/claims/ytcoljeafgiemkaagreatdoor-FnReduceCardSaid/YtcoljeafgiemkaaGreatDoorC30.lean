/- Noughts taken off: plain facts, no program. A value of the reference without noughts at its end. -/
import Derived.Test.YtcoljeafgiemkaaGreatDoorC04
import Derived.Test.YtcoljeafgiemkaaGreatDoorC05
import Derived.Test.YtcoljeafgiemkaaGreatDoorC21
import Derived.Test.YtcoljeafgiemkaaGreatDoorC26
namespace Go.Proofs.YtcoljeafgiemkaaGreatDoor

theorem bare_le {I C i j : Nat} (h : I * 10 ^ i = C * 10 ^ j) (hI : I % 10 ≠ 0) : j ≤ i := by
  rcases Nat.lt_or_ge i j with hij | hij
  · exfalso
    obtain ⟨k, rfl⟩ : ∃ k, j = i + (k + 1) := ⟨j - i - 1, by omega⟩
    rw [Nat.pow_add, ← Nat.mul_assoc, Nat.mul_right_comm] at h
    have h1 := Nat.eq_of_mul_eq_mul_right (ten_pos i) h
    rw [ten_succ, ← Nat.mul_assoc, Nat.mul_right_comm] at h1
    omega
  · exact hij
theorem bare_same {I C i j : Nat} (h : I * 10 ^ i = C * 10 ^ j) (hI : I % 10 ≠ 0) (hC : C % 10 ≠ 0) : I = C ∧ i = j := by
  have h1 := bare_le h hI
  have h2 := bare_le h.symm hC
  obtain rfl : i = j := by omega
  exact ⟨Nat.eq_of_mul_eq_mul_right (ten_pos i) h, rfl⟩
theorem ten4 (k : Nat) : 10 ^ (k + 4) = 10000 * 10 ^ k := by rw [ten_succ, ten_succ, ten_succ, ten_succ]; omega
end Go.Proofs.YtcoljeafgiemkaaGreatDoor

namespace Go.Proofs.YtcoljeafgiemkaaGreatDoor
open Go Go.RowKit

theorem RdD.chgB1 {w w' : World} {A : Option Addr} {l c : Nat} {D : List Nat} {k : Nat} (h : RdD w A l c D) (hb : Chg w w' (fun j => j = k)) (hS : ∀ ad, A = some ad → ad.block ≠ k) : RdD w' A l c D :=
  ⟨h.len, h.cap, h.max, h.dg, fun hl => by
    obtain ⟨ad, e, hc⟩ := h.cells hl
    exact ⟨ad, e, fun j hj => hb.cell (hc j hj) (by rw [add_block]; exact hS ad e)⟩⟩
theorem RdD.chgB0 {w w' : World} {A : Option Addr} {c : Nat} {D : List Nat} {S : Nat → Prop} (h : RdD w A 0 c D) (_hb : Chg w w' S) : RdD w' A 0 c D := ⟨h.len, h.cap, h.max, h.dg, fun hl => absurd hl (Nat.lt_irrefl 0)⟩
/-- A value, and how many noughts were off. -/
def BareV (w w' : World) (E : Ending) (s : Bool) (N : Nat) : Prop := ∃ q a b C e n, E = .returned (.tuple #[.agg #[.bool s, .slice q a b, .int .i64 e], .int .i64 n]) ∧ RdD w' q a b (d16 C) ∧ Below w.heap.size w w' ∧ (∀ j, N = 10 ^ j → C = 1)
/-- A value, and how many noughts were off: which. -/
def BareF (w w' : World) (E : Ending) (s : Bool) (e : Int) (N : Nat) : Prop := ∃ q a b C, ∃ k : Nat, E = .returned (.tuple #[.agg #[.bool s, .slice q a b, .int .i64 (e + (k : Int))], .int .i64 (k : Int)]) ∧ RdD w' q a b (d16 C) ∧ Below w.heap.size w w' ∧ N = C * 10 ^ k ∧ (N ≠ 0 → C % 10 ≠ 0)
set_option maxRecDepth 20000 in
set_option maxHeartbeats 8000000 in
theorem bareF_c (w : World) (s : Bool) (p : Option Addr) (l c : Nat) (e : Int) (N : Nat) (hX : RdD w p l c (d16 N)) (hl : l ≤ 1000) (he : -100000 ≤ e ∧ e ≤ 100000) (hN : figs N ≤ 1000) :
    Calls Tryz.prog 26 #[.agg #[.bool s, .slice p l c, .int .i64 e]] w fun E w' => BareF w w' E s e N := by
  unfold BareF
  have hF0 : N ≠ 0 → 0 + figs N = figs N := fun _ => Nat.zero_add _
  have hlN := hX.len
  replace hX := Lib.hid hX
  replace hN := Lib.hid hN
  replace hF0 := Lib.hid hF0
  go_enter Tryz.func26, Tryz.ntmps26
  go_upto_region 1 with (fail)
  generalize hW : (w.alloc (.cells #[.bool s, .slice p l c, .int .i64 e] 30 (0, 0))).alloc (.cells #[.bool false, .slice none 0 0, .int .i64 0] 30 (0, 0)) = W
  have hb0 : Below w.heap.size w W := by rw [← hW]; exact ((Below.refl _ _).alloc (Nat.le_refl _) _).alloc (by simp) _
  have hV0 : W.heap[w.heap.size]? = some (.cells #[.bool s, .slice p l c, .int .i64 e] 30 (0, 0)) := by rw [← hW]; exact allocB_old (allocB _ _)
  have hR0 : W.heap[w.heap.size + 1]? = some (.cells #[.bool false, .slice none 0 0, .int .i64 0] 30 (0, 0)) := by rw [← hW]; exact allocB_at _ _ (by simp)
  have hsz : W.heap.size = w.heap.size + 2 := by rw [← hW]; simp
  clear hW
  have hX0 := hX.out.below hb0
  replace hb0 := Lib.hid hb0
  replace hV0 := Lib.hid hV0
  replace hR0 := Lib.hid hR0
  replace hsz := Lib.hid hsz
  replace hX0 := Lib.hid hX0
  go_upto_region 2 with (fail)
  go_loopw [4] (fun i wr => ∃ (k : Nat) (pa : Option Addr) (la ca Av : Nat), i = .int .i64 (k : Int) ∧ wr.heap[w.heap.size]? = some (.cells #[.bool s, .slice pa la ca, .int .i64 (e + (k : Int))] 30 (0, 0)) ∧ wr.heap[w.heap.size + 1]? = some (.cells #[.bool false, .slice none 0 0, .int .i64 0] 30 (0, 0)) ∧ RdD wr pa la ca (d16 Av) ∧ (∀ ad, pa = some ad → 0 < la → ad.block ≠ w.heap.size + 1) ∧ N = Av * 10 ^ k ∧ la ≤ 1000 ∧ Below w.heap.size w wr ∧ (Av ≠ 0 → k + figs Av = figs N) ∧ k ≤ 1000) (fun i _ => 2000 - (intOf i).toNat)
  case atStart => exact ⟨0, p, l, c, N, rfl, (by rw [show e + ((0 : Nat) : Int) = e by omega]; exact hV0.out), hR0.out, hX0.out, (fun ad ha hl0 => by
    obtain ⟨ad2, e2, hc2⟩ := hX.out.cells hl0
    rw [e2] at ha; cases ha
    have := World.block_lt_of_cell? w _ (hc2 0 hl0)
    rw [add_block] at this
    omega), (by rw [Nat.pow_zero, Nat.mul_one]), hl, hb0.out, hF0.out, Nat.zero_le _⟩
  case round =>
    obtain ⟨k, pa, la, ca, Av, rfl, hV, hR, hr, hnb, hNk, hla, hb, hfg, hk⟩ := hrel
    by_cases hA : Av = 0
    · have hl0 : la = 0 := (d16_len0 hr.len).2 hA
      subst hl0
      have hend : N ≠ 0 → Av % 10 ≠ 0 := fun hj => by
        rw [hA, Nat.zero_mul] at hNk
        exact absurd hNk hj
      replace hend := Lib.hid hend
      replace hNk := Lib.hid hNk
      replace hr := Lib.hid hr
      replace hb := Lib.hid hb
      replace hnb := Lib.hid hnb
      clear hfg
      have z0 := cellB hR (i := 0) rfl
      have z1 := cellB hR (i := 1) rfl
      have z2 := cellB hR (i := 2) rfl
      have y0 := frozenB hR 0
      have y1 := frozenB hR 1
      have y2 := frozenB hR 2
      have v0 := cellB hV (i := 0) rfl
      have v1 := cellB hV (i := 1) rfl
      have v2 := cellB hV (i := 2) rfl
      have hRf := hR
      replace hRf := Lib.hid hRf
      go_wp2
      clear v0 v1 v2 z0 z1 z2 y0 y1 y2
      have hE := end3 hRf.out (.bool s) (.slice pa 0 ca) (.int .i64 (e + (k : Int)))
      have hch := chg3 wr (w.heap.size + 1) (.bool s) (.slice pa 0 ca) (.int .i64 (e + (k : Int)))
      generalize ((wr.setCell ⟨w.heap.size + 1, 0, none⟩ (.bool s)).setCell ⟨w.heap.size + 1, 1, none⟩ (.slice pa 0 ca)).setCell ⟨w.heap.size + 1, 2, none⟩ (.int .i64 (e + (k : Int))) = W9 at hE hch ⊢
      have e0 : W9.cell? ⟨w.heap.size + 1, 0, none⟩ = some (.bool s) := cellB hE rfl
      have e1 : W9.cell? ⟨w.heap.size + 1, 1, none⟩ = some (.slice pa 0 ca) := cellB hE rfl
      have e2 : W9.cell? ⟨w.heap.size + 1, 2, none⟩ = some (.int .i64 (e + (k : Int))) := cellB hE rfl
      exact bodyPost_ret (v := .tuple #[.agg #[.bool s, .slice pa 0 ca, .int .i64 (e + (k : Int))], .int .i64 (k : Int)]) (by simp [results, Tryz.results26, go_sem, e0, e1, e2]) rfl ⟨pa, 0, ca, Av, k, rfl, (hr.out.chgB0 hch), bbox (Below.refl _ _) hb.out hch (by omega), hNk.out, hend.out⟩
    · have hfg := hfg hA
      have hla1 := d16_pos hA
      rw [hr.len] at hla1
      have hfp := figs_pos Av
      have hN2 := hN.out
      have kb := by10_c wr pa la ca Av hr (by omega)
      have hrl := Nat.mod_lt Av (show 0 < 10 by decide)
      have hlen2 : (d16 (Av / 10)).length ≤ la := by have := d16_len_mono (Nat.div_le_self Av 10); rw [hr.len] at this; exact this
      have v1 := cellB hV (i := 1) rfl
      have hlb := ltB hV
      have hlb2 := ltB hR
      generalize hr10 : Av % 10 = r at kb hrl
      replace kb := Lib.hid kb
      replace hr := Lib.hid hr
      replace hb := Lib.hid hb
      replace hnb := Lib.hid hnb
      replace hNk := Lib.hid hNk
      replace hV := Lib.hid hV
      replace hR := Lib.hid hR
      replace hr10 := Lib.hid hr10
      replace hlen2 := Lib.hid hlen2
      have hgt : decide ((la : Int) > 0) = true := by simp; omega
      go_wp2_with fail
      with_reducible refine kb.out.mono ?_
      rintro E w1 ⟨p2, l2, c2, rfl, h2⟩
      have hV1 := bkeep h2.bel hV.out
      have hR1 := bkeep h2.bel hR.out
      have hb1 := brise hb.out h2.bel
      have hr1 := hr.out.below h2.bel
      replace hb1 := Lib.hid hb1
      replace hr1 := Lib.hid hr1
      clear v1
      by_cases hd : r = 0
      · subst hd
        have hA10 : Av = Av / 10 * 10 := by have := hr10.out; omega
        have hl2 : l2 ≤ la := by rw [← h2.rd.len]; exact hlen2.out
        have hloc : ∀ ad, p2 = some ad → wr.heap.size ≤ ad.block := h2.loc
        have hrd2 := h2.rd
        have v2 := cellB hV1 (i := 2) rfl
        have v1 := cellB hV1 (i := 1) rfl
        have y1 := frozenB hV1 1
        have y2 := frozenB hV1 2
        have ee : IntKind.i64.wrap (e + (k : Int) + 1) = e + ((k + 1 : Nat) : Int) := by rw [show e + (k : Int) + 1 = e + ((k + 1 : Nat) : Int) by omega]; exact IntWalk.i64_in _ (by omega)
        have ek : IntKind.i64.wrap ((k : Int) + 1) = ((k + 1 : Nat) : Int) := by rw [show (k : Int) + 1 = ((k + 1 : Nat) : Int) by omega]; exact IntWalk.i64_in _ (by omega)
        have hNn : N = Av / 10 * 10 ^ (k + 1) := by rw [hNk.out, ten_succ, ← Nat.mul_assoc, ← hA10]
        have hfs : Av / 10 ≠ 0 → k + 1 + figs (Av / 10) = figs N := fun h => by have := figs_step (n := Av) (by omega); omega
        replace hV1 := Lib.hid hV1
        replace hR1 := Lib.hid hR1
        replace hrd2 := Lib.hid hrd2
        replace hloc := Lib.hid hloc
        replace hNn := Lib.hid hNn
        replace hfs := Lib.hid hfs
        clear h2 hA10
        go_wp2
        have hch : Chg w1 ((w1.setCell ⟨w.heap.size, 1, none⟩ (.slice p2 l2 c2)).setCell ⟨w.heap.size, 2, none⟩ (.int .i64 (e + ((k + 1 : Nat) : Int)))) (fun j => j = w.heap.size) := (chg_setB w1 w.heap.size 1 _).trans ((chg_setB _ w.heap.size 2 _).mono (fun _ _ h => .inl h))
        have hVn := setB (i := 2) (v := .int .i64 (e + ((k + 1 : Nat) : Int))) (setB (i := 1) (v := .slice p2 l2 c2) hV1.out)
        go_roundw
        case rel =>
          exact ⟨k + 1, p2, l2, c2, Av / 10, rfl, hVn, hch.heapB hR1.out (by omega), hrd2.out.chgB1 hch (fun ad ha => by have := hloc.out ad ha; omega), fun ad ha _ => by have := hloc.out ad ha; omega, hNn.out, by omega, bbox (Below.refl _ _) hb1.out hch (Nat.le_refl _), hfs.out, by omega⟩
        case measure =>
          show 2000 - (intOf (.int .i64 ((k + 1 : Nat) : Int))).toNat < 2000 - (intOf (.int .i64 (k : Int))).toNat
          simp only [intOf]; omega
      · have hne : ((r : Int) != 0) = true := by simp; omega
        have hend : N ≠ 0 → Av % 10 ≠ 0 := fun _ => by rw [hr10.out]; exact hd
        replace hend := Lib.hid hend
        clear h2
        have z0 := cellB hR1 (i := 0) rfl
        have z1 := cellB hR1 (i := 1) rfl
        have z2 := cellB hR1 (i := 2) rfl
        have y0 := frozenB hR1 0
        have y1 := frozenB hR1 1
        have y2 := frozenB hR1 2
        have v0 := cellB hV1 (i := 0) rfl
        have v1 := cellB hV1 (i := 1) rfl
        have v2 := cellB hV1 (i := 2) rfl
        have hRf := hR1
        replace hRf := Lib.hid hRf
        go_wp2
        clear v0 v1 v2 z0 z1 z2 y0 y1 y2
        have hE := end3 hRf.out (.bool s) (.slice pa la ca) (.int .i64 (e + (k : Int)))
        have hch := chg3 w1 (w.heap.size + 1) (.bool s) (.slice pa la ca) (.int .i64 (e + (k : Int)))
        generalize ((w1.setCell ⟨w.heap.size + 1, 0, none⟩ (.bool s)).setCell ⟨w.heap.size + 1, 1, none⟩ (.slice pa la ca)).setCell ⟨w.heap.size + 1, 2, none⟩ (.int .i64 (e + (k : Int))) = W9 at hE hch ⊢
        have e0 : W9.cell? ⟨w.heap.size + 1, 0, none⟩ = some (.bool s) := cellB hE rfl
        have e1 : W9.cell? ⟨w.heap.size + 1, 1, none⟩ = some (.slice pa la ca) := cellB hE rfl
        have e2 : W9.cell? ⟨w.heap.size + 1, 2, none⟩ = some (.int .i64 (e + (k : Int))) := cellB hE rfl
        exact bodyPost_ret (v := .tuple #[.agg #[.bool s, .slice pa la ca, .int .i64 (e + (k : Int))], .int .i64 (k : Int)]) (by simp [results, Tryz.results26, go_sem, e0, e1, e2]) rfl ⟨pa, la, ca, Av, k, rfl, (hr1.out.chgB1 hch (fun ad ha => hnb.out ad ha hla1)), bbox (Below.refl _ _) hb1.out hch (by omega), hNk.out, hend.out⟩
theorem bareV_c (w : World) (s : Bool) (p : Option Addr) (l c : Nat) (e : Int) (N : Nat) (hX : RdD w p l c (d16 N)) (hl : l ≤ 1000) (he : -100000 ≤ e ∧ e ≤ 100000) (hN : figs N ≤ 1000) :
    Calls Tryz.prog 26 #[.agg #[.bool s, .slice p l c, .int .i64 e]] w fun E w' => BareV w w' E s N := by
  refine (bareF_c w s p l c e N hX hl he hN).mono (fun E w' h => ?_)
  obtain ⟨q, a, b, C, k, hE, h1, h2, h3, h4⟩ := h
  exact ⟨q, a, b, C, _, _, hE, h1, h2, fun j hj => bare_ten (i := k) (j := j) (by rw [← h3, hj]) (h4 (by have := ten_pos j; omega))⟩
end Go.Proofs.YtcoljeafgiemkaaGreatDoor
