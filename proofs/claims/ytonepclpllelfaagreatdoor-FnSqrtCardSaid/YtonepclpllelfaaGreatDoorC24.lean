/- big.Int on what is held: Rem. big.Int on what is held: Exp, BitLen, Bit, Sign. Bits of numbers: nat.bitLen, Int.BitLen, BigInt.BitLen, Bit. -/
import Derived.Test.YtonepclpllelfaaGreatDoorC09
import Derived.Test.YtonepclpllelfaaGreatDoorC20
import Derived.Test.YtonepclpllelfaaGreatDoorC22
namespace Go.Proofs.YtonepclpllelfaaGreatDoor
open Go Go.RowKit
set_option maxRecDepth 20000 in
set_option maxHeartbeats 2000000 in
theorem intRem_c {w0 w : World} {σ : Sg} (h : Hold w0 w σ) {bz oz bx ox yb yo : Nat} {gz : Bool} {Z X Y : Nat} (hz : Num σ bz oz gz Z) (hx : Num σ bx ox false X) (hy : Num σ yb yo false Y) (hY0 : Y ≠ 0) (hX : (digs X).length ≤ 250) (hY : (digs Y).length < 40) :
    Calls Tryz.prog 159 #[.pointer (some ⟨bz, oz, none⟩), .pointer (some ⟨bx, ox, none⟩), .pointer (some ⟨yb, yo, none⟩)] w fun e w' => e = .returned (.pointer (some ⟨bz, oz, none⟩)) ∧ Hold w0 w' (put σ bz oz false (X % Y)) := by
  obtain ⟨vz, sz, pz⟩ := h.op hz
  obtain ⟨vx, sx, px⟩ := h.op hx
  obtain ⟨vy, sy, py⟩ := h.op hy
  have hm := fun w2 (hc : Chg w w2 (fun _ => False)) => natDiv_c w2 (.slice none 0 0) vz vx vy X Y none sz sx sy (h.keep hc).glob (stor_none _) (pz.nat.stor.chg hc (fun _ _ h => h)) (px.nat.chg hc (fun _ _ h => h)) (py.nat.chg hc (fun _ _ h => h)) (fun _ h => by cases h) hY0 hY hX
  have z1 := pz.c1
  have x0 := px.c0
  have x1 := px.c1
  have y0 := py.c0
  have y1 := py.c1
  obtain ⟨pvx, pcx, rfl, _, _⟩ := px.nat.shape
  obtain ⟨pvy, pcy, rfl, _, _⟩ := py.nat.shape
  obtain ⟨pvz, pcz, rfl, _, _⟩ := pz.nat.shape
  replace h := Lib.hid h
  replace hz := Lib.hid hz
  replace hx := Lib.hid hx
  replace hy := Lib.hid hy
  replace pz := Lib.hid pz
  replace px := Lib.hid px
  replace py := Lib.hid py
  replace hm := Lib.hid hm
  clear hX hY hY0
  go_enter Tryz.func159, Tryz.ntmps159
  go_wp2
  go_cut [7] (fun _ wx => Hold w0 wx (put σ bz oz gz (X % Y)))
  case first =>
    go_region_with ((go_at_call 137; refine (hm.out _ (by exact ⟨rfl, rfl, rfl, Nat.le_refl _, fun _ _ _ => rfl⟩)).mono ?_; rintro e w1 ⟨rq, rr, rfl, hr, hch⟩; obtain ⟨g1, g3, hH, pr, cr, rfl⟩ := pz.out.stored hz.out (by exact ⟨rfl, rfl, rfl, Nat.le_refl _, fun _ _ _ => rfl⟩) (by rfl) (hr.rem hch); replace hH := Lib.hid hH))
    all_goals
      go_wp2_with fail
      go_meet
      exact hH.out
  case rest =>
    clear x0 y0 x1 y1 z1
    have x0 := hcut.signs hz.out hx.out
    have y0 := hcut.signs hz.out hy.out
    obtain ⟨p, c, z1, z0, fz, hfin⟩ := hcut.fin hz.out
    have hfin := hfin false
    replace hfin := Lib.hid hfin
    clear hcut pz px py h hm
    obtain ⟨L, hL⟩ : ∃ L, (digs (X % Y)).length = L := ⟨_, rfl⟩
    rw [hL] at z1
    replace hL := Lib.hid hL
    by_cases hL0 : L = 0
    · replace hL := Lib.hid (show True from trivial)
      subst hL0
      go_wp2
      all_goals
        go_wp2
        go_ret
        exact ⟨rfl, by first | exact hfin.out | exact hfin.out.drew⟩
    · have hLp : 0 < L := by omega
      go_wp2
      all_goals
        go_wp2
        go_ret
        exact ⟨rfl, by first | exact hfin.out | exact hfin.out.drew⟩
end Go.Proofs.YtonepclpllelfaaGreatDoor

namespace Go.Proofs.YtonepclpllelfaaGreatDoor
open Go Go.RowKit

set_option maxRecDepth 20000 in
set_option maxHeartbeats 2000000 in
theorem intexp_c {w0 w : World} {σ : Sg} (h : Hold w0 w σ) {bz oz bx ox yb yo : Nat} {gz : Bool} {Z X Y : Nat} (hz : Num σ bz oz gz Z) (hx : Num σ bx ox false X) (hy : Num σ yb yo false Y) (hX2 : 2 ≤ X) (hXW : X < WB) (hYW : Y < WB) (hXY : X ^ Y < WB ^ 22) :
    Calls Tryz.prog 150 #[.pointer (some ⟨bz, oz, none⟩), .pointer (some ⟨bx, ox, none⟩), .pointer (some ⟨yb, yo, none⟩), .pointer none, .bool false] w fun e w' => e = .returned (.pointer (some ⟨bz, oz, none⟩)) ∧ Hold w0 w' (put σ bz oz false (X ^ Y)) := by
  obtain ⟨vz, sz, pz⟩ := h.op hz
  obtain ⟨vx, sx, px⟩ := h.op hx
  obtain ⟨vy, sy, py⟩ := h.op hy
  have hm := fun w2 (hc : Chg w w2 (fun _ => False)) => natExp_c w2 vz vx vy X Y sz sx sy (h.keep hc).glob (pz.nat.stor.chg hc (fun _ _ h => h)) (px.nat.chg hc (fun _ _ h => h)) (py.nat.chg hc (fun _ _ h => h)) hX2 hXW hYW hXY
  have hM0 : 0 < (digs (X ^ Y)).length := digs_len_pos (by have := Nat.pow_pos (n := Y) (show 0 < X by omega); omega)
  have z1 := pz.c1
  have x0 := px.c0
  have x1 := px.c1
  have y0 := py.c0
  have y1 := py.c1
  obtain ⟨pvx, pcx, rfl, _, _⟩ := px.nat.shape
  obtain ⟨pvy, pcy, rfl, _, _⟩ := py.nat.shape
  obtain ⟨pvz, pcz, rfl, _, _⟩ := pz.nat.shape
  replace h := Lib.hid h
  replace hz := Lib.hid hz
  replace hx := Lib.hid hx
  replace pz := Lib.hid pz
  replace hm := Lib.hid hm
  replace hM0 := Lib.hid hM0
  clear hX2 hXW hYW hXY px py hy
  go_enter Tryz.func150, Tryz.ntmps150
  go_wp2_with fail
  with_reducible refine (hm.out _ (by exact ⟨rfl, rfl, rfl, Nat.le_refl _, fun _ _ _ => rfl⟩)).mono ?_
  rintro e w1 ⟨r, rfl, hr⟩
  obtain ⟨g1, g3, hH, pr, cr, rfl⟩ := pz.out.stored hz.out (by exact ⟨rfl, rfl, rfl, Nat.le_refl _, fun _ _ _ => rfl⟩) (by rfl) hr
  have x0' := hH.signs hz.out hx.out
  obtain ⟨p, c, z1', z0', fz', hfin⟩ := hH.fin hz.out
  have hfin := hfin false
  have hM1 := hM0.out
  obtain ⟨v2, s2, p2⟩ := hfin.op (hz.out.put false (X ^ Y))
  have q0 := p2.c0
  clear hH pz hz h hm hr hx z1 x0 x1 y0 y1 p2
  have hg3 := g3
  generalize (digs (X ^ Y)).length = L at hM1 z1' hfin q0 x0' fz' z0' ⊢
  replace hfin := Lib.hid hfin
  go_wp2
  go_ret
  exact ⟨rfl, hfin.out⟩
theorem intExp_c {w0 w : World} {σ : Sg} (h : Hold w0 w σ) {bz oz bx ox yb yo : Nat} {gz : Bool} {Z X Y : Nat} (hz : Num σ bz oz gz Z) (hx : Num σ bx ox false X) (hy : Num σ yb yo false Y) (hX2 : 2 ≤ X) (hXW : X < WB) (hYW : Y < WB) (hXY : X ^ Y < WB ^ 22) :
    Calls Tryz.prog 131 #[.pointer (some ⟨bz, oz, none⟩), .pointer (some ⟨bx, ox, none⟩), .pointer (some ⟨yb, yo, none⟩), .pointer none] w fun e w' => e = .returned (.pointer (some ⟨bz, oz, none⟩)) ∧ Hold w0 w' (put σ bz oz false (X ^ Y)) := by
  have key := intexp_c h hz hx hy hX2 hXW hYW hXY
  replace key := Lib.hid key
  clear h hz hx hy hX2 hXW hYW hXY
  go_enter Tryz.func131, Tryz.ntmps131
  go_wp2_with fail
  with_reducible refine key.out.mono ?_
  rintro e w1 ⟨rfl, h1⟩
  replace h1 := Lib.hid h1
  go_wp2
  go_ret
  exact ⟨rfl, h1.out⟩
end Go.Proofs.YtonepclpllelfaaGreatDoor

namespace Go.Proofs.YtonepclpllelfaaGreatDoor
open Go Go.RowKit

theorem or_step (t s : Nat) (h : t < WB) : bits .or .u64 (t : Int) ((t : Int) / ((2 ^ s : Nat) : Int)) = ((t ||| t / 2 ^ s : Nat) : Int) ∧ (t ||| t / 2 ^ s) < WB := by
  have h2 : t / 2 ^ s ≤ t := Nat.div_le_self _ _
  rw [WB_eq] at h
  refine ⟨?_, by rw [WB_eq]; exact Nat.or_lt_two_pow (n := 64) h (by omega)⟩
  rw [show ((t : Int) / ((2 ^ s : Nat) : Int)) = ((t / 2 ^ s : Nat) : Int) from (Int.natCast_ediv _ _).symm]
  exact bits_or_u64_nat t (t / 2 ^ s) (by omega) (by omega)

set_option maxRecDepth 20000 in
set_option maxHeartbeats 1000000 in
theorem bitLen_c (w : World) (x : Value) (N : Nat) (o : Option Nat) (hx : IsNat w x N o) (hn : (digs N).length ≤ 100000) :
    Calls Tryz.prog 128 #[x] w fun e w' => e = .returned (.int .i64 (nbits N : Int)) ∧ w = w' := by
  by_cases h0 : N = 0
  · subst h0
    obtain ⟨p, c, rfl, _, _⟩ := hx.shape
    rw [digs_zero]
    rw [nbits_zero]
    clear hx
    go_enter Tryz.func128, Tryz.ntmps128
    go_wp2
    go_ret
    exact ⟨rfl, rfl⟩
  · obtain ⟨b, cap, C, rfl, rfl, ha, hc, hcap, ht, hl, hp⟩ := hx.pos h0
    have hb := nbits_digs h0
    have hcell := ha.cellN (i := (digs N).length - 1) (by omega)
    have hnt : nth C ((digs N).length - 1) = nth (digs N) ((digs N).length - 1) := by
      have h1 := nth_take (l := C) (i := (digs N).length - 1) (k := (digs N).length) (by omega)
      rw [ht] at h1
      exact h1.symm
    rw [hnt] at hcell
    have htw : nth (digs N) ((digs N).length - 1) < WB := (Wd_digs N).nth _
    generalize nth (digs N) ((digs N).length - 1) = t at *
    obtain ⟨L, hL⟩ : ∃ L, (digs N).length = L + 1 := ⟨(digs N).length - 1, by omega⟩
    rw [hL] at hb hcell hl ⊢
    rw [Nat.add_sub_cancel] at hb hcell
    obtain ⟨e1, w1⟩ := or_step t 1 htw
    obtain ⟨e2, w2⟩ := or_step _ 2 w1
    obtain ⟨e3, w3⟩ := or_step _ 4 w2
    obtain ⟨e4, w4⟩ := or_step _ 8 w3
    obtain ⟨e5, w5⟩ := or_step _ 16 w4
    obtain ⟨e6, w6⟩ := or_step _ 32 w5
    have b1 := nbits_spread t 1
    have b2 := nbits_spread (t ||| t / 2 ^ 1) 2
    generalize (t ||| t / 2 ^ 1) = t1 at *
    have b3 := nbits_spread (t1 ||| t1 / 2 ^ 2) 4
    generalize (t1 ||| t1 / 2 ^ 2) = t2 at *
    have b4 := nbits_spread (t2 ||| t2 / 2 ^ 4) 8
    generalize (t2 ||| t2 / 2 ^ 4) = t3 at *
    have b5 := nbits_spread (t3 ||| t3 / 2 ^ 8) 16
    generalize (t3 ||| t3 / 2 ^ 8) = t4 at *
    have b6 := nbits_spread (t4 ||| t4 / 2 ^ 16) 32
    generalize (t4 ||| t4 / 2 ^ 16) = t5 at *
    generalize (t5 ||| t5 / 2 ^ 32) = t6 at *
    have kb := fun w => bits_Len_c t6 w6 w
    rw [← nbits_blen w6, b6, b5, b4, b3, b2, b1] at kb
    have e6' : bits .or .u64 (t5 : Int) ((t5 : Int) / 65536 / 65536) = (t6 : Int) := by rw [← e6]; congr 1; omega
    replace e1 : bits .or .u64 (t : Int) ((t : Int) / 2) = (t1 : Int) := e1
    replace e2 : bits .or .u64 (t1 : Int) ((t1 : Int) / 4) = (t2 : Int) := e2
    replace e3 : bits .or .u64 (t2 : Int) ((t2 : Int) / 16) = (t3 : Int) := e3
    replace e4 : bits .or .u64 (t3 : Int) ((t3 : Int) / 256) = (t4 : Int) := e4
    replace e5 : bits .or .u64 (t4 : Int) ((t4 : Int) / 65536) = (t5 : Int) := e5
    have hfin : (L : Int) * 64 + (nbits t : Int) = (nbits N : Int) := by rw [hb]; omega
    have hnb : nbits t ≤ 64 := by rw [nbits_blen htw]; exact blen_le htw
    have hLb : L ≤ 100000 := by omega
    clear hx ha hc hcap ht hp h0 hb b1 b2 b3 b4 b5 b6 w1 w2 w3 w4 w5 w6 htw hnt e6 hL hn
    have hi1 : IntKind.i64.wrap ((L : Int) * 64) = (L : Int) * 64 := IntWalk.i64_in _ (by omega)
    have hi2 : IntKind.i64.wrap ((L : Int) * 64 + (nbits t : Int)) = (nbits N : Int) := by rw [← hfin]; exact IntWalk.i64_in _ (by omega)
    replace hfin := Lib.hid hfin
    replace kb := Lib.hid kb
    generalize nbits t = nt at *
    generalize nbits N = nN at *
    go_enter Tryz.func128, Tryz.ntmps128
    go_wp2_with fail
    with_reducible refine (kb.out _).mono ?_
    rintro e w' ⟨rfl, hw⟩
    obtain rfl := hw
    go_wp2
    go_ret
    exact ⟨ret_i (by first | rfl | exact hfin.out | exact hi2 | omega), rfl⟩
theorem intBits_c {w0 w : World} {σ : Sg} (h : Hold w0 w σ) {bx ox : Nat} {gx : Bool} {X : Nat} (hx : Num σ bx ox gx X) (hn : (digs X).length ≤ 100000) :
    Calls Tryz.prog 96 #[.pointer (some ⟨bx, ox, none⟩)] w fun e w' => e = .returned (.int .i64 (nbits X : Int)) ∧ w = w' := by
  obtain ⟨v, s, p⟩ := h.op hx
  have k := bitLen_c w v X s p.nat hn
  have x1 := p.c1
  obtain ⟨pv, pc, rfl, _, _⟩ := p.nat.shape
  replace k := Lib.hid k
  clear h p hx
  go_enter Tryz.func96, Tryz.ntmps96
  go_wp2_with fail
  with_reducible refine k.out.mono ?_
  rintro e w' ⟨rfl, hw⟩
  obtain rfl := hw
  go_wp2
  go_ret
  exact ⟨rfl, rfl⟩
theorem bigBits_c {w0 w : World} {σ : Sg} (h : Hold w0 w σ) {bx ox : Nat} {gx : Bool} {X : Nat} (hx : BNum σ bx ox gx X) (hn : (digs X).length ≤ 100000) :
    Calls Tryz.prog 72 #[.pointer (some ⟨bx, ox, none⟩)] w fun e w' => e = .returned (.int .i64 (nbits X : Int)) ∧ w = w' := by
  have k := intBits_c h hx.num hn
  replace k := Lib.hid k
  clear h hx
  go_enter Tryz.func72, Tryz.ntmps72
  go_wp2_with fail
  with_reducible refine k.out.mono ?_
  rintro e w' ⟨rfl, hw⟩
  obtain rfl := hw
  go_wp2
  go_ret
  exact ⟨rfl, rfl⟩
end Go.Proofs.YtonepclpllelfaaGreatDoor
