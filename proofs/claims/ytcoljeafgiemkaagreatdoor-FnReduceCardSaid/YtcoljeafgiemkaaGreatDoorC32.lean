/- Numbers of one word: are they, which, set. -/
import Derived.Test.YtcoljeafgiemkaaGreatDoorC28
namespace Go.Proofs.YtcoljeafgiemkaaGreatDoor
open Go Go.RowKit

set_option maxRecDepth 20000 in
theorem intIsU_c {w0 w : World} {σ : Sg} (h : Hold w0 w σ) {bx ox : Nat} {X : Nat} (hx : Num σ bx ox false X) :
    Calls Tryz.prog 173 #[.pointer (some ⟨bx, ox, none⟩)] w fun e w' => e = .returned (.bool (decide ((digs X).length ≤ 1))) ∧ w = w' := by
  obtain ⟨v, s, p⟩ := h.op hx
  have x0 := p.c0
  have x1 := p.c1
  obtain ⟨pv, pc, rfl, _, _⟩ := p.nat.shape
  clear h p hx
  by_cases hl : (digs X).length ≤ 1
  · have hl2 : decide (((digs X).length : Int) ≤ 1) = true := decide_eq_true (by omega)
    rw [decide_eq_true hl]
    go_enter Tryz.func173, Tryz.ntmps173
    go_wp2
    go_ret
    exact ⟨by simp, rfl⟩
  · have hl2 : decide (((digs X).length : Int) ≤ 1) = false := decide_eq_false (by omega)
    rw [decide_eq_false hl]
    go_enter Tryz.func173, Tryz.ntmps173
    go_wp2
    go_ret
    exact ⟨by simp, rfl⟩
set_option maxRecDepth 20000 in
theorem low64_c {w : World} {v : Value} {X : Nat} {s : Option Nat} (hn : IsNat w v X s) (hX : X < WB) :
    Calls Tryz.prog 193 #[v] w fun e w' => e = .returned (.int .u64 (X : Int)) ∧ w = w' := by
  by_cases h0 : X = 0
  · subst h0
    obtain ⟨pv, pc, rfl, _, _⟩ := hn.shape
    rw [digs_zero]
    clear hn
    go_enter Tryz.func193, Tryz.ntmps193
    go_wp2
    go_ret
    exact ⟨rfl, rfl⟩
  · obtain ⟨b, cap, C, rfl, rfl, ha, hc, hcap, ht, hl, hp⟩ := hn.pos h0
    have hcell := ha.cellN (i := 0) (by omega)
    have hnt : nth C 0 = nth (digs X) 0 := by
      have h1 := nth_take (l := C) (i := 0) (k := (digs X).length) (by omega)
      rw [ht] at h1
      exact h1.symm
    have h1 : nth C 0 = X := by rw [hnt, digs_pos h0]; exact Nat.mod_eq_of_lt hX
    rw [h1] at hcell
    have hw : IntKind.u64.wrap (X : Int) = (X : Int) := by rw [WB_eq] at hX; exact IntWalk.u64_in _ (by omega)
    have hlp : ((digs X).length : Int) ≠ 0 := by omega
    have hlp' : (((digs X).length : Int) == 0) = false := beq_eq_false_iff_ne.2 hlp
    have hlq : 0 < ((digs X).length : Int) := by omega
    clear hn ha ht hnt h1
    go_enter Tryz.func193, Tryz.ntmps193
    go_wp2
    go_ret
    exact ⟨rfl, rfl⟩
theorem intU64_c {w0 w : World} {σ : Sg} (h : Hold w0 w σ) {bx ox : Nat} {gx : Bool} {X : Nat} (hx : Num σ bx ox gx X) (hX : X < WB) :
    Calls Tryz.prog 174 #[.pointer (some ⟨bx, ox, none⟩)] w fun e w' => e = .returned (.int .u64 (X : Int)) ∧ w = w' := by
  obtain ⟨v, s, p⟩ := h.op hx
  have x1 := p.c1
  have k := low64_c p.nat hX
  obtain ⟨pv, pc, rfl, _, _⟩ := p.nat.shape
  replace k := Lib.hid k
  clear h p hx
  go_enter Tryz.func174, Tryz.ntmps174
  go_wp2_with fail
  with_reducible refine k.out.mono ?_
  rintro e w' ⟨rfl, hw⟩
  obtain rfl := hw
  go_wp2
  go_ret
  exact ⟨rfl, rfl⟩
theorem bigIsU_c {w0 w : World} {σ : Sg} (h : Hold w0 w σ) {bx ox : Nat} {X : Nat} (hx : BNum σ bx ox false X) :
    Calls Tryz.prog 136 #[.pointer (some ⟨bx, ox, none⟩)] w fun e w' => e = .returned (.bool (decide ((digs X).length ≤ 1))) ∧ w = w' := by
  have k := intIsU_c h hx.num
  replace k := Lib.hid k
  clear h hx
  go_enter Tryz.func136, Tryz.ntmps136
  go_wp2_with fail
  with_reducible refine k.out.mono ?_
  rintro e w' ⟨rfl, hw⟩
  obtain rfl := hw
  go_wp2
  go_ret
  exact ⟨rfl, rfl⟩
theorem bigU64_c {w0 w : World} {σ : Sg} (h : Hold w0 w σ) {bx ox : Nat} {gx : Bool} {X : Nat} (hx : BNum σ bx ox gx X) (hX : X < WB) :
    Calls Tryz.prog 137 #[.pointer (some ⟨bx, ox, none⟩)] w fun e w' => e = .returned (.int .u64 (X : Int)) ∧ w = w' := by
  have k := intU64_c h hx.num hX
  replace k := Lib.hid k
  clear h hx
  go_enter Tryz.func137, Tryz.ntmps137
  go_wp2_with fail
  with_reducible refine k.out.mono ?_
  rintro e w' ⟨rfl, hw⟩
  obtain rfl := hw
  go_wp2
  go_ret
  exact ⟨rfl, rfl⟩
set_option maxRecDepth 20000 in
set_option maxHeartbeats 2000000 in
theorem intSetU_c {w0 w : World} {σ : Sg} (h : Hold w0 w σ) {bz oz : Nat} {gz : Bool} {Z : Nat} (hz : Num σ bz oz gz Z) (n : Nat) (hn : n < WB) :
    Calls Tryz.prog 175 #[.pointer (some ⟨bz, oz, none⟩), .int .u64 (n : Int)] w fun e w' => e = .returned (.pointer (some ⟨bz, oz, none⟩)) ∧ Hold w0 w' (put σ bz oz false n) := by
  obtain ⟨vz, sz, pz⟩ := h.op hz
  have hm := fun w2 (hc : Chg w w2 (fun _ => False)) => setUint64_c w2 vz n sz (pz.nat.stor.chg hc (fun _ _ h => h)) hn
  have z1 := pz.c1
  obtain ⟨pvz, pcz, rfl, _, _⟩ := pz.nat.shape
  replace h := Lib.hid h
  replace hz := Lib.hid hz
  replace pz := Lib.hid pz
  replace hm := Lib.hid hm
  clear hn
  go_enter Tryz.func175, Tryz.ntmps175
  go_wp2_with fail
  with_reducible refine (hm.out _ (by exact ⟨rfl, rfl, rfl, Nat.le_refl _, fun _ _ _ => rfl⟩)).mono ?_
  rintro e w1 ⟨r, rfl, hr⟩
  obtain ⟨g1, g3, hH, pr, cr, rfl⟩ := pz.out.stored hz.out (by exact ⟨rfl, rfl, rfl, Nat.le_refl _, fun _ _ _ => rfl⟩) (by rfl) hr
  obtain ⟨p, c, z1', z0', fz', hfin⟩ := hH.fin hz.out
  have hfin := hfin false
  replace hfin := Lib.hid hfin
  clear hH pz hz h hm hr
  go_wp2
  go_ret
  exact ⟨rfl, hfin.out⟩
set_option maxRecDepth 20000 in
theorem bigSetU_c {w0 w : World} {σ : Sg} (h : Hold w0 w σ) {bz oz : Nat} {gz : Bool} {Z : Nat} (hz : BNum σ bz oz gz Z) (n : Nat) (hn : n < WB) :
    Calls Tryz.prog 138 #[.pointer (some ⟨bz, oz, none⟩), .int .u64 (n : Int)] w fun e w' => e = .returned (.pointer (some ⟨bz, oz, none⟩)) ∧ Hold w0 w' (put σ bz oz false n) := by
  obtain ⟨fm, cm, hm⟩ := h.bmin hz
  have key := intSetU_c hm hz.num n hn
  replace key := Lib.hid key
  clear hz h hm hn
  go_enter Tryz.func138, Tryz.ntmps138
  go_wp2_with fail
  with_reducible refine key.out.mono ?_
  rintro e w1 ⟨rfl, h1⟩
  replace h1 := Lib.hid h1
  go_wp2
  go_ret
  exact ⟨rfl, h1.out⟩
end Go.Proofs.YtcoljeafgiemkaaGreatDoor
