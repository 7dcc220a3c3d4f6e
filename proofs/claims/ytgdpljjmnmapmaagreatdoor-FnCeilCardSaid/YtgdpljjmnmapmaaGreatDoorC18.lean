/- nat: divLarge. nat: div. big.Int on what is held: mul, Quo, Rem. nat: expNN without a modulus: a power of a word. big.Int on what is held: Set, SetInt64, Abs, Neg, Cmp. big.Int on what is held: QuoRem. Bits of numbers: nat.bitLen, Int.BitLen, BigInt.BitLen, Bit. -/
import Derived.BigRegion
import Derived.BigQuiet
import Derived.Deep.DeepCutAuto
import Derived.Test.YtgdpljjmnmapmaaGreatDoorC05
import Derived.Test.YtgdpljjmnmapmaaGreatDoorC07
import Derived.Test.YtgdpljjmnmapmaaGreatDoorC09
import Derived.Test.YtgdpljjmnmapmaaGreatDoorC10
import Derived.Test.YtgdpljjmnmapmaaGreatDoorC11
import Derived.Test.YtgdpljjmnmapmaaGreatDoorC15
namespace Go.Proofs.YtgdpljjmnmapmaaGreatDoor
open Go Go.RowKit

/-- What divLarge and div hand back: quotient and remainder, each in its own place. -/
def DivRes (w w' : World) (oz o2 : Option Nat) (rq rr : Value) (q r : Nat) : Prop :=
  ∃ oq or', IsNat w' rq q oq ∧ IsNat w' rr r or' ∧ (oq = oz ∨ oq = none ∨ ∃ b, oq = some b ∧ w.heap.size ≤ b) ∧ (or' = o2 ∨ or' = none ∨ ∃ b, or' = some b ∧ w.heap.size ≤ b) ∧ (∀ b, oq = some b → or' ≠ some b)

theorem digs_top {n : Nat} (h : n ≠ 0) : nth (digs n) ((digs n).length - 1) ≠ 0 := by
  have hne : digs n ≠ [] := fun e => h (digs_eq_nil.1 e)
  have h1 := digs_last hne
  rw [List.getLast_eq_getElem] at h1
  unfold nth
  rw [List.getElem?_eq_getElem (by have := List.length_pos_iff.2 hne; omega)]
  exact h1

theorem Stor.ne {w : World} {v : Value} {b t : Nat} {cs : Array Value} {T : TypeId} (h : Stor w v (some b)) (ht : w.heap[t]? = some (.cells cs T (0, 0))) (hT : T ≠ 133) : b ≠ t := by
  rcases h with ⟨_, h⟩ | ⟨b', l, cap, C, h, _, _, ha, _⟩
  · cases h
  · cases h; exact ha.ne ht hT

theorem Arr.neVar {w : World} {b g : Nat} {C : List Nat} {n : Int} (ha : Arr w b C) (hC : 0 < C.length) (h : w.cell? ⟨g, 0, none⟩ = some (.int .i64 n)) : b ≠ g := by
  rintro rfl
  rw [ha.cellN hC] at h
  simp at h
def topOf : Option (Nat × Nat × Nat) → Nat
  | none => 0
  | some (_, _, l) => l
theorem ltB' {w : World} {b : Nat} {o : Obj} (h : w.heap[b]? = some o) : b < w.heap.size := by
  rcases Nat.lt_or_ge b w.heap.size with h' | h'
  · exact h'
  · rw [Array.getElem?_eq_none h'] at h; cases h
theorem Stor.neVar {w : World} {v : Value} {b g : Nat} {n : Int} (hs : Stor w v (some b)) (h : w.cell? ⟨g, 0, none⟩ = some (.int .i64 n)) : b ≠ g := by
  rcases hs with ⟨_, hs⟩ | ⟨b', l, cap, C, hs, _, _, ha, hc, hcap⟩
  · cases hs
  · cases hs; exact ha.neVar (by omega) h

set_option maxRecDepth 200000 in
set_option maxHeartbeats 4000000 in
theorem divLarge_c (w : World) (z z2 u v : Value) (U V s : Nat) (oz o2 ou ov : Option Nat) (hG : Glob w) (hs : Stk0 w s) (hz : Stor w z oz) (h2 : Stor w z2 o2) (hu : IsNat w u U ou) (hv : IsNat w v V ov)
    (hdist : ∀ b, oz = some b → o2 ≠ some b) (hV2 : 2 ≤ (digs V).length) (hV40 : (digs V).length < 40) (hle : V ≤ U) (hU : (digs U).length ≤ 250) :
    Calls Tryz.prog 162 #[z, .pointer (some ⟨s, 0, none⟩), z2, u, v] w fun e w' => ∃ rq rr, e = .returned (.tuple #[rq, rr]) ∧ DivRes w w' oz o2 rq rr (U / V) (U % V) ∧
      StkW w' s w.heap.size 0 ∧ Chg w w' (fun k => some k = oz ∨ some k = o2 ∨ k = s) := by
  have hV0 : V ≠ 0 := by rintro rfl; rw [digs_zero] at hV2; simp at hV2
  have hU0 : U ≠ 0 := by omega
  obtain ⟨bvi, cvi, Cvi, rfl, rfl, havi, hcvi, hcapvi, htvi, hlvi, hpvi⟩ := hv.pos hV0
  obtain ⟨bui, cui, Cui, rfl, rfl, haui, hcui, hcapui, htui, hlui, hpui⟩ := hu.pos hU0
  have hlen : (digs V).length ≤ (digs U).length := digs_len_mono hle
  obtain ⟨pz, lz, cz, rfl⟩ := stor_slice hz
  obtain ⟨p2, l2, c2, rfl⟩ := stor_slice h2
  have hvV : val (digs V) = V := val_digs V
  have hvU : val (digs U) = U := val_digs U
  have hwV := Wd_digs V
  have hwU := Wd_digs U
  have htop := digs_top hV0
  generalize hVL : digs V = VL at *
  generalize hUL : digs U = UL at *
  obtain ⟨k, hk⟩ : ∃ k, VL.length = k + 2 := ⟨VL.length - 2, by omega⟩
  obtain ⟨m0, hm⟩ : ∃ m0, UL.length = m0 + (k + 2) := ⟨UL.length - (k + 2), by omega⟩
  rw [hk, show k + 2 - 1 = k + 1 by omega] at htop
  have hwt := hwV.nth (k + 1)
  have hct := havi.cellN (i := k + 1) (by omega)
  have hct2 : nth Cvi (k + 1) = nth VL (k + 1) := by
    have := nth_take (l := Cvi) (i := k + 1) (k := VL.length) (by omega)
    rw [htvi] at this
    exact this.symm
  rw [hct2] at hct
  have hnl := fun w => nlz_c (nth VL (k + 1)) hwt w
  have hsh := nlzN_lt hwt (by omega)
  have hnz := nlz_shift hwt (by omega)
  generalize nlzN (nth VL (k + 1)) = sh at hnl hsh hnz
  replace hnz := Lib.hid hnz
  have hsv := save0 w s hs
  have hnat := stkNat0 w s (k + 2) hs (by omega) (by omega)
  have htvi0 : (Cvi.drop 0).take (k + 2) = VL := by rw [List.drop_zero, ← hk]; exact htvi
  have htui0 : (Cui.drop 0).take (m0 + (k + 2)) = UL := by rw [List.drop_zero, ← hm]; exact htui
  have hk' := hk
  have hm' := hm
  have hlv2 : k + 2 ≤ Cvi.length := by omega
  have hlu2 : m0 + (k + 2) ≤ Cui.length := by omega
  rw [hk, hm]
  rw [show ((k + 2 : Nat) : Int) = (k : Int) + 2 by omega] at hnat
  replace hk := Lib.hid hk
  replace hm := Lib.hid hm
  replace htvi0 := Lib.hid htvi0
  replace htui0 := Lib.hid htui0
  replace hvV := Lib.hid hvV
  replace hvU := Lib.hid hvU
  replace hVL := Lib.hid hVL
  replace hUL := Lib.hid hUL
  have hm1 : m0 + (k + 2) ≤ 250 := by omega
  have hk1 : k + 2 < 40 := by omega
  clear hk' hm' htvi htui hct2 hv hu hlen hV2 hV40 hU hlvi hlui hpvi hpui
  go_enter_defers Tryz.func162, Tryz.ntmps162
  go_wp2_with fail
  refine hsv.mono ?_
  rintro e w' ⟨rfl, hw⟩
  obtain rfl := hw
  go_wp2_with fail
  refine (hnl _).mono ?_
  rintro e w' ⟨rfl, hw⟩
  obtain rfl := hw
  go_wp2_with fail
  refine hnat.mono ?_
  rintro e w1 ⟨bv, Gv, Cv, st, rfl, hbv, hav, hlv, hGv, hch1, hst, hstd⟩
  have h2s : ∀ b, o2 = some b → ¬ b = s := fun b e => Stor.ne (e ▸ h2) hs (by decide)
  have hzs : ∀ b, oz = some b → ¬ b = s := fun b e => Stor.ne (e ▸ hz) hs (by decide)
  have hmk := make_c w1 _ o2 (h2.chg hch1 h2s) (m0 + (k + 2) + 1) (by omega) (by omega)
  rw [show ((m0 + (k + 2) + 1 : Nat) : Int) = (m0 : Int) + ((k : Int) + 2) + 1 by omega] at hmk
  go_wp2_with fail
  refine hmk.mono ?_
  rintro e w2 ⟨r, rfl, bu, capu, Cu, rfl, hau, hCu, hnu, hcapu, hbu, hch2⟩
  have hbu1 : bu ≠ bv := by
    rcases hbu with ⟨e, _⟩ | e
    · have h3 : bu < w.heap.size := by
        subst e
        exact h2.lt
      omega
    · have := hav.lt; omega
  have hav2 := hch2.arr hav (fun h => h)
  have havi1 := hch1.arr havi (havi.ne hs (by decide))
  have haui1 := hch1.arr haui (haui.ne hs (by decide))
  have havi2 := hch2.arr havi1 (fun h => h)
  have haui2 := hch2.arr haui1 (fun h => h)
  have hbvi : bvi ≠ bv := by have := havi.lt; omega
  have hbui : bui ≠ bv := by have := haui.lt; omega
  clear hmk hnat hnl hsv hct
  go_upto_if 40 with (fail)
  go_cut [] from 40 to 100 (fun wr => ∃ V' U', V'.length = k + 2 ∧ U'.length = m0 + (k + 2) + 1 ∧ val V' = V * 2 ^ sh ∧ val U' = U * 2 ^ sh ∧ WB ≤ 2 * nth V' (k + 1) ∧ nth U' (m0 + (k + 2)) < nth V' (k + 1) ∧ Wd V' ∧ Arr wr bv (spl Cv 0 V') ∧ Arr wr bu (spl Cu 0 U') ∧ Chg w2 wr (fun k => k = bv ∨ k = bu))
  case first =>
    by_cases h0 : sh = 0
    · have hz0 : ((sh : Int) == 0) = true := by simp; exact h0
      replace h0 := Lib.hid h0
      have hsrc1 : ∀ j, j < VL.length → w2.cell? ⟨bvi, 0 + j, none⟩ = some (.int .u64 (nth VL j : Int)) := by
        intro i hi
        have h3 := hk.out
        rw [Nat.zero_add, havi2.cellN (by omega), ← htvi0.out, nth_take (by omega), List.drop_zero]
      have hmin1 : VL.length = Nat.min (k + 2) (k + 2) := by rw [hk.out]; simp
      have hmin2 : UL.length = Nat.min (m0 + (k + 2)) (m0 + (k + 2)) := by rw [hm.out]; simp
      have hf1 : 0 + VL.length ≤ Cv.length := by rw [hk.out]; omega
      have hf2 : 0 + UL.length ≤ Cu.length := by rw [hm.out]; omega
      replace hsrc1 := Lib.hid hsrc1
      replace hmin1 := Lib.hid hmin1
      replace hmin2 := Lib.hid hmin2
      replace hf1 := Lib.hid hf1
      replace hf2 := Lib.hid hf2
      have c1 : (m0 : Int) + ((k : Int) + 2) ≤ (capu : Int) := by omega
      have c2' : ((m0 : Int) + ((k : Int) + 2)).toNat = m0 + (k + 2) := by omega
      have c3 : (0 : Int) ≤ (m0 : Int) + ((k : Int) + 2) := by omega
      go_upto_region 8 with (fail)
      refine wp_region_lit ?_
      go_wp2_with (refine wpList_copyW rfl (.tmp 41) (.tmp 42) 58 58 rfl Tryz.underlying58 bv 0 (k + 2) Gv bvi 0 (k + 2) cvi rfl rfl Cv VL hav2 hwV hmin1.out hf1.out hsrc1.out ?_)
      intro w3 hS3
      have hau3 := hS3.other hbu1 hau
      have haui3 := hS3.other hbui haui2
      have hsrc2 : ∀ j, j < UL.length → w3.cell? ⟨bui, 0 + j, none⟩ = some (.int .u64 (nth UL j : Int)) := by
        intro i hi
        have h3 := hm.out
        rw [Nat.zero_add, haui3.cellN (by omega), ← htui0.out, nth_take (by omega), List.drop_zero]
      replace hsrc2 := Lib.hid hsrc2
      go_upto_region 9 with (fail)
      refine wp_region_lit ?_
      go_wp2_with (refine wpList_copyW rfl (.tmp 47) (.tmp 48) 58 58 rfl Tryz.underlying58 bu 0 (m0 + (k + 2)) capu bui 0 (m0 + (k + 2)) cui rfl rfl Cu UL hau3 hwU hmin2.out hf2.out hsrc2.out ?_)
      intro w4 hS4
      have hz1 := hS4.arr.cellN (i := m0 + (k + 2)) (by rw [spl_length hf2.out]; omega)
      have hz2 := hS4.arr.frozen (m0 + (k + 2))
      have hS5 := hS4.next (k := m0 + (k + 2)) hm.out (by omega) 0 WB_pos
      rw [Nat.zero_add] at hS5
      go_wp2
      go_meet
      have e2 : 2 ^ sh = 1 := by rw [h0.out]
      have hn2 := hnz.out
      rw [e2, Nat.mul_one] at hn2
      refine ⟨VL, UL ++ [0], hk.out, by simp [hm.out], by rw [e2, hvV.out, Nat.mul_one], ?_, hn2.2, ?_, hwV, hS5.other hbu1.symm hS3.arr, hS5.arr, (hS3.chg.mono (fun _ _ h => .inl h)).trans (hS5.chg.mono (fun _ _ h => .inl (.inr h)))⟩
      · rw [e2, Nat.mul_one, show UL ++ [0] = UL ++ List.replicate 1 0 from rfl, val_append_zeros, hvU.out]
      · have h9 : nth (UL ++ [0]) (m0 + (k + 2)) = 0 := by
          rw [← hm.out]; unfold nth; simp
        rw [h9]; omega
    · have hz0 : ((sh : Int) == 0) = false := by simp; exact h0
      have hsp : 0 < sh := by omega
      have q1 := lshVU_c w2 bv 0 (k + 1) Gv bvi 0 cvi sh Cv Cvi (by omega) hsp hsh hav2 (by omega) havi2 (by omega) (.inl hbvi)
      rw [show k + 1 + 1 = k + 2 by omega] at q1
      replace q1 := Lib.hid q1
      replace h0 := Lib.hid h0
      go_wp2_with fail
      with_reducible refine q1.out.mono ?_
      rintro e w3 ⟨R, cc, rfl, hS3, hR, hcc, hval⟩
      have hau3 := hS3.other hbu1 hau
      have haui3 := hS3.other hbui haui2
      have q2 := lshVU_c w3 bu 0 (m0 + k + 1) capu bui 0 cui sh Cu Cui (by omega) hsp hsh hau3 (by omega) haui3 (by omega) (.inr (by omega))
      rw [show m0 + k + 1 + 1 = m0 + (k + 2) by omega] at q2
      replace q2 := Lib.hid q2
      replace hS3 := Lib.hid hS3
      replace hval := Lib.hid hval
      have c1 : (m0 : Int) + ((k : Int) + 2) ≤ (capu : Int) := by omega
      have c2' : ((m0 : Int) + ((k : Int) + 2)).toNat = m0 + (k + 2) := by omega
      have c3 : (0 : Int) ≤ (m0 : Int) + ((k : Int) + 2) := by omega
      go_wp2_with fail
      with_reducible refine q2.out.mono ?_
      rintro e w4 ⟨RU, cu, rfl, hS4, hRU, hcu, hvalU⟩
      have hf2 : 0 + RU.length ≤ Cu.length := by omega
      have hz1 := hS4.arr.cellN (i := m0 + (k + 2)) (by rw [spl_length hf2]; omega)
      have hz2 := hS4.arr.frozen (m0 + (k + 2))
      have hS5 := hS4.next (k := m0 + (k + 2)) hRU (by omega) cu hcu
      rw [Nat.zero_add] at hS5
      replace hS5 := Lib.hid hS5
      replace hvalU := Lib.hid hvalU
      go_wp2
      go_meet
      have wd : ∀ {C L : List Nat}, Wd (spl C 0 L) → Wd L := fun h x hx => h x (by unfold spl; simp [hx])
      have hwR := wd hS3.out.arr.wd
      have hv1 := hval.out
      rw [htvi0.out] at hv1
      have hk3 := hk.out
      obtain ⟨r1, r2⟩ := top_shift (k := k + 1) hsh hwV hk3 hR hwR hv1 hnz.out
      have hv2 := hvalU.out
      rw [htui0.out] at hv2
      have r3 := carry_lt hwU hm.out hv2
      have hp : 2 ^ sh ≤ nth VL (k + 1) * 2 ^ sh := Nat.le_mul_of_pos_left _ (by omega)
      have hn2 := hnz.out.2
      have r4 : nth (RU ++ [cu]) (m0 + (k + 2)) = cu := by rw [← hRU]; unfold nth; simp
      refine ⟨R, RU ++ [cu], hR, by simp [hRU], by rw [r1, hvV.out], ?_, by omega, by rw [r4]; omega, hwR, hS5.out.other hbu1.symm hS3.out.arr, hS5.out.arr, (hS3.out.chg.mono (fun _ _ h => .inl h)).trans (hS5.out.chg.mono (fun _ _ h => .inl (.inr h)))⟩
      rw [val_append, hRU, ← hvU.out, ← hv2]; simp [val]
  case rest =>
    obtain ⟨V', U', hlV', hlU', hvV', hvU', hnV', htU', hwV', haV', haU', hch3⟩ := hcut
    have hchc : Chg w wc (fun k => k = s ∨ k = bv ∨ k = bu) := ((hch1.mono (fun _ _ h => .inl h)).trans (hch2.mono (fun _ _ h => h.elim))).trans (hch3.mono (fun _ _ h => .inl (.inr h)))
    have hozu : oz ≠ some bu := by
      intro e
      rcases hbu with ⟨e2, _⟩ | e2
      · exact hdist _ e e2
      · have h3 : bu < w.heap.size := by subst e; exact hz.lt
        have := hch1.size
        omega
    have hozv : oz ≠ some bv := by
      rintro e
      have h3 : bv < w.heap.size := by subst e; exact hz.lt
      omega
    have hzc := hz.chg hchc (fun b e => by
      rintro (h | h | h)
      · exact hzs b e h
      · exact hozv (h ▸ e)
      · exact hozu (h ▸ e))
    have hlU2 : (spl Cu 0 U').length = capu := by rw [spl_length (by omega), hCu]
    have huc : Stor wc (.slice (some ⟨bu, 0, none⟩) (m0 + (k + 2) + 1) capu) (some bu) := .inr ⟨bu, _, capu, _, rfl, rfl, hnu, haU', hlU2, hcapu⟩
    have hal := alias_c wc _ _ oz (some bu) hzc huc
    rw [show (decide (oz = some bu ∧ oz ≠ none)) = false by simp [hozu]] at hal
    have hg3 : wc.cell? ⟨0, 0, none⟩ = some (.int .i64 40) := by
      refine hchc.cell hG.g3 ?_
      rintro (h | h | h)
      · have h4 := cell1 hs
        have h5 := hG.g3
        have h6 : (0 : Nat) = s := h
        subst h6
        rw [h4] at h5; simp at h5
      · have h5 := lt_of_cell? hG.g3
        have h6 : (0 : Nat) = bv := h
        have h7 : (0 : Nat) < w.heap.size := h5
        omega
      · have h6 : (0 : Nat) = bu := h
        have h7 : (0 : Nat) < w.heap.size := lt_of_cell? hG.g3
        rcases hbu with ⟨e2, _⟩ | e2
        · subst e2; exact (h2.neVar hG.g3) h6.symm
        · have := hch1.size
          omega
    have hmq := fun n => make_c (wc.drewN n) _ oz (hzc.chg ((Chg.refl wc (fun _ => False)).drewN n) (fun _ _ h => h)) (m0 + 1) (by omega) (by omega)
    replace hmq := Lib.hid hmq
    go_wp2_with fail
    refine hal.mono ?_
    rintro e w' ⟨rfl, na, rfl⟩
    have hmq := hmq.out na
    rw [show ((m0 + 1 : Nat) : Int) = (m0 : Int) + 1 by omega] at hmq
    have q1 : IntKind.i64.wrap ((m0 : Int) + ((k : Int) + 2) - ((k : Int) + 2)) = (m0 : Int) := by rw [show (m0 : Int) + ((k : Int) + 2) - ((k : Int) + 2) = (m0 : Int) by omega]; exact IntWalk.i64_in _ (by omega)
    go_wp2_with fail
    refine hmq.mono ?_
    rintro e w5 ⟨r, rfl, bq, capq, Cq, rfl, haq, hCq, hnq, hcapq, hbq, hch5⟩
    have hch5' : Chg wc w5 (fun _ => False) := ((Chg.refl wc (fun _ => False)).drewN na).trans (hch5.mono (fun _ _ h => h.elim))
    have hbqu : bq ≠ bu := by
      rcases hbq with ⟨e, _⟩ | e
      · rintro rfl; exact hozu e
      · have h3 := haU'.lt
        have h4 : (wc.drewN na).heap.size = wc.heap.size := rfl
        omega
    have hbqv : bv ≠ bq := by
      rcases hbq with ⟨e, _⟩ | e
      · rintro rfl; exact hozv e
      · have h3 := haV'.lt
        have h4 : (wc.drewN na).heap.size = wc.heap.size := rfl
        omega
    have hg5 := hch5'.cell hg3 (fun h => h)
    have haV5 := hch5'.arr haV' (fun h => h)
    have haU5 := hch5'.arr haU' (fun h => h)
    have k40 : (k : Int) + 2 < 40 := by omega
    have hlC : V'.length ≤ Cv.length := by omega
    have hlCu : U'.length ≤ Cu.length := by omega
    have hne : s ≠ bv ∧ s ≠ bu ∧ s ≠ bq := by
      have hsc := lt_of_cell? (cell1 hs)
      have h1 : s < w.heap.size := hsc
      have h3 := hch1.size
      refine ⟨by omega, ?_, ?_⟩
      · rcases hbu with ⟨e, _⟩ | e
        · exact fun h => h2s _ e h.symm
        · omega
      · rcases hbq with ⟨e, _⟩ | e
        · exact fun h => hzs _ e h.symm
        · have h4 := haV'.lt
          have h5 : (wc.drewN na).heap.size = wc.heap.size := rfl
          have h6 := hchc.size
          omega
    have hcw5 : Chg w1 w5 (fun k => k = bv ∨ k = bu) := ((hch2.mono (fun _ _ h => h.elim)).trans (hch3.mono (fun _ _ h => .inl h))).trans (hch5'.mono (fun _ _ h => h.elim))
    have hst5 : StkS w5 s st := by
      refine hst.upd hcw5 (fun h => h.elim hne.1 hne.2.1) ?_ ?_
      · rintro t b l e
        subst e
        obtain ⟨c, C, hS⟩ := hst
        rintro (h | h)
        · exact hav.ne hS.ht (by decide) h.symm
        · subst h
          rcases hbu with ⟨e, _⟩ | e
          · exact (Stor.ne (e ▸ h2.chg hch1 h2s) hS.ht (by decide)) rfl
          · have := ltB' hS.ht; omega
      · rintro t b l C e hC
        rcases hstd with h | ⟨t', l', h, _, _, _⟩
        · rw [h] at e; cases e
        · rw [h] at e
          simp only [Option.some.injEq, Prod.mk.injEq] at e
          obtain ⟨_, rfl, _⟩ := e
          have := hav.uniq hC
          subst this
          exact ⟨_, haV5, by rw [spl_length (by omega)]⟩
    have hAt : At w5 bv 0 V' := fun i hi => by rw [Nat.zero_add, haV5.cellN (by rw [spl_length (by omega)]; omega), nth_spl0 hlC hi]
    have hsave : Calls Tryz.prog 180 #[.pointer (some ⟨s, 0, none⟩)] w5 fun e w' => e = .returned (.int .i64 ((topOf st : Nat) : Int)) ∧ w5 = w' := by
      have h := StkS.save hst5
      match st, hst5, h with
      | none, _, h => exact h
      | some (_, _, _), _, h => exact h
    have hnat := stkNat w5 s (k + 3) bv st V' hst5 (by omega) (by omega) hAt ⟨_, haV5, by rw [spl_length (by omega)]; omega⟩ (by
      rcases hstd with h | ⟨t', l', h, _, h1, h2⟩
      · exact .inl h
      · exact .inr ⟨t', l', h, by omega, by omega⟩)
    have nst : ∀ {x : Nat} {C : List Nat}, Arr w5 x C → x ≠ bv → ¬ StkBlk s st x := by
      intro x C hx hxv
      match st, hst5, hstd with
      | none, h, _ => exact fun e => hx.ne h (by decide) e
      | some (t, b, l), ⟨c, D, h⟩, hstd =>
        rcases hstd with h' | ⟨t', l', h', _, _, _⟩
        · cases h'
        · simp only [Option.some.injEq, Prod.mk.injEq] at h'
          obtain ⟨_, rfl, _⟩ := h'
          rintro (e | e)
          · exact hx.ne h.ht (by decide) e
          · exact hxv e
    have nbu := nst haU5 hbu1
    have nbq := nst haq hbqv.symm
    have hs15 : w.heap.size ≤ w5.heap.size := Nat.le_trans hch1.size hcw5.size
    have hdb := divBasic_c w5 (.pointer (some ⟨s, 0, none⟩)) bq capq bu capu bv 0 Gv (m0 + 1) k (topOf st) (spl Cu 0 U') Cq V'
      (fun v bh => Chg w5 v (StkBlk s st) ∧ (w5.heap.size ≤ bh ∨ bh = bv) ∧ (∃ H, Arr v bh H) ∧ StkW v s w.heap.size (topOf st))
      (fun v v' => StkW v' s w.heap.size 0 ∧ Chg v v' (Inner v w.heap.size))
      (by omega) (by omega) (by omega) hlV' hwV' hnV' (by omega) (by omega) (by omega) (by rw [hlU2]; omega) hbqu hbu1.symm hbqv
      (by rw [show m0 + 1 + (k + 1) = m0 + (k + 2) by omega, nth_spl0 hlCu (by omega)]; exact htU') hsave
      (hnat.mono (by
        rintro e v ⟨bh, oh, G, H, st', rfl, a1, a2, a3, a4, a5, a6, a7, a8, a9, a10⟩
        refine ⟨bh, oh, G, H, rfl, a1, a2, a3, ?_, ?_, a8.arr haU5 nbu, a8.arr haq nbq, a5, a6, a8, a4, ⟨H, a1⟩, ?_⟩
        · rcases a4 with h | h
          · have := haU5.lt; omega
          · rw [h]; exact hbu1.symm
        · rcases a4 with h | h
          · have := haq.lt; omega
          · rw [h]; exact hbqv
        · rcases hstd with h | ⟨t, l, h, ht, _, _⟩
          · subst h
            refine a7.weak (fun t b l e => ?_) (fun t b l e => Nat.zero_le _)
            rcases a9 rfl with h | ⟨t', b', l', h, h1, _⟩
            · rw [h] at e; cases e
            · rw [h] at e
              simp only [Option.some.injEq, Prod.mk.injEq] at e
              obtain ⟨rfl, _, _⟩ := e
              omega
          · subst h
            obtain ⟨l', e', hlo⟩ := a10 _ _ _ rfl
            subst e'
            obtain ⟨c, C, h1⟩ := a7
            have hu := a1.uniq h1.hb
            subst hu
            have := h1.hC
            exact .inr ⟨t, bh, l', c, ht, h1.hs, h1.ht, (show l ≤ c by omega), h1.hc⟩))
      (by
        rintro v bh v2 ⟨p1, p2', ⟨H, p3⟩, p4⟩ hc
        have au := p1.arr haU5 nbu
        have aq := p1.arr haq nbq
        have nin : ∀ {t : Nat} {cs : Array Value} {T : TypeId}, T ≠ 133 → v.heap[t]? = some (.cells cs T (0, 0)) → ¬ (t = bu ∨ t = bq ∨ t = bh) := by
          intro t cs T hT ht
          rintro (h | h | h)
          · exact au.ne ht hT h.symm
          · exact aq.ne ht hT h.symm
          · exact p3.ne ht hT h.symm
        have hns : ¬ (s = bu ∨ s = bq ∨ s = bh) := by
          rcases p4 with h | ⟨t, b, l, c, _, h, _⟩
          · exact nin (by decide) h
          · exact nin (by decide) h
        refine (restoreW v2 s w.heap.size (topOf st) .returning (p4.chg hc hns (fun t cs ht => nin (by decide) ht))).mono ?_
        rintro e u' v3 ⟨rfl, rfl, h⟩
        exact ⟨rfl, rfl, h⟩)
    rw [show m0 + 1 + (k + 2) = m0 + (k + 2) + 1 by omega] at hdb
    go_wp2_with fail
    with_reducible refine hdb.mono ?_
    rintro e w6 ⟨rfl, v1, bh, v2, U2, Q2, ⟨p1, p2', ⟨H, p3⟩, p4⟩, hcA, haU6, hlU6, haQ6, hlQ6, hmod, hdiv, hS6, hcB⟩
    have haQ7 := hcB.arr haQ6 (Inner.arr haQ6)
    have haU7 := hcB.arr haU6 (Inner.arr haU6)
    have tk : (spl Cu 0 U').take (m0 + (k + 2) + 1) = U' := by rw [← hlU']; exact spl_zero_take hlCu
    have hp : 0 < 2 ^ sh := Nat.pow_pos (by omega)
    rw [tk, hvV', hvU', Nat.mul_mod_mul_right] at hmod
    rw [tk, hvV', hvU', Nat.mul_div_mul_right _ _ hp] at hdiv
    have n1 := norm_c w6 bq (m0 + 1) capq Q2 haQ7 (by omega) (by omega) (by omega)
    rw [hdiv] at n1
    have hS0 : ∀ k, k = bu → (some k = oz ∨ some k = o2 ∨ k = s) ∨ w.heap.size ≤ k := by
      rintro k rfl
      rcases hbu with ⟨e, _⟩ | e
      · exact .inl (.inr (.inl e.symm))
      · have := hch1.size; exact .inr (by omega)
    have hS1 : ∀ k, k = bq → (some k = oz ∨ some k = o2 ∨ k = s) ∨ w.heap.size ≤ k := by
      rintro k rfl
      rcases hbq with ⟨e, _⟩ | e
      · exact .inl (.inl e.symm)
      · have h5 : (wc.drewN na).heap.size = wc.heap.size := rfl
        have h6 := hchc.size
        exact .inr (by omega)
    have hblk : ∀ k, StkBlk s st k → (some k = oz ∨ some k = o2 ∨ k = s) ∨ w.heap.size ≤ k := by
      intro k h
      rcases hstd with e | ⟨t, l, e, ht, _, _⟩
      · subst e; exact .inl (.inr (.inr h))
      · subst e
        rcases h with h | h
        · exact .inr (by omega)
        · exact .inr (by omega)
    have t0 : Chg w w6 (fun k => some k = oz ∨ some k = o2 ∨ k = s) := by
      have u0 : Chg w wc (fun k => some k = oz ∨ some k = o2 ∨ k = s) := hchc.mono (fun k hk h => by
        rcases h with h | h | h
        · exact .inr (.inr h)
        · omega
        · exact (hS0 k h).resolve_right (by omega))
      have u1 := u0.trans (hch5'.mono (fun _ _ h => h.elim))
      have u2 := u1.trans (p1.mono (fun k _ h => hblk k h))
      have u3 := u2.trans (hcA.mono (fun k _ h => by
        rcases h with h | h | h
        · exact hS0 k h
        · exact hS1 k h
        · rcases p2' with h' | h' <;> exact .inr (by omega)))
      exact u3.trans (hcB.mono (fun k _ h => .inr h.1))
    have fin : ∀ wf UF, Chg w6 wf (fun k => k = bu) → Arr wf bu UF → UF.length = capu → val (UF.take (m0 + (k + 2) + 1)) = U % V → ∀ w7, StkW w7 s w.heap.size 0 → Chg wf w7 (Inner wf w.heap.size) →
        DivRes w w7 oz o2 (.slice (some ⟨bq, 0, none⟩) (digs (U / V)).length capq) (.slice (some ⟨bu, 0, none⟩) (digs (U % V)).length capu) (U / V) (U % V) ∧ StkW w7 s w.heap.size 0 ∧ Chg w w7 (fun k => some k = oz ∨ some k = o2 ∨ k = s) := by
      intro wf UF hc ha hl hv w7 hs7 hc7
      have aq := hc.arr haQ7 hbqu
      have aq7 := hc7.arr aq (Inner.arr aq)
      have au7 := hc7.arr ha (Inner.arr ha)
      have iq := isNat_of (l := m0 + 1) aq7 (hlQ6.trans hCq) hcapq (by omega)
      have iu := isNat_of (l := m0 + (k + 2) + 1) au7 hl hcapu (by omega)
      rw [hdiv] at iq
      rw [hv] at iu
      refine ⟨⟨some bq, some bu, iq, iu, ?_, ?_, fun b h => by cases h; intro h; exact hbqu (Option.some.inj h).symm⟩, hs7, (t0.trans (hc.mono (fun k _ h => hS0 k h))).trans (hc7.mono (fun k _ h => .inr h.1))⟩
      · rcases hS1 bq rfl with (h | h | h) | h
        · exact .inl h
        · exact absurd h (fun h => by
            rcases hbq with ⟨e, _⟩ | e
            · exact hdist _ e h.symm
            · have h5 : (wc.drewN na).heap.size = wc.heap.size := rfl
              have h6 := hchc.size
              have h7 : bq < w.heap.size := by rw [← h] at h2; exact h2.lt
              omega)
        · exact absurd h.symm hne.2.2
        · exact .inr (.inr ⟨bq, rfl, h⟩)
      · rcases hbu with ⟨e, _⟩ | e
        · exact .inl e.symm
        · have := hch1.size; exact .inr (.inr ⟨bu, rfl, by omega⟩)
    replace fin := Lib.hid fin
    have hlU6c : U2.length = capu := hlU6.trans hlU2
    replace n1 := Lib.hid n1
    clear hdb hsave hnat nst nbu nbq hS0 hS1 hblk t0 hcA hcB p1 p2' p3 p4 tk
    go_wp2_with fail
    with_reducible refine n1.out.mono ?_
    rintro e w' ⟨rfl, hw⟩
    obtain rfl := hw
    by_cases h0 : sh = 0
    · have e2 : 2 ^ sh = 1 := by rw [h0]
      rw [e2, Nat.mul_one] at hmod
      have hz0 : ((sh : Int) != 0) = false := by simp; exact h0
      have n2 := norm_c w6 bu (m0 + (k + 2) + 1) capu U2 haU7 (by omega) (by omega) (by omega)
      rw [hmod] at n2
      have hfin := fin.out w6 U2 (Chg.refl _ _) haU7 hlU6c hmod
      have hrs := restoreW w6 s w.heap.size 0 .returning hS6
      replace n2 := Lib.hid n2
      replace hfin := Lib.hid hfin
      replace hrs := Lib.hid hrs
      replace h0 := Lib.hid h0
      clear e2
      go_wp2_with fail
      with_reducible refine n2.out.mono ?_
      rintro e w' ⟨rfl, hw⟩
      obtain rfl := hw
      go_wp2
      refine leaves_cons (f := 179) (args := #[.pointer (some ⟨s, 0, none⟩), .int .i64 0]) (by simp) (by simp [go_sem]) ?_
      refine hrs.out.mono ?_
      rintro e u' w'' ⟨rfl, rfl, h1, h2⟩
      exact ⟨.tuple #[.slice (some ⟨bq, 0, none⟩) (digs (U / V)).length capq, .slice (some ⟨bu, 0, none⟩) (digs (U % V)).length capu], by simp [results, Tryz.results162, go_sem], _, _, rfl, hfin.out w'' h1 h2⟩
    · have hz0 : ((sh : Int) != 0) = true := by simp; exact h0
      have q3 := rshVU_c w6 bu 0 (m0 + (k + 2)) capu bu 0 capu sh U2 U2 (by omega) (by omega) hsh haU7 (by omega) haU7 (by omega) (.inr (Nat.le_refl _))
      rw [List.drop_zero, hmod, Nat.mul_div_cancel _ hp] at q3
      have hrs := fun wf (h : Chg w6 wf (fun k => k = bu)) (ha : Arr wf bu (spl U2 0 (digs 0))) => restoreW wf s w.heap.size 0 .returning (hS6.chg h (fun e => hne.2.1 e) (fun t cs ht e => haU7.ne ht (by decide) e.symm))
      have hns : ∀ wf, Chg w6 wf (fun k => k = bu) → StkW wf s w.heap.size 0 := fun wf h => hS6.chg h (fun e => hne.2.1 e) (fun t cs ht e => haU7.ne ht (by decide) e.symm)
      clear hrs
      replace q3 := Lib.hid q3
      replace h0 := Lib.hid h0
      replace hns := Lib.hid hns
      go_wp2_with fail
      with_reducible refine q3.out.mono ?_
      rintro e w7 ⟨R, c, rfl, hS7, hR, hval⟩
      have hlR : (spl U2 0 R).length = capu := by rw [spl_length (by omega)]; exact hlU6c
      have tk2 : (spl U2 0 R).take (m0 + (k + 2) + 1) = R := by rw [← hR]; exact spl_zero_take (by omega)
      have n2 := norm_c w7 bu (m0 + (k + 2) + 1) capu (spl U2 0 R) hS7.arr (by omega) (by omega) (by omega)
      rw [tk2, hval] at n2
      have hfin := fin.out w7 (spl U2 0 R) hS7.chg hS7.arr hlR (by rw [tk2]; exact hval)
      have hrs := restoreW w7 s w.heap.size 0 .returning (hns.out w7 hS7.chg)
      replace n2 := Lib.hid n2
      replace hfin := Lib.hid hfin
      replace hrs := Lib.hid hrs
      clear tk2 hlR
      go_wp2_with fail
      with_reducible refine n2.out.mono ?_
      rintro e w' ⟨rfl, hw⟩
      obtain rfl := hw
      go_wp2
      refine leaves_cons (f := 179) (args := #[.pointer (some ⟨s, 0, none⟩), .int .i64 0]) (by simp) (by simp [go_sem]) ?_
      refine hrs.out.mono ?_
      rintro e u' w'' ⟨rfl, rfl, h1, h2⟩
      exact ⟨.tuple #[.slice (some ⟨bq, 0, none⟩) (digs (U / V)).length capq, .slice (some ⟨bu, 0, none⟩) (digs (U % V)).length capu], by simp [results, Tryz.results162, go_sem], _, _, rfl, hfin.out w'' h1 h2⟩
end Go.Proofs.YtgdpljjmnmapmaaGreatDoor

namespace Go.Proofs.YtgdpljjmnmapmaaGreatDoor
open Go Go.RowKit

set_option maxRecDepth 200000 in
set_option maxHeartbeats 4000000 in
theorem divBig_c (w : World) (z z2 u v : Value) (U V : Nat) (oz o2 ou ov : Option Nat) (hG : Glob w) (hz : Stor w z oz) (h2 : Stor w z2 o2) (hu : IsNat w u U ou) (hv : IsNat w v V ov)
    (hdist : ∀ b, oz = some b → o2 ≠ some b) (hV2 : 2 ≤ (digs V).length) (hV40 : (digs V).length < 40) (hle : V ≤ U) (hU : (digs U).length ≤ 250) :
    Calls Tryz.prog 133 #[z, .pointer none, z2, u, v] w fun e w' => ∃ rq rr, e = .returned (.tuple #[rq, rr]) ∧ DivRes w w' oz o2 rq rr (U / V) (U % V) ∧ Chg w w' (fun k => some k = oz ∨ some k = o2) := by
  have hcmp := natcmp_c w u v U V ou ov hu hv
  have hord : 0 ≤ ordN U V := by unfold ordN; split <;> (try split) <;> omega
  have hV0 : V ≠ 0 := by rintro rfl; rw [digs_zero] at hV2; simp at hV2
  have hz' := hz
  have h2' := h2
  obtain ⟨pz, lz, cz, rfl⟩ := stor_slice hz'
  obtain ⟨p2, l2, c2, rfl⟩ := stor_slice h2'
  obtain ⟨pv, cv, rfl, _, _⟩ := hv.shape
  obtain ⟨pu, cu, rfl, _, _⟩ := hu.shape
  have hlt : ∀ k, w.heap.size ≤ k → ¬ (some k = oz ∨ some k = o2) := by
    rintro k hk (h | h)
    · rw [← h] at hz'; have := hz'.lt; omega
    · rw [← h] at h2'; have := h2'.lt; omega
  have hdl := fun w1 s (hs : Stk0 w1 s) (hc : Chg w w1 (fun _ => False)) => divLarge_c w1 (.slice pz lz cz) (.slice p2 l2 c2) _ _ U V s oz o2 ou ov (hG.chg hc (fun _ _ h => h)) hs (hz.chg hc (fun _ _ h => h)) (h2.chg hc (fun _ _ h => h)) (hu.chg hc (fun _ _ h => h)) (hv.chg hc (fun _ _ h => h)) hdist hV2 hV40 hle hU
  replace hdl := Lib.hid hdl
  replace hcmp := Lib.hid hcmp
  generalize hL : (digs V).length = L at *
  generalize hM : (digs U).length = M at *
  replace hL := Lib.hid hL
  replace hM := Lib.hid hM
  go_enter_defers Tryz.func133, Tryz.ntmps133
  go_wp2_with fail
  with_reducible refine hcmp.out.mono ?_
  rintro e w' ⟨rfl, n, hw⟩
  have hc0 : Chg w w' (fun _ => False) := by rw [hw]; exact (Chg.refl w _).drewN n
  have hsz : w'.heap.size = w.heap.size := by rw [hw]; rfl
  clear hw hcmp
  replace hsz := Lib.hid hsz
  generalize ordN U V = r at hord ⊢
  have hgs := getStack_c w'
  have e0 : decide (r < 0) = false := by simp; omega
  go_wp2_with fail
  with_reducible refine hgs.mono ?_
  rintro e w1 ⟨rfl, hs1, hc1⟩
  have hc01 : Chg w w1 (fun _ => False) := hc0.trans (hc1.mono (fun _ _ h => h.elim))
  have hd := hdl.out w1 _ hs1 hc01
  replace hd := Lib.hid hd
  go_wp2_with fail
  with_reducible refine hd.out.mono ?_
  rintro e w2 ⟨rq, rr, rfl, ⟨oq, or', hq, hrr, hoq, hor, hne⟩, hsw, hc2⟩
  have hfr := freeW w2 _ _ .returning hsw
  replace hfr := Lib.hid hfr
  go_wp2
  refine leaves_cons (f := 161) (args := #[.pointer (some ⟨w'.heap.size, 0, none⟩)]) (by simp) (by simp [go_sem]) ?_
  refine hfr.out.mono ?_
  rintro e u' w3 ⟨rfl, rfl, h1⟩
  have hni : ∀ {v : Value} {N : Nat} {o : Option Nat}, IsNat w2 v N o → ∀ k, o = some k → ¬ Inner w2 w1.heap.size k := by
    intro v N o h k hk
    rcases h with ⟨_, _, h⟩ | ⟨b, _, C, h, _, ha, _⟩
    · rw [h] at hk; cases hk
    · rw [h] at hk; cases hk; exact Inner.arr ha
  have hs1' := hc01.size
  have hsz' := hsz.out
  refine ⟨.tuple #[rq, rr], by simp [results, Tryz.results133, go_sem], rq, rr, rfl, ⟨oq, or', hq.chg h1 (hni hq), hrr.chg h1 (hni hrr), ?_, ?_, hne⟩, ?_⟩
  · rcases hoq with h | h | ⟨b, h, hb⟩
    · exact .inl h
    · exact .inr (.inl h)
    · exact .inr (.inr ⟨b, h, by omega⟩)
  · rcases hor with h | h | ⟨b, h, hb⟩
    · exact .inl h
    · exact .inr (.inl h)
    · exact .inr (.inr ⟨b, h, by omega⟩)
  · refine ((hc01.mono (fun _ _ h => h.elim)).trans (hc2.mono (fun k _ h => ?_))).trans (h1.mono (fun k _ h => .inr (by have := h.1; omega)))
    rcases h with h | h | h
    · exact .inl (.inl h)
    · exact .inl (.inr h)
    · exact .inr (by omega)

theorem Stor.cut {w : World} {p : Option Addr} {l c : Nat} {o : Option Nat} (h : Stor w (.slice p l c) o) : IsNat w (.slice p 0 c) 0 o := by
  rcases h with ⟨h, rfl⟩ | ⟨b, l', cap, C, rfl, h, _, ha, hc, hcap⟩
  · injection h with h1 h2 h3
    subst h1 h2 h3
    exact .inl ⟨rfl, rfl, rfl⟩
  · injection h with h1 h2 h3
    subst h1 h2 h3
    exact .inr ⟨b, c, C, rfl, by rw [digs_zero]; rfl, ha, hc, hcap, by rw [digs_zero]; rfl⟩
set_option maxHeartbeats 4000000 in
theorem divLess_c (w : World) (z z2 u v : Value) (U V : Nat) (oz o2 ou ov : Option Nat) (hz : Stor w z oz) (h2 : Stor w z2 o2) (hu : IsNat w u U ou) (hv : IsNat w v V ov)
    (hdist : ∀ b, oz = some b → o2 ≠ some b) (hV2 : 2 ≤ (digs V).length) (hlt : U < V) (hU : (digs U).length ≤ 1000) :
    Calls Tryz.prog 133 #[z, .pointer none, z2, u, v] w fun e w' => ∃ rq rr, e = .returned (.tuple #[rq, rr]) ∧ DivRes w w' oz o2 rq rr (U / V) (U % V) ∧ Chg w w' (fun k => some k = oz ∨ some k = o2) := by
  have hcmp := natcmp_c w u v U V ou ov hu hv
  rw [ordN_lt hlt] at hcmp
  rw [Nat.div_eq_of_lt hlt, Nat.mod_eq_of_lt hlt]
  have hset := fun n => set_c (w.drewN n) z2 u U o2 ou (h2.chg ((Chg.refl w (fun _ => False)).drewN n) (fun _ _ h => h)) (hu.chg ((Chg.refl w (fun _ => False)).drewN n) (fun _ _ h => h)) hU
  obtain ⟨pz, lz, cz, rfl⟩ := stor_slice hz
  obtain ⟨pv, cv, rfl, _, _⟩ := hv.shape
  have hcut := hz.cut
  have hlz : lz ≤ cz := by
    rcases hz with ⟨h, _⟩ | ⟨b, l', cap, C, _, h, h3, _, h4, h5⟩
    · injection h with _ h1 h2; omega
    · injection h with _ h1 h2; omega
  have hz0 : pz = none → cz = 0 := by
    rintro rfl
    rcases hz with ⟨h, _⟩ | ⟨b, l', cap, C, _, h, _⟩
    · injection h
    · injection h with h1; cases h1
  generalize hL : (digs V).length = L at *
  replace hL := Lib.hid hL
  replace hset := Lib.hid hset
  replace hcmp := Lib.hid hcmp
  replace hcut := Lib.hid hcut
  have hk : ∀ w', Chg w w' (fun k => some k = o2) → IsNat w' (.slice pz 0 cz) 0 oz := fun w' hc => hcut.out.chg hc (fun b e h => hdist b e h.symm)
  replace hk := Lib.hid hk
  go_enter_defers Tryz.func133, Tryz.ntmps133
  go_wp2_with fail
  with_reducible refine hcmp.out.mono ?_
  rintro e w' ⟨rfl, n, hw⟩
  obtain rfl := hw
  go_wp2_with fail
  with_reducible refine (hset.out n).mono ?_
  rintro e w2 ⟨rr, rfl, or', hrr, hor, hch⟩
  go_wp2
  have hq := hk.out w2 (((Chg.refl w (fun _ => False)).drewN n |>.mono (fun _ _ h => h.elim)).trans (hch.mono (fun k _ h => .inl h)))
  refine ⟨.tuple #[.slice pz 0 cz, rr], by simp [results, Tryz.results133, go_sem], _, _, rfl, ⟨oz, or', hq, hrr, .inl rfl, hor, fun b hb hb2 => ?_⟩, ((Chg.refl w (fun _ => False)).drewN n |>.mono (fun _ _ h => h.elim)).trans (hch.mono (fun k _ h => .inl (.inr h)))⟩
  rcases hor with h | h | ⟨b', h, hb'⟩
  · rw [h] at hb2; exact hdist b hb hb2
  · rw [h] at hb2; cases hb2
  · rw [h] at hb2
    have hbl : b < w.heap.size := by rw [hb] at hz; exact hz.lt
    have h5 : (w.drewN n).heap.size = w.heap.size := rfl
    cases hb2
    omega

set_option maxHeartbeats 4000000 in
theorem divOne_c (w : World) (z z2 u v : Value) (U V : Nat) (oz o2 ou ov : Option Nat) (hz : Stor w z oz) (h2 : Stor w z2 o2) (hu : IsNat w u U ou) (hv : IsNat w v V ov)
    (hdist : ∀ b, oz = some b → o2 ≠ some b) (hV0 : V ≠ 0) (hV1 : V < WB) (hU : (digs U).length ≤ 900) :
    Calls Tryz.prog 133 #[z, .pointer none, z2, u, v] w fun e w' => ∃ rq rr, e = .returned (.tuple #[rq, rr]) ∧ DivRes w w' oz o2 rq rr (U / V) (U % V) ∧ Chg w w' (fun k => some k = oz ∨ some k = o2) := by
  have hdw := divW_c w z u U V oz ou hz hu hU hV1 (by omega)
  have hr : U % V < WB := Nat.lt_trans (Nat.mod_lt _ (by omega)) hV1
  obtain ⟨bv, cv, Cv, rfl, rfl, hav, hcv, hcapv, htv, hlv, hpv⟩ := hv.pos hV0
  have hd1 : (digs V).length = 1 := by
    have h1 : (digs V).length ≤ 1 := digs_len_le.2 (by simpa using hV1)
    have h2 := digs_len_pos hV0
    omega
  have hdv : nth Cv 0 = V := by
    have h1 := nth_take (l := Cv) (i := 0) (k := (digs V).length) (by omega)
    rw [htv] at h1
    rw [← h1]
    have h3 := val_digs V
    match hh : digs V, hd1 with
    | [x], _ => rw [hh] at h3; simp [val] at h3; simp [nth, h3]
  have hc := hav.cellN (i := 0) (by omega)
  rw [hdv] at hc
  rw [hd1]
  obtain ⟨rm, hrm⟩ : ∃ rm, U % V = rm := ⟨_, rfl⟩
  rw [hrm] at hdw hr ⊢
  have hsw := fun w1 (h : Stor w1 z2 o2) => setWord_c w1 z2 rm o2 h hr
  clear hrm
  replace hdw := Lib.hid hdw
  replace hsw := Lib.hid hsw
  have hdd := hdist
  replace hdd := Lib.hid hdd
  go_enter_defers Tryz.func133, Tryz.ntmps133
  go_wp2_with fail
  with_reducible refine hdw.out.mono ?_
  rintro e w1 ⟨rq, rfl, oq, hq, hoq, hch1⟩
  have h21 : Stor w1 z2 o2 := h2.chg hch1 (fun b hb e => hdist b e.symm hb)
  go_wp2_with fail
  with_reducible refine (hsw.out w1 h21).mono ?_
  rintro e w2 ⟨rr, rfl, or', hrr, hor, hch2⟩
  go_wp2
  have s1 := hch1.size
  have noq : ∀ b, oq = some b → o2 ≠ some b := by
    intro b hb ho
    rcases hoq with h | h | ⟨b', h, hb'⟩
    · exact hdist b (h ▸ hb) ho
    · rw [h] at hb; cases hb
    · rw [h] at hb
      cases hb
      have : b < w.heap.size := by rw [ho] at h2; exact h2.lt
      omega
  refine ⟨.tuple #[rq, rr], by simp [results, Tryz.results133, go_sem], _, _, rfl, ⟨oq, or', hq.chg hch2 (fun b hb e => noq b hb e.symm), hrr, hoq, ?_, fun b hb hb2 => ?_⟩, (hch1.mono (fun _ _ h => .inl h)).trans (hch2.mono (fun k _ h => .inl (.inr h)))⟩
  · rcases hor with h | h | ⟨b', h, hb'⟩
    · exact .inl h
    · exact .inr (.inl h)
    · exact .inr (.inr ⟨b', h, by omega⟩)
  · rcases hor with h | h | ⟨b', h, hb'⟩
    · exact noq b hb (h ▸ hb2)
    · rw [h] at hb2; cases hb2
    · rw [h] at hb2
      cases hb2
      have := hq.stor
      rw [hb] at this
      have := this.lt
      omega

/-- Quotient and remainder of natural numbers. -/
theorem natDiv_c (w : World) (z z2 u v : Value) (U V : Nat) (oz o2 ou ov : Option Nat) (hG : Glob w) (hz : Stor w z oz) (h2 : Stor w z2 o2) (hu : IsNat w u U ou) (hv : IsNat w v V ov)
    (hdist : ∀ b, oz = some b → o2 ≠ some b) (hV0 : V ≠ 0) (hV40 : (digs V).length < 40) (hU : (digs U).length ≤ 250) :
    Calls Tryz.prog 133 #[z, .pointer none, z2, u, v] w fun e w' => ∃ rq rr, e = .returned (.tuple #[rq, rr]) ∧ DivRes w w' oz o2 rq rr (U / V) (U % V) ∧ Chg w w' (fun k => some k = oz ∨ some k = o2) := by
  by_cases h1 : V < WB
  · exact divOne_c w z z2 u v U V oz o2 ou ov hz h2 hu hv hdist hV0 h1 (by omega)
  · have hV2 : 2 ≤ (digs V).length := by
      rcases Nat.lt_or_ge (digs V).length 2 with h | h
      · exact absurd (by have := digs_len_le.1 (show (digs V).length ≤ 1 by omega); simpa using this) h1
      · exact h
    by_cases hlt : U < V
    · exact divLess_c w z z2 u v U V oz o2 ou ov hz h2 hu hv hdist hV2 hlt (by omega)
    · exact divBig_c w z z2 u v U V oz o2 ou ov hG hz h2 hu hv hdist hV2 hV40 (by omega) hU
end Go.Proofs.YtgdpljjmnmapmaaGreatDoor

namespace Go.Proofs.YtgdpljjmnmapmaaGreatDoor
open Go Go.RowKit

theorem eqlInt {w : World} {a b oa ob : Nat} {ca cb : Array Value} {ta tb : TypeId} (hne : (⟨a, oa, none⟩ : Addr) ≠ ⟨b, ob, none⟩) (ha : w.heap[a]? = some (.cells ca ta (0, 0))) (hb : w.heap[b]? = some (.cells cb tb (0, 0))) :
    (binOp .eql 131 (.pointer (some ⟨a, oa, none⟩)) (.pointer (some ⟨b, ob, none⟩))).run Tryz.prog w = .ok (.bool false) w := by
  obtain ⟨j, hj, hs⟩ := infoInt
  exact run_eql_ptr_other Tryz.underlying131 hj hs hne ha hb
theorem eqlIntSame {w : World} (a : Addr) : (binOp .eql 131 (.pointer (some a)) (.pointer (some a))).run Tryz.prog w = .ok (.bool true) w := by
  obtain ⟨j, hj, _⟩ := infoInt
  exact run_eql_ptr_same a Tryz.underlying131 hj
theorem neqIntSame {w : World} (a : Addr) : (binOp .neq 131 (.pointer (some a)) (.pointer (some a))).run Tryz.prog w = .ok (.bool false) w := by
  obtain ⟨j, hj, _⟩ := infoInt
  exact run_neq_ptr_same a Tryz.underlying131 hj

/-- A callee's contract, met behind a quiet region. -/
theorem quietAdd {P : Program} {f : FuncId} {args : Array Value} {w : World} {a n : Nat} {v : Value}
    (h : Calls P f args (w.drewN (a + n)) fun e w' => e = .returned v ∧ ∃ m, w' = (w.drewN (a + n)).drewN m) : Calls P f args (w.drewN (a + n)) fun e w'' => e = .returned v ∧ ∃ m, w'' = w.drewN (a + m) :=
  h.mono fun _ _ ⟨he, m, hm⟩ => ⟨he, n + m, by rw [hm, World.drewN_drewN, Nat.add_assoc]⟩
/-- What is known of a place: its sign, its words, that both may be written. -/
structure Opn (w0 w : World) (σ : Sg) (b o : Nat) (g : Bool) (N : Nat) (v : Value) (s : Option Nat) : Prop where
  c0 : w.cell? ⟨b, o, none⟩ = some (.bool g)
  c1 : w.cell? ⟨b, o + 1, none⟩ = some v
  f0 : w.frozen? ⟨b, o, none⟩ = false
  f1 : w.frozen? ⟨b, o + 1, none⟩ = false
  nat : IsNat w v N s
  sep : ∀ k, s = some k → ∀ c it, σ c = some it → k ≠ c
  base : ∀ k, s = some k → w0.heap.size ≤ k
  abs : ∀ w' v' N' s', Chg w w' (fun k => some k = s) → IsNat w' v' N' s' → (s' = s ∨ s' = none ∨ ∃ k, s' = some k ∧ w.heap.size ≤ k) → Hold w0 (w'.setCell ⟨b, o + 1, none⟩ v') (put σ b o g N')
  neg : ∀ g', Hold w0 (w.setCell ⟨b, o, none⟩ (.bool g')) (put σ b o g' N)
  blk : ∃ cs T, w.heap[b]? = some (.cells cs T (0, 0)) ∧ cs[o]? = some (.bool g) ∧ cs[o + 1]? = some v
theorem Hold.op {w0 w : World} {σ : Sg} (h : Hold w0 w σ) {b o : Nat} {g : Bool} {N : Nat} (hn : Num σ b o g N) : ∃ v s, Opn w0 w σ b o g N v s := by
  obtain ⟨v, s, cs, T, h1, _, h3, h4, h5, h6, h7, h8⟩ := h.opened hn
  exact ⟨v, s, cellB h1 h3, cellB h1 h4, frozenB h1 _, frozenB h1 _, h5, fun k hk => (h6 k hk).2.2, fun k hk => (h6 k hk).2.1, h7, h8, cs, T, h1, h3, h4⟩
/-- The cells of any place stay while words are written elsewhere. -/
theorem Opn.after {w0 w w' : World} {σ : Sg} {b o c p : Nat} {g g1 : Bool} {N N1 : Nat} {v v1 : Value} {s s1 : Option Nat} (hb : Opn w0 w σ b o g N v s) (hc : Opn w0 w σ c p g1 N1 v1 s1) (hcn : Num σ c p g1 N1) (h : Chg w w' (fun k => some k = s)) :
    w'.cell? ⟨c, p, none⟩ = some (.bool g1) ∧ w'.cell? ⟨c, p + 1, none⟩ = some v1 ∧ w'.frozen? ⟨c, p, none⟩ = false ∧ w'.frozen? ⟨c, p + 1, none⟩ = false := by
  obtain ⟨cs, T, h1, h2, h3⟩ := hc.blk
  obtain ⟨it, hit, _⟩ := hcn
  have h4 := h.heapB h1 (fun e => hb.sep c e.symm c it hit rfl)
  exact ⟨cellB h4 h2, cellB h4 h3, frozenB h4 _, frozenB h4 _⟩
/-- A number comes into a place. -/
theorem Opn.stored {w0 w w2 w1 : World} {σ : Sg} {b o : Nat} {g : Bool} {N M : Nat} {v r : Value} {s : Option Nat} (p : Opn w0 w σ b o g N v s) (hn : Num σ b o g N) (hd : Chg w w2 (fun _ => False)) (hz : w2.heap.size = w.heap.size) (h : NatRes w2 w1 s r M) :
    w1.cell? ⟨b, o + 1, none⟩ = some v ∧ w1.frozen? ⟨b, o + 1, none⟩ = false ∧ Hold w0 (w1.setCell ⟨b, o + 1, none⟩ r) (put σ b o g M) ∧ ∃ pr cr, r = .slice pr (digs M).length cr := by
  obtain ⟨o', hr, ho', hch⟩ := h
  have hch' : Chg w w1 (fun k => some k = s) := (hd.mono (fun _ _ h => h.elim)).trans (hch.mono (fun _ _ h => .inl h))
  obtain ⟨_, g1, _, g3⟩ := Opn.after p p hn hch'
  obtain ⟨pr, cr, rfl, _, _⟩ := hr.shape
  refine ⟨g1, g3, p.abs w1 _ M o' hch' hr ?_, pr, cr, rfl⟩
  rcases ho' with h | h | ⟨k, h, hk⟩
  · exact .inl h
  · exact .inr (.inl h)
  · exact .inr (.inr ⟨k, h, by omega⟩)
theorem Num.isome {σ : Sg} {b o : Nat} {g : Bool} {N : Nat} (h : Num σ b o g N) : ∃ it, σ b = some it := by obtain ⟨it, h, _⟩ := h; exact ⟨it, h⟩
/-- Signs, where words were stored. -/
theorem Hold.signs {w0 w : World} {σ : Sg} {b o c p : Nat} {g g1 : Bool} {M N N1 : Nat} (h : Hold w0 w (put σ b o g M)) (hz : Num σ b o g N) (hx : Num σ c p g1 N1) : w.cell? ⟨c, p, none⟩ = some (.bool g1) := by
  obtain ⟨N2, hx2⟩ := hx.sign hz M
  obtain ⟨v, s, p⟩ := h.op hx2
  exact p.c0
/-- A place whose sign is to be laid. -/
theorem Hold.fin {w0 w : World} {σ : Sg} {b o : Nat} {g : Bool} {M N : Nat} (h : Hold w0 w (put σ b o g M)) (hz : Num σ b o g N) :
    ∃ p c, w.cell? ⟨b, o + 1, none⟩ = some (.slice p (digs M).length c) ∧ w.cell? ⟨b, o, none⟩ = some (.bool g) ∧ w.frozen? ⟨b, o, none⟩ = false ∧ ∀ g', Hold w0 (w.setCell ⟨b, o, none⟩ (.bool g')) (put σ b o g' M) := by
  obtain ⟨v, s, p⟩ := h.op (hz.put g M)
  obtain ⟨pr, cr, rfl, _, _⟩ := p.nat.shape
  refine ⟨pr, cr, p.c1, p.c0, p.f0, fun g' => ?_⟩
  have h1 := p.neg g'
  rw [put_put hz] at h1
  exact h1
/-- A place of an apd.BigInt. -/
def BNum (σ : Sg) (b o : Nat) (g : Bool) (N : Nat) : Prop := ∃ it, σ b = some it ∧ it.num o = some (g, N) ∧ it.k ≠ 2
theorem BNum.num {σ : Sg} {b o : Nat} {g : Bool} {N : Nat} (h : BNum σ b o g N) : Num σ b o g N := by obtain ⟨it, h1, h2, _⟩ := h; exact ⟨it, h1, h2⟩
theorem BNum.put {σ : Sg} {b o : Nat} {g : Bool} {N : Nat} (h : BNum σ b o g N) (g' : Bool) (N' : Nat) : BNum (put σ b o g' N') b o g' N' := by
  obtain ⟨it, h1, h2, h3⟩ := h
  rw [put_upd h1]
  exact ⟨_, upd_eq _ _ _, It.num_put h2 _ _, by rw [It.put_k]; exact h3⟩
theorem bnum_dec {σ : Sg} {b : Nat} {f e : Int} {n g : Bool} {N : Nat} (h : σ b = some (dec f n e g N)) : BNum σ b 3 g N := ⟨_, h, rfl, Nat.ne_of_beq_eq_false rfl⟩
theorem bnum_big {σ : Sg} {b : Nat} {g : Bool} {N : Nat} (h : σ b = some (big g N)) : BNum σ b 0 g N := ⟨_, h, rfl, Nat.ne_of_beq_eq_false rfl⟩
theorem Hold.bmin {w0 w : World} {σ : Sg} (h : Hold w0 w σ) {b o : Nat} {g : Bool} {N : Nat} (hn : BNum σ b o g N) : w.frozen? ⟨b, o + 2, none⟩ = false ∧ w.cell? ⟨b, o + 2, none⟩ = some (.bool false) ∧ Hold w0 (w.setCell ⟨b, o + 2, none⟩ (.bool false)) σ := by
  obtain ⟨it, h1, h2, h3⟩ := hn
  exact h.minus h1 h2 h3
theorem DivRes.quo {w w' : World} {oz : Option Nat} {rq rr : Value} {q r : Nat} (h : DivRes w w' oz none rq rr q r) (hc : Chg w w' (fun k => some k = oz ∨ some k = none)) : NatRes w w' oz rq q := by
  obtain ⟨oq, or', hq, hr, hoq, hor, _⟩ := h
  exact ⟨oq, hq, hoq, hc.mono (fun _ _ h => h.elim id (fun h => by cases h))⟩
theorem DivRes.rem {w w' : World} {oz : Option Nat} {rq rr : Value} {q r : Nat} (h : DivRes w w' none oz rq rr q r) (hc : Chg w w' (fun k => some k = none ∨ some k = oz)) : NatRes w w' oz rr r := by
  obtain ⟨oq, or', hq, hr, hoq, hor, _⟩ := h
  exact ⟨or', hr, hor, hc.mono (fun _ _ h => h.elim (fun h => by cases h) id)⟩
set_option maxRecDepth 20000 in
set_option maxHeartbeats 2000000 in
theorem intmul_c {w0 w : World} {σ : Sg} (h : Hold w0 w σ) {bz oz bx ox yb yo : Nat} {gz : Bool} {Z X Y : Nat} (hz : Num σ bz oz gz Z) (hx : Num σ bx ox false X) (hy : Num σ yb yo false Y) (hne : (⟨bx, ox, none⟩ : Addr) ≠ ⟨yb, yo, none⟩) (hX : (digs X).length < 40) (hY : (digs Y).length < 40) :
    Calls Tryz.prog 140 #[.pointer (some ⟨bz, oz, none⟩), .pointer none, .pointer (some ⟨bx, ox, none⟩), .pointer (some ⟨yb, yo, none⟩)] w fun e w' => e = .returned (.tuple #[]) ∧ Hold w0 w' (put σ bz oz false (X * Y)) := by
  obtain ⟨vz, sz, pz⟩ := h.op hz
  obtain ⟨vx, sx, px⟩ := h.op hx
  obtain ⟨vy, sy, py⟩ := h.op hy
  obtain ⟨cx, tx, hbx, -⟩ := px.blk
  obtain ⟨cy, ty, hby, -⟩ := py.blk
  have q := eqlInt hne hbx hby
  clear hbx hby cx tx cy ty
  have hm := fun w2 (hc : Chg w w2 (fun _ => False)) => natmul_c w2 vz (.pointer none) vx vy X Y sz sx sy (h.keep hc).glob (pz.nat.stor.chg hc (fun _ _ h => h)) (px.nat.chg hc (fun _ _ h => h)) (py.nat.chg hc (fun _ _ h => h)) hX hY
  have z1 := pz.c1
  have x0 := px.c0
  have x1 := px.c1
  have y0 := py.c0
  have y1 := py.c1
  obtain ⟨pvx, pcx, rfl, _, _⟩ := px.nat.shape
  obtain ⟨pvy, pcy, rfl, _, _⟩ := py.nat.shape
  obtain ⟨pvz, pcz, rfl, _, _⟩ := pz.nat.shape
  replace h := Lib.hid h
  replace hz := Lib.hid hz
  replace hx := Lib.hid hx
  replace hy := Lib.hid hy
  replace pz := Lib.hid pz
  replace px := Lib.hid px
  replace py := Lib.hid py
  replace hm := Lib.hid hm
  clear hX hY hne
  go_enter Tryz.func140, Tryz.ntmps140
  go_upto_region 3 with (fail)
  go_cut [41] (fun _ wx => Hold w0 wx (put σ bz oz gz (X * Y)))
  case first =>
    go_region_with ((go_at_call 168; refine (hm.out _ (by exact ⟨rfl, rfl, rfl, Nat.le_refl _, fun _ _ _ => rfl⟩)).mono ?_; rintro e w1 ⟨r, rfl, hr⟩; obtain ⟨g1, g3, hH, pr, cr, rfl⟩ := pz.out.stored hz.out (by exact ⟨rfl, rfl, rfl, Nat.le_refl _, fun _ _ _ => rfl⟩) (by rfl) hr; replace hH := Lib.hid hH))
    all_goals
      go_wp2_with fail
      go_meet
      exact hH.out
  case rest =>
    clear x0 y0 x1 y1 z1
    have x0 := hcut.signs hz.out hx.out
    have y0 := hcut.signs hz.out hy.out
    obtain ⟨p, c, z1, z0, fz, hfin⟩ := hcut.fin hz.out
    have hfin := hfin false
    replace hfin := Lib.hid hfin
    clear hcut pz px py h hm
    clear q
    obtain ⟨L, hL⟩ : ∃ L, (digs (X * Y)).length = L := ⟨_, rfl⟩
    rw [hL] at z1
    replace hL := Lib.hid hL
    by_cases hL0 : L = 0
    · replace hL := Lib.hid (show True from trivial)
      subst hL0
      go_wp2
      go_region
      all_goals
        go_wp2
        go_end0
        exact ⟨rfl, by first | exact hfin.out | exact hfin.out.drew⟩
    · have hLp : 0 < L := by omega
      go_wp2
      go_region
      all_goals
        go_wp2
        go_end0
        exact ⟨rfl, by first | exact hfin.out | exact hfin.out.drew⟩
theorem intMul_c {w0 w : World} {σ : Sg} (h : Hold w0 w σ) {bz oz bx ox yb yo : Nat} {gz : Bool} {Z X Y : Nat} (hz : Num σ bz oz gz Z) (hx : Num σ bx ox false X) (hy : Num σ yb yo false Y) (hne : (⟨bx, ox, none⟩ : Addr) ≠ ⟨yb, yo, none⟩) (hX : (digs X).length < 40) (hY : (digs Y).length < 40) :
    Calls Tryz.prog 110 #[.pointer (some ⟨bz, oz, none⟩), .pointer (some ⟨bx, ox, none⟩), .pointer (some ⟨yb, yo, none⟩)] w fun e w' => e = .returned (.pointer (some ⟨bz, oz, none⟩)) ∧ Hold w0 w' (put σ bz oz false (X * Y)) := by
  have key := intmul_c h hz hx hy hne hX hY
  replace key := Lib.hid key
  clear h hz hx hy hne hX hY
  go_enter Tryz.func110, Tryz.ntmps110
  go_wp2_with fail
  with_reducible refine key.out.mono ?_
  rintro e w1 ⟨rfl, h1⟩
  replace h1 := Lib.hid h1
  go_wp2
  go_ret
  exact ⟨rfl, h1.out⟩
end Go.Proofs.YtgdpljjmnmapmaaGreatDoor

namespace Go.Proofs.YtgdpljjmnmapmaaGreatDoor
open Go Go.RowKit

theorem Glob.chgS {w w' : World} {v : Value} {o : Option Nat} (h : Glob w) (hs : Stor w v o) (hc : Chg w w' (fun k => some k = o)) : Glob w' :=
  ⟨hc.cell h.g0 (fun e => Stor.neVar (by rw [e]; exact hs) h.g0 rfl), hc.cell h.g1 (fun e => Stor.neVar (by rw [e]; exact hs) h.g1 rfl), hc.cell h.g2 (fun e => Stor.neVar (by rw [e]; exact hs) h.g2 rfl), hc.cell h.g3 (fun e => Stor.neVar (by rw [e]; exact hs) h.g3 rfl), hc.cell h.g6 (fun e => Stor.neVar (by rw [e]; exact hs) h.g6 rfl)⟩
theorem shlw_shlw (Y a : Nat) : shlw (shlw Y a) 1 = shlw Y (a + 1) := by
  unfold shlw
  rw [WB_eq]
  have := @next_word Y a
  rw [Nat.pow_one]; exact this
/-- The bit at the top. -/
theorem bits_top (x : Nat) (hx : x < WB) : bits .and .u64 (x : Int) 9223372036854775808 = ((x / 9223372036854775808 * 9223372036854775808 : Nat) : Int) := by
  have h1 := bits_and_u64_nat x 9223372036854775808 (by rw [WB_eq] at hx; omega) (by omega)
  rw [show (9223372036854775808 : Int) = ((9223372036854775808 : Nat) : Int) from rfl, h1]
  congr 1
  rw [WB_eq] at hx
  rcases (by omega : x / 9223372036854775808 = 0 ∨ x / 9223372036854775808 = 1) with h | h
  · rw [h, Nat.zero_mul]
    apply Nat.eq_of_testBit_eq
    intro i
    rw [Nat.testBit_and, show (9223372036854775808 : Nat) = 2 ^ 63 from rfl, Nat.testBit_two_pow, Nat.zero_testBit]
    by_cases hi : 63 = i
    · subst hi
      rw [Nat.testBit_lt_two_pow (by omega)]; rfl
    · simp [hi]
  · rw [h, Nat.one_mul]
    apply Nat.eq_of_testBit_eq
    intro i
    rw [Nat.testBit_and, show (9223372036854775808 : Nat) = 2 ^ 63 from rfl, Nat.testBit_two_pow]
    by_cases hi : 63 = i
    · subst hi
      rw [Nat.testBit_eq_decide_div_mod_eq, show (2 : Nat) ^ 63 = 9223372036854775808 from rfl, h]; rfl
    · simp [hi]
theorem norm_nat (w : World) (v : Value) (N : Nat) (o : Option Nat) (h : IsNat w v N o) (h0 : N ≠ 0) (hn : (digs N).length ≤ 1000000) : Calls Tryz.prog 126 #[v] w fun e w' => e = .returned v ∧ w = w' := by
  obtain ⟨b, cap, C, rfl, rfl, ha, hc, hcap, ht, hl, hp⟩ := h.pos h0
  have := norm_c w b (digs N).length cap C ha hl (by omega) hn
  rw [ht, val_digs] at this
  exact this

end Go.Proofs.YtgdpljjmnmapmaaGreatDoor

namespace Go.Proofs.YtgdpljjmnmapmaaGreatDoor
open Go Go.RowKit
set_option maxRecDepth 20000 in
set_option maxHeartbeats 2000000 in
theorem intSet2_c {w0 w : World} {σ : Sg} (h : Hold w0 w σ) {bz oz bx ox : Nat} {gz gx : Bool} {Z X : Nat} (hz : Num σ bz oz gz Z) (hx : Num σ bx ox gx X) (hne : (⟨bz, oz, none⟩ : Addr) ≠ ⟨bx, ox, none⟩) (hX : (digs X).length ≤ 1000) :
    Calls Tryz.prog 88 #[.pointer (some ⟨bz, oz, none⟩), .pointer (some ⟨bx, ox, none⟩)] w fun e w' => e = .returned (.pointer (some ⟨bz, oz, none⟩)) ∧ Hold w0 w' (put σ bz oz gx X) := by
  obtain ⟨vz, sz, pz⟩ := h.op hz
  obtain ⟨vx, sx, px⟩ := h.op hx
  obtain ⟨cx, tx, hbx, -⟩ := px.blk
  obtain ⟨cz, tz, hbz, -⟩ := pz.blk
  have q := neqInt hne hbz hbx
  clear hbx hbz cx tx cz tz hne
  have hm := fun w2 (hc : Chg w w2 (fun _ => False)) => set_c w2 vz vx X sz sx (pz.nat.stor.chg hc (fun _ _ h => h)) (px.nat.chg hc (fun _ _ h => h)) hX
  have z1 := pz.c1
  have x0 := px.c0
  have x1 := px.c1
  obtain ⟨pvx, pcx, rfl, _, _⟩ := px.nat.shape
  obtain ⟨pvz, pcz, rfl, _, _⟩ := pz.nat.shape
  replace h := Lib.hid h
  replace hz := Lib.hid hz
  replace hx := Lib.hid hx
  replace pz := Lib.hid pz
  replace px := Lib.hid px
  replace hm := Lib.hid hm
  clear hX
  go_enter Tryz.func88, Tryz.ntmps88
  go_upto_region 2 with (fail)
  go_cut [17] (fun _ wx => Hold w0 wx (put σ bz oz gz (X)))
  case first =>
    go_region_with ((go_at_call 125; refine (hm.out _ (by exact ⟨rfl, rfl, rfl, Nat.le_refl _, fun _ _ _ => rfl⟩)).mono ?_; rintro e w1 ⟨r, rfl, hr⟩; obtain ⟨g1, g3, hH, pr, cr, rfl⟩ := pz.out.stored hz.out (by exact ⟨rfl, rfl, rfl, Nat.le_refl _, fun _ _ _ => rfl⟩) (by rfl) hr; replace hH := Lib.hid hH))
    all_goals
      go_wp2_with fail
      go_meet
      exact hH.out
  case rest =>
    clear x0 x1 z1 q
    have x0 := hcut.signs hz.out hx.out
    obtain ⟨p, c, z1, z0, fz, hfin⟩ := hcut.fin hz.out
    have hfin := hfin gx
    replace hfin := Lib.hid hfin
    clear hcut pz px h hm
    go_wp2
    go_ret
    exact ⟨rfl, hfin.out⟩
theorem intSetSame_c {w0 w : World} {σ : Sg} (h : Hold w0 w σ) {bz oz : Nat} {gz : Bool} {Z : Nat} (hz : Num σ bz oz gz Z) :
    Calls Tryz.prog 88 #[.pointer (some ⟨bz, oz, none⟩), .pointer (some ⟨bz, oz, none⟩)] w fun e w' => e = .returned (.pointer (some ⟨bz, oz, none⟩)) ∧ Hold w0 w' (put σ bz oz gz Z) := by
  have q := neqIntSame (w := w) ⟨bz, oz, none⟩
  rw [put_self hz]
  replace h := Lib.hid h
  clear hz
  go_enter Tryz.func88, Tryz.ntmps88
  go_wp2
  go_ret
  exact ⟨rfl, h.out⟩
theorem intSetAny_c {w0 w : World} {σ : Sg} (h : Hold w0 w σ) {bz oz bx ox : Nat} {gz gx : Bool} {Z X : Nat} (hz : Num σ bz oz gz Z) (hx : Num σ bx ox gx X) (hX : (digs X).length ≤ 1000) :
    Calls Tryz.prog 88 #[.pointer (some ⟨bz, oz, none⟩), .pointer (some ⟨bx, ox, none⟩)] w fun e w' => e = .returned (.pointer (some ⟨bz, oz, none⟩)) ∧ Hold w0 w' (put σ bz oz gx X) := by
  by_cases e : (⟨bz, oz, none⟩ : Addr) = ⟨bx, ox, none⟩
  · injection e with e1 e2
    subst e1 e2
    obtain ⟨rfl, rfl⟩ := hz.uniq hx
    exact intSetSame_c h hz
  · exact intSet2_c h hz hx e hX
set_option maxRecDepth 20000 in
set_option maxHeartbeats 2000000 in
theorem intSetI_c {w0 w : World} {σ : Sg} (h : Hold w0 w σ) {bz oz : Nat} {gz : Bool} {Z : Nat} (hz : Num σ bz oz gz Z) (n : Nat) (hn : n ≤ 9223372036854775807) :
    Calls Tryz.prog 121 #[.pointer (some ⟨bz, oz, none⟩), .int .i64 (n : Int)] w fun e w' => e = .returned (.pointer (some ⟨bz, oz, none⟩)) ∧ Hold w0 w' (put σ bz oz false n) := by
  obtain ⟨vz, sz, pz⟩ := h.op hz
  have hnW : n < WB := by rw [WB_eq]; omega
  have hm := fun w2 (hc : Chg w w2 (fun _ => False)) => setUint64_c w2 vz n sz (pz.nat.stor.chg hc (fun _ _ h => h)) hnW
  have iw : IntKind.u64.wrap (n : Int) = (n : Int) := IntWalk.u64_in _ (by omega)
  have z1 := pz.c1
  obtain ⟨pvz, pcz, rfl, _, _⟩ := pz.nat.shape
  replace h := Lib.hid h
  replace hz := Lib.hid hz
  replace pz := Lib.hid pz
  replace hm := Lib.hid hm
  clear hnW
  go_enter Tryz.func121, Tryz.ntmps121
  go_wp2_with fail
  with_reducible refine (hm.out _ (by exact ⟨rfl, rfl, rfl, Nat.le_refl _, fun _ _ _ => rfl⟩)).mono ?_
  rintro e w1 ⟨r, rfl, hr⟩
  obtain ⟨g1, g3, hH, pr, cr, rfl⟩ := pz.out.stored hz.out (by exact ⟨rfl, rfl, rfl, Nat.le_refl _, fun _ _ _ => rfl⟩) (by rfl) hr
  obtain ⟨p, c, z1', z0', fz', hfin⟩ := hH.fin hz.out
  have hfin := hfin false
  replace hfin := Lib.hid hfin
  clear hH pz hz h hm hr
  go_wp2
  go_ret
  exact ⟨rfl, hfin.out⟩
theorem intAbs_c {w0 w : World} {σ : Sg} (h : Hold w0 w σ) {bz oz bx ox : Nat} {gz gx : Bool} {Z X : Nat} (hz : Num σ bz oz gz Z) (hx : Num σ bx ox gx X) (hX : (digs X).length ≤ 1000) :
    Calls Tryz.prog 139 #[.pointer (some ⟨bz, oz, none⟩), .pointer (some ⟨bx, ox, none⟩)] w fun e w' => e = .returned (.pointer (some ⟨bz, oz, none⟩)) ∧ Hold w0 w' (put σ bz oz false X) := by
  have key := intSetAny_c h hz hx hX
  replace key := Lib.hid key
  replace hz := Lib.hid hz
  clear h hx hX
  go_enter Tryz.func139, Tryz.ntmps139
  go_wp2_with fail
  with_reducible refine key.out.mono ?_
  rintro e w1 ⟨rfl, h1⟩
  obtain ⟨v, s, pz⟩ := h1.op (hz.out.put gx X)
  have z0 := pz.c0
  have fz := pz.f0
  have hfin := pz.neg false
  rw [put_put hz.out] at hfin
  replace hfin := Lib.hid hfin
  clear h1 pz
  go_wp2
  go_ret
  exact ⟨rfl, hfin.out⟩
theorem intNeg_c {w0 w : World} {σ : Sg} (h : Hold w0 w σ) {bz oz bx ox : Nat} {gz gx : Bool} {Z X : Nat} (hz : Num σ bz oz gz Z) (hx : Num σ bx ox gx X) (hX : (digs X).length ≤ 1000) (hX0 : X ≠ 0) :
    Calls Tryz.prog 151 #[.pointer (some ⟨bz, oz, none⟩), .pointer (some ⟨bx, ox, none⟩)] w fun e w' => e = .returned (.pointer (some ⟨bz, oz, none⟩)) ∧ Hold w0 w' (put σ bz oz (!gx) X) := by
  have key := intSetAny_c h hz hx hX
  have hp := digs_len_pos hX0
  replace key := Lib.hid key
  replace hz := Lib.hid hz
  clear h hx hX hX0
  go_enter Tryz.func151, Tryz.ntmps151
  go_wp2_with fail
  with_reducible refine key.out.mono ?_
  rintro e w1 ⟨rfl, h1⟩
  obtain ⟨v, s, pz⟩ := h1.op (hz.out.put gx X)
  have z0 := pz.c0
  have z1 := pz.c1
  obtain ⟨pvz, pcz, rfl, _, _⟩ := pz.nat.shape
  have fz := pz.f0
  have hfin := pz.neg (!gx)
  rw [put_put hz.out] at hfin
  replace hfin := Lib.hid hfin
  clear h1 pz
  generalize (digs X).length = L at *
  cases gx
  all_goals
    go_wp2
    go_ret
    exact ⟨rfl, hfin.out⟩
theorem intCmp_c {w0 w : World} {σ : Sg} (h : Hold w0 w σ) {bx ox yb yo : Nat} {X Y : Nat} (hx : Num σ bx ox false X) (hy : Num σ yb yo false Y) (hne : (⟨bx, ox, none⟩ : Addr) ≠ ⟨yb, yo, none⟩) :
    Calls Tryz.prog 138 #[.pointer (some ⟨bx, ox, none⟩), .pointer (some ⟨yb, yo, none⟩)] w fun e w' => e = .returned (.int .i64 (ordN X Y)) ∧ ∃ n, w' = w.drewN n := by
  obtain ⟨vx, sx, px⟩ := h.op hx
  obtain ⟨vy, sy, py⟩ := h.op hy
  obtain ⟨cx, tx, hbx, -⟩ := px.blk
  obtain ⟨cy, ty, hby, -⟩ := py.blk
  have q := eqlInt hne hbx hby
  clear hbx hby cx tx cy ty hne
  have kc := fun w2 (hc : Chg w w2 (fun _ => False)) => natcmp_c w2 vx vy X Y sx sy (px.nat.chg hc (fun _ _ h => h)) (py.nat.chg hc (fun _ _ h => h))
  have x0 := px.c0
  have x1 := px.c1
  have y0 := py.c0
  have y1 := py.c1
  obtain ⟨pvx, pcx, rfl, _, _⟩ := px.nat.shape
  obtain ⟨pvy, pcy, rfl, _, _⟩ := py.nat.shape
  replace kc := Lib.hid kc
  generalize ordN X Y = r at kc ⊢
  clear px py h hx hy
  go_enter Tryz.func138, Tryz.ntmps138
  go_upto_region 3 with (fail)
  go_quiet (fail)
  go_upto_region 4 with (fail)
  go_quiet ((go_at_call 159; exact quietAdd (kc.out _ (by exact ⟨rfl, rfl, rfl, Nat.le_refl _, fun _ _ _ => rfl⟩))))
  go_wp2
  go_ret
  exact ⟨rfl, by first | exact ⟨_, rfl⟩ | exact ⟨_, drewN_drewN _ _ _⟩ | exact ⟨_, (drewN_drewN _ _ _).symm⟩⟩
end Go.Proofs.YtgdpljjmnmapmaaGreatDoor

namespace Go.Proofs.YtgdpljjmnmapmaaGreatDoor
open Go Go.RowKit

theorem HoldS.turnG {w0 w w' : World} {σ τ : Sg} {st st' : Nat → Nat → Option Nat} (h : HoldS w0 w σ st) (T : Nat → Nat → Prop)
    (hc : Chg w w' (fun k => ∃ b o, T b o ∧ (k = b ∨ st b o = some k))) (h1 : ∀ b, (∀ o, ¬ T b o) → τ b = σ b) (h2 : ∀ b o, T b o → ∃ g N, Num σ b o g N)
    (h3 : ∀ b it, τ b = some it → (∃ o, T b o) → w0.heap.size ≤ b ∧ it.holds w' b (st' b)) (h4 : ∀ b, σ b = none → τ b = none) (h5 : ∀ b o g N, Num τ b o g N → ¬ T b o → Num σ b o g N)
    (h6 : ∀ b o, ¬ T b o → st' b o = st b o) (h7 : ∀ b o k, T b o → st' b o = some k → st b o = some k ∨ w.heap.size ≤ k) (h8 : ∀ b o b' o' k, T b o → T b' o' → st' b o = some k → st' b' o' = some k → b = b' ∧ o = o') : HoldS w0 w' τ st' := by
  have hcs := h.chg.size
  have fresh : ∀ k, w.heap.size ≤ k → σ k = none := by
    intro k hk
    cases hj : σ k with
    | none => rfl
    | some jt => have := h.lt hj; omega
  refine ⟨h.chg.trans (hc.mono (fun k hk hS => .inr ?_)), h.glob, ?_, ?_, ?_⟩
  · obtain ⟨b, o, hT, hk⟩ := hS
    obtain ⟨g, N, hN⟩ := h2 b o hT
    rcases hk with rfl | hk
    · obtain ⟨it, hi, _⟩ := hN
      exact (h.it _ it hi).1
    · exact (h.sto b o g N k hN hk).1
  · intro b it hb
    by_cases ht : ∃ o, T b o
    · exact h3 b it hb ht
    · have hn : ∀ o, ¬ T b o := fun o ho => ht ⟨o, ho⟩
      rw [h1 b hn] at hb
      have e : st' b = st b := by funext o; exact h6 b o (hn o)
      rw [e]
      refine ⟨(h.it b it hb).1, (h.it b it hb).2.chg hc ?_ ?_⟩
      · rintro ⟨b', o', hT, hk | hk⟩
        · subst hk; exact hn _ hT
        · obtain ⟨g, N, hN⟩ := h2 b' o' hT
          have := (h.sto b' o' g N b hN hk).2
          rw [hb] at this; cases this
      · rintro o g N k ho hk ⟨b', o', hT, hk2 | hk2⟩
        · subst hk2
          obtain ⟨g', N', it', hi, _⟩ := h2 _ o' hT
          have := (h.sto b o g N _ ⟨it, hb, ho⟩ hk).2
          rw [hi] at this; cases this
        · obtain ⟨g', N', hN'⟩ := h2 b' o' hT
          have := h.inj b o g N b' o' g' N' k ⟨it, hb, ho⟩ hN' hk hk2
          rw [← this.1] at hT
          exact hn _ hT
  · intro b o g N k hN hk
    by_cases hT : T b o
    · rcases h7 b o k hT hk with h9 | h9
      · obtain ⟨g', N', hN'⟩ := h2 b o hT
        have := h.sto b o g' N' k hN' h9
        exact ⟨this.1, h4 k this.2⟩
      · exact ⟨by omega, h4 k (fresh k h9)⟩
    · rw [h6 b o hT] at hk
      have := h.sto b o g N k (h5 b o g N hN hT) hk
      exact ⟨this.1, h4 k this.2⟩
  · intro b o g N b' o' g' N' k hN hN' hk hk'
    by_cases hT : T b o
    · by_cases hT' : T b' o'
      · exact h8 b o b' o' k hT hT' hk hk'
      · rw [h6 b' o' hT'] at hk'
        have hn' := h5 b' o' g' N' hN' hT'
        rcases h7 b o k hT hk with h9 | h9
        · obtain ⟨g2, N2, hN2⟩ := h2 b o hT
          have := h.inj b o g2 N2 b' o' g' N' k hN2 hn' h9 hk'
          rw [this.1, this.2] at hT
          exact absurd hT hT'
        · have := h.stlt hn' hk'; omega
    · rw [h6 b o hT] at hk
      have hn := h5 b o g N hN hT
      by_cases hT' : T b' o'
      · rcases h7 b' o' k hT' hk' with h9 | h9
        · obtain ⟨g2, N2, hN2⟩ := h2 b' o' hT'
          have := h.inj b o g N b' o' g2 N2 k hn hN2 hk h9
          rw [← this.1, ← this.2] at hT'
          exact absurd hT' hT
        · have := h.stlt hn hk; omega
      · rw [h6 b' o' hT'] at hk'
        exact h.inj b o g N b' o' g' N' k hn (h5 b' o' g' N' hN' hT') hk hk'

theorem DivRes.sq {w w' : World} {oz o2 : Option Nat} {rq rr : Value} {q r : Nat} (h : DivRes w w' oz o2 rq rr q r) : ∃ p c, rq = .slice p (digs q).length c := by
  obtain ⟨oq, or', hq, hr, _⟩ := h
  obtain ⟨p, c, h, _⟩ := hq.shape
  exact ⟨p, c, h⟩
theorem DivRes.sr {w w' : World} {oz o2 : Option Nat} {rq rr : Value} {q r : Nat} (h : DivRes w w' oz o2 rq rr q r) : ∃ p c, rr = .slice p (digs r).length c := by
  obtain ⟨oq, or', hq, hr, _⟩ := h
  obtain ⟨p, c, h, _⟩ := hr.shape
  exact ⟨p, c, h⟩
/-- What two numbers make of two places. -/
def Two (w0 w : World) (σ : Sg) (bz oz br ro : Nat) (gz gr : Bool) (vz vr : Value) (sz sr : Option Nat) : Prop :=
  ∀ (w2 w1 : World) (rq rr : Value) (Q M : Nat), DivRes w2 w1 sz sr rq rr Q M → Chg w2 w1 (fun k => some k = sz ∨ some k = sr) → Chg w w2 (fun _ => False) → w2.heap.size = w.heap.size →
        w1.cell? ⟨bz, oz + 1, none⟩ = some vz ∧ w1.cell? ⟨br, ro + 1, none⟩ = some vr ∧ w1.frozen? ⟨bz, oz + 1, none⟩ = false ∧ w1.frozen? ⟨br, ro + 1, none⟩ = false ∧
        (w1.setCell ⟨bz, oz + 1, none⟩ rq).cell? ⟨br, ro + 1, none⟩ = some vr ∧ (w1.setCell ⟨bz, oz + 1, none⟩ rq).frozen? ⟨br, ro + 1, none⟩ = false ∧ (w1.setCell ⟨br, ro + 1, none⟩ rr).cell? ⟨bz, oz + 1, none⟩ = some vz ∧ (w1.setCell ⟨br, ro + 1, none⟩ rr).frozen? ⟨bz, oz + 1, none⟩ = false ∧
        Hold w0 ((w1.setCell ⟨bz, oz + 1, none⟩ rq).setCell ⟨br, ro + 1, none⟩ rr) (put (put σ bz oz gz Q) br ro gr M) ∧ Hold w0 ((w1.setCell ⟨br, ro + 1, none⟩ rr).setCell ⟨bz, oz + 1, none⟩ rq) (put (put σ bz oz gz Q) br ro gr M)
theorem Two.use {w0 w : World} {σ : Sg} {bz oz br ro : Nat} {gz gr : Bool} {vz vr : Value} {sz sr : Option Nat} (h : Two w0 w σ bz oz br ro gz gr vz vr sz sr) {w2 w1 : World} {rq rr : Value} {Q M : Nat} (h1 : DivRes w2 w1 sz sr rq rr Q M) (h2 : Chg w2 w1 (fun k => some k = sz ∨ some k = sr)) (h3 : Chg w w2 (fun _ => False)) (h4 : w2.heap.size = w.heap.size) :
        w1.cell? ⟨bz, oz + 1, none⟩ = some vz ∧ w1.cell? ⟨br, ro + 1, none⟩ = some vr ∧ w1.frozen? ⟨bz, oz + 1, none⟩ = false ∧ w1.frozen? ⟨br, ro + 1, none⟩ = false ∧
        (w1.setCell ⟨bz, oz + 1, none⟩ rq).cell? ⟨br, ro + 1, none⟩ = some vr ∧ (w1.setCell ⟨bz, oz + 1, none⟩ rq).frozen? ⟨br, ro + 1, none⟩ = false ∧ (w1.setCell ⟨br, ro + 1, none⟩ rr).cell? ⟨bz, oz + 1, none⟩ = some vz ∧ (w1.setCell ⟨br, ro + 1, none⟩ rr).frozen? ⟨bz, oz + 1, none⟩ = false ∧
        Hold w0 ((w1.setCell ⟨bz, oz + 1, none⟩ rq).setCell ⟨br, ro + 1, none⟩ rr) (put (put σ bz oz gz Q) br ro gr M) ∧ Hold w0 ((w1.setCell ⟨br, ro + 1, none⟩ rr).setCell ⟨bz, oz + 1, none⟩ rq) (put (put σ bz oz gz Q) br ro gr M) := h _ _ _ _ _ _ h1 h2 h3 h4
/-- Two numbers come into two places of two blocks at once. -/
theorem Hold.op2 {w0 w : World} {σ : Sg} (h : Hold w0 w σ) {bz oz br ro : Nat} {gz gr : Bool} {Z R : Nat} (hz : Num σ bz oz gz Z) (hr : Num σ br ro gr R) (hne : bz ≠ br) :
    ∃ vz sz vr sr, IsNat w vz Z sz ∧ IsNat w vr R sr ∧ (∀ b, sz = some b → sr ≠ some b) ∧ w.cell? ⟨bz, oz + 1, none⟩ = some vz ∧ w.cell? ⟨br, ro + 1, none⟩ = some vr ∧
      Two w0 w σ bz oz br ro gz gr vz vr sz sr := by
  obtain ⟨st, h⟩ := h
  have hz0 := hz
  have hr0 := hr
  obtain ⟨iz, hiz, hzn⟩ := hz
  obtain ⟨ir, hir, hrn⟩ := hr
  obtain ⟨fz, bz1, fz2⟩ := (h.it bz iz hiz).2.num hzn
  obtain ⟨fr, br1, fr2⟩ := (h.it br ir hir).2.num hrn
  obtain ⟨cz0, cz1, _⟩ := It.cells_at hzn fz
  obtain ⟨cr0, cr1, _⟩ := It.cells_at hrn fr
  have sepz : ∀ o1 g1 N1, iz.num o1 = some (g1, N1) → ∀ k, st bz o1 = some k → k ≠ bz ∧ k ≠ br ∧ (o1 ≠ oz → some k ≠ st bz oz) ∧ some k ≠ st br ro := by
    intro o1 g1 N1 ho k hk
    have hno := (h.sto bz o1 g1 N1 k ⟨iz, hiz, ho⟩ hk).2
    refine ⟨(by rintro rfl; rw [hiz] at hno; cases hno), (by rintro rfl; rw [hir] at hno; cases hno), fun hne1 e => hne1 (h.inj bz o1 g1 N1 bz oz gz Z k ⟨iz, hiz, ho⟩ hz0 hk e.symm).2, fun e => hne (h.inj bz o1 g1 N1 br ro gr R k ⟨iz, hiz, ho⟩ hr0 hk e.symm).1⟩
  have sepr : ∀ o1 g1 N1, ir.num o1 = some (g1, N1) → ∀ k, st br o1 = some k → k ≠ bz ∧ k ≠ br ∧ (o1 ≠ ro → some k ≠ st br ro) ∧ some k ≠ st bz oz := by
    intro o1 g1 N1 ho k hk
    have hno := (h.sto br o1 g1 N1 k ⟨ir, hir, ho⟩ hk).2
    refine ⟨(by rintro rfl; rw [hiz] at hno; cases hno), (by rintro rfl; rw [hir] at hno; cases hno), fun hne1 e => hne1 (h.inj br o1 g1 N1 br ro gr R k ⟨ir, hir, ho⟩ hr0 hk e.symm).2, fun e => hne (h.inj br o1 g1 N1 bz oz gz Z k ⟨ir, hir, ho⟩ hz0 hk e.symm).1.symm⟩
  refine ⟨fz oz, st bz oz, fr ro, st br ro, fz2 oz gz Z hzn, fr2 ro gr R hrn, fun b hb hb2 => (sepz oz gz Z hzn b hb).2.2.2 hb2.symm, cellB bz1 cz1, cellB br1 cr1, ?_⟩
  intro w2 w1 rq rr Q M ⟨oq, or', hq, hrr, hoq, hor, hqr⟩ hch hd hsz
  have hch' : Chg w w1 (fun k => some k = st bz oz ∨ some k = st br ro) := (hd.mono (fun _ _ h => h.elim)).trans (hch.mono (fun _ _ h => .inl h))
  have kz := hch'.heapB bz1 (fun e => e.elim (fun e => (sepz oz gz Z hzn bz e.symm).1 rfl) (fun e => (sepr ro gr R hrn bz e.symm).1 rfl))
  have kr := hch'.heapB br1 (fun e => e.elim (fun e => (sepz oz gz Z hzn br e.symm).2.1 rfl) (fun e => (sepr ro gr R hrn br e.symm).2.1 rfl))
  have lz := ltB bz1
  have lr := ltB br1
  have nq : ∀ b, oq = some b → b ≠ bz ∧ b ≠ br := by
    intro b hb
    rcases hoq with e | e | ⟨k, e, hk⟩
    · have := sepz oz gz Z hzn b (e ▸ hb); exact ⟨this.1, this.2.1⟩
    · rw [e] at hb; cases hb
    · rw [e] at hb; cases hb; omega
  have nr : ∀ b, or' = some b → b ≠ bz ∧ b ≠ br := by
    intro b hb
    rcases hor with e | e | ⟨k, e, hk⟩
    · have := sepr ro gr R hrn b (e ▸ hb); exact ⟨this.1, this.2.1⟩
    · rw [e] at hb; cases hb
    · rw [e] at hb; cases hb; omega
  have key : ∀ w', Chg w1 w' (fun k => k = bz ∨ k = br) → w'.heap[bz]? = some (.cells ((iz.put oz gz Q).cells (fun k => if k = oz then rq else fz k)) iz.ty (0, 0)) → w'.heap[br]? = some (.cells ((ir.put ro gr M).cells (fun k => if k = ro then rr else fr k)) ir.ty (0, 0)) → Hold w0 w' (put (put σ bz oz gz Q) br ro gr M) := by
    intro w' hw' hbz' hbr'
    have e1 : put (put σ bz oz gz Q) br ro gr M = upd (upd σ bz (iz.put oz gz Q)) br (ir.put ro gr M) := by
      rw [put_upd hiz, put_upd (by rw [upd_ne _ _ (Ne.symm hne)]; exact hir)]
    rw [e1]
    have hcw : Chg w w' (fun k => some k = st bz oz ∨ some k = st br ro ∨ k = bz ∨ k = br) := (hch'.mono (fun k _ h => h.elim .inl (fun h => .inr (.inl h)))).trans (hw'.mono (fun k _ h => .inl (.inr (.inr h))))
    refine ⟨fun c p => if c = bz ∧ p = oz then oq else if c = br ∧ p = ro then or' else st c p, h.turnG (fun c p => (c = bz ∧ p = oz) ∨ (c = br ∧ p = ro)) (hcw.mono ?_) ?_ ?_ ?_ ?_ ?_ ?_ ?_ ?_⟩
    · rintro k _ (e | e | e | e)
      · exact ⟨bz, oz, .inl ⟨rfl, rfl⟩, .inr e.symm⟩
      · exact ⟨br, ro, .inr ⟨rfl, rfl⟩, .inr e.symm⟩
      · exact ⟨bz, oz, .inl ⟨rfl, rfl⟩, .inl e⟩
      · exact ⟨br, ro, .inr ⟨rfl, rfl⟩, .inl e⟩
    · intro b hb
      rw [upd_ne _ _ (fun e => hb ro (.inr ⟨e, rfl⟩)), upd_ne _ _ (fun e => hb oz (.inl ⟨e, rfl⟩))]
    · rintro b o (⟨rfl, rfl⟩ | ⟨rfl, rfl⟩)
      · exact ⟨_, _, hz0⟩
      · exact ⟨_, _, hr0⟩
    · rintro b it hb ⟨o, ⟨rfl, rfl⟩ | ⟨rfl, rfl⟩⟩
      · rw [upd_ne _ _ hne, upd_eq] at hb
        cases hb
        refine ⟨(h.it _ _ hiz).1, .inl ⟨by rw [It.put_k]; exact It.num_lt hzn, _, by rw [It.put_ty]; exact hbz', ?_⟩⟩
        intro o1 g1 N1 ho1
        by_cases e : o1 = o
        · subst e
          rw [It.num_put hzn] at ho1; cases ho1
          simp only [and_self, if_true]
          exact hq.chg hw' (fun k hk e => e.elim (nq k hk).1 (nq k hk).2)
        · rw [It.num_put_ne hzn _ _ e] at ho1
          simp only [e, and_false, if_false, hne, false_and]
          refine (fz2 o1 g1 N1 ho1).chg hcw (fun k hk => ?_)
          have := sepz o1 g1 N1 ho1 k hk
          rintro (e2 | e2 | e2 | e2)
          · exact this.2.2.1 e e2
          · exact this.2.2.2 e2
          · exact this.1 e2
          · exact this.2.1 e2
      · rw [upd_eq] at hb
        cases hb
        refine ⟨(h.it _ _ hir).1, .inl ⟨by rw [It.put_k]; exact It.num_lt hrn, _, by rw [It.put_ty]; exact hbr', ?_⟩⟩
        intro o1 g1 N1 ho1
        by_cases e : o1 = o
        · subst e
          rw [It.num_put hrn] at ho1; cases ho1
          simp only [Ne.symm hne, false_and, if_false, and_self, if_true]
          exact hrr.chg hw' (fun k hk e => e.elim (nr k hk).1 (nr k hk).2)
        · rw [It.num_put_ne hrn _ _ e] at ho1
          simp only [Ne.symm hne, false_and, if_false, e, and_false]
          refine (fr2 o1 g1 N1 ho1).chg hcw (fun k hk => ?_)
          have := sepr o1 g1 N1 ho1 k hk
          rintro (e2 | e2 | e2 | e2)
          · exact this.2.2.2 e2
          · exact this.2.2.1 e e2
          · exact this.1 e2
          · exact this.2.1 e2
    · intro b hb
      rw [upd_ne _ _ (by rintro rfl; rw [hir] at hb; cases hb), upd_ne _ _ (by rintro rfl; rw [hiz] at hb; cases hb)]
      exact hb
    · rintro b o g N ⟨it, hb, ho⟩ hT
      by_cases e2 : b = br
      · subst e2
        rw [upd_eq] at hb; cases hb
        rw [It.num_put_ne hrn _ _ (fun e => hT (.inr ⟨rfl, e⟩))] at ho
        exact ⟨_, hir, ho⟩
      · rw [upd_ne _ _ e2] at hb
        by_cases e3 : b = bz
        · subst e3
          rw [upd_eq] at hb; cases hb
          rw [It.num_put_ne hzn _ _ (fun e => hT (.inl ⟨rfl, e⟩))] at ho
          exact ⟨_, hiz, ho⟩
        · rw [upd_ne _ _ e3] at hb
          exact ⟨_, hb, ho⟩
    · intro b o hT
      rw [if_neg (fun e => hT (.inl e)), if_neg (fun e => hT (.inr e))]
    · rintro b o k (⟨rfl, rfl⟩ | ⟨rfl, rfl⟩) hk
      · rw [if_pos ⟨rfl, rfl⟩] at hk
        rcases hoq with e | e | ⟨k2, e, hk2⟩
        · exact .inl (e ▸ hk)
        · rw [e] at hk; cases hk
        · rw [e] at hk; cases hk; exact .inr (by omega)
      · rw [if_neg (fun e => hne e.1.symm), if_pos ⟨rfl, rfl⟩] at hk
        rcases hor with e | e | ⟨k2, e, hk2⟩
        · exact .inl (e ▸ hk)
        · rw [e] at hk; cases hk
        · rw [e] at hk; cases hk; exact .inr (by omega)
    · rintro b o b' o' k (⟨rfl, rfl⟩ | ⟨rfl, rfl⟩) (⟨rfl, rfl⟩ | ⟨rfl, rfl⟩) hk hk'
      · exact ⟨rfl, rfl⟩
      · rw [if_pos ⟨rfl, rfl⟩] at hk
        rw [if_neg (fun e => hne e.1.symm), if_pos ⟨rfl, rfl⟩] at hk'
        exact absurd hk' (hqr k hk)
      · rw [if_pos ⟨rfl, rfl⟩] at hk'
        rw [if_neg (fun e => hne e.1.symm), if_pos ⟨rfl, rfl⟩] at hk
        exact absurd hk (hqr k hk')
      · exact ⟨rfl, rfl⟩
  have kr2 := (chg_setB w1 bz (oz + 1) rq).heapB kr (Ne.symm hne)
  have kz2 := (chg_setB w1 br (ro + 1) rr).heapB kz hne
  refine ⟨cellB kz cz1, cellB kr cr1, frozenB kz _, frozenB kr _, cellB kr2 cr1, frozenB kr2 _, cellB kz2 cz1, frozenB kz2 _, key _ ?_ ?_ ?_, key _ ?_ ?_ ?_⟩
  · exact ((chg_setB w1 bz (oz + 1) rq).mono (fun _ _ h => .inl h)).trans ((chg_setB _ br (ro + 1) rr).mono (fun _ _ h => .inl (.inr h)))
  · rw [← It.cells_abs hzn fz rq Q]
    exact (chg_setB _ br (ro + 1) rr).heapB (setB kz) hne
  · rw [← It.cells_abs hrn fr rr M]
    exact setB ((chg_setB w1 bz (oz + 1) rq).heapB kr (Ne.symm hne))
  · exact ((chg_setB w1 br (ro + 1) rr).mono (fun _ _ h => .inr h)).trans ((chg_setB _ bz (oz + 1) rq).mono (fun _ _ h => .inl (.inl h)))
  · rw [← It.cells_abs hzn fz rq Q]
    exact setB ((chg_setB w1 br (ro + 1) rr).heapB kz hne)
  · rw [← It.cells_abs hrn fr rr M]
    exact (chg_setB _ bz (oz + 1) rq).heapB (setB kr) (Ne.symm hne)
end Go.Proofs.YtgdpljjmnmapmaaGreatDoor

namespace Go.Proofs.YtgdpljjmnmapmaaGreatDoor
open Go Go.RowKit

theorem or_step (t s : Nat) (h : t < WB) : bits .or .u64 (t : Int) ((t : Int) / ((2 ^ s : Nat) : Int)) = ((t ||| t / 2 ^ s : Nat) : Int) ∧ (t ||| t / 2 ^ s) < WB := by
  have h2 : t / 2 ^ s ≤ t := Nat.div_le_self _ _
  rw [WB_eq] at h
  refine ⟨?_, by rw [WB_eq]; exact Nat.or_lt_two_pow (n := 64) h (by omega)⟩
  rw [show ((t : Int) / ((2 ^ s : Nat) : Int)) = ((t / 2 ^ s : Nat) : Int) from (Int.natCast_ediv _ _).symm]
  exact bits_or_u64_nat t (t / 2 ^ s) (by omega) (by omega)

set_option maxRecDepth 20000 in
set_option maxHeartbeats 1000000 in
theorem bitLen_c (w : World) (x : Value) (N : Nat) (o : Option Nat) (hx : IsNat w x N o) (hn : (digs N).length ≤ 100000) :
    Calls Tryz.prog 163 #[x] w fun e w' => e = .returned (.int .i64 (nbits N : Int)) ∧ w = w' := by
  by_cases h0 : N = 0
  · subst h0
    obtain ⟨p, c, rfl, _, _⟩ := hx.shape
    rw [digs_zero]
    rw [nbits_zero]
    clear hx
    go_enter Tryz.func163, Tryz.ntmps163
    go_wp2
    go_ret
    exact ⟨rfl, rfl⟩
  · obtain ⟨b, cap, C, rfl, rfl, ha, hc, hcap, ht, hl, hp⟩ := hx.pos h0
    have hb := nbits_digs h0
    have hcell := ha.cellN (i := (digs N).length - 1) (by omega)
    have hnt : nth C ((digs N).length - 1) = nth (digs N) ((digs N).length - 1) := by
      have h1 := nth_take (l := C) (i := (digs N).length - 1) (k := (digs N).length) (by omega)
      rw [ht] at h1
      exact h1.symm
    rw [hnt] at hcell
    have htw : nth (digs N) ((digs N).length - 1) < WB := (Wd_digs N).nth _
    generalize nth (digs N) ((digs N).length - 1) = t at *
    obtain ⟨L, hL⟩ : ∃ L, (digs N).length = L + 1 := ⟨(digs N).length - 1, by omega⟩
    rw [hL] at hb hcell hl ⊢
    rw [Nat.add_sub_cancel] at hb hcell
    obtain ⟨e1, w1⟩ := or_step t 1 htw
    obtain ⟨e2, w2⟩ := or_step _ 2 w1
    obtain ⟨e3, w3⟩ := or_step _ 4 w2
    obtain ⟨e4, w4⟩ := or_step _ 8 w3
    obtain ⟨e5, w5⟩ := or_step _ 16 w4
    obtain ⟨e6, w6⟩ := or_step _ 32 w5
    have b1 := nbits_spread t 1
    have b2 := nbits_spread (t ||| t / 2 ^ 1) 2
    generalize (t ||| t / 2 ^ 1) = t1 at *
    have b3 := nbits_spread (t1 ||| t1 / 2 ^ 2) 4
    generalize (t1 ||| t1 / 2 ^ 2) = t2 at *
    have b4 := nbits_spread (t2 ||| t2 / 2 ^ 4) 8
    generalize (t2 ||| t2 / 2 ^ 4) = t3 at *
    have b5 := nbits_spread (t3 ||| t3 / 2 ^ 8) 16
    generalize (t3 ||| t3 / 2 ^ 8) = t4 at *
    have b6 := nbits_spread (t4 ||| t4 / 2 ^ 16) 32
    generalize (t4 ||| t4 / 2 ^ 16) = t5 at *
    generalize (t5 ||| t5 / 2 ^ 32) = t6 at *
    have kb := fun w => bits_Len_c t6 w6 w
    rw [← nbits_blen w6, b6, b5, b4, b3, b2, b1] at kb
    have e6' : bits .or .u64 (t5 : Int) ((t5 : Int) / 65536 / 65536) = (t6 : Int) := by rw [← e6]; congr 1; omega
    replace e1 : bits .or .u64 (t : Int) ((t : Int) / 2) = (t1 : Int) := e1
    replace e2 : bits .or .u64 (t1 : Int) ((t1 : Int) / 4) = (t2 : Int) := e2
    replace e3 : bits .or .u64 (t2 : Int) ((t2 : Int) / 16) = (t3 : Int) := e3
    replace e4 : bits .or .u64 (t3 : Int) ((t3 : Int) / 256) = (t4 : Int) := e4
    replace e5 : bits .or .u64 (t4 : Int) ((t4 : Int) / 65536) = (t5 : Int) := e5
    have hfin : (L : Int) * 64 + (nbits t : Int) = (nbits N : Int) := by rw [hb]; omega
    have hnb : nbits t ≤ 64 := by rw [nbits_blen htw]; exact blen_le htw
    have hLb : L ≤ 100000 := by omega
    clear hx ha hc hcap ht hp h0 hb b1 b2 b3 b4 b5 b6 w1 w2 w3 w4 w5 w6 htw hnt e6 hL hn
    have hi1 : IntKind.i64.wrap ((L : Int) * 64) = (L : Int) * 64 := IntWalk.i64_in _ (by omega)
    have hi2 : IntKind.i64.wrap ((L : Int) * 64 + (nbits t : Int)) = (nbits N : Int) := by rw [← hfin]; exact IntWalk.i64_in _ (by omega)
    replace hfin := Lib.hid hfin
    replace kb := Lib.hid kb
    generalize nbits t = nt at *
    generalize nbits N = nN at *
    go_enter Tryz.func163, Tryz.ntmps163
    go_wp2_with fail
    with_reducible refine (kb.out _).mono ?_
    rintro e w' ⟨rfl, hw⟩
    obtain rfl := hw
    go_wp2
    go_ret
    exact ⟨ret_i (by first | rfl | exact hfin.out | exact hi2 | omega), rfl⟩
theorem intBits_c {w0 w : World} {σ : Sg} (h : Hold w0 w σ) {bx ox : Nat} {gx : Bool} {X : Nat} (hx : Num σ bx ox gx X) (hn : (digs X).length ≤ 100000) :
    Calls Tryz.prog 134 #[.pointer (some ⟨bx, ox, none⟩)] w fun e w' => e = .returned (.int .i64 (nbits X : Int)) ∧ w = w' := by
  obtain ⟨v, s, p⟩ := h.op hx
  have k := bitLen_c w v X s p.nat hn
  have x1 := p.c1
  obtain ⟨pv, pc, rfl, _, _⟩ := p.nat.shape
  replace k := Lib.hid k
  clear h p hx
  go_enter Tryz.func134, Tryz.ntmps134
  go_wp2_with fail
  with_reducible refine k.out.mono ?_
  rintro e w' ⟨rfl, hw⟩
  obtain rfl := hw
  go_wp2
  go_ret
  exact ⟨rfl, rfl⟩
theorem bigBits_c {w0 w : World} {σ : Sg} (h : Hold w0 w σ) {bx ox : Nat} {gx : Bool} {X : Nat} (hx : BNum σ bx ox gx X) (hn : (digs X).length ≤ 100000) :
    Calls Tryz.prog 106 #[.pointer (some ⟨bx, ox, none⟩)] w fun e w' => e = .returned (.int .i64 (nbits X : Int)) ∧ w = w' := by
  have k := intBits_c h hx.num hn
  replace k := Lib.hid k
  clear h hx
  go_enter Tryz.func106, Tryz.ntmps106
  go_wp2_with fail
  with_reducible refine k.out.mono ?_
  rintro e w' ⟨rfl, hw⟩
  obtain rfl := hw
  go_wp2
  go_ret
  exact ⟨rfl, rfl⟩
end Go.Proofs.YtgdpljjmnmapmaaGreatDoor
