/- nat: divLarge. nat: div. nat: expNN without a modulus: a power of a word. -/
import Derived.Test.YtonepclpllelfaaGreatDoorC01
import Derived.Test.YtonepclpllelfaaGreatDoorC06
import Derived.Test.YtonepclpllelfaaGreatDoorC10
import Derived.Test.YtonepclpllelfaaGreatDoorC11
import Derived.Test.YtonepclpllelfaaGreatDoorC13
namespace Go.Proofs.YtonepclpllelfaaGreatDoor
open Go Go.RowKit

/-- What divLarge and div hand back: quotient and remainder, each in its own place. -/
def DivRes (w w' : World) (oz o2 : Option Nat) (rq rr : Value) (q r : Nat) : Prop :=
  ∃ oq or', IsNat w' rq q oq ∧ IsNat w' rr r or' ∧ (oq = oz ∨ oq = none ∨ ∃ b, oq = some b ∧ w.heap.size ≤ b) ∧ (or' = o2 ∨ or' = none ∨ ∃ b, or' = some b ∧ w.heap.size ≤ b) ∧ (∀ b, oq = some b → or' ≠ some b)

theorem digs_top {n : Nat} (h : n ≠ 0) : nth (digs n) ((digs n).length - 1) ≠ 0 := by
  have hne : digs n ≠ [] := fun e => h (digs_eq_nil.1 e)
  have h1 := digs_last hne
  rw [List.getLast_eq_getElem] at h1
  unfold nth
  rw [List.getElem?_eq_getElem (by have := List.length_pos_iff.2 hne; omega)]
  exact h1

theorem Stor.ne {w : World} {v : Value} {b t : Nat} {cs : Array Value} {T : TypeId} (h : Stor w v (some b)) (ht : w.heap[t]? = some (.cells cs T (0, 0))) (hT : T ≠ 112) : b ≠ t := by
  rcases h with ⟨_, h⟩ | ⟨b', l, cap, C, h, _, _, ha, _⟩
  · cases h
  · cases h; exact ha.ne ht hT

theorem Arr.neVar {w : World} {b g : Nat} {C : List Nat} {n : Int} (ha : Arr w b C) (hC : 0 < C.length) (h : w.cell? ⟨g, 0, none⟩ = some (.int .i64 n)) : b ≠ g := by
  rintro rfl
  rw [ha.cellN hC] at h
  simp at h
def topOf : Option (Nat × Nat × Nat) → Nat
  | none => 0
  | some (_, _, l) => l
theorem ltB' {w : World} {b : Nat} {o : Obj} (h : w.heap[b]? = some o) : b < w.heap.size := by
  rcases Nat.lt_or_ge b w.heap.size with h' | h'
  · exact h'
  · rw [Array.getElem?_eq_none h'] at h; cases h
theorem Stor.neVar {w : World} {v : Value} {b g : Nat} {n : Int} (hs : Stor w v (some b)) (h : w.cell? ⟨g, 0, none⟩ = some (.int .i64 n)) : b ≠ g := by
  rcases hs with ⟨_, hs⟩ | ⟨b', l, cap, C, hs, _, _, ha, hc, hcap⟩
  · cases hs
  · cases hs; exact ha.neVar (by omega) h

set_option maxRecDepth 200000 in
set_option maxHeartbeats 4000000 in
theorem divLarge_c (w : World) (z z2 u v : Value) (U V s : Nat) (oz o2 ou ov : Option Nat) (hG : Glob w) (hs : Stk0 w s) (hz : Stor w z oz) (h2 : Stor w z2 o2) (hu : IsNat w u U ou) (hv : IsNat w v V ov)
    (hdist : ∀ b, oz = some b → o2 ≠ some b) (hV2 : 2 ≤ (digs V).length) (hV40 : (digs V).length < 40) (hle : V ≤ U) (hU : (digs U).length ≤ 250) :
    Calls Tryz.prog 157 #[z, .pointer (some ⟨s, 0, none⟩), z2, u, v] w fun e w' => ∃ rq rr, e = .returned (.tuple #[rq, rr]) ∧ DivRes w w' oz o2 rq rr (U / V) (U % V) ∧
      StkW w' s w.heap.size 0 ∧ Chg w w' (fun k => some k = oz ∨ some k = o2 ∨ k = s) := by
  have hV0 : V ≠ 0 := by rintro rfl; rw [digs_zero] at hV2; simp at hV2
  have hU0 : U ≠ 0 := by omega
  obtain ⟨bvi, cvi, Cvi, rfl, rfl, havi, hcvi, hcapvi, htvi, hlvi, hpvi⟩ := hv.pos hV0
  obtain ⟨bui, cui, Cui, rfl, rfl, haui, hcui, hcapui, htui, hlui, hpui⟩ := hu.pos hU0
  have hlen : (digs V).length ≤ (digs U).length := digs_len_mono hle
  obtain ⟨pz, lz, cz, rfl⟩ := stor_slice hz
  obtain ⟨p2, l2, c2, rfl⟩ := stor_slice h2
  have hvV : val (digs V) = V := val_digs V
  have hvU : val (digs U) = U := val_digs U
  have hwV := Wd_digs V
  have hwU := Wd_digs U
  have htop := digs_top hV0
  generalize hVL : digs V = VL at *
  generalize hUL : digs U = UL at *
  obtain ⟨k, hk⟩ : ∃ k, VL.length = k + 2 := ⟨VL.length - 2, by omega⟩
  obtain ⟨m0, hm⟩ : ∃ m0, UL.length = m0 + (k + 2) := ⟨UL.length - (k + 2), by omega⟩
  rw [hk, show k + 2 - 1 = k + 1 by omega] at htop
  have hwt := hwV.nth (k + 1)
  have hct := havi.cellN (i := k + 1) (by omega)
  have hct2 : nth Cvi (k + 1) = nth VL (k + 1) := by
    have := nth_take (l := Cvi) (i := k + 1) (k := VL.length) (by omega)
    rw [htvi] at this
    exact this.symm
  rw [hct2] at hct
  have hnl := fun w => nlz_c (nth VL (k + 1)) hwt w
  have hsh := nlzN_lt hwt (by omega)
  have hnz := nlz_shift hwt (by omega)
  generalize nlzN (nth VL (k + 1)) = sh at hnl hsh hnz
  replace hnz := Lib.hid hnz
  have hsv := save0 w s hs
  have hnat := stkNat0 w s (k + 2) hs (by omega) (by omega)
  have htvi0 : (Cvi.drop 0).take (k + 2) = VL := by rw [List.drop_zero, ← hk]; exact htvi
  have htui0 : (Cui.drop 0).take (m0 + (k + 2)) = UL := by rw [List.drop_zero, ← hm]; exact htui
  have hk' := hk
  have hm' := hm
  have hlv2 : k + 2 ≤ Cvi.length := by omega
  have hlu2 : m0 + (k + 2) ≤ Cui.length := by omega
  rw [hk, hm]
  rw [show ((k + 2 : Nat) : Int) = (k : Int) + 2 by omega] at hnat
  replace hk := Lib.hid hk
  replace hm := Lib.hid hm
  replace htvi0 := Lib.hid htvi0
  replace htui0 := Lib.hid htui0
  replace hvV := Lib.hid hvV
  replace hvU := Lib.hid hvU
  replace hVL := Lib.hid hVL
  replace hUL := Lib.hid hUL
  have hm1 : m0 + (k + 2) ≤ 250 := by omega
  have hk1 : k + 2 < 40 := by omega
  clear hk' hm' htvi htui hct2 hv hu hlen hV2 hV40 hU hlvi hlui hpvi hpui
  go_enter_defers Tryz.func157, Tryz.ntmps157
  go_wp2_with fail
  refine hsv.mono ?_
  rintro e w' ⟨rfl, hw⟩
  obtain rfl := hw
  go_wp2_with fail
  refine (hnl _).mono ?_
  rintro e w' ⟨rfl, hw⟩
  obtain rfl := hw
  go_wp2_with fail
  refine hnat.mono ?_
  rintro e w1 ⟨bv, Gv, Cv, st, rfl, hbv, hav, hlv, hGv, hch1, hst, hstd⟩
  have h2s : ∀ b, o2 = some b → ¬ b = s := fun b e => Stor.ne (e ▸ h2) hs (by decide)
  have hzs : ∀ b, oz = some b → ¬ b = s := fun b e => Stor.ne (e ▸ hz) hs (by decide)
  have hmk := make_c w1 _ o2 (h2.chg hch1 h2s) (m0 + (k + 2) + 1) (by omega) (by omega)
  rw [show ((m0 + (k + 2) + 1 : Nat) : Int) = (m0 : Int) + ((k : Int) + 2) + 1 by omega] at hmk
  go_wp2_with fail
  refine hmk.mono ?_
  rintro e w2 ⟨r, rfl, bu, capu, Cu, rfl, hau, hCu, hnu, hcapu, hbu, hch2⟩
  have hbu1 : bu ≠ bv := by
    rcases hbu with ⟨e, _⟩ | e
    · have h3 : bu < w.heap.size := by
        subst e
        exact h2.lt
      omega
    · have := hav.lt; omega
  have hav2 := hch2.arr hav (fun h => h)
  have havi1 := hch1.arr havi (havi.ne hs (by decide))
  have haui1 := hch1.arr haui (haui.ne hs (by decide))
  have havi2 := hch2.arr havi1 (fun h => h)
  have haui2 := hch2.arr haui1 (fun h => h)
  have hbvi : bvi ≠ bv := by have := havi.lt; omega
  have hbui : bui ≠ bv := by have := haui.lt; omega
  clear hmk hnat hnl hsv hct
  go_upto_if 40 with (fail)
  go_cut [] from 40 to 100 (fun wr => ∃ V' U', V'.length = k + 2 ∧ U'.length = m0 + (k + 2) + 1 ∧ val V' = V * 2 ^ sh ∧ val U' = U * 2 ^ sh ∧ WB ≤ 2 * nth V' (k + 1) ∧ nth U' (m0 + (k + 2)) < nth V' (k + 1) ∧ Wd V' ∧ Arr wr bv (spl Cv 0 V') ∧ Arr wr bu (spl Cu 0 U') ∧ Chg w2 wr (fun k => k = bv ∨ k = bu))
  case first =>
    by_cases h0 : sh = 0
    · have hz0 : ((sh : Int) == 0) = true := by simp; exact h0
      replace h0 := Lib.hid h0
      have hsrc1 : ∀ j, j < VL.length → w2.cell? ⟨bvi, 0 + j, none⟩ = some (.int .u64 (nth VL j : Int)) := by
        intro i hi
        have h3 := hk.out
        rw [Nat.zero_add, havi2.cellN (by omega), ← htvi0.out, nth_take (by omega), List.drop_zero]
      have hmin1 : VL.length = Nat.min (k + 2) (k + 2) := by rw [hk.out]; simp
      have hmin2 : UL.length = Nat.min (m0 + (k + 2)) (m0 + (k + 2)) := by rw [hm.out]; simp
      have hf1 : 0 + VL.length ≤ Cv.length := by rw [hk.out]; omega
      have hf2 : 0 + UL.length ≤ Cu.length := by rw [hm.out]; omega
      replace hsrc1 := Lib.hid hsrc1
      replace hmin1 := Lib.hid hmin1
      replace hmin2 := Lib.hid hmin2
      replace hf1 := Lib.hid hf1
      replace hf2 := Lib.hid hf2
      have c1 : (m0 : Int) + ((k : Int) + 2) ≤ (capu : Int) := by omega
      have c2' : ((m0 : Int) + ((k : Int) + 2)).toNat = m0 + (k + 2) := by omega
      have c3 : (0 : Int) ≤ (m0 : Int) + ((k : Int) + 2) := by omega
      go_upto_region 8 with (fail)
      refine wp_region_lit ?_
      go_wp2_with (refine wpList_copyW rfl (.tmp 41) (.tmp 42) 49 49 rfl Tryz.underlying49 bv 0 (k + 2) Gv bvi 0 (k + 2) cvi rfl rfl Cv VL hav2 hwV hmin1.out hf1.out hsrc1.out ?_)
      intro w3 hS3
      have hau3 := hS3.other hbu1 hau
      have haui3 := hS3.other hbui haui2
      have hsrc2 : ∀ j, j < UL.length → w3.cell? ⟨bui, 0 + j, none⟩ = some (.int .u64 (nth UL j : Int)) := by
        intro i hi
        have h3 := hm.out
        rw [Nat.zero_add, haui3.cellN (by omega), ← htui0.out, nth_take (by omega), List.drop_zero]
      replace hsrc2 := Lib.hid hsrc2
      go_upto_region 9 with (fail)
      refine wp_region_lit ?_
      go_wp2_with (refine wpList_copyW rfl (.tmp 47) (.tmp 48) 49 49 rfl Tryz.underlying49 bu 0 (m0 + (k + 2)) capu bui 0 (m0 + (k + 2)) cui rfl rfl Cu UL hau3 hwU hmin2.out hf2.out hsrc2.out ?_)
      intro w4 hS4
      have hz1 := hS4.arr.cellN (i := m0 + (k + 2)) (by rw [spl_length hf2.out]; omega)
      have hz2 := hS4.arr.frozen (m0 + (k + 2))
      have hS5 := hS4.next (k := m0 + (k + 2)) hm.out (by omega) 0 WB_pos
      rw [Nat.zero_add] at hS5
      go_wp2
      go_meet
      have e2 : 2 ^ sh = 1 := by rw [h0.out]
      have hn2 := hnz.out
      rw [e2, Nat.mul_one] at hn2
      refine ⟨VL, UL ++ [0], hk.out, by simp [hm.out], by rw [e2, hvV.out, Nat.mul_one], ?_, hn2.2, ?_, hwV, hS5.other hbu1.symm hS3.arr, hS5.arr, (hS3.chg.mono (fun _ _ h => .inl h)).trans (hS5.chg.mono (fun _ _ h => .inl (.inr h)))⟩
      · rw [e2, Nat.mul_one, show UL ++ [0] = UL ++ List.replicate 1 0 from rfl, val_append_zeros, hvU.out]
      · have h9 : nth (UL ++ [0]) (m0 + (k + 2)) = 0 := by
          rw [← hm.out]; unfold nth; simp
        rw [h9]; omega
    · have hz0 : ((sh : Int) == 0) = false := by simp; exact h0
      have hsp : 0 < sh := by omega
      have q1 := lshVU_c w2 bv 0 (k + 1) Gv bvi 0 cvi sh Cv Cvi (by omega) hsp hsh hav2 (by omega) havi2 (by omega) (.inl hbvi)
      rw [show k + 1 + 1 = k + 2 by omega] at q1
      replace q1 := Lib.hid q1
      replace h0 := Lib.hid h0
      go_wp2_with fail
      with_reducible refine q1.out.mono ?_
      rintro e w3 ⟨R, cc, rfl, hS3, hR, hcc, hval⟩
      have hau3 := hS3.other hbu1 hau
      have haui3 := hS3.other hbui haui2
      have q2 := lshVU_c w3 bu 0 (m0 + k + 1) capu bui 0 cui sh Cu Cui (by omega) hsp hsh hau3 (by omega) haui3 (by omega) (.inr (by omega))
      rw [show m0 + k + 1 + 1 = m0 + (k + 2) by omega] at q2
      replace q2 := Lib.hid q2
      replace hS3 := Lib.hid hS3
      replace hval := Lib.hid hval
      have c1 : (m0 : Int) + ((k : Int) + 2) ≤ (capu : Int) := by omega
      have c2' : ((m0 : Int) + ((k : Int) + 2)).toNat = m0 + (k + 2) := by omega
      have c3 : (0 : Int) ≤ (m0 : Int) + ((k : Int) + 2) := by omega
      go_wp2_with fail
      with_reducible refine q2.out.mono ?_
      rintro e w4 ⟨RU, cu, rfl, hS4, hRU, hcu, hvalU⟩
      have hf2 : 0 + RU.length ≤ Cu.length := by omega
      have hz1 := hS4.arr.cellN (i := m0 + (k + 2)) (by rw [spl_length hf2]; omega)
      have hz2 := hS4.arr.frozen (m0 + (k + 2))
      have hS5 := hS4.next (k := m0 + (k + 2)) hRU (by omega) cu hcu
      rw [Nat.zero_add] at hS5
      replace hS5 := Lib.hid hS5
      replace hvalU := Lib.hid hvalU
      go_wp2
      go_meet
      have wd : ∀ {C L : List Nat}, Wd (spl C 0 L) → Wd L := fun h x hx => h x (by unfold spl; simp [hx])
      have hwR := wd hS3.out.arr.wd
      have hv1 := hval.out
      rw [htvi0.out] at hv1
      have hk3 := hk.out
      obtain ⟨r1, r2⟩ := top_shift (k := k + 1) hsh hwV hk3 hR hwR hv1 hnz.out
      have hv2 := hvalU.out
      rw [htui0.out] at hv2
      have r3 := carry_lt hwU hm.out hv2
      have hp : 2 ^ sh ≤ nth VL (k + 1) * 2 ^ sh := Nat.le_mul_of_pos_left _ (by omega)
      have hn2 := hnz.out.2
      have r4 : nth (RU ++ [cu]) (m0 + (k + 2)) = cu := by rw [← hRU]; unfold nth; simp
      refine ⟨R, RU ++ [cu], hR, by simp [hRU], by rw [r1, hvV.out], ?_, by omega, by rw [r4]; omega, hwR, hS5.out.other hbu1.symm hS3.out.arr, hS5.out.arr, (hS3.out.chg.mono (fun _ _ h => .inl h)).trans (hS5.out.chg.mono (fun _ _ h => .inl (.inr h)))⟩
      rw [val_append, hRU, ← hvU.out, ← hv2]; simp [val]
  case rest =>
    obtain ⟨V', U', hlV', hlU', hvV', hvU', hnV', htU', hwV', haV', haU', hch3⟩ := hcut
    have hchc : Chg w wc (fun k => k = s ∨ k = bv ∨ k = bu) := ((hch1.mono (fun _ _ h => .inl h)).trans (hch2.mono (fun _ _ h => h.elim))).trans (hch3.mono (fun _ _ h => .inl (.inr h)))
    have hozu : oz ≠ some bu := by
      intro e
      rcases hbu with ⟨e2, _⟩ | e2
      · exact hdist _ e e2
      · have h3 : bu < w.heap.size := by subst e; exact hz.lt
        have := hch1.size
        omega
    have hozv : oz ≠ some bv := by
      rintro e
      have h3 : bv < w.heap.size := by subst e; exact hz.lt
      omega
    have hzc := hz.chg hchc (fun b e => by
      rintro (h | h | h)
      · exact hzs b e h
      · exact hozv (h ▸ e)
      · exact hozu (h ▸ e))
    have hlU2 : (spl Cu 0 U').length = capu := by rw [spl_length (by omega), hCu]
    have huc : Stor wc (.slice (some ⟨bu, 0, none⟩) (m0 + (k + 2) + 1) capu) (some bu) := .inr ⟨bu, _, capu, _, rfl, rfl, hnu, haU', hlU2, hcapu⟩
    have hal := alias_c wc _ _ oz (some bu) hzc huc
    rw [show (decide (oz = some bu ∧ oz ≠ none)) = false by simp [hozu]] at hal
    have hg3 : wc.cell? ⟨3, 0, none⟩ = some (.int .i64 40) := by
      refine hchc.cell hG.g3 ?_
      rintro (h | h | h)
      · have h4 := cell1 hs
        have h5 := hG.g3
        have h6 : (3 : Nat) = s := h
        subst h6
        rw [h4] at h5; simp at h5
      · have h5 := lt_of_cell? hG.g3
        have h6 : (3 : Nat) = bv := h
        have h7 : (3 : Nat) < w.heap.size := h5
        omega
      · have h6 : (3 : Nat) = bu := h
        have h7 : (3 : Nat) < w.heap.size := lt_of_cell? hG.g3
        rcases hbu with ⟨e2, _⟩ | e2
        · subst e2; exact (h2.neVar hG.g3) h6.symm
        · have := hch1.size
          omega
    have hmq := fun n => make_c (wc.drewN n) _ oz (hzc.chg ((Chg.refl wc (fun _ => False)).drewN n) (fun _ _ h => h)) (m0 + 1) (by omega) (by omega)
    replace hmq := Lib.hid hmq
    go_wp2_with fail
    refine hal.mono ?_
    rintro e w' ⟨rfl, na, rfl⟩
    have hmq := hmq.out na
    rw [show ((m0 + 1 : Nat) : Int) = (m0 : Int) + 1 by omega] at hmq
    have q1 : IntKind.i64.wrap ((m0 : Int) + ((k : Int) + 2) - ((k : Int) + 2)) = (m0 : Int) := by rw [show (m0 : Int) + ((k : Int) + 2) - ((k : Int) + 2) = (m0 : Int) by omega]; exact IntWalk.i64_in _ (by omega)
    go_wp2_with fail
    refine hmq.mono ?_
    rintro e w5 ⟨r, rfl, bq, capq, Cq, rfl, haq, hCq, hnq, hcapq, hbq, hch5⟩
    have hch5' : Chg wc w5 (fun _ => False) := ((Chg.refl wc (fun _ => False)).drewN na).trans (hch5.mono (fun _ _ h => h.elim))
    have hbqu : bq ≠ bu := by
      rcases hbq with ⟨e, _⟩ | e
      · rintro rfl; exact hozu e
      · have h3 := haU'.lt
        have h4 : (wc.drewN na).heap.size = wc.heap.size := rfl
        omega
    have hbqv : bv ≠ bq := by
      rcases hbq with ⟨e, _⟩ | e
      · rintro rfl; exact hozv e
      · have h3 := haV'.lt
        have h4 : (wc.drewN na).heap.size = wc.heap.size := rfl
        omega
    have hg5 := hch5'.cell hg3 (fun h => h)
    have haV5 := hch5'.arr haV' (fun h => h)
    have haU5 := hch5'.arr haU' (fun h => h)
    have k40 : (k : Int) + 2 < 40 := by omega
    have hlC : V'.length ≤ Cv.length := by omega
    have hlCu : U'.length ≤ Cu.length := by omega
    have hne : s ≠ bv ∧ s ≠ bu ∧ s ≠ bq := by
      have hsc := lt_of_cell? (cell1 hs)
      have h1 : s < w.heap.size := hsc
      have h3 := hch1.size
      refine ⟨by omega, ?_, ?_⟩
      · rcases hbu with ⟨e, _⟩ | e
        · exact fun h => h2s _ e h.symm
        · omega
      · rcases hbq with ⟨e, _⟩ | e
        · exact fun h => hzs _ e h.symm
        · have h4 := haV'.lt
          have h5 : (wc.drewN na).heap.size = wc.heap.size := rfl
          have h6 := hchc.size
          omega
    have hcw5 : Chg w1 w5 (fun k => k = bv ∨ k = bu) := ((hch2.mono (fun _ _ h => h.elim)).trans (hch3.mono (fun _ _ h => .inl h))).trans (hch5'.mono (fun _ _ h => h.elim))
    have hst5 : StkS w5 s st := by
      refine hst.upd hcw5 (fun h => h.elim hne.1 hne.2.1) ?_ ?_
      · rintro t b l e
        subst e
        obtain ⟨c, C, hS⟩ := hst
        rintro (h | h)
        · exact hav.ne hS.ht (by decide) h.symm
        · subst h
          rcases hbu with ⟨e, _⟩ | e
          · exact (Stor.ne (e ▸ h2.chg hch1 h2s) hS.ht (by decide)) rfl
          · have := ltB' hS.ht; omega
      · rintro t b l C e hC
        rcases hstd with h | ⟨t', l', h, _, _, _⟩
        · rw [h] at e; cases e
        · rw [h] at e
          simp only [Option.some.injEq, Prod.mk.injEq] at e
          obtain ⟨_, rfl, _⟩ := e
          have := hav.uniq hC
          subst this
          exact ⟨_, haV5, by rw [spl_length (by omega)]⟩
    have hAt : At w5 bv 0 V' := fun i hi => by rw [Nat.zero_add, haV5.cellN (by rw [spl_length (by omega)]; omega), nth_spl0 hlC hi]
    have hsave : Calls Tryz.prog 181 #[.pointer (some ⟨s, 0, none⟩)] w5 fun e w' => e = .returned (.int .i64 ((topOf st : Nat) : Int)) ∧ w5 = w' := by
      have h := StkS.save hst5
      match st, hst5, h with
      | none, _, h => exact h
      | some (_, _, _), _, h => exact h
    have hnat := stkNat w5 s (k + 3) bv st V' hst5 (by omega) (by omega) hAt ⟨_, haV5, by rw [spl_length (by omega)]; omega⟩ (by
      rcases hstd with h | ⟨t', l', h, _, h1, h2⟩
      · exact .inl h
      · exact .inr ⟨t', l', h, by omega, by omega⟩)
    have nst : ∀ {x : Nat} {C : List Nat}, Arr w5 x C → x ≠ bv → ¬ StkBlk s st x := by
      intro x C hx hxv
      match st, hst5, hstd with
      | none, h, _ => exact fun e => hx.ne h (by decide) e
      | some (t, b, l), ⟨c, D, h⟩, hstd =>
        rcases hstd with h' | ⟨t', l', h', _, _, _⟩
        · cases h'
        · simp only [Option.some.injEq, Prod.mk.injEq] at h'
          obtain ⟨_, rfl, _⟩ := h'
          rintro (e | e)
          · exact hx.ne h.ht (by decide) e
          · exact hxv e
    have nbu := nst haU5 hbu1
    have nbq := nst haq hbqv.symm
    have hs15 : w.heap.size ≤ w5.heap.size := Nat.le_trans hch1.size hcw5.size
    have hdb := divBasic_c w5 (.pointer (some ⟨s, 0, none⟩)) bq capq bu capu bv 0 Gv (m0 + 1) k (topOf st) (spl Cu 0 U') Cq V'
      (fun v bh => Chg w5 v (StkBlk s st) ∧ (w5.heap.size ≤ bh ∨ bh = bv) ∧ (∃ H, Arr v bh H) ∧ StkW v s w.heap.size (topOf st))
      (fun v v' => StkW v' s w.heap.size 0 ∧ Chg v v' (Inner v w.heap.size))
      (by omega) (by omega) (by omega) hlV' hwV' hnV' (by omega) (by omega) (by omega) (by rw [hlU2]; omega) hbqu hbu1.symm hbqv
      (by rw [show m0 + 1 + (k + 1) = m0 + (k + 2) by omega, nth_spl0 hlCu (by omega)]; exact htU') hsave
      (hnat.mono (by
        rintro e v ⟨bh, oh, G, H, st', rfl, a1, a2, a3, a4, a5, a6, a7, a8, a9, a10⟩
        refine ⟨bh, oh, G, H, rfl, a1, a2, a3, ?_, ?_, a8.arr haU5 nbu, a8.arr haq nbq, a5, a6, a8, a4, ⟨H, a1⟩, ?_⟩
        · rcases a4 with h | h
          · have := haU5.lt; omega
          · rw [h]; exact hbu1.symm
        · rcases a4 with h | h
          · have := haq.lt; omega
          · rw [h]; exact hbqv
        · rcases hstd with h | ⟨t, l, h, ht, _, _⟩
          · subst h
            refine a7.weak (fun t b l e => ?_) (fun t b l e => Nat.zero_le _)
            rcases a9 rfl with h | ⟨t', b', l', h, h1, _⟩
            · rw [h] at e; cases e
            · rw [h] at e
              simp only [Option.some.injEq, Prod.mk.injEq] at e
              obtain ⟨rfl, _, _⟩ := e
              omega
          · subst h
            obtain ⟨l', e', hlo⟩ := a10 _ _ _ rfl
            subst e'
            obtain ⟨c, C, h1⟩ := a7
            have hu := a1.uniq h1.hb
            subst hu
            have := h1.hC
            exact .inr ⟨t, bh, l', c, ht, h1.hs, h1.ht, (show l ≤ c by omega), h1.hc⟩))
      (by
        rintro v bh v2 ⟨p1, p2', ⟨H, p3⟩, p4⟩ hc
        have au := p1.arr haU5 nbu
        have aq := p1.arr haq nbq
        have nin : ∀ {t : Nat} {cs : Array Value} {T : TypeId}, T ≠ 112 → v.heap[t]? = some (.cells cs T (0, 0)) → ¬ (t = bu ∨ t = bq ∨ t = bh) := by
          intro t cs T hT ht
          rintro (h | h | h)
          · exact au.ne ht hT h.symm
          · exact aq.ne ht hT h.symm
          · exact p3.ne ht hT h.symm
        have hns : ¬ (s = bu ∨ s = bq ∨ s = bh) := by
          rcases p4 with h | ⟨t, b, l, c, _, h, _⟩
          · exact nin (by decide) h
          · exact nin (by decide) h
        refine (restoreW v2 s w.heap.size (topOf st) .returning (p4.chg hc hns (fun t cs ht => nin (by decide) ht))).mono ?_
        rintro e u' v3 ⟨rfl, rfl, h⟩
        exact ⟨rfl, rfl, h⟩)
    rw [show m0 + 1 + (k + 2) = m0 + (k + 2) + 1 by omega] at hdb
    go_wp2_with fail
    with_reducible refine hdb.mono ?_
    rintro e w6 ⟨rfl, v1, bh, v2, U2, Q2, ⟨p1, p2', ⟨H, p3⟩, p4⟩, hcA, haU6, hlU6, haQ6, hlQ6, hmod, hdiv, hS6, hcB⟩
    have haQ7 := hcB.arr haQ6 (Inner.arr haQ6)
    have haU7 := hcB.arr haU6 (Inner.arr haU6)
    have tk : (spl Cu 0 U').take (m0 + (k + 2) + 1) = U' := by rw [← hlU']; exact spl_zero_take hlCu
    have hp : 0 < 2 ^ sh := Nat.pow_pos (by omega)
    rw [tk, hvV', hvU', Nat.mul_mod_mul_right] at hmod
    rw [tk, hvV', hvU', Nat.mul_div_mul_right _ _ hp] at hdiv
    have n1 := norm_c w6 bq (m0 + 1) capq Q2 haQ7 (by omega) (by omega) (by omega)
    rw [hdiv] at n1
    have hS0 : ∀ k, k = bu → (some k = oz ∨ some k = o2 ∨ k = s) ∨ w.heap.size ≤ k := by
      rintro k rfl
      rcases hbu with ⟨e, _⟩ | e
      · exact .inl (.inr (.inl e.symm))
      · have := hch1.size; exact .inr (by omega)
    have hS1 : ∀ k, k = bq → (some k = oz ∨ some k = o2 ∨ k = s) ∨ w.heap.size ≤ k := by
      rintro k rfl
      rcases hbq with ⟨e, _⟩ | e
      · exact .inl (.inl e.symm)
      · have h5 : (wc.drewN na).heap.size = wc.heap.size := rfl
        have h6 := hchc.size
        exact .inr (by omega)
    have hblk : ∀ k, StkBlk s st k → (some k = oz ∨ some k = o2 ∨ k = s) ∨ w.heap.size ≤ k := by
      intro k h
      rcases hstd with e | ⟨t, l, e, ht, _, _⟩
      · subst e; exact .inl (.inr (.inr h))
      · subst e
        rcases h with h | h
        · exact .inr (by omega)
        · exact .inr (by omega)
    have t0 : Chg w w6 (fun k => some k = oz ∨ some k = o2 ∨ k = s) := by
      have u0 : Chg w wc (fun k => some k = oz ∨ some k = o2 ∨ k = s) := hchc.mono (fun k hk h => by
        rcases h with h | h | h
        · exact .inr (.inr h)
        · omega
        · exact (hS0 k h).resolve_right (by omega))
      have u1 := u0.trans (hch5'.mono (fun _ _ h => h.elim))
      have u2 := u1.trans (p1.mono (fun k _ h => hblk k h))
      have u3 := u2.trans (hcA.mono (fun k _ h => by
        rcases h with h | h | h
        · exact hS0 k h
        · exact hS1 k h
        · rcases p2' with h' | h' <;> exact .inr (by omega)))
      exact u3.trans (hcB.mono (fun k _ h => .inr h.1))
    have fin : ∀ wf UF, Chg w6 wf (fun k => k = bu) → Arr wf bu UF → UF.length = capu → val (UF.take (m0 + (k + 2) + 1)) = U % V → ∀ w7, StkW w7 s w.heap.size 0 → Chg wf w7 (Inner wf w.heap.size) →
        DivRes w w7 oz o2 (.slice (some ⟨bq, 0, none⟩) (digs (U / V)).length capq) (.slice (some ⟨bu, 0, none⟩) (digs (U % V)).length capu) (U / V) (U % V) ∧ StkW w7 s w.heap.size 0 ∧ Chg w w7 (fun k => some k = oz ∨ some k = o2 ∨ k = s) := by
      intro wf UF hc ha hl hv w7 hs7 hc7
      have aq := hc.arr haQ7 hbqu
      have aq7 := hc7.arr aq (Inner.arr aq)
      have au7 := hc7.arr ha (Inner.arr ha)
      have iq := isNat_of (l := m0 + 1) aq7 (hlQ6.trans hCq) hcapq (by omega)
      have iu := isNat_of (l := m0 + (k + 2) + 1) au7 hl hcapu (by omega)
      rw [hdiv] at iq
      rw [hv] at iu
      refine ⟨⟨some bq, some bu, iq, iu, ?_, ?_, fun b h => by cases h; intro h; exact hbqu (Option.some.inj h).symm⟩, hs7, (t0.trans (hc.mono (fun k _ h => hS0 k h))).trans (hc7.mono (fun k _ h => .inr h.1))⟩
      · rcases hS1 bq rfl with (h | h | h) | h
        · exact .inl h
        · exact absurd h (fun h => by
            rcases hbq with ⟨e, _⟩ | e
            · exact hdist _ e h.symm
            · have h5 : (wc.drewN na).heap.size = wc.heap.size := rfl
              have h6 := hchc.size
              have h7 : bq < w.heap.size := by rw [← h] at h2; exact h2.lt
              omega)
        · exact absurd h.symm hne.2.2
        · exact .inr (.inr ⟨bq, rfl, h⟩)
      · rcases hbu with ⟨e, _⟩ | e
        · exact .inl e.symm
        · have := hch1.size; exact .inr (.inr ⟨bu, rfl, by omega⟩)
    replace fin := Lib.hid fin
    have hlU6c : U2.length = capu := hlU6.trans hlU2
    replace n1 := Lib.hid n1
    clear hdb hsave hnat nst nbu nbq hS0 hS1 hblk t0 hcA hcB p1 p2' p3 p4 tk
    go_wp2_with fail
    with_reducible refine n1.out.mono ?_
    rintro e w' ⟨rfl, hw⟩
    obtain rfl := hw
    by_cases h0 : sh = 0
    · have e2 : 2 ^ sh = 1 := by rw [h0]
      rw [e2, Nat.mul_one] at hmod
      have hz0 : ((sh : Int) != 0) = false := by simp; exact h0
      have n2 := norm_c w6 bu (m0 + (k + 2) + 1) capu U2 haU7 (by omega) (by omega) (by omega)
      rw [hmod] at n2
      have hfin := fin.out w6 U2 (Chg.refl _ _) haU7 hlU6c hmod
      have hrs := restoreW w6 s w.heap.size 0 .returning hS6
      replace n2 := Lib.hid n2
      replace hfin := Lib.hid hfin
      replace hrs := Lib.hid hrs
      replace h0 := Lib.hid h0
      clear e2
      go_wp2_with fail
      with_reducible refine n2.out.mono ?_
      rintro e w' ⟨rfl, hw⟩
      obtain rfl := hw
      go_wp2
      refine leaves_cons (f := 180) (args := #[.pointer (some ⟨s, 0, none⟩), .int .i64 0]) (by simp) (by simp [go_sem]) ?_
      refine hrs.out.mono ?_
      rintro e u' w'' ⟨rfl, rfl, h1, h2⟩
      exact ⟨.tuple #[.slice (some ⟨bq, 0, none⟩) (digs (U / V)).length capq, .slice (some ⟨bu, 0, none⟩) (digs (U % V)).length capu], by simp [results, Tryz.results157, go_sem], _, _, rfl, hfin.out w'' h1 h2⟩
    · have hz0 : ((sh : Int) != 0) = true := by simp; exact h0
      have q3 := rshVU_c w6 bu 0 (m0 + (k + 2)) capu bu 0 capu sh U2 U2 (by omega) (by omega) hsh haU7 (by omega) haU7 (by omega) (.inr (Nat.le_refl _))
      rw [List.drop_zero, hmod, Nat.mul_div_cancel _ hp] at q3
      have hrs := fun wf (h : Chg w6 wf (fun k => k = bu)) (ha : Arr wf bu (spl U2 0 (digs 0))) => restoreW wf s w.heap.size 0 .returning (hS6.chg h (fun e => hne.2.1 e) (fun t cs ht e => haU7.ne ht (by decide) e.symm))
      have hns : ∀ wf, Chg w6 wf (fun k => k = bu) → StkW wf s w.heap.size 0 := fun wf h => hS6.chg h (fun e => hne.2.1 e) (fun t cs ht e => haU7.ne ht (by decide) e.symm)
      clear hrs
      replace q3 := Lib.hid q3
      replace h0 := Lib.hid h0
      replace hns := Lib.hid hns
      go_wp2_with fail
      with_reducible refine q3.out.mono ?_
      rintro e w7 ⟨R, c, rfl, hS7, hR, hval⟩
      have hlR : (spl U2 0 R).length = capu := by rw [spl_length (by omega)]; exact hlU6c
      have tk2 : (spl U2 0 R).take (m0 + (k + 2) + 1) = R := by rw [← hR]; exact spl_zero_take (by omega)
      have n2 := norm_c w7 bu (m0 + (k + 2) + 1) capu (spl U2 0 R) hS7.arr (by omega) (by omega) (by omega)
      rw [tk2, hval] at n2
      have hfin := fin.out w7 (spl U2 0 R) hS7.chg hS7.arr hlR (by rw [tk2]; exact hval)
      have hrs := restoreW w7 s w.heap.size 0 .returning (hns.out w7 hS7.chg)
      replace n2 := Lib.hid n2
      replace hfin := Lib.hid hfin
      replace hrs := Lib.hid hrs
      clear tk2 hlR
      go_wp2_with fail
      with_reducible refine n2.out.mono ?_
      rintro e w' ⟨rfl, hw⟩
      obtain rfl := hw
      go_wp2
      refine leaves_cons (f := 180) (args := #[.pointer (some ⟨s, 0, none⟩), .int .i64 0]) (by simp) (by simp [go_sem]) ?_
      refine hrs.out.mono ?_
      rintro e u' w'' ⟨rfl, rfl, h1, h2⟩
      exact ⟨.tuple #[.slice (some ⟨bq, 0, none⟩) (digs (U / V)).length capq, .slice (some ⟨bu, 0, none⟩) (digs (U % V)).length capu], by simp [results, Tryz.results157, go_sem], _, _, rfl, hfin.out w'' h1 h2⟩
end Go.Proofs.YtonepclpllelfaaGreatDoor

namespace Go.Proofs.YtonepclpllelfaaGreatDoor
open Go Go.RowKit

set_option maxRecDepth 200000 in
set_option maxHeartbeats 4000000 in
theorem divBig_c (w : World) (z z2 u v : Value) (U V : Nat) (oz o2 ou ov : Option Nat) (hG : Glob w) (hz : Stor w z oz) (h2 : Stor w z2 o2) (hu : IsNat w u U ou) (hv : IsNat w v V ov)
    (hdist : ∀ b, oz = some b → o2 ≠ some b) (hV2 : 2 ≤ (digs V).length) (hV40 : (digs V).length < 40) (hle : V ≤ U) (hU : (digs U).length ≤ 250) :
    Calls Tryz.prog 137 #[z, .pointer none, z2, u, v] w fun e w' => ∃ rq rr, e = .returned (.tuple #[rq, rr]) ∧ DivRes w w' oz o2 rq rr (U / V) (U % V) ∧ Chg w w' (fun k => some k = oz ∨ some k = o2) := by
  have hcmp := natcmp_c w u v U V ou ov hu hv
  have hord : 0 ≤ ordN U V := by unfold ordN; split <;> (try split) <;> omega
  have hV0 : V ≠ 0 := by rintro rfl; rw [digs_zero] at hV2; simp at hV2
  have hz' := hz
  have h2' := h2
  obtain ⟨pz, lz, cz, rfl⟩ := stor_slice hz'
  obtain ⟨p2, l2, c2, rfl⟩ := stor_slice h2'
  obtain ⟨pv, cv, rfl, _, _⟩ := hv.shape
  obtain ⟨pu, cu, rfl, _, _⟩ := hu.shape
  have hlt : ∀ k, w.heap.size ≤ k → ¬ (some k = oz ∨ some k = o2) := by
    rintro k hk (h | h)
    · rw [← h] at hz'; have := hz'.lt; omega
    · rw [← h] at h2'; have := h2'.lt; omega
  have hdl := fun w1 s (hs : Stk0 w1 s) (hc : Chg w w1 (fun _ => False)) => divLarge_c w1 (.slice pz lz cz) (.slice p2 l2 c2) _ _ U V s oz o2 ou ov (hG.chg hc (fun _ _ h => h)) hs (hz.chg hc (fun _ _ h => h)) (h2.chg hc (fun _ _ h => h)) (hu.chg hc (fun _ _ h => h)) (hv.chg hc (fun _ _ h => h)) hdist hV2 hV40 hle hU
  replace hdl := Lib.hid hdl
  replace hcmp := Lib.hid hcmp
  generalize hL : (digs V).length = L at *
  generalize hM : (digs U).length = M at *
  replace hL := Lib.hid hL
  replace hM := Lib.hid hM
  go_enter_defers Tryz.func137, Tryz.ntmps137
  go_wp2_with fail
  with_reducible refine hcmp.out.mono ?_
  rintro e w' ⟨rfl, n, hw⟩
  have hc0 : Chg w w' (fun _ => False) := by rw [hw]; exact (Chg.refl w _).drewN n
  have hsz : w'.heap.size = w.heap.size := by rw [hw]; rfl
  clear hw hcmp
  replace hsz := Lib.hid hsz
  generalize ordN U V = r at hord ⊢
  have hgs := getStack_c w'
  have e0 : decide (r < 0) = false := by simp; omega
  go_wp2_with fail
  with_reducible refine hgs.mono ?_
  rintro e w1 ⟨rfl, hs1, hc1⟩
  have hc01 : Chg w w1 (fun _ => False) := hc0.trans (hc1.mono (fun _ _ h => h.elim))
  have hd := hdl.out w1 _ hs1 hc01
  replace hd := Lib.hid hd
  go_wp2_with fail
  with_reducible refine hd.out.mono ?_
  rintro e w2 ⟨rq, rr, rfl, ⟨oq, or', hq, hrr, hoq, hor, hne⟩, hsw, hc2⟩
  have hfr := freeW w2 _ _ .returning hsw
  replace hfr := Lib.hid hfr
  go_wp2
  refine leaves_cons (f := 156) (args := #[.pointer (some ⟨w'.heap.size, 0, none⟩)]) (by simp) (by simp [go_sem]) ?_
  refine hfr.out.mono ?_
  rintro e u' w3 ⟨rfl, rfl, h1⟩
  have hni : ∀ {v : Value} {N : Nat} {o : Option Nat}, IsNat w2 v N o → ∀ k, o = some k → ¬ Inner w2 w1.heap.size k := by
    intro v N o h k hk
    rcases h with ⟨_, _, h⟩ | ⟨b, _, C, h, _, ha, _⟩
    · rw [h] at hk; cases hk
    · rw [h] at hk; cases hk; exact Inner.arr ha
  have hs1' := hc01.size
  have hsz' := hsz.out
  refine ⟨.tuple #[rq, rr], by simp [results, Tryz.results137, go_sem], rq, rr, rfl, ⟨oq, or', hq.chg h1 (hni hq), hrr.chg h1 (hni hrr), ?_, ?_, hne⟩, ?_⟩
  · rcases hoq with h | h | ⟨b, h, hb⟩
    · exact .inl h
    · exact .inr (.inl h)
    · exact .inr (.inr ⟨b, h, by omega⟩)
  · rcases hor with h | h | ⟨b, h, hb⟩
    · exact .inl h
    · exact .inr (.inl h)
    · exact .inr (.inr ⟨b, h, by omega⟩)
  · refine ((hc01.mono (fun _ _ h => h.elim)).trans (hc2.mono (fun k _ h => ?_))).trans (h1.mono (fun k _ h => .inr (by have := h.1; omega)))
    rcases h with h | h | h
    · exact .inl (.inl h)
    · exact .inl (.inr h)
    · exact .inr (by omega)

theorem Stor.cut {w : World} {p : Option Addr} {l c : Nat} {o : Option Nat} (h : Stor w (.slice p l c) o) : IsNat w (.slice p 0 c) 0 o := by
  rcases h with ⟨h, rfl⟩ | ⟨b, l', cap, C, rfl, h, _, ha, hc, hcap⟩
  · injection h with h1 h2 h3
    subst h1 h2 h3
    exact .inl ⟨rfl, rfl, rfl⟩
  · injection h with h1 h2 h3
    subst h1 h2 h3
    exact .inr ⟨b, c, C, rfl, by rw [digs_zero]; rfl, ha, hc, hcap, by rw [digs_zero]; rfl⟩
set_option maxHeartbeats 4000000 in
theorem divLess_c (w : World) (z z2 u v : Value) (U V : Nat) (oz o2 ou ov : Option Nat) (hz : Stor w z oz) (h2 : Stor w z2 o2) (hu : IsNat w u U ou) (hv : IsNat w v V ov)
    (hdist : ∀ b, oz = some b → o2 ≠ some b) (hV2 : 2 ≤ (digs V).length) (hlt : U < V) (hU : (digs U).length ≤ 1000) :
    Calls Tryz.prog 137 #[z, .pointer none, z2, u, v] w fun e w' => ∃ rq rr, e = .returned (.tuple #[rq, rr]) ∧ DivRes w w' oz o2 rq rr (U / V) (U % V) ∧ Chg w w' (fun k => some k = oz ∨ some k = o2) := by
  have hcmp := natcmp_c w u v U V ou ov hu hv
  rw [ordN_lt hlt] at hcmp
  rw [Nat.div_eq_of_lt hlt, Nat.mod_eq_of_lt hlt]
  have hset := fun n => set_c (w.drewN n) z2 u U o2 ou (h2.chg ((Chg.refl w (fun _ => False)).drewN n) (fun _ _ h => h)) (hu.chg ((Chg.refl w (fun _ => False)).drewN n) (fun _ _ h => h)) hU
  obtain ⟨pz, lz, cz, rfl⟩ := stor_slice hz
  obtain ⟨pv, cv, rfl, _, _⟩ := hv.shape
  have hcut := hz.cut
  have hlz : lz ≤ cz := by
    rcases hz with ⟨h, _⟩ | ⟨b, l', cap, C, _, h, h3, _, h4, h5⟩
    · injection h with _ h1 h2; omega
    · injection h with _ h1 h2; omega
  have hz0 : pz = none → cz = 0 := by
    rintro rfl
    rcases hz with ⟨h, _⟩ | ⟨b, l', cap, C, _, h, _⟩
    · injection h
    · injection h with h1; cases h1
  generalize hL : (digs V).length = L at *
  replace hL := Lib.hid hL
  replace hset := Lib.hid hset
  replace hcmp := Lib.hid hcmp
  replace hcut := Lib.hid hcut
  have hk : ∀ w', Chg w w' (fun k => some k = o2) → IsNat w' (.slice pz 0 cz) 0 oz := fun w' hc => hcut.out.chg hc (fun b e h => hdist b e h.symm)
  replace hk := Lib.hid hk
  go_enter_defers Tryz.func137, Tryz.ntmps137
  go_wp2_with fail
  with_reducible refine hcmp.out.mono ?_
  rintro e w' ⟨rfl, n, hw⟩
  obtain rfl := hw
  go_wp2_with fail
  with_reducible refine (hset.out n).mono ?_
  rintro e w2 ⟨rr, rfl, or', hrr, hor, hch⟩
  go_wp2
  have hq := hk.out w2 (((Chg.refl w (fun _ => False)).drewN n |>.mono (fun _ _ h => h.elim)).trans (hch.mono (fun k _ h => .inl h)))
  refine ⟨.tuple #[.slice pz 0 cz, rr], by simp [results, Tryz.results137, go_sem], _, _, rfl, ⟨oz, or', hq, hrr, .inl rfl, hor, fun b hb hb2 => ?_⟩, ((Chg.refl w (fun _ => False)).drewN n |>.mono (fun _ _ h => h.elim)).trans (hch.mono (fun k _ h => .inl (.inr h)))⟩
  rcases hor with h | h | ⟨b', h, hb'⟩
  · rw [h] at hb2; exact hdist b hb hb2
  · rw [h] at hb2; cases hb2
  · rw [h] at hb2
    have hbl : b < w.heap.size := by rw [hb] at hz; exact hz.lt
    have h5 : (w.drewN n).heap.size = w.heap.size := rfl
    cases hb2
    omega

set_option maxHeartbeats 4000000 in
theorem divOne_c (w : World) (z z2 u v : Value) (U V : Nat) (oz o2 ou ov : Option Nat) (hz : Stor w z oz) (h2 : Stor w z2 o2) (hu : IsNat w u U ou) (hv : IsNat w v V ov)
    (hdist : ∀ b, oz = some b → o2 ≠ some b) (hV0 : V ≠ 0) (hV1 : V < WB) (hU : (digs U).length ≤ 900) :
    Calls Tryz.prog 137 #[z, .pointer none, z2, u, v] w fun e w' => ∃ rq rr, e = .returned (.tuple #[rq, rr]) ∧ DivRes w w' oz o2 rq rr (U / V) (U % V) ∧ Chg w w' (fun k => some k = oz ∨ some k = o2) := by
  have hdw := divW_c w z u U V oz ou hz hu hU hV1 (by omega)
  have hr : U % V < WB := Nat.lt_trans (Nat.mod_lt _ (by omega)) hV1
  obtain ⟨bv, cv, Cv, rfl, rfl, hav, hcv, hcapv, htv, hlv, hpv⟩ := hv.pos hV0
  have hd1 : (digs V).length = 1 := by
    have h1 : (digs V).length ≤ 1 := digs_len_le.2 (by simpa using hV1)
    have h2 := digs_len_pos hV0
    omega
  have hdv : nth Cv 0 = V := by
    have h1 := nth_take (l := Cv) (i := 0) (k := (digs V).length) (by omega)
    rw [htv] at h1
    rw [← h1]
    have h3 := val_digs V
    match hh : digs V, hd1 with
    | [x], _ => rw [hh] at h3; simp [val] at h3; simp [nth, h3]
  have hc := hav.cellN (i := 0) (by omega)
  rw [hdv] at hc
  rw [hd1]
  obtain ⟨rm, hrm⟩ : ∃ rm, U % V = rm := ⟨_, rfl⟩
  rw [hrm] at hdw hr ⊢
  have hsw := fun w1 (h : Stor w1 z2 o2) => setWord_c w1 z2 rm o2 h hr
  clear hrm
  replace hdw := Lib.hid hdw
  replace hsw := Lib.hid hsw
  have hdd := hdist
  replace hdd := Lib.hid hdd
  go_enter_defers Tryz.func137, Tryz.ntmps137
  go_wp2_with fail
  with_reducible refine hdw.out.mono ?_
  rintro e w1 ⟨rq, rfl, oq, hq, hoq, hch1⟩
  have h21 : Stor w1 z2 o2 := h2.chg hch1 (fun b hb e => hdist b e.symm hb)
  go_wp2_with fail
  with_reducible refine (hsw.out w1 h21).mono ?_
  rintro e w2 ⟨rr, rfl, or', hrr, hor, hch2⟩
  go_wp2
  have s1 := hch1.size
  have noq : ∀ b, oq = some b → o2 ≠ some b := by
    intro b hb ho
    rcases hoq with h | h | ⟨b', h, hb'⟩
    · exact hdist b (h ▸ hb) ho
    · rw [h] at hb; cases hb
    · rw [h] at hb
      cases hb
      have : b < w.heap.size := by rw [ho] at h2; exact h2.lt
      omega
  refine ⟨.tuple #[rq, rr], by simp [results, Tryz.results137, go_sem], _, _, rfl, ⟨oq, or', hq.chg hch2 (fun b hb e => noq b hb e.symm), hrr, hoq, ?_, fun b hb hb2 => ?_⟩, (hch1.mono (fun _ _ h => .inl h)).trans (hch2.mono (fun k _ h => .inl (.inr h)))⟩
  · rcases hor with h | h | ⟨b', h, hb'⟩
    · exact .inl h
    · exact .inr (.inl h)
    · exact .inr (.inr ⟨b', h, by omega⟩)
  · rcases hor with h | h | ⟨b', h, hb'⟩
    · exact noq b hb (h ▸ hb2)
    · rw [h] at hb2; cases hb2
    · rw [h] at hb2
      cases hb2
      have := hq.stor
      rw [hb] at this
      have := this.lt
      omega

/-- Quotient and remainder of natural numbers. -/
theorem natDiv_c (w : World) (z z2 u v : Value) (U V : Nat) (oz o2 ou ov : Option Nat) (hG : Glob w) (hz : Stor w z oz) (h2 : Stor w z2 o2) (hu : IsNat w u U ou) (hv : IsNat w v V ov)
    (hdist : ∀ b, oz = some b → o2 ≠ some b) (hV0 : V ≠ 0) (hV40 : (digs V).length < 40) (hU : (digs U).length ≤ 250) :
    Calls Tryz.prog 137 #[z, .pointer none, z2, u, v] w fun e w' => ∃ rq rr, e = .returned (.tuple #[rq, rr]) ∧ DivRes w w' oz o2 rq rr (U / V) (U % V) ∧ Chg w w' (fun k => some k = oz ∨ some k = o2) := by
  by_cases h1 : V < WB
  · exact divOne_c w z z2 u v U V oz o2 ou ov hz h2 hu hv hdist hV0 h1 (by omega)
  · have hV2 : 2 ≤ (digs V).length := by
      rcases Nat.lt_or_ge (digs V).length 2 with h | h
      · exact absurd (by have := digs_len_le.1 (show (digs V).length ≤ 1 by omega); simpa using this) h1
      · exact h
    by_cases hlt : U < V
    · exact divLess_c w z z2 u v U V oz o2 ou ov hz h2 hu hv hdist hV2 hlt (by omega)
    · exact divBig_c w z z2 u v U V oz o2 ou ov hG hz h2 hu hv hdist hV2 hV40 (by omega) hU
end Go.Proofs.YtonepclpllelfaaGreatDoor

namespace Go.Proofs.YtonepclpllelfaaGreatDoor
open Go Go.RowKit

theorem Glob.chgS {w w' : World} {v : Value} {o : Option Nat} (h : Glob w) (hs : Stor w v o) (hc : Chg w w' (fun k => some k = o)) : Glob w' :=
  ⟨hc.cell h.g0 (fun e => Stor.neVar (by rw [e]; exact hs) h.g0 rfl), hc.cell h.g1 (fun e => Stor.neVar (by rw [e]; exact hs) h.g1 rfl), hc.cell h.g2 (fun e => Stor.neVar (by rw [e]; exact hs) h.g2 rfl), hc.cell h.g3 (fun e => Stor.neVar (by rw [e]; exact hs) h.g3 rfl), hc.cell h.g6 (fun e => Stor.neVar (by rw [e]; exact hs) h.g6 rfl)⟩
theorem shlw_shlw (Y a : Nat) : shlw (shlw Y a) 1 = shlw Y (a + 1) := by
  unfold shlw
  rw [WB_eq]
  have := @next_word Y a
  rw [Nat.pow_one]; exact this
/-- The bit at the top. -/
theorem bits_top (x : Nat) (hx : x < WB) : bits .and .u64 (x : Int) 9223372036854775808 = ((x / 9223372036854775808 * 9223372036854775808 : Nat) : Int) := by
  have h1 := bits_and_u64_nat x 9223372036854775808 (by rw [WB_eq] at hx; omega) (by omega)
  rw [show (9223372036854775808 : Int) = ((9223372036854775808 : Nat) : Int) from rfl, h1]
  congr 1
  rw [WB_eq] at hx
  rcases (by omega : x / 9223372036854775808 = 0 ∨ x / 9223372036854775808 = 1) with h | h
  · rw [h, Nat.zero_mul]
    apply Nat.eq_of_testBit_eq
    intro i
    rw [Nat.testBit_and, show (9223372036854775808 : Nat) = 2 ^ 63 from rfl, Nat.testBit_two_pow, Nat.zero_testBit]
    by_cases hi : 63 = i
    · subst hi
      rw [Nat.testBit_lt_two_pow (by omega)]; rfl
    · simp [hi]
  · rw [h, Nat.one_mul]
    apply Nat.eq_of_testBit_eq
    intro i
    rw [Nat.testBit_and, show (9223372036854775808 : Nat) = 2 ^ 63 from rfl, Nat.testBit_two_pow]
    by_cases hi : 63 = i
    · subst hi
      rw [Nat.testBit_eq_decide_div_mod_eq, show (2 : Nat) ^ 63 = 9223372036854775808 from rfl, h]; rfl
    · simp [hi]
theorem norm_nat (w : World) (v : Value) (N : Nat) (o : Option Nat) (h : IsNat w v N o) (h0 : N ≠ 0) (hn : (digs N).length ≤ 1000000) : Calls Tryz.prog 94 #[v] w fun e w' => e = .returned v ∧ w = w' := by
  obtain ⟨b, cap, C, rfl, rfl, ha, hc, hcap, ht, hl, hp⟩ := h.pos h0
  have := norm_c w b (digs N).length cap C ha hl (by omega) hn
  rw [ht, val_digs] at this
  exact this

end Go.Proofs.YtonepclpllelfaaGreatDoor
