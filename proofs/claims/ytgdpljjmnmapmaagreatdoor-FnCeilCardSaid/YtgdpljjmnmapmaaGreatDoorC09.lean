/- nat: the wrappers of the rows, add, sub. nat: sub. nat: wrappers of the rows, clear, mulAddWW. nat: basicMul. nat: alias, mul, sqr. nat: mul, sqr. nat: mul in either order, sqr. nat: divW, greaterThan. slices.Grow of words (both instances). The stack of places for words: getStack, save, restore, free, nat. -/
import Derived.Deep.RegionHeld3
import Derived.Defers
import Derived.Lib.AppendZerosOnto
import Derived.Test.YtgdpljjmnmapmaaGreatDoorC05
namespace Go.Proofs.YtgdpljjmnmapmaaGreatDoor
open Go Go.RowKit

theorem int_eq0 {n : Nat} (h : 0 < n) : ((n : Int) == 0) = false := by rw [beq_eq_false_iff_ne]; omega
theorem digs_len_pos {n : Nat} (h : n ≠ 0) : 0 < (digs n).length := Nat.pos_of_ne_zero (mt digs_len_eq_zero.1 h)
/-- A call that only hands its arguments on. -/
theorem addVV_c (w : World) (bz oz n cz bx ox cx by_ oy cy : Nat) (Cz X Y : List Nat) (hn : n < 1000000)
    (hz : Arr w bz Cz) (hzl : oz + n ≤ Cz.length) (hX : X.length = n) (hY : Y.length = n) (WX : Wd X) (WY : Wd Y)
    (hx : Rd w bz oz n Cz bx ox X) (hy : Rd w bz oz n Cz by_ oy Y) :
    Calls Tryz.prog 201 #[.slice (some ⟨bz, oz, none⟩) n cz, .slice (some ⟨bx, ox, none⟩) n cx, .slice (some ⟨by_, oy, none⟩) n cy] w fun e w' =>
      ∃ R c, e = .returned (.int .u64 ((c : Nat) : Int)) ∧ Sub w w' bz (spl Cz oz R) ∧ R.length = n ∧ c ≤ 1 ∧ val R + WB ^ n * c = val X + val Y := by
  have hc := addVV_g_c w bz oz n cz bx ox cx by_ oy cy Cz X Y hn hz hzl hX hY WX WY hx hy
  go_enter Tryz.func201, Tryz.ntmps201
  go_wp2_with fail
  refine hc.mono ?_
  rintro e w' ⟨R, c, rfl, h⟩
  go_wp2
  go_ret
  exact ⟨R, c, rfl, h⟩
theorem subVV_c (w : World) (bz oz n cz bx ox cx by_ oy cy : Nat) (Cz X Y : List Nat) (hn : n < 1000000)
    (hz : Arr w bz Cz) (hzl : oz + n ≤ Cz.length) (hX : X.length = n) (hY : Y.length = n) (WX : Wd X) (WY : Wd Y)
    (hx : Rd w bz oz n Cz bx ox X) (hy : Rd w bz oz n Cz by_ oy Y) :
    Calls Tryz.prog 203 #[.slice (some ⟨bz, oz, none⟩) n cz, .slice (some ⟨bx, ox, none⟩) n cx, .slice (some ⟨by_, oy, none⟩) n cy] w fun e w' =>
      ∃ R c, e = .returned (.int .u64 ((c : Nat) : Int)) ∧ Sub w w' bz (spl Cz oz R) ∧ R.length = n ∧ Wd R ∧ c ≤ 1 ∧ val X + WB ^ n * c = val R + val Y := by
  have hc := subVV_g_c w bz oz n cz bx ox cx by_ oy cy Cz X Y hn hz hzl hX hY WX WY hx hy
  go_enter Tryz.func203, Tryz.ntmps203
  go_wp2_with fail
  refine hc.mono ?_
  rintro e w' ⟨R, c, rfl, h⟩
  go_wp2
  go_ret
  exact ⟨R, c, rfl, h⟩

theorem natRes_spl {w w1 w2 : World} {o : Option Nat} {b cap : Nat} {C L : List Nat} (hb : o = some b ∨ w.heap.size = b) (hc : Chg w w1 (fun _ => False)) (hS : Sub w1 w2 b (spl C 0 L))
    (hC : C.length = cap) (hn : L.length ≤ cap) (hcap : 0 < cap ∧ cap ≤ 1000000) : NatRes w w2 o (.slice (some ⟨b, 0, none⟩) (digs (val L)).length cap) (val L) := by
  have h1 := isNat_of (l := L.length) hS.arr (by rw [spl_length (by omega), hC]) hcap hn
  rw [spl_zero_take (by omega)] at h1
  refine ⟨some b, h1, ?_, (hc.mono (fun _ _ h => h.elim)).trans (hS.chg.mono ?_)⟩
  · rcases hb with h | h
    · exact .inl h.symm
    · exact .inr (.inr ⟨b, rfl, by omega⟩)
  · rintro k _ rfl
    rcases hb with h | h
    · exact .inl h.symm
    · exact .inr (by omega)
/-- The words are brought to a number. -/
theorem norm_spl (w : World) (b l cap : Nat) (C L : List Nat) (hb : Arr w b (spl C 0 L)) (hC : C.length = cap) (hl : L.length = l) (hlc : l ≤ cap) (hn : cap ≤ 1000000) :
    Calls Tryz.prog 126 #[.slice (some ⟨b, 0, none⟩) l cap] w fun e w' => e = .returned (.slice (some ⟨b, 0, none⟩) (digs (val L)).length cap) ∧ w = w' := by
  have h := norm_c w b l cap (spl C 0 L) hb (by rw [spl_length (by omega)]; omega) hlc (by omega)
  rw [← hl] at h ⊢
  rw [spl_zero_take (by omega)] at h
  exact h

theorem spl_zero_drop {C R : List Nat} (_h : R.length ≤ C.length) : (spl C 0 R).drop R.length = C.drop R.length := by
  unfold spl; simp
theorem take_eq_of {C L : List Nat} (h : C.take L.length = L) {n : Nat} (hn : n ≤ L.length) : C.take n = L.take n := by
  rw [← h, List.take_take, Nat.min_eq_left hn]
theorem dt_eq_of {C L : List Nat} {m n : Nat} (h : C.take L.length = L) (hm : L.length = m) : (C.drop n).take (m - n) = L.drop n := by
  conv => rhs; rw [← h, hm]
  rw [List.drop_take]

set_option maxRecDepth 100000 in
set_option maxHeartbeats 2000000 in
theorem natadd_ge (w : World) (z x y : Value) (X Y : Nat) (o ox oy : Option Nat) (hz : Stor w z o) (hx : IsNat w x X ox) (hy : IsNat w y Y oy) (hn : (digs X).length ≤ 900) (hge : (digs Y).length ≤ (digs X).length) :
    Calls Tryz.prog 172 #[z, x, y] w fun e w' => ∃ r, e = .returned r ∧ NatRes w w' o r (X + Y) := by
  by_cases h0 : X = 0
  · subst h0
    have hY : Y = 0 := by rw [digs_zero] at hge; exact digs_len_eq_zero.1 (by simpa using hge)
    subst hY
    obtain ⟨px, cx, rfl, _, _⟩ := hx.shape
    obtain ⟨py, cy, rfl, _, _⟩ := hy.shape
    obtain ⟨p, l, c, rfl, hl, hc, hr⟩ := NatRes.zero hz
    rw [digs_zero] at *
    replace hr := Lib.hid hr
    clear hz hx hy
    go_enter Tryz.func172, Tryz.ntmps172
    go_wp2
    go_ret
    exact ⟨_, rfl, hr.out⟩
  by_cases h1 : Y = 0
  · subst h1
    have hs := set_c w z x X o ox hz hx (by omega)
    have hle : (digs X).length ≤ 900 := hn
    clear hge
    obtain ⟨px, cx, rfl, _, _⟩ := hx.shape
    obtain ⟨py, cy, rfl, _, _⟩ := hy.shape
    have hpos := int_eq0 (digs_len_pos h0)
    rw [digs_zero]
    clear hz hx hy
    go_enter Tryz.func172, Tryz.ntmps172
    go_wp2_with fail
    refine hs.mono ?_
    rintro e w1 ⟨r, rfl, hr⟩
    go_wp2
    go_ret
    exact ⟨_, rfl, by simpa using hr⟩
  obtain ⟨bx, cx, Cx, rfl, rfl, hax, hcx, hcapx, htx, hlx, hpx⟩ := hx.pos h0
  obtain ⟨by_, cy, Cy, rfl, rfl, hay, hcy, hcapy, hty, hly, hpy⟩ := hy.pos h1
  have hmk := make_c w z o hz ((digs X).length + 1) (by omega) (by omega)
  have hvX : val (digs X) = X := val_digs X
  have hvY : val (digs Y) = Y := val_digs Y
  have hwX := Wd_digs X
  have hwY := Wd_digs Y
  generalize hXL : digs X = XL at *
  generalize hYL : digs Y = YL at *
  generalize hm : XL.length = m at *
  generalize hn' : YL.length = n at *
  have hmk' : Calls Tryz.prog 154 #[z, .int .i64 ((m : Int) + 1)] w fun e w' => ∃ r, e = .returned r ∧ MakeRes w w' o r (m + 1) := by exact_mod_cast hmk
  have e1 : ((m : Int) == 0) = false := by simp; omega
  have e2 : ((n : Int) == 0) = false := by simp; omega
  have e3 : ¬ m < n := by omega
  have k1 : n ≤ cx := by omega
  have k2 : n ≤ cy := by omega
  have k3 : m ≤ cx := by omega
  replace hvX := Lib.hid hvX
  replace hvY := Lib.hid hvY
  replace hm := Lib.hid hm
  replace hn' := Lib.hid hn'
  replace htx := Lib.hid htx
  replace hty := Lib.hid hty
  replace hXL := Lib.hid hXL
  replace hYL := Lib.hid hYL
  clear hmk h0 h1 hx hy
  obtain ⟨pz, lz, cz, rfl⟩ : ∃ p l c, z = .slice p l c := by
    rcases hz with ⟨rfl, _⟩ | ⟨b, l, cap, C, _, rfl, _⟩
    · exact ⟨_, _, _, rfl⟩
    · exact ⟨_, _, _, rfl⟩
  go_enter Tryz.func172, Tryz.ntmps172
  go_wp2_with fail
  refine hmk'.mono ?_
  rintro e w1 ⟨r, rfl, b, cap, C, rfl, ha, hC, hnc, hcap, hb, hchg⟩
  have hax1 := hchg.arr hax (fun h => h)
  have hay1 := hchg.arr hay (fun h => h)
  have k4 : n ≤ cap := by omega
  have hhx : val ((Cx.drop 0).take n) + WB ^ n * val ((Cx.drop n).take (m - n)) = X := by
    have h1 := hvX.out
    rw [List.drop_zero, take_eq_of (L := XL) (by rw [hm.out]; exact htx.out) (by rw [hm.out]; omega), dt_eq_of (L := XL) (by rw [hm.out]; exact htx.out) hm.out, ← val_take_drop XL n (by rw [hm.out]; omega)]
    exact h1
  have hhy : val ((Cy.drop 0).take n) = Y := by
    have h1 := hvY.out
    rw [List.drop_zero, hty.out]; exact h1
  replace hhx := Lib.hid hhx
  replace hhy := Lib.hid hhy
  clear hvX hvY htx hty
  go_wp2
  go_still_tail 9, (by kernel_rfl)
  change wpList _ _ _ _ _ w1.drew
  have hd : Chg w1 w1.drew (fun _ => False) := (Chg.refl w1 _).drew
  generalize w1.drew = w2 at hd ⊢
  have ha2 := hd.arr ha (fun h => h)
  have hax2 := hd.arr hax1 (fun h => h)
  have hay2 := hd.arr hay1 (fun h => h)
  have hchg2 : Chg w w2 (fun _ => False) := hchg.trans (hd.mono (fun _ _ h => h.elim))
  have hb2 : (o = some b) ∨ w.heap.size = b := hb.imp (·.1) id
  clear hd ha hax1 hay1 hchg hb
  have hadd := addVV_c w2 b 0 n cap bx 0 cx by_ 0 cy C ((Cx.drop 0).take n) ((Cy.drop 0).take n) (by omega) ha2 (by omega) (by simp; omega) (by simp; omega)
    ((hax.wd.drop _).take _) ((hay.wd.drop _).take _) (Rd.mk ha2 (by omega) hax2 (by omega) (.inr (Nat.le_refl _))) (Rd.mk ha2 (by omega) hay2 (by omega) (.inr (Nat.le_refl _)))
  go_wp2_with fail
  refine hadd.mono ?_
  rintro e w3 ⟨R, c, rfl, hS, hR, hc, hv⟩
  have hcw : c < WB := Nat.lt_of_le_of_lt hc (by rw [WB_eq]; decide)
  by_cases hmn : n < m
  · obtain ⟨d, hd⟩ : ∃ d, d + 1 = m - n := ⟨m - n - 1, by omega⟩
    have hS3 : Sub w2 w3.drew b (spl C 0 R) := hS.drew
    have hx3 : ∃ Cx', Arr w3.drew bx Cx' ∧ Cx'.drop n = Cx.drop n ∧ Cx'.length = Cx.length := by
      by_cases e : bx = b
      · subst e
        obtain rfl := ha2.inj hax2
        refine ⟨_, hS3.arr, ?_, spl_length (by omega)⟩
        have := spl_zero_drop (C := C) (R := R) (by omega)
        rwa [hR] at this
      · exact ⟨Cx, hS3.other e hax2, rfl, rfl⟩
    obtain ⟨Cx', hax3, hdx, hlx'⟩ := hx3
    have hadd2 := addVW_c w3.drew b n d (cap - n) bx n (cx - n) c (spl C 0 R) Cx' (by omega) hc hS3.arr (by rw [spl_length (by omega)]; omega) hax3 (by omega) (by
      by_cases e : bx = b
      · exact .inr ⟨e, rfl⟩
      · exact .inl e) (by omega) (by omega)
    rw [hdx, hd] at hadd2
    have t1 : ¬ cap = n := by omega
    have t2 : ¬ cx = n := by omega
    have t4 : m ≤ cap := by omega
    go_wp2
    go_still_tail 8, (by kernel_rfl)
    change wpList _ _ _ _ _ w3.drew
    go_wp2_with fail
    refine hadd2.mono ?_
    rintro e w4 ⟨R2, c2, rfl, hS2, hR2, hc2, hv2⟩
    have hcw2 : c2 < WB := Nat.lt_of_le_of_lt hc2 (by rw [WB_eq]; decide)
    have hS4 := hS3.trans hS2
    have hsp := spl_spl_next (C := C) (o := 0) (R := R) (S := R2) (by omega)
    rw [Nat.zero_add, hR] at hsp
    rw [hsp] at hS4
    have hl4 : (R ++ R2).length = m := by rw [List.length_append]; omega
    have hz1 := hS4.arr.cellN (i := m) (by rw [spl_length (by omega)]; omega)
    have hz2 := hS4.arr.frozen m
    have hS5 := hS4.next (k := m) hl4 (by omega) c2 hcw2
    rw [Nat.zero_add] at hS5
    have hv5 : val (R ++ R2 ++ [c2]) = X + Y := by
      rw [val_snoc, hl4, val_append, hR]
      have h1 := hhx.out
      have h2 := hhy.out
      have h3 : WB ^ m = WB ^ n * WB ^ (m - n) := by rw [← Nat.pow_add]; congr 1; omega
      rw [h3, Nat.mul_assoc]
      have h4 : WB ^ n * (val R2 + WB ^ (m - n) * c2) = WB ^ n * (val (List.take (m - n) (List.drop n Cx)) + c) := by rw [hv2]
      rw [Nat.mul_add, Nat.mul_add] at h4
      omega
    have hl5 : (R ++ R2 ++ [c2]).length = m + 1 := by rw [List.length_append, hl4]; rfl
    generalize R ++ R2 ++ [c2] = L at *
    have hnm := fun w' (ha : Arr w' b (spl C 0 L)) => norm_spl w' b (m + 1) cap C L ha hC hl5 hnc hcap.2
    clear hS4 hS2 hS3 hS hadd2 hax3 hadd
    go_wp2_with fail
    refine (hnm _ hS5.arr).mono ?_
    rintro e w6 ⟨rfl, hw⟩
    obtain rfl := hw
    go_wp2
    go_ret
    have := natRes_spl hb2 hchg2 hS5 hC (by omega) hcap
    rw [hv5] at this
    exact ⟨_, rfl, this⟩
  · obtain rfl : n = m := by omega
    have hz1 := hS.arr.cellN (i := n) (by rw [spl_length (by omega)]; omega)
    have hz2 := hS.arr.frozen n
    have hS5 := hS.next (k := n) hR (by omega) c hcw
    rw [Nat.zero_add] at hS5
    have hv5 : val (R ++ [c]) = X + Y := by
      rw [val_snoc, hR]
      have h1 := hhx.out
      have h2 := hhy.out
      rw [Nat.sub_self, List.take_zero, val_nil] at h1
      omega
    have hl5 : (R ++ [c]).length = n + 1 := by rw [List.length_append, hR]; rfl
    generalize R ++ [c] = L at *
    have hnm := fun w' (ha : Arr w' b (spl C 0 L)) => norm_spl w' b (n + 1) cap C L ha hC hl5 hnc hcap.2
    clear hS hadd
    go_wp2_with fail
    refine (hnm _ hS5.arr).mono ?_
    rintro e w6 ⟨rfl, hw⟩
    obtain rfl := hw
    go_wp2
    go_ret
    have := natRes_spl hb2 hchg2 hS5 hC (by omega) hcap
    rw [hv5] at this
    exact ⟨_, rfl, this⟩

set_option maxHeartbeats 400000 in
theorem natadd_c (w : World) (z x y : Value) (X Y : Nat) (o ox oy : Option Nat) (hz : Stor w z o) (hx : IsNat w x X ox) (hy : IsNat w y Y oy) (hn : (digs X).length ≤ 900) (hn2 : (digs Y).length ≤ 900) :
    Calls Tryz.prog 172 #[z, x, y] w fun e w' => ∃ r, e = .returned r ∧ NatRes w w' o r (X + Y) := by
  by_cases hge : (digs Y).length ≤ (digs X).length
  · exact natadd_ge w z x y X Y o ox oy hz hx hy hn hge
  · have hc := natadd_ge w z y x Y X o oy ox hz hy hx hn2 (by omega)
    have hlt : (digs X).length < (digs Y).length := by omega
    obtain ⟨px, cx, rfl, _, _⟩ := hx.shape
    obtain ⟨py, cy, rfl, _, _⟩ := hy.shape
    clear hz hx hy
    go_enter Tryz.func172, Tryz.ntmps172
    go_wp2_with fail
    refine hc.mono ?_
    rintro e w1 ⟨r, rfl, hr⟩
    go_wp2
    go_ret
    rw [Nat.add_comm] at hr
    exact ⟨_, rfl, hr⟩
end Go.Proofs.YtgdpljjmnmapmaaGreatDoor

namespace Go.Proofs.YtgdpljjmnmapmaaGreatDoor
open Go Go.RowKit

set_option maxRecDepth 100000 in
set_option maxHeartbeats 2000000 in
theorem natsub_c (w : World) (z x y : Value) (X Y : Nat) (o ox oy : Option Nat) (hz : Stor w z o) (hx : IsNat w x X ox) (hy : IsNat w y Y oy) (hn : (digs X).length ≤ 900) (hle : Y ≤ X) :
    Calls Tryz.prog 173 #[z, x, y] w fun e w' => ∃ r, e = .returned r ∧ NatRes w w' o r (X - Y) := by
  have hge : (digs Y).length ≤ (digs X).length := digs_len_mono hle
  by_cases h0 : X = 0
  · subst h0
    have hY : Y = 0 := by rw [digs_zero] at hge; exact digs_len_eq_zero.1 (by simpa using hge)
    subst hY
    obtain ⟨px, cx, rfl, _, _⟩ := hx.shape
    obtain ⟨py, cy, rfl, _, _⟩ := hy.shape
    obtain ⟨p, l, c, rfl, hl, hc, hr⟩ := NatRes.zero hz
    rw [digs_zero] at *
    replace hr := Lib.hid hr
    clear hz hx hy
    go_enter Tryz.func173, Tryz.ntmps173
    go_wp2
    go_ret
    exact ⟨_, rfl, hr.out⟩
  by_cases h1 : Y = 0
  · subst h1
    have hs := set_c w z x X o ox hz hx (by omega)
    have hle : (digs X).length ≤ 900 := hn
    clear hge
    obtain ⟨px, cx, rfl, _, _⟩ := hx.shape
    obtain ⟨py, cy, rfl, _, _⟩ := hy.shape
    have hpos := int_eq0 (digs_len_pos h0)
    rw [digs_zero]
    clear hz hx hy
    go_enter Tryz.func173, Tryz.ntmps173
    go_wp2_with fail
    refine hs.mono ?_
    rintro e w1 ⟨r, rfl, hr⟩
    go_wp2
    go_ret
    exact ⟨_, rfl, by simpa using hr⟩
  obtain ⟨bx, cx, Cx, rfl, rfl, hax, hcx, hcapx, htx, hlx, hpx⟩ := hx.pos h0
  obtain ⟨by_, cy, Cy, rfl, rfl, hay, hcy, hcapy, hty, hly, hpy⟩ := hy.pos h1
  have hmk := make_c w z o hz (digs X).length (by omega) (by omega)
  have hvX : val (digs X) = X := val_digs X
  have hvY : val (digs Y) = Y := val_digs Y
  have hwX := Wd_digs X
  have hwY := Wd_digs Y
  generalize hXL : digs X = XL at *
  generalize hYL : digs Y = YL at *
  generalize hm : XL.length = m at *
  generalize hn' : YL.length = n at *
  have hmk' : Calls Tryz.prog 154 #[z, .int .i64 (m : Int)] w fun e w' => ∃ r, e = .returned r ∧ MakeRes w w' o r m := hmk
  have e1 : ((m : Int) == 0) = false := by simp; omega
  have e2 : ((n : Int) == 0) = false := by simp; omega
  have e3 : ¬ m < n := by omega
  have k1 : n ≤ cx := by omega
  have k2 : n ≤ cy := by omega
  have k3 : m ≤ cx := by omega
  replace hvX := Lib.hid hvX
  replace hvY := Lib.hid hvY
  replace hm := Lib.hid hm
  replace hn' := Lib.hid hn'
  replace htx := Lib.hid htx
  replace hty := Lib.hid hty
  replace hXL := Lib.hid hXL
  replace hYL := Lib.hid hYL
  clear hmk h0 h1 hx hy
  obtain ⟨pz, lz, cz, rfl⟩ : ∃ p l c, z = .slice p l c := by
    rcases hz with ⟨rfl, _⟩ | ⟨b, l, cap, C, _, rfl, _⟩
    · exact ⟨_, _, _, rfl⟩
    · exact ⟨_, _, _, rfl⟩
  go_enter Tryz.func173, Tryz.ntmps173
  go_wp2_with fail
  refine hmk'.mono ?_
  rintro e w1 ⟨r, rfl, b, cap, C, rfl, ha, hC, hnc, hcap, hb, hchg⟩
  have hax1 := hchg.arr hax (fun h => h)
  have hay1 := hchg.arr hay (fun h => h)
  have k4 : n ≤ cap := by omega
  have hhx : val ((Cx.drop 0).take n) + WB ^ n * val ((Cx.drop n).take (m - n)) = X := by
    have h1 := hvX.out
    rw [List.drop_zero, take_eq_of (L := XL) (by rw [hm.out]; exact htx.out) (by rw [hm.out]; omega), dt_eq_of (L := XL) (by rw [hm.out]; exact htx.out) hm.out, ← val_take_drop XL n (by rw [hm.out]; omega)]
    exact h1
  have hhy : val ((Cy.drop 0).take n) = Y := by
    have h1 := hvY.out
    rw [List.drop_zero, hty.out]; exact h1
  replace hhx := Lib.hid hhx
  replace hhy := Lib.hid hhy
  clear hvX hvY htx hty
  go_wp2
  go_still_tail 9, (by kernel_rfl)
  change wpList _ _ _ _ _ w1.drew
  have hd : Chg w1 w1.drew (fun _ => False) := (Chg.refl w1 _).drew
  generalize w1.drew = w2 at hd ⊢
  have ha2 := hd.arr ha (fun h => h)
  have hax2 := hd.arr hax1 (fun h => h)
  have hay2 := hd.arr hay1 (fun h => h)
  have hchg2 : Chg w w2 (fun _ => False) := hchg.trans (hd.mono (fun _ _ h => h.elim))
  have hb2 : (o = some b) ∨ w.heap.size = b := hb.imp (·.1) id
  clear hd ha hax1 hay1 hchg hb
  have hadd := subVV_c w2 b 0 n cap bx 0 cx by_ 0 cy C ((Cx.drop 0).take n) ((Cy.drop 0).take n) (by omega) ha2 (by omega) (by simp; omega) (by simp; omega)
    ((hax.wd.drop _).take _) ((hay.wd.drop _).take _) (Rd.mk ha2 (by omega) hax2 (by omega) (.inr (Nat.le_refl _))) (Rd.mk ha2 (by omega) hay2 (by omega) (.inr (Nat.le_refl _)))
  go_wp2_with fail
  refine hadd.mono ?_
  rintro e w3 ⟨R, c, rfl, hS, hR, hWR, hc, hv⟩
  have hcw : c < WB := Nat.lt_of_le_of_lt hc (by rw [WB_eq]; decide)
  by_cases hmn : n < m
  · obtain ⟨d, hd⟩ : ∃ d, d + 1 = m - n := ⟨m - n - 1, by omega⟩
    have hS3 : Sub w2 w3.drew b (spl C 0 R) := hS.drew
    have hx3 : ∃ Cx', Arr w3.drew bx Cx' ∧ Cx'.drop n = Cx.drop n ∧ Cx'.length = Cx.length := by
      by_cases e : bx = b
      · subst e
        obtain rfl := ha2.inj hax2
        refine ⟨_, hS3.arr, ?_, spl_length (by omega)⟩
        have := spl_zero_drop (C := C) (R := R) (by omega)
        rwa [hR] at this
      · exact ⟨Cx, hS3.other e hax2, rfl, rfl⟩
    obtain ⟨Cx', hax3, hdx, hlx'⟩ := hx3
    have hadd2 := subVW_c w3.drew b n d (cap - n) bx n (cx - n) c (spl C 0 R) Cx' (by omega) hc hS3.arr (by rw [spl_length (by omega)]; omega) hax3 (by omega) (by
      by_cases e : bx = b
      · exact .inr ⟨e, rfl⟩
      · exact .inl e) (by omega) (by omega)
    rw [hdx, hd] at hadd2
    have t1 : ¬ cap = n := by omega
    have t2 : ¬ cx = n := by omega
    have t4 : m ≤ cap := by omega
    go_wp2
    go_still_tail 7, (by kernel_rfl)
    change wpList _ _ _ _ _ w3.drew
    go_wp2_with fail
    refine hadd2.mono ?_
    rintro e w4 ⟨R2, c2, rfl, hS2, hR2, hc2, hv2⟩
    have hS4 := hS3.trans hS2
    have hsp := spl_spl_next (C := C) (o := 0) (R := R) (S := R2) (by omega)
    rw [Nat.zero_add, hR] at hsp
    rw [hsp] at hS4
    have hl4 : (R ++ R2).length = m := by rw [List.length_append]; omega
    have hwd4 : Wd (R ++ R2) := by
      have := hS4.arr.wd
      unfold spl at this
      simpa using this.left
    have hlt4 := val_lt hwd4
    rw [hl4] at hlt4
    have hv4 : val (R ++ R2) = X - Y ∧ c2 = 0 := by
      have h1 := hhx.out
      have h2 := hhy.out
      have h3 : WB ^ m = WB ^ n * WB ^ (m - n) := by rw [← Nat.pow_add]; congr 1; omega
      have h4 : WB ^ n * (val (List.take (m - n) (List.drop n Cx)) + WB ^ (m - n) * c2) = WB ^ n * (val R2 + c) := by rw [hv2]
      rw [Nat.mul_add, Nat.mul_add, ← Nat.mul_assoc, ← h3] at h4
      have h5 : val (R ++ R2) = val R + WB ^ n * val R2 := by rw [val_append, hR]
      have h6 : c2 = 0 := by
        rcases Nat.lt_or_ge 0 c2 with h | h
        · obtain rfl : c2 = 1 := by omega
          rw [Nat.mul_one] at h4
          omega
        · omega
      subst h6
      rw [Nat.mul_zero] at h4
      exact ⟨by omega, rfl⟩
    obtain ⟨hv5, rfl⟩ := hv4
    generalize R ++ R2 = L at *
    have hnm := fun w' (ha : Arr w' b (spl C 0 L)) => norm_spl w' b m cap C L ha hC hl4 hnc hcap.2
    clear hS2 hS3 hS hadd2 hax3 hadd hwd4 hlt4
    go_wp2_with fail
    refine (hnm _ hS4.arr).mono ?_
    rintro e w6 ⟨rfl, hw⟩
    obtain rfl := hw
    go_wp2
    go_ret
    have := natRes_spl hb2 hchg2 hS4 hC (by omega) hcap
    rw [hv5] at this
    exact ⟨_, rfl, this⟩
  · obtain rfl : n = m := by omega
    have hlt4 := val_lt hWR
    rw [hR] at hlt4
    have hv4 : val R = X - Y ∧ c = 0 := by
      have h1 := hhx.out
      have h2 := hhy.out
      rw [Nat.sub_self, List.take_zero, val_nil] at h1
      have h6 : c = 0 := by
        rcases Nat.lt_or_ge 0 c with h | h
        · obtain rfl : c = 1 := by omega
          omega
        · omega
      subst h6
      exact ⟨by omega, rfl⟩
    obtain ⟨hv5, rfl⟩ := hv4
    have hnm := fun w' (ha : Arr w' b (spl C 0 R)) => norm_spl w' b n cap C R ha hC hR hnc hcap.2
    clear hadd hlt4
    go_wp2_with fail
    refine (hnm _ hS.arr).mono ?_
    rintro e w6 ⟨rfl, hw⟩
    obtain rfl := hw
    go_wp2
    go_ret
    have := natRes_spl hb2 hchg2 hS hC (by omega) hcap
    rw [hv5] at this
    exact ⟨_, rfl, this⟩
end Go.Proofs.YtgdpljjmnmapmaaGreatDoor

namespace Go.Proofs.YtgdpljjmnmapmaaGreatDoor
open Go Go.RowKit

theorem mulAddVWW_c (w : World) (bz oz n cz bx ox cx y r : Nat) (Cz X : List Nat) (hn : n < 1000000)
    (hz : Arr w bz Cz) (hzl : oz + n ≤ Cz.length) (hX : X.length = n) (WX : Wd X) (hwy : y < WB) (hwr : r < WB)
    (hx : Rd w bz oz n Cz bx ox X) :
    Calls Tryz.prog 217 #[.slice (some ⟨bz, oz, none⟩) n cz, .slice (some ⟨bx, ox, none⟩) n cx, .int .u64 y, .int .u64 r] w fun e w' =>
      ∃ R c, e = .returned (.int .u64 ((c : Nat) : Int)) ∧ Sub w w' bz (spl Cz oz R) ∧ R.length = n ∧ c < WB ∧ val R + WB ^ n * c = val X * y + r := by
  have hc := mulAddVWW_g_c w bz oz n cz bx ox cx y r Cz X hn hz hzl hX WX hwy hwr hx
  go_enter Tryz.func217, Tryz.ntmps217
  go_wp2_with fail
  refine hc.mono ?_
  rintro e w' ⟨R, c, rfl, h⟩
  go_wp2
  go_ret
  exact ⟨R, c, rfl, h⟩
theorem addMulVVWW_c (w : World) (bz oz n cz bx ox cx by_ oy cy m a : Nat) (Cz X Y : List Nat) (hn : n < 1000000)
    (hz : Arr w bz Cz) (hzl : oz + n ≤ Cz.length) (hX : X.length = n) (hY : Y.length = n) (WX : Wd X) (WY : Wd Y) (hwm : m < WB) (hwa : a < WB)
    (hx : Rd w bz oz n Cz bx ox X) (hy : Rd w bz oz n Cz by_ oy Y) :
    Calls Tryz.prog 227 #[.slice (some ⟨bz, oz, none⟩) n cz, .slice (some ⟨bx, ox, none⟩) n cx, .slice (some ⟨by_, oy, none⟩) n cy, .int .u64 m, .int .u64 a] w fun e w' =>
      ∃ R c, e = .returned (.int .u64 ((c : Nat) : Int)) ∧ Sub w w' bz (spl Cz oz R) ∧ R.length = n ∧ c < WB ∧ val R + WB ^ n * c = val X + val Y * m + a := by
  have hc := addMulVVWW_g_c w bz oz n cz bx ox cx by_ oy cy m a Cz X Y hn hz hzl hX hY WX WY hwm hwa hx hy
  go_enter Tryz.func227, Tryz.ntmps227
  go_wp2_with fail
  refine hc.mono ?_
  rintro e w' ⟨R, c, rfl, h⟩
  go_wp2
  go_ret
  exact ⟨R, c, rfl, h⟩
theorem lshVU_c (w : World) (bz oz m cz bx ox cx s : Nat) (Cz Cx : List Nat) (hn : m < 1000000) (hs0 : 0 < s) (hs : s < 64)
    (hz : Arr w bz Cz) (hzl : oz + (m + 1) ≤ Cz.length) (hx : Arr w bx Cx) (hxl : ox + (m + 1) ≤ Cx.length) (hsep : bx ≠ bz ∨ ox ≤ oz) :
    Calls Tryz.prog 183 #[.slice (some ⟨bz, oz, none⟩) (m + 1) cz, .slice (some ⟨bx, ox, none⟩) (m + 1) cx, .int .u64 s] w fun e w' =>
      ∃ R c, e = .returned (.int .u64 ((c : Nat) : Int)) ∧ Sub w w' bz (spl Cz oz R) ∧ R.length = m + 1 ∧ c < WB ∧ val R + WB ^ (m + 1) * c = val ((Cx.drop ox).take (m + 1)) * 2 ^ s := by
  have hc := lshVU_g_c w bz oz m cz bx ox cx s Cz Cx hn hs0 hs hz hzl hx hxl hsep
  go_enter Tryz.func183, Tryz.ntmps183
  go_wp2_with fail
  refine hc.mono ?_
  rintro e w' ⟨R, c, rfl, h⟩
  go_wp2
  go_ret
  exact ⟨R, c, rfl, h⟩
theorem rshVU_c (w : World) (bz oz m cz bx ox cx s : Nat) (Cz Cx : List Nat) (hn : m < 1000000) (hs0 : 0 < s) (hs : s < 64)
    (hz : Arr w bz Cz) (hzl : oz + (m + 1) ≤ Cz.length) (hx : Arr w bx Cx) (hxl : ox + (m + 1) ≤ Cx.length) (hsep : bx ≠ bz ∨ oz ≤ ox) :
    Calls Tryz.prog 187 #[.slice (some ⟨bz, oz, none⟩) (m + 1) cz, .slice (some ⟨bx, ox, none⟩) (m + 1) cx, .int .u64 s] w fun e w' =>
      ∃ R c, e = .returned (.int .u64 ((c : Nat) : Int)) ∧ Sub w w' bz (spl Cz oz R) ∧ R.length = m + 1 ∧ val R = val ((Cx.drop ox).take (m + 1)) / 2 ^ s := by
  have hc := rshVU_g_c w bz oz m cz bx ox cx s Cz Cx hn hs0 hs hz hzl hx hxl hsep
  go_enter Tryz.func187, Tryz.ntmps187
  go_wp2_with fail
  refine hc.mono ?_
  rintro e w' ⟨R, c, rfl, h⟩
  go_wp2
  go_ret
  exact ⟨R, c, rfl, h⟩

/-- clear of a row of words. -/
theorem run_clearW (w : World) (T ty : TypeId) (hu : Tryz.prog.underlying T = some (.slice 133)) (bz oz n cz : Nat) (Cz : List Nat) (hz : Arr w bz Cz) (hn : 0 < n) (hfit : oz + n ≤ Cz.length) :
    ∃ w', (Builtin.clear_ #[T] ty #[.slice (some ⟨bz, oz, none⟩) n cz]).run Tryz.prog w = .ok (.tuple #[]) w' ∧ Sub w w' bz (spl Cz oz (List.replicate n 0)) := by
  have h := makeZ
  cases hi : Tryz.prog.info? 133 with
  | none => rw [hi] at h; cases h
  | some i =>
    rw [hi] at h
    simp only [Option.map_some, Option.some.injEq, Prod.mk.injEq] at h
    obtain ⟨h1, h2, h3⟩ := h
    have ez : Builtin.zeroCells (Value.int .u64 0).cells n = ((List.replicate n 0).map uw).toArray := by
      unfold Builtin.zeroCells
      apply Array.ext
      · simp [Value.cells]
      · intro j h1 h2
        simp [Value.cells, uw, Nat.mod_one]
    have hst := run_storeCells_at Tryz.prog bz oz 133 ((List.replicate n 0).map uw) 0 (Cz.map uw).toArray w hz.heap (by simpa using hfit) (by
      intro v hv
      obtain ⟨x, _, rfl⟩ := List.mem_map.1 hv
      rfl)
    have e : (((Cz.map uw).toArray.toList.take (oz + 0)) ++ (List.replicate n 0).map uw ++ (Cz.map uw).toArray.toList.drop (oz + 0 + ((List.replicate n 0).map uw).length)).toArray = ((spl Cz oz (List.replicate n 0)).map uw).toArray := by
      unfold spl; simp
    rw [e] at hst
    refine ⟨w.setRow bz ((spl Cz oz (List.replicate n 0)).map uw).toArray, ?_, ⟨⟨?_, Wd_spl hz.wd (Wd.zeros n)⟩, fun k hk => setRow_other w bz k _ hk, by simp [World.setRow], rfl, rfl, rfl⟩⟩
    · obtain ⟨n, rfl⟩ : ∃ k, n = k + 1 := ⟨n - 1, by omega⟩
      have hz0 : (zeroValue 133).run Tryz.prog w = .ok (.int .u64 0) w := by simp [zeroValue, typeInfo, hi, h1]
      unfold Builtin.clear_
      simp [run_underlying hu, hz0]
      rw [ez, show ((List.map uw (List.replicate (n + 1) 0)).toArray).toList = List.map uw (List.replicate (n + 1) 0) from rfl, hst]
      rfl
    · exact setRow_heap w bz (Cz.map uw).toArray _ 133 (0, 0) hz.heap
theorem wpList_clearW {ops : Array Oper} {rest : List Oper} {o : Oper} {a : Act} {w : World} {Q : Exit → Act → World → Prop} (hgd : o.guard = none) (d : Operand) (T : TypeId)
    (ho : o.op = .call { callee := .builtin .clear, args := #[d], argTypes := #[T] }) (hu : Tryz.prog.underlying T = some (.slice 133))
    (bz oz n cz : Nat) (hd : a.eval d = .slice (some ⟨bz, oz, none⟩) n cz) (Cz : List Nat) (hz : Arr w bz Cz) (hfit : oz + n ≤ Cz.length)
    (h : ∀ w', Sub w w' bz (spl Cz oz (List.replicate n 0)) → wpList Tryz.prog ops Q rest (a.put o.dst (.tuple #[])) w') : wpList Tryz.prog ops Q (o :: rest) a w := by
  refine wpList_plain hgd fun K hK => ?_
  have hrun : ∃ w', (Builtin.clear_ #[T] o.type #[.slice (some ⟨bz, oz, none⟩) n cz]).run Tryz.prog w = .ok (.tuple #[]) w' ∧ Sub w w' bz (spl Cz oz (List.replicate n 0)) := by
    rcases Nat.eq_zero_or_pos n with h0 | h0
    · subst h0
      refine ⟨w, ?_, ?_⟩
      · unfold Builtin.clear_
        simp [run_underlying hu]
      · rw [List.replicate_zero, spl_nil]; exact Sub.refl hz
    · exact run_clearW w T o.type hu bz oz n cz Cz hz h0 hfit
  obtain ⟨w', hrun, hS⟩ := hrun
  unfold Oper.wp
  simp [execOp, ho, resolve, invoke, builtin, hd, hrun, Result.andThen]
  exact hK _ _ (h w' hS)

set_option maxHeartbeats 1000000 in
theorem mulAddWW_c (w : World) (z x : Value) (X y r : Nat) (o ox : Option Nat) (hz : Stor w z o) (hx : IsNat w x X ox) (hn : (digs X).length ≤ 900) (hwy : y < WB) (hwr : r < WB) :
    Calls Tryz.prog 196 #[z, x, .int .u64 y, .int .u64 r] w fun e w' => ∃ v, e = .returned v ∧ NatRes w w' o v (X * y + r) := by
  obtain ⟨pz, lz, cz, rfl⟩ : ∃ p l c, z = .slice p l c := by
    rcases hz with ⟨rfl, _⟩ | ⟨b, l, cap, C, _, rfl, _⟩
    · exact ⟨_, _, _, rfl⟩
    · exact ⟨_, _, _, rfl⟩
  have hs := setWord_c w _ r o hz hwr
  by_cases h0 : X = 0
  · subst h0
    obtain ⟨px, cx, rfl, _, _⟩ := hx.shape
    rw [digs_zero]
    clear hx hz
    go_enter Tryz.func196, Tryz.ntmps196
    go_wp2_with fail
    refine hs.mono ?_
    rintro e w1 ⟨v, rfl, hr⟩
    go_wp2
    go_ret
    rw [Nat.zero_mul, Nat.zero_add]
    exact ⟨_, rfl, hr⟩
  by_cases h1 : y = 0
  · subst h1
    obtain ⟨px, cx, rfl, _, _⟩ := hx.shape
    have e1 := int_eq0 (digs_len_pos h0)
    clear hx hz
    go_enter Tryz.func196, Tryz.ntmps196
    go_wp2_with fail
    refine hs.mono ?_
    rintro e w1 ⟨v, rfl, hr⟩
    go_wp2
    go_ret
    rw [Nat.mul_zero, Nat.zero_add]
    exact ⟨_, rfl, hr⟩
  clear hs
  obtain ⟨bx, cx, Cx, rfl, rfl, hax, hcx, hcapx, htx, hlx, hpx⟩ := hx.pos h0
  have hmk := make_c w _ o hz ((digs X).length + 1) (by omega) (by omega)
  have hvX : val (digs X) = X := val_digs X
  have hwX := Wd_digs X
  generalize hXL : digs X = XL at *
  generalize hm : XL.length = m at *
  have hmk' : Calls Tryz.prog 154 #[.slice pz lz cz, .int .i64 ((m : Int) + 1)] w fun e w' => ∃ r, e = .returned r ∧ MakeRes w w' o r (m + 1) := by exact_mod_cast hmk
  have e1 : ((m : Int) == 0) = false := int_eq0 hpx
  have e2 : ((y : Int) == 0) = false := int_eq0 (by omega)
  have htx' : (Cx.drop 0).take m = XL := htx
  replace hvX := Lib.hid hvX
  replace hXL := Lib.hid hXL
  clear hmk h0 h1 hx htx
  go_enter Tryz.func196, Tryz.ntmps196
  go_wp2_with fail
  refine hmk'.mono ?_
  rintro e w1 ⟨v, rfl, b, cap, C, rfl, ha, hC, hnc, hcap, hb, hchg⟩
  have hax1 := hchg.arr hax (fun h => h)
  have hb2 : (o = some b) ∨ w.heap.size = b := hb.imp (·.1) id
  have k1 : m ≤ cap := by omega
  have hc := mulAddVWW_c w1 b 0 m cap bx 0 cx y r C XL (by omega) ha (by omega) hm hwX hwy hwr (by
    have := Rd.mk (n := m) (oz := 0) (ox := 0) ha (by omega) hax1 (by omega) (.inr (Nat.le_refl _))
    rwa [htx'] at this)
  replace hm := Lib.hid hm
  replace htx' := Lib.hid htx'
  go_wp2_with fail
  refine hc.mono ?_
  rintro e w3 ⟨R, c, rfl, hS, hR, hcw, hv⟩
  have hz1 := hS.arr.cellN (i := m) (by rw [spl_length (by omega)]; omega)
  have hz2 := hS.arr.frozen m
  have hS5 := hS.next (k := m) hR (by omega) c hcw
  rw [Nat.zero_add] at hS5
  have hv5 : val (R ++ [c]) = X * y + r := by
    rw [val_snoc, hR, hv, hvX.out]
  have hl5 : (R ++ [c]).length = m + 1 := by rw [List.length_append, hR]; rfl
  generalize R ++ [c] = L at *
  have hnm := fun w' (ha : Arr w' b (spl C 0 L)) => norm_spl w' b (m + 1) cap C L ha hC hl5 hnc hcap.2
  replace hv := Lib.hid hv
  replace hv5 := Lib.hid hv5
  clear hS hc hmk'
  go_wp2_with fail
  refine (hnm _ hS5.arr).mono ?_
  rintro e w6 ⟨rfl, hw⟩
  obtain rfl := hw
  go_wp2
  go_ret
  have := natRes_spl hb2 hchg hS5 hC (by omega) hcap
  rw [hv5.out] at this
  rw [hv5.out]
  exact ⟨_, rfl, this⟩
end Go.Proofs.YtgdpljjmnmapmaaGreatDoor

namespace Go.Proofs.YtgdpljjmnmapmaaGreatDoor
open Go Go.RowKit

theorem spl_mid_zero {C L M Z : List Nat} {k m : Nat} (hL : L.length = k + m) (hM : M.length = m) (h : (L ++ Z).length ≤ C.length) : spl (spl C 0 (L ++ Z)) k M = spl C 0 (L.take k ++ M ++ Z) := by
  have hl : (L ++ Z).length = k + m + Z.length := by rw [List.length_append, hL]
  have hl2 : (L.take k ++ M ++ Z).length = k + m + Z.length := by simp; omega
  have hl3 : (spl C 0 (L ++ Z)).length = C.length := spl_length (by omega)
  apply List.ext_getElem?
  intro j
  by_cases h1 : j < k
  · rw [spl_lt (by omega) h1]
    have e1 := spl_mid (C := C) (o := 0) (R := L ++ Z) (j := j) (by omega) (by omega)
    have e2 := spl_mid (C := C) (o := 0) (R := L.take k ++ M ++ Z) (j := j) (by omega) (by omega)
    rw [Nat.zero_add] at e1 e2
    rw [e1, e2, List.append_assoc, List.getElem?_append_left (by omega), List.getElem?_append_left (by simp; omega), List.getElem?_take_of_lt h1]
  · by_cases h2 : j < k + m
    · obtain ⟨d, rfl⟩ : ∃ d, j = k + d := ⟨j - k, by omega⟩
      rw [spl_mid (by omega) (by omega)]
      have e2 := spl_mid (C := C) (o := 0) (R := L.take k ++ M ++ Z) (j := k + d) (by omega) (by omega)
      rw [Nat.zero_add] at e2
      rw [e2, List.append_assoc, List.getElem?_append_right (by simp; omega), List.getElem?_append_left (by simp; omega)]
      congr 1; simp; omega
    · rw [spl_ge (by omega) (by omega)]
      by_cases h3 : j < k + m + Z.length
      · have e1 := spl_mid (C := C) (o := 0) (R := L ++ Z) (j := j) (by omega) (by omega)
        have e2 := spl_mid (C := C) (o := 0) (R := L.take k ++ M ++ Z) (j := j) (by omega) (by omega)
        rw [Nat.zero_add] at e1 e2
        rw [e1, e2, List.getElem?_append_right (by omega), List.getElem?_append_right (by simp; omega)]
        congr 1; simp; omega
      · rw [spl_ge (by omega) (by omega), spl_ge (by omega) (by omega)]
theorem spl_set_zero {C A Z : List Nat} {k x y : Nat} (hA : A.length = k) (_h : (A ++ y :: Z).length ≤ C.length) : (spl C 0 (A ++ y :: Z)).set k x = spl C 0 (A ++ [x] ++ Z) := by
  unfold spl
  simp only [List.take_zero, List.nil_append]
  subst hA
  simp

theorem nth_spl0 {C R : List Nat} {j : Nat} (h : R.length ≤ C.length) (hj : j < R.length) : nth (spl C 0 R) j = nth R j := by
  have := nth_spl_mid (C := C) (o := 0) (R := R) (j := j) (by omega) hj
  rwa [Nat.zero_add] at this

/-- Nothing is asked of a world (a word that simp leaves standing). -/
def Anyw (_ : World) : Prop := True
theorem anyw (w : World) : Anyw w := trivial

set_option maxRecDepth 100000 in
set_option maxHeartbeats 2000000 in
theorem basicMul_c (w : World) (bz m n cz bx cx by_ cy : Nat) (Cz Cx Cy X Y : List Nat) (hm : 0 < m) (hm1 : m ≤ 1000) (hn1 : n ≤ 1000)
    (hz : Arr w bz Cz) (hzl : m + n ≤ Cz.length) (hzc : m + n ≤ cz) (hx : Arr w bx Cx) (hX : Cx.take m = X) (lX : X.length = m) (hy : Arr w by_ Cy) (hY : Cy.take n = Y) (lY : Y.length = n) (hbx : bx ≠ bz) (hby : by_ ≠ bz) :
    Calls Tryz.prog 193 #[.slice (some ⟨bz, 0, none⟩) (m + n) cz, .slice (some ⟨bx, 0, none⟩) m cx, .slice (some ⟨by_, 0, none⟩) n cy] w fun e w' =>
      e = .returned (.tuple #[]) ∧ ∃ R, Sub w w' bz (spl Cz 0 R) ∧ R.length = m + n ∧ val R = val X * val Y := by
  have hxl : m ≤ Cx.length := by have := congrArg List.length hX; rw [List.length_take] at this; omega
  have hyl : n ≤ Cy.length := by have := congrArg List.length hY; rw [List.length_take] at this; omega
  have WX : Wd X := hX ▸ hx.wd.take m
  have WY : Wd Y := hY ▸ hy.wd.take n
  have hYc : ∀ wr, Arr wr by_ Cy → ∀ j, j < n → wr.cell? ⟨by_, j, none⟩ = some (.int .u64 (nth Y j : Int)) := by
    intro wr h j hj
    rw [h.cellN (by omega), ← hY, nth_take hj]
  have hX0 : (Cx.drop 0).take m = X := hX
  replace hX0 := Lib.hid hX0
  replace hYc := Lib.hid hYc
  clear hX hY
  go_enter Tryz.func193, Tryz.ntmps193
  go_wp2_with (refine wpList_clearW rfl (.tmp 14) 58 rfl Tryz.underlying58 bz 0 (m + n) cz rfl Cz hz (by omega) ?_)
  intro w1 hS1
  have hr : List.replicate (m + n) 0 = List.replicate m 0 ++ List.replicate n 0 := by rw [List.replicate_append_replicate]
  rw [hr] at hS1
  clear hr
  go_wp2
  go_loopw [17] (fun i wr => ∃ k : Nat, k ≤ n ∧ i = .int .i64 k ∧ ∃ L : List Nat, L.length = k + m ∧ val L = val X * val (Y.take k) ∧ Sub w wr bz (spl Cz 0 (L ++ List.replicate (n - k) 0))) (fun i _ => n - (intOf i).toNat)
  case atStart => exact ⟨0, by omega, by go_num, List.replicate m 0, by simp, by simp [val_zeros], hS1⟩
  case round =>
    obtain ⟨k, hk, rfl, L, hL, hv, hS⟩ := hrel
    by_cases hlt : k < n
    · have hyk := hYc.out wr (hS.other hby hy) k hlt
      have hwd := WY.nth k
      obtain ⟨r, hr⟩ : ∃ r, n - k = r + 1 := ⟨n - k - 1, by omega⟩
      rw [hr, List.replicate_succ] at hS
      have hvt : val (Y.take (k + 1)) = val (Y.take k) + WB ^ k * nth Y k := val_take_succ (by omega)
      replace hvt := Lib.hid hvt
      replace hv := Lib.hid hv
      by_cases hd : nth Y k = 0
      · rw [hd] at hyk
        go_wp2
        go_roundw
        case rel =>
          refine ⟨k + 1, by omega, by go_num, L ++ [0], by rw [List.length_append, hL]; simp; omega, ?_, ?_⟩
          · rw [val_snoc, hvt.out, hd, hv.out]; simp
          · rw [show n - (k + 1) = r by omega, List.append_assoc]; exact hS
        case measure => simp [intOf]; omega
      · have hd0 : ((nth Y k : Int) != 0) = true := by simp; omega
        have hM : ((spl Cz 0 (L ++ 0 :: List.replicate r 0)).drop k).take m = L.drop k := by
          unfold spl
          rw [List.take_zero, List.nil_append, List.append_assoc, List.drop_append_of_le_length (by omega), List.take_append_of_le_length (by simp; omega), List.take_of_length_le (by simp; omega)]
        have hlz : (L ++ 0 :: List.replicate r 0).length = m + n := by simp; omega
        have hlz2 : (spl Cz 0 (L ++ 0 :: List.replicate r 0)).length = Cz.length := spl_length (by omega)
        have hc := fun wr' (hh : Sub w wr' bz (spl Cz 0 (L ++ 0 :: List.replicate r 0))) => addMulVVWW_c wr' bz k m (cz - k) bz k (cz - k) bx 0 cx (nth Y k) 0 (spl Cz 0 (L ++ 0 :: List.replicate r 0)) (L.drop k) X (by omega) hh.arr (by omega) (by simp; omega) lX
          (by rw [← hM]; exact (hh.arr.wd.drop _).take _) WX hwd WB_pos (by rw [← hM]; exact Rd.mk hh.arr (by omega) hh.arr (by omega) (.inr (Nat.le_refl _))) (by rw [← hX0.out]; exact Rd.mk hh.arr (by omega) (hh.other hbx hx) (by omega) (.inl hbx))
        replace hc := Lib.hid hc
        have t1 : k ≤ cz := by omega
        have t2 : ¬ cz = k := by omega
        have t3 : (k : Int) ≤ (k : Int) + (m : Int) := by omega
        have t4 : (k : Int) + (m : Int) ≤ (cz : Int) := by omega
        have t5 : ((k : Int) + (m : Int)).toNat = k + m := by omega
        have t6 : IntKind.i64.wrap ((k : Int) + (m : Int)) = (k : Int) + (m : Int) := IntWalk.i64_in _ (by omega)
        have t7 : IntKind.i64.wrap ((m : Int) + (k : Int)) = (m : Int) + (k : Int) := IntWalk.i64_in _ (by omega)
        have t8 : (0 : Int) ≤ (k : Int) + (m : Int) := by omega
        have t9 : (0 : Int) ≤ (m : Int) + (k : Int) := by omega
        have t10 : (m : Int) + (k : Int) < (m : Int) + (n : Int) := by omega
        have t11 : ((m : Int) + (k : Int)).toNat = m + k := by omega
        go_wp2
        go_region_held3 (fun w' => Anyw w') (exact anyw _) (first
          | (go_at_call 227
             refine (hc.out _ hS.drew).mono ?_
             rintro e w4 ⟨M, c, rfl, hS2, hM2, hcw, hv2⟩
             have hz1 := hS2.arr.cellN (i := m + k) (by rw [spl_length (by omega)]; omega)
             have hz2 := hS2.arr.frozen (m + k)))
        have hS3 := (hS.drew).trans hS2
        have hsp := spl_mid_zero (C := Cz) (L := L) (M := M) (Z := 0 :: List.replicate r 0) (k := k) (m := m) hL hM2 (by omega)
        rw [hsp] at hS3
        have hS4 := hS3.set (i := m + k) c hcw
        have hA : (L.take k ++ M).length = m + k := by simp; omega
        rw [spl_set_zero hA (by rw [List.length_append, hA]; simp; omega)] at hS4
        have hval : val (L.take k ++ M ++ [c]) = val X * val (Y.take (k + 1)) := by
          rw [val_snoc, hA, val_append, List.length_take, hL, Nat.min_eq_left (by omega), hvt.out, Nat.mul_add, ← hv.out, Nat.mul_left_comm]
          have e1 := val_take_drop L k (by omega)
          have e2 : WB ^ (m + k) * c = WB ^ k * (WB ^ m * c) := by rw [Nat.add_comm, Nat.pow_add, Nat.mul_assoc]
          have e3 : WB ^ k * (val M + WB ^ m * c) = WB ^ k * (val (List.drop k L) + val X * nth Y k) := by rw [hv2, Nat.add_zero]
          rw [Nat.mul_add, Nat.mul_add] at e3
          rw [e2]
          omega
        replace hval := Lib.hid hval
        have hlA : (L.take k ++ M ++ [c]).length = k + 1 + m := by rw [List.length_append, hA]; simp; omega
        generalize L.take k ++ M ++ [c] = L' at hS4 hval hlA
        clear hc hS3 hS2 hsp hM hlz hlz2
        go_wp2
        go_roundw
        case rel =>
          refine ⟨k + 1, by omega, by go_num, L', hlA, hval.out, ?_⟩
          rw [show n - (k + 1) = r by omega]
          exact hS4
        case measure => simp [intOf]; omega
    · obtain rfl : k = n := by omega
      replace hv := Lib.hid hv
      go_wp2
      refine ⟨rfl, _, results_none rfl _ _ _, rfl, L, ?_, by omega, ?_⟩
      · rw [Nat.sub_self, List.replicate_zero, List.append_nil] at hS; exact hS
      · have := hv.out
        rwa [List.take_of_length_le (by omega)] at this
end Go.Proofs.YtgdpljjmnmapmaaGreatDoor

namespace Go.Proofs.YtgdpljjmnmapmaaGreatDoor
open Go Go.RowKit

theorem run_eql_ptr_other {P : Program} {w : World} {tp te : TypeId} {j : TypeInfo} {a b : Addr} {ca cb : Array Value} {ta tb : TypeId} (hp : P.underlying tp = some (.pointer te)) (hte : P.info? te = some j) (hsz : j.size ≠ 0)
    (hne : a ≠ b) (ha : w.heap[a.block]? = some (.cells ca ta (0, 0))) (hb : w.heap[b.block]? = some (.cells cb tb (0, 0))) :
    (binOp .eql tp (.pointer (some a)) (.pointer (some b))).run P w = .ok (.bool false) w := by
  have h : ∀ d : Nat, (Op.equalIn (d + 1) tp (.pointer (some a)) (.pointer (some b))).run P w = .ok false w := fun d => by
    simp [Op.equalIn, run_underlying hp, sizeOf, typeInfo, hte, hsz, run_sameAddr_other w hne ha hb]
  simp only [binOp]
  simp [Op.equal, Op.maxDepth, h 9999]
theorem run_eql_ptr_same {P : Program} {w : World} {tp te : TypeId} {j : TypeInfo} (a : Addr) (hp : P.underlying tp = some (.pointer te)) (hte : P.info? te = some j) :
    (binOp .eql tp (.pointer (some a)) (.pointer (some a))).run P w = .ok (.bool true) w := by
  have h : ∀ d : Nat, (Op.equalIn (d + 1) tp (.pointer (some a)) (.pointer (some a))).run P w = .ok true w := fun d => by
    simp [Op.equalIn, run_underlying hp, sizeOf, typeInfo, hte, run_sameAddr_same]
  simp only [binOp]
  simp [Op.equal, Op.maxDepth, h 9999]
theorem eql_word_ptr {w : World} {bz oz bx ox : Nat} {Cz Cx : List Nat} (hz : Arr w bz Cz) (hx : Arr w bx Cx) (hne : bx ≠ bz) (n : Nat) :
    (binOp .eql 226 (.pointer (some ⟨bz, oz, none⟩)) (.pointer (some ⟨bx, ox, none⟩))).run Tryz.prog (w.drewN n) = .ok (.bool false) (w.drewN n) := by
  obtain ⟨j, hj, hs⟩ := infoWj
  exact run_eql_ptr_other Tryz.underlying226 hj hs (fun e => hne (congrArg Addr.block e).symm) (hz.drewN n).heap (hx.drewN n).heap
theorem eql_word_ptr_same {w : World} (a : Addr) (n : Nat) : (binOp .eql 226 (.pointer (some a)) (.pointer (some a))).run Tryz.prog (w.drewN n) = .ok (.bool true) (w.drewN n) := by
  obtain ⟨j, hj, hs⟩ := infoWj
  exact run_eql_ptr_same a Tryz.underlying226 hj

set_option maxRecDepth 100000 in
set_option maxHeartbeats 1000000 in
theorem alias_c (w : World) (x y : Value) (ox oy : Option Nat) (hx : Stor w x ox) (hy : Stor w y oy) :
    Calls Tryz.prog 184 #[x, y] w fun e w' => e = .returned (.bool (decide (ox = oy ∧ ox ≠ none))) ∧ ∃ n, w' = w.drewN n := by
  rcases hx with ⟨rfl, rfl⟩ | ⟨bx, lx, cx, Cx, rfl, rfl, hlx, hax, hcx, hcapx⟩
  · obtain ⟨py, ly, cy, rfl⟩ : ∃ p l c, y = .slice p l c := by
      rcases hy with ⟨rfl, _⟩ | ⟨b, l, cap, C, _, rfl, _⟩
      · exact ⟨_, _, _, rfl⟩
      · exact ⟨_, _, _, rfl⟩
    clear hy
    go_enter Tryz.func184, Tryz.ntmps184
    go_wp2
    go_quiet (fail)
    go_wp2
    go_ret
    exact ⟨by simp, _, rfl⟩
  · rcases hy with ⟨rfl, rfl⟩ | ⟨by_, ly, cy, Cy, rfl, rfl, hly, hay, hcy, hcapy⟩
    · obtain ⟨h1, h2⟩ := hcapx
      go_enter Tryz.func184, Tryz.ntmps184
      go_wp2
      go_quiet (fail)
      go_wp2
      go_ret
      exact ⟨by simp, _, rfl⟩
    · obtain ⟨h1, h2⟩ := hcapx
      obtain ⟨h3, h4⟩ := hcapy
      obtain ⟨d, rfl⟩ : ∃ d, cx = d + 1 := ⟨cx - 1, by omega⟩
      obtain ⟨d', rfl⟩ : ∃ d, cy = d + 1 := ⟨cy - 1, by omega⟩
      clear hlx hly h1 h3
      by_cases he : bx = by_
      · subst he
        obtain rfl := hax.inj hay
        obtain rfl : d = d' := by omega
        have hp := eql_word_ptr_same (w := w) ⟨bx, d, none⟩
        go_enter Tryz.func184, Tryz.ntmps184
        go_wp2
        go_quiet (fail)
        go_wp2
        go_ret
        exact ⟨by simp, _, rfl⟩
      · have hp := eql_word_ptr (oz := d) (ox := d') hax hay (Ne.symm he)
        go_enter Tryz.func184, Tryz.ntmps184
        go_wp2
        go_quiet (fail)
        go_wp2
        go_ret
        exact ⟨by simp [he], _, rfl⟩
end Go.Proofs.YtgdpljjmnmapmaaGreatDoor

namespace Go.Proofs.YtgdpljjmnmapmaaGreatDoor
open Go Go.RowKit

/-- The package's variables that the code reads. -/
structure Glob (w : World) : Prop where
  g0 : w.cell? ⟨1, 0, none⟩ = some (.int .i64 12)
  g1 : w.cell? ⟨2, 0, none⟩ = some (.int .i64 80)
  g2 : w.cell? ⟨3, 0, none⟩ = some (.int .i64 40)
  g3 : w.cell? ⟨0, 0, none⟩ = some (.int .i64 40)
  g6 : w.cell? ⟨6, 0, none⟩ = some (.int .i64 8)
theorem cell?_of_heap {w w' : World} {a : Addr} (h : w'.heap[a.block]? = w.heap[a.block]?) : w'.cell? a = w.cell? a := by
  unfold World.cell?; rw [h]
theorem lt_of_cell? {w : World} {a : Addr} {v : Value} (h : w.cell? a = some v) : a.block < w.heap.size := by
  rcases Nat.lt_or_ge a.block w.heap.size with h' | h'
  · exact h'
  · unfold World.cell? at h
    rw [Array.getElem?_eq_none h'] at h
    cases h
theorem Chg.cell {w w' : World} {S : Nat → Prop} (h : Chg w w' S) {a : Addr} {v : Value} (hc : w.cell? a = some v) (hn : ¬ S a.block) : w'.cell? a = some v := by
  rw [cell?_of_heap (h.block _ (lt_of_cell? hc) hn)]; exact hc
theorem Glob.chg {w w' : World} {S : Nat → Prop} (h : Glob w) (hc : Chg w w' S) (hn : ∀ g, g < 9 → ¬ S g) : Glob w' :=
  ⟨hc.cell h.g0 (hn _ (by decide)), hc.cell h.g1 (hn _ (by decide)), hc.cell h.g2 (hn _ (by decide)), hc.cell h.g3 (hn _ (by decide)), hc.cell h.g6 (hn _ (by decide))⟩

theorem Glob.drewN {w : World} (h : Glob w) (n : Nat) : Glob (w.drewN n) := ⟨h.g0, h.g1, h.g2, h.g3, h.g6⟩
theorem stor_none (w : World) : Stor w (.slice none 0 0) none := .inl ⟨rfl, rfl⟩
theorem NatRes.of_none {w w' : World} {o : Option Nat} {r : Value} {N : Nat} (h : NatRes w w' none r N) : NatRes w w' o r N := by
  obtain ⟨o', h1, h2, h3⟩ := h
  refine ⟨o', h1, ?_, h3.mono (fun _ _ h => by cases h)⟩
  rcases h2 with h | h
  · exact .inr (.inl h)
  · exact .inr h
theorem NatRes.after {w w1 w' : World} {o : Option Nat} {r : Value} {N : Nat} (h : NatRes w1 w' o r N) (hc : Chg w w1 (fun _ => False)) : NatRes w w' o r N := by
  obtain ⟨o', h1, h2, h3⟩ := h
  refine ⟨o', h1, ?_, (hc.mono (fun _ _ h => h.elim)).trans (h3.mono (fun _ _ h => .inl h))⟩
  rcases h2 with h | h | ⟨b, hb, hlt⟩
  · exact .inl h
  · exact .inr (.inl h)
  · exact .inr (.inr ⟨b, hb, Nat.le_trans hc.size hlt⟩)

theorem stor_slice {w : World} {z : Value} {o : Option Nat} (hz : Stor w z o) : ∃ p l c, z = .slice p l c := by
  rcases hz with ⟨rfl, _⟩ | ⟨b, l, cap, C, _, rfl, _⟩
  · exact ⟨_, _, _, rfl⟩
  · exact ⟨_, _, _, rfl⟩

/-- What a product writes into: a place that is none of its operands. -/
theorem made_ne {w w1 : World} {o : Option Nat} {b k : Nat} (hb : (o = some b ∧ w1 = w) ∨ w.heap.size = b) (hk : k < w.heap.size) (hne : ∀ c, o = some c → k ≠ c) : k ≠ b := by
  rcases hb with ⟨h, _⟩ | h
  · exact hne _ h
  · omega

set_option maxRecDepth 100000 in
set_option maxHeartbeats 2000000 in
theorem natmul_ge (w : World) (z stk x y : Value) (X Y : Nat) (o ox oy : Option Nat) (hG : Glob w) (hz : Stor w z o) (hx : IsNat w x X ox) (hy : IsNat w y Y oy) (hn : (digs X).length ≤ 400) (hge : (digs Y).length ≤ (digs X).length) (hsm : (digs Y).length < 40) :
    Calls Tryz.prog 168 #[z, stk, x, y] w fun e w' => ∃ r, e = .returned r ∧ NatRes w w' o r (X * Y) := by
  by_cases h1 : Y = 0
  · subst h1
    obtain ⟨px, cx, rfl, _, _⟩ := hx.shape
    obtain ⟨py, cy, rfl, _, _⟩ := hy.shape
    obtain ⟨p, l, c, rfl, hl, hc, hr⟩ := NatRes.zero hz
    rw [digs_zero] at *
    replace hr := Lib.hid hr
    by_cases h0 : X = 0
    · subst h0
      rw [digs_zero] at *
      clear hz hx hy hG
      go_enter Tryz.func168, Tryz.ntmps168
      go_wp2
      go_ret
      exact ⟨_, rfl, hr.out⟩
    · have e1 := int_eq0 (digs_len_pos h0)
      clear hz hx hy hG
      go_enter Tryz.func168, Tryz.ntmps168
      go_wp2
      go_ret
      exact ⟨_, rfl, hr.out⟩
  have h0 : X ≠ 0 := by
    intro e; subst e; rw [digs_zero] at hge
    exact h1 (digs_len_eq_zero.1 (by simpa using hge))
  obtain ⟨bx, cx, Cx, rfl, rfl, hax, hcx, hcapx, htx, hlx, hpx⟩ := hx.pos h0
  obtain ⟨by_, cy, Cy, rfl, rfl, hay, hcy, hcapy, hty, hly, hpy⟩ := hy.pos h1
  by_cases hY1 : (digs Y).length = 1
  · have hYd : digs Y = [nth (digs Y) 0] := by
      cases h : digs Y with
      | nil => rw [h] at hY1; simp at hY1
      | cons a l => rw [h] at hY1; simp at hY1; subst hY1; rfl
    have hYv : nth (digs Y) 0 = Y := by
      have := val_digs Y
      rw [hYd] at this
      simpa [val] using this
    have hyl : Y < WB := by have := lt_digs_len Y; rwa [hY1, Nat.pow_one] at this
    have hcell : w.cell? ⟨by_, 0, none⟩ = some (.int .u64 (Y : Int)) := by
      rw [hay.cellN (by omega)]
      have := nth_take (l := Cy) (i := 0) (k := (digs Y).length) (by omega)
      rw [hty, hYv] at this
      rw [← this]
    have hs := mulAddWW_c w z _ X Y 0 o _ hz hx (by omega) hyl WB_pos
    obtain ⟨pz, lz, cz, rfl⟩ := stor_slice hz
    rw [hY1] at *
    have e1 := int_eq0 hpx
    generalize (digs X).length = m at *
    clear hYd hYv hty htx hz hx hy hax hay hG
    go_enter Tryz.func168, Tryz.ntmps168
    go_wp2_with fail
    refine hs.mono ?_
    rintro e w1 ⟨v, rfl, hr⟩
    go_wp2
    go_ret
    exact ⟨_, rfl, hr⟩
  have hal1 := alias_c w z _ o _ hz hx.stor
  have hal2 := fun n => alias_c (w.drewN n) z _ o _ (hz.chg ((Chg.refl w (fun _ => False)).drewN n) (fun _ _ h => h)) (hy.chg ((Chg.refl w (fun _ => False)).drewN n) (fun _ _ h => h)).stor
  obtain ⟨pz, lz, cz, rfl⟩ := stor_slice hz
  have hvX : val (digs X) = X := val_digs X
  have hvY : val (digs Y) = Y := val_digs Y
  generalize hXL : digs X = XL at *
  generalize hYL : digs Y = YL at *
  generalize hm : XL.length = m at *
  generalize hn' : YL.length = n at *
  have e1 := int_eq0 hpx
  have e2 := int_eq0 hpy
  have e3 : ((n : Int) == 1) = false := by rw [beq_eq_false_iff_ne]; omega
  have e4 : ¬ m < n := by omega
  have key := fun (n0 : Nat) (pz : Option Addr) (lz cz : Nat) (o' : Option Nat) (hst : Stor (w.drewN n0) (.slice pz lz cz) o') => make_c (w.drewN n0) _ o' hst (m + n) (by omega) (by omega)
  have htx0 : Cx.take m = XL := htx
  have hty0 : Cy.take n = YL := hty
  replace hvX := Lib.hid hvX
  replace hvY := Lib.hid hvY
  replace hm := Lib.hid hm
  replace hn' := Lib.hid hn'
  replace htx := Lib.hid htx
  replace hty := Lib.hid hty
  replace hXL := Lib.hid hXL
  replace hYL := Lib.hid hYL
  clear hx hy
  replace key := Lib.hid key
  replace htx0 := Lib.hid htx0
  replace hty0 := Lib.hid hty0
  by_cases ha1 : o = some bx
  · have hb1 : (decide (o = some bx ∧ o ≠ none)) = true := by subst ha1; simp
    rw [hb1] at hal1
    go_enter Tryz.func168, Tryz.ntmps168
    go_wp2_with fail
    refine hal1.mono ?_
    rintro e w' ⟨rfl, n1, rfl⟩
    have hk := key.out n1 none 0 0 (none : Option Nat) (stor_none _)
    rw [Int.natCast_add] at hk
    go_wp2_with fail
    refine hk.mono ?_
    rintro e w1 ⟨r, rfl, b, cap, C, rfl, ha, hC, hnc, hcap, hb, hchg⟩
    have hcw : Chg w w1 (fun _ => False) := ((Chg.refl w (fun _ => False)).drewN _).trans (hchg.mono (fun _ _ h => h.elim))
    have hG1 := (hG.chg hcw (fun _ _ h => h)).g2
    have hax1 := hcw.arr hax (fun h => h)
    have hay1 := hcw.arr hay (fun h => h)
    have hbx : bx ≠ b := made_ne hb hax.lt (fun _ h => by cases h)
    have hby : by_ ≠ b := made_ne hb hay.lt (fun _ h => by cases h)
    have hbm := basicMul_c w1 b m n cap bx cx by_ cy C Cx Cy XL YL hpx (by omega) (by omega) ha (by omega) hnc hax1 htx0.out hm.out hay1 hty0.out hn'.out hbx hby
    have hb2 : (none : Option Nat) = some b ∨ w.heap.size = b := hb.imp (·.1) id
    clear hk hb hchg
    go_wp2_with fail
    refine hbm.mono ?_
    rintro e w2 ⟨rfl, R, hS, hR, hv⟩
    have hv5 : val R = X * Y := by rw [hv, hvX.out, hvY.out]
    have hnm := fun w' (ha : Arr w' b (spl C 0 R)) => norm_spl w' b (m + n) cap C R ha hC hR hnc hcap.2
    clear hbm
    replace hv := Lib.hid hv
    replace hv5 := Lib.hid hv5
    go_wp2_with fail
    refine (hnm _ hS.arr).mono ?_
    rintro e w6 ⟨rfl, hw⟩
    obtain rfl := hw
    go_wp2
    go_ret
    have hfin := natRes_spl hb2 hcw hS hC (by omega) hcap
    rw [hv5.out] at hfin
    rw [hv5.out]
    exact ⟨_, rfl, hfin.of_none⟩
  · have hb1 : (decide (o = some bx ∧ o ≠ none)) = false := by simp [ha1]
    rw [hb1] at hal1
    by_cases ha2 : o = some by_
    · have hb2 : (decide (o = some by_ ∧ o ≠ none)) = true := by subst ha2; simp
      rw [hb2] at hal2
      replace hal2 := Lib.hid hal2
      go_enter Tryz.func168, Tryz.ntmps168
      go_wp2_with fail
      refine hal1.mono ?_
      rintro e w' ⟨rfl, n1, rfl⟩
      go_wp2_with fail
      refine (hal2.out n1).mono ?_
      rintro e w' ⟨rfl, n2, rfl⟩
      rw [drewN_drewN]
      have hk := key.out (n1 + n2) none 0 0 (none : Option Nat) (stor_none _)
      rw [Int.natCast_add] at hk
      go_wp2_with fail
      refine hk.mono ?_
      rintro e w1 ⟨r, rfl, b, cap, C, rfl, ha, hC, hnc, hcap, hb, hchg⟩
      have hcw : Chg w w1 (fun _ => False) := ((Chg.refl w (fun _ => False)).drewN _).trans (hchg.mono (fun _ _ h => h.elim))
      have hG1 := (hG.chg hcw (fun _ _ h => h)).g2
      have hax1 := hcw.arr hax (fun h => h)
      have hay1 := hcw.arr hay (fun h => h)
      have hbx : bx ≠ b := made_ne hb hax.lt (fun _ h => by cases h)
      have hby : by_ ≠ b := made_ne hb hay.lt (fun _ h => by cases h)
      have hbm := basicMul_c w1 b m n cap bx cx by_ cy C Cx Cy XL YL hpx (by omega) (by omega) ha (by omega) hnc hax1 htx0.out hm.out hay1 hty0.out hn'.out hbx hby
      have hb2 : (none : Option Nat) = some b ∨ w.heap.size = b := hb.imp (·.1) id
      clear hk hb hchg
      go_wp2_with fail
      refine hbm.mono ?_
      rintro e w2 ⟨rfl, R, hS, hR, hv⟩
      have hv5 : val R = X * Y := by rw [hv, hvX.out, hvY.out]
      have hnm := fun w' (ha : Arr w' b (spl C 0 R)) => norm_spl w' b (m + n) cap C R ha hC hR hnc hcap.2
      clear hbm
      replace hv := Lib.hid hv
      replace hv5 := Lib.hid hv5
      go_wp2_with fail
      refine (hnm _ hS.arr).mono ?_
      rintro e w6 ⟨rfl, hw⟩
      obtain rfl := hw
      go_wp2
      go_ret
      have hfin := natRes_spl hb2 hcw hS hC (by omega) hcap
      rw [hv5.out] at hfin
      rw [hv5.out]
      exact ⟨_, rfl, hfin.of_none⟩
    · have hb2 : (decide (o = some by_ ∧ o ≠ none)) = false := by simp [ha2]
      rw [hb2] at hal2
      replace hal2 := Lib.hid hal2
      have hne : ∀ c, o = some c → bx ≠ c ∧ by_ ≠ c := fun c hc => ⟨fun e => ha1 (e ▸ hc), fun e => ha2 (e ▸ hc)⟩
      go_enter Tryz.func168, Tryz.ntmps168
      go_wp2_with fail
      refine hal1.mono ?_
      rintro e w' ⟨rfl, n1, rfl⟩
      go_wp2_with fail
      refine (hal2.out n1).mono ?_
      rintro e w' ⟨rfl, n2, rfl⟩
      rw [drewN_drewN]
      have hk := key.out (n1 + n2) pz lz cz o (hz.chg ((Chg.refl w (fun _ => False)).drewN _) (fun _ _ h => h))
      rw [Int.natCast_add] at hk
      go_wp2_with fail
      refine hk.mono ?_
      rintro e w1 ⟨r, rfl, b, cap, C, rfl, ha, hC, hnc, hcap, hb, hchg⟩
      have hcw : Chg w w1 (fun _ => False) := ((Chg.refl w (fun _ => False)).drewN _).trans (hchg.mono (fun _ _ h => h.elim))
      have hG1 := (hG.chg hcw (fun _ _ h => h)).g2
      have hax1 := hcw.arr hax (fun h => h)
      have hay1 := hcw.arr hay (fun h => h)
      have hbx : bx ≠ b := made_ne hb hax.lt (fun c h => (hne c h).1)
      have hby : by_ ≠ b := made_ne hb hay.lt (fun c h => (hne c h).2)
      have hbm := basicMul_c w1 b m n cap bx cx by_ cy C Cx Cy XL YL hpx (by omega) (by omega) ha (by omega) hnc hax1 htx0.out hm.out hay1 hty0.out hn'.out hbx hby
      have hb2 : o = some b ∨ w.heap.size = b := hb.imp (·.1) id
      clear hk hb hchg
      go_wp2_with fail
      refine hbm.mono ?_
      rintro e w2 ⟨rfl, R, hS, hR, hv⟩
      have hv5 : val R = X * Y := by rw [hv, hvX.out, hvY.out]
      have hnm := fun w' (ha : Arr w' b (spl C 0 R)) => norm_spl w' b (m + n) cap C R ha hC hR hnc hcap.2
      clear hbm
      replace hv := Lib.hid hv
      replace hv5 := Lib.hid hv5
      go_wp2_with fail
      refine (hnm _ hS.arr).mono ?_
      rintro e w6 ⟨rfl, hw⟩
      obtain rfl := hw
      go_wp2
      go_ret
      have hfin := natRes_spl hb2 hcw hS hC (by omega) hcap
      rw [hv5.out] at hfin
      rw [hv5.out]
      exact ⟨_, rfl, hfin⟩
end Go.Proofs.YtgdpljjmnmapmaaGreatDoor

namespace Go.Proofs.YtgdpljjmnmapmaaGreatDoor
open Go Go.RowKit

set_option maxHeartbeats 400000 in
theorem natmul_c (w : World) (z stk x y : Value) (X Y : Nat) (o ox oy : Option Nat) (hG : Glob w) (hz : Stor w z o) (hx : IsNat w x X ox) (hy : IsNat w y Y oy) (hn : (digs X).length < 40) (hn2 : (digs Y).length < 40) :
    Calls Tryz.prog 168 #[z, stk, x, y] w fun e w' => ∃ r, e = .returned r ∧ NatRes w w' o r (X * Y) := by
  by_cases hge : (digs Y).length ≤ (digs X).length
  · exact natmul_ge w z stk x y X Y o ox oy hG hz hx hy (by omega) hge hn2
  · have hc := natmul_ge w z stk y x Y X o oy ox hG hz hy hx (by omega) (by omega) hn
    have hlt : (digs X).length < (digs Y).length := by omega
    obtain ⟨px, cx, rfl, _, _⟩ := hx.shape
    obtain ⟨py, cy, rfl, _, _⟩ := hy.shape
    clear hz hx hy hG
    go_enter Tryz.func168, Tryz.ntmps168
    go_wp2_with fail
    refine hc.mono ?_
    rintro e w1 ⟨r, rfl, hr⟩
    go_wp2
    go_ret
    rw [Nat.mul_comm] at hr
    exact ⟨_, rfl, hr⟩

set_option maxRecDepth 100000 in
set_option maxHeartbeats 2000000 in
theorem natsqr_c (w : World) (z stk x : Value) (X : Nat) (o ox : Option Nat) (hG : Glob w) (hz : Stor w z o) (hx : IsNat w x X ox) (hn : (digs X).length < 12) :
    Calls Tryz.prog 167 #[z, stk, x] w fun e w' => ∃ r, e = .returned r ∧ NatRes w w' o r (X * X) := by
  by_cases h0 : X = 0
  · subst h0
    obtain ⟨px, cx, rfl, _, _⟩ := hx.shape
    obtain ⟨p, l, c, rfl, hl, hc, hr⟩ := NatRes.zero hz
    rw [digs_zero] at *
    replace hr := Lib.hid hr
    clear hz hx hG
    go_enter Tryz.func167, Tryz.ntmps167
    go_wp2
    go_ret
    exact ⟨_, rfl, hr.out⟩
  obtain ⟨bx, cx, Cx, rfl, rfl, hax, hcx, hcapx, htx, hlx, hpx⟩ := hx.pos h0
  by_cases hX1 : (digs X).length = 1
  · have hXd : digs X = [nth (digs X) 0] := by
      cases h : digs X with
      | nil => rw [h] at hX1; simp at hX1
      | cons a l => rw [h] at hX1; simp at hX1; subst hX1; rfl
    have hXv : nth (digs X) 0 = X := by
      have := val_digs X
      rw [hXd] at this
      simpa [val] using this
    have hxl : X < WB := by have := lt_digs_len X; rwa [hX1, Nat.pow_one] at this
    have hcell : w.cell? ⟨bx, 0, none⟩ = some (.int .u64 (X : Int)) := by
      rw [hax.cellN (by omega)]
      have := nth_take (l := Cx) (i := 0) (k := (digs X).length) (by omega)
      rw [htx, hXv] at this
      rw [← this]
    have hmk := make_c w z o hz 2 (by omega) (by omega)
    obtain ⟨pz, lz, cz, rfl⟩ := stor_slice hz
    have hmm := mullo_mulhi X X
    have hh := mulhi_lt hxl hxl
    have hl := mullo_lt X X
    rw [hX1] at *
    replace hmm := Lib.hid hmm
    clear hXd hXv htx hz hx hax hG
    go_enter Tryz.func167, Tryz.ntmps167
    go_wp2_with fail
    refine hmk.mono ?_
    rintro e w1 ⟨r, rfl, b, cap, C, rfl, ha, hC, hnc, hcap, hb, hchg⟩
    have hmw := fun w => mulWW_c X X hxl hxl w
    go_wp2_with fail
    refine (hmw _).mono ?_
    rintro e w2 ⟨rfl, hw⟩
    obtain rfl := hw.symm
    have z1 := ha.cellN (i := 1) (by omega)
    have z1f := ha.frozen 1
    have z0 := ha.cellN (i := 0) (by omega)
    have z0f := ha.frozen 0
    have hS1 := (Sub.refl ha).set (i := 1) (mulhi X X) hh
    have z0' := hS1.arr.cellN (i := 0) (by rw [List.length_set]; omega)
    have z0f' := hS1.arr.frozen 0
    have hS2 := hS1.set (i := 0) (mullo X X) hl
    have hsp : (C.set 1 (mulhi X X)).set 0 (mullo X X) = spl C 0 [mullo X X, mulhi X X] := by
      match C, hC, hnc with
      | [], hC, hnc => simp at hC; omega
      | [a], hC, hnc => simp at hC; omega
      | a :: c :: C, _, _ => simp [spl]
    rw [hsp] at hS2
    have hv5 : val [mullo X X, mulhi X X] = X * X := by simp [val]; exact hmm.out
    have hnm := fun w' (ha : Arr w' b (spl C 0 [mullo X X, mulhi X X])) => norm_spl w' b 2 cap C _ ha hC rfl hnc hcap.2
    have hb2 : o = some b ∨ w.heap.size = b := hb.imp (·.1) id
    replace hv5 := Lib.hid hv5
    clear hb hS1 hsp
    go_wp2_with fail
    refine (hnm _ hS2.arr).mono ?_
    rintro e w6 ⟨rfl, hw⟩
    obtain rfl := hw
    go_wp2
    go_ret
    have hfin := natRes_spl hb2 hchg hS2 hC (by simp; omega) hcap
    rw [hv5.out] at hfin
    rw [hv5.out]
    exact ⟨_, rfl, hfin⟩
  have hal1 := alias_c w z _ o _ hz hx.stor
  obtain ⟨pz, lz, cz, rfl⟩ := stor_slice hz
  have hvX : val (digs X) = X := val_digs X
  generalize hXL : digs X = XL at *
  generalize hm : XL.length = m at *
  have e1 := int_eq0 hpx
  have e3 : ((m : Int) == 1) = false := by rw [beq_eq_false_iff_ne]; omega
  have e4 : m < 80 := by omega
  have key := fun (n0 : Nat) (pz : Option Addr) (lz cz : Nat) (o' : Option Nat) (hst : Stor (w.drewN n0) (.slice pz lz cz) o') => make_c (w.drewN n0) _ o' hst (m + m) (by omega) (by omega)
  have htx0 : Cx.take m = XL := htx
  replace hvX := Lib.hid hvX
  replace hm := Lib.hid hm
  replace htx := Lib.hid htx
  replace hXL := Lib.hid hXL
  clear hx
  replace key := Lib.hid key
  replace htx0 := Lib.hid htx0
  by_cases ha1 : o = some bx
  · have hb1 : (decide (o = some bx ∧ o ≠ none)) = true := by subst ha1; simp
    rw [hb1] at hal1
    go_enter Tryz.func167, Tryz.ntmps167
    go_wp2_with fail
    refine hal1.mono ?_
    rintro e w' ⟨rfl, n1, rfl⟩
    have hk := key.out n1 none 0 0 (none : Option Nat) (stor_none _)
    rw [show ((m + m : Nat) : Int) = 2 * (m : Int) by omega] at hk
    go_wp2_with fail
    refine hk.mono ?_
    rintro e w1 ⟨r, rfl, b, cap, C, rfl, ha, hC, hnc, hcap, hb, hchg⟩
    have hcw : Chg w w1 (fun _ => False) := ((Chg.refl w (fun _ => False)).drewN _).trans (hchg.mono (fun _ _ h => h.elim))
    have hG1 := (hG.chg hcw (fun _ _ h => h)).g0
    have hG2 := (hG.chg hcw (fun _ _ h => h)).g1
    have hax1 := hcw.arr hax (fun h => h)
    have hbx : bx ≠ b := made_ne hb hax.lt (fun _ h => by cases h)
    have hbm := basicMul_c w1 b m m cap bx cx bx cx C Cx Cx XL XL hpx (by omega) (by omega) ha (by omega) hnc hax1 htx0.out hm.out hax1 htx0.out hm.out hbx hbx
    have hb2 : (none : Option Nat) = some b ∨ w.heap.size = b := hb.imp (·.1) id
    clear hk hb hchg
    go_wp2_with fail
    refine hbm.mono ?_
    rintro e w2 ⟨rfl, R, hS, hR, hv⟩
    have hv5 : val R = X * X := by rw [hv, hvX.out]
    have hnm := fun w' (ha : Arr w' b (spl C 0 R)) => norm_spl w' b (m + m) cap C R ha hC hR hnc hcap.2
    clear hbm
    replace hv := Lib.hid hv
    replace hv5 := Lib.hid hv5
    go_wp2_with fail
    refine (hnm _ hS.arr).mono ?_
    rintro e w6 ⟨rfl, hw⟩
    obtain rfl := hw
    go_wp2
    go_ret
    have hfin := natRes_spl hb2 hcw hS hC (by omega) hcap
    rw [hv5.out] at hfin
    rw [hv5.out]
    exact ⟨_, rfl, hfin.of_none⟩
  · have hb1 : (decide (o = some bx ∧ o ≠ none)) = false := by simp [ha1]
    rw [hb1] at hal1
    have hne : ∀ c, o = some c → bx ≠ c := fun c hc e => ha1 (e ▸ hc)
    go_enter Tryz.func167, Tryz.ntmps167
    go_wp2_with fail
    refine hal1.mono ?_
    rintro e w' ⟨rfl, n1, rfl⟩
    have hk := key.out n1 pz lz cz o (hz.chg ((Chg.refl w (fun _ => False)).drewN _) (fun _ _ h => h))
    rw [show ((m + m : Nat) : Int) = 2 * (m : Int) by omega] at hk
    go_wp2_with fail
    refine hk.mono ?_
    rintro e w1 ⟨r, rfl, b, cap, C, rfl, ha, hC, hnc, hcap, hb, hchg⟩
    have hcw : Chg w w1 (fun _ => False) := ((Chg.refl w (fun _ => False)).drewN _).trans (hchg.mono (fun _ _ h => h.elim))
    have hG1 := (hG.chg hcw (fun _ _ h => h)).g0
    have hG2 := (hG.chg hcw (fun _ _ h => h)).g1
    have hax1 := hcw.arr hax (fun h => h)
    have hbx : bx ≠ b := made_ne hb hax.lt hne
    have hbm := basicMul_c w1 b m m cap bx cx bx cx C Cx Cx XL XL hpx (by omega) (by omega) ha (by omega) hnc hax1 htx0.out hm.out hax1 htx0.out hm.out hbx hbx
    have hb2 : o = some b ∨ w.heap.size = b := hb.imp (·.1) id
    clear hk hb hchg
    go_wp2_with fail
    refine hbm.mono ?_
    rintro e w2 ⟨rfl, R, hS, hR, hv⟩
    have hv5 : val R = X * X := by rw [hv, hvX.out]
    have hnm := fun w' (ha : Arr w' b (spl C 0 R)) => norm_spl w' b (m + m) cap C R ha hC hR hnc hcap.2
    clear hbm
    replace hv := Lib.hid hv
    replace hv5 := Lib.hid hv5
    go_wp2_with fail
    refine (hnm _ hS.arr).mono ?_
    rintro e w6 ⟨rfl, hw⟩
    obtain rfl := hw
    go_wp2
    go_ret
    have hfin := natRes_spl hb2 hcw hS hC (by omega) hcap
    rw [hv5.out] at hfin
    rw [hv5.out]
    exact ⟨_, rfl, hfin⟩
end Go.Proofs.YtgdpljjmnmapmaaGreatDoor

namespace Go.Proofs.YtgdpljjmnmapmaaGreatDoor
open Go Go.RowKit

set_option maxHeartbeats 1000000 in
theorem divW_c (w : World) (z x : Value) (X y : Nat) (o ox : Option Nat) (hz : Stor w z o) (hx : IsNat w x X ox) (hn : (digs X).length ≤ 900) (hy : y < WB) (hy0 : 0 < y) :
    Calls Tryz.prog 157 #[z, x, .int .u64 y] w fun e w' => ∃ r, e = .returned (.tuple #[r, .int .u64 ((X % y : Nat) : Int)]) ∧ NatRes w w' o r (X / y) := by
  have e0 := int_eq0 hy0
  by_cases h1 : y = 1
  · subst h1
    have hs := set_c w z x X o ox hz hx (by omega)
    obtain ⟨px, cx, rfl, _, _⟩ := hx.shape
    obtain ⟨pz, lz, cz, rfl⟩ := stor_slice hz
    clear hz hx
    go_enter Tryz.func157, Tryz.ntmps157
    go_wp2_with fail
    refine hs.mono ?_
    rintro e w1 ⟨v, rfl, hr⟩
    go_wp2
    go_ret2
    rw [Nat.mod_one, Nat.div_one]
    exact ⟨_, rfl, hr⟩
  have e1 : ((y : Int) == 1) = false := by rw [beq_eq_false_iff_ne]; omega
  by_cases h0 : X = 0
  · subst h0
    obtain ⟨px, cx, rfl, _, _⟩ := hx.shape
    obtain ⟨p, l, c, rfl, hl, hc, hr⟩ := NatRes.zero hz
    rw [digs_zero]
    replace hr := Lib.hid hr
    clear hz hx
    go_enter Tryz.func157, Tryz.ntmps157
    go_wp2
    go_ret2
    rw [Nat.zero_mod, Nat.zero_div]
    exact ⟨_, rfl, hr.out⟩
  obtain ⟨bx, cx, Cx, rfl, rfl, hax, hcx, hcapx, htx, hlx, hpx⟩ := hx.pos h0
  have hmk := make_c w z o hz (digs X).length (by omega) (by omega)
  obtain ⟨pz, lz, cz, rfl⟩ := stor_slice hz
  have hvX : val (digs X) = X := val_digs X
  generalize hXL : digs X = XL at *
  obtain ⟨m, hm⟩ : ∃ m, XL.length = m + 1 := ⟨XL.length - 1, by omega⟩
  rw [hm] at hmk hx htx hlx ⊢
  have hlen : m + 1 ≤ 900 := by omega
  have e2 : (((m : Int) + 1) == 0) = false := by rw [beq_eq_false_iff_ne]; omega
  have htx0 : (Cx.drop 0).take (m + 1) = XL := htx
  replace hvX := Lib.hid hvX
  replace hXL := Lib.hid hXL
  replace htx := Lib.hid htx
  replace htx0 := Lib.hid htx0
  replace hm := Lib.hid hm
  clear hz hx hn hpx
  go_enter Tryz.func157, Tryz.ntmps157
  go_wp2_with fail
  have hmk' : Calls Tryz.prog 154 #[.slice pz lz cz, .int .i64 ((m : Int) + 1)] w fun e w' => ∃ r, e = .returned r ∧ MakeRes w w' o r (m + 1) := by exact_mod_cast hmk
  refine hmk'.mono ?_
  rintro e w1 ⟨r, rfl, b, cap, C, rfl, ha, hC, hnc, hcap, hb, hchg⟩
  have hax1 := hchg.arr hax (fun h => h)
  have hb2 : o = some b ∨ w.heap.size = b := hb.imp (·.1) id
  have hd := divWVW_c w1 b 0 m cap bx 0 cx y C Cx (by omega) hy hy0 ha (by omega) hax1 (by omega) (.inr (Nat.le_refl _))
  rw [htx0.out, hvX.out] at hd
  clear hmk hmk' hb
  go_wp2_with fail
  refine hd.mono ?_
  rintro e w2 ⟨R, rfl, hS, hR, hv⟩
  have hnm := fun w' (ha : Arr w' b (spl C 0 R)) => norm_spl w' b (m + 1) cap C R ha hC hR hnc hcap.2
  clear hd
  replace hv := Lib.hid hv
  go_wp2_with fail
  refine (hnm _ hS.arr).mono ?_
  rintro e w6 ⟨rfl, hw⟩
  obtain rfl := hw
  go_wp2
  go_ret2
  have hfin := natRes_spl hb2 hchg hS hC (by omega) hcap
  rw [hv.out] at hfin
  rw [hv.out]
  exact ⟨_, rfl, hfin⟩

theorem greaterThan_c (x1 x2 y1 y2 : Nat) (w : World) :
    Calls Tryz.prog 216 #[.int .u64 x1, .int .u64 x2, .int .u64 y1, .int .u64 y2] w fun e w' => e = .returned (.bool (decide (y1 < x1 ∨ x1 = y1 ∧ y2 < x2))) ∧ w = w' := by
  by_cases h1 : y1 < x1
  · go_enter Tryz.func216, Tryz.ntmps216
    go_wp2
    go_ret
    exact ⟨by simp [h1], rfl⟩
  · by_cases h2 : x1 = y1
    · subst h2
      by_cases h3 : y2 < x2
      · go_enter Tryz.func216, Tryz.ntmps216
        go_wp2
        go_ret
        exact ⟨by simp [h3], rfl⟩
      · go_enter Tryz.func216, Tryz.ntmps216
        go_wp2
        go_ret
        exact ⟨by simp [h3], rfl⟩
    · have e : ((x1 : Int) == (y1 : Int)) = false := by rw [beq_eq_false_iff_ne]; omega
      go_enter Tryz.func216, Tryz.ntmps216
      go_wp2
      go_ret
      exact ⟨by simp [h1, h2], rfl⟩
end Go.Proofs.YtgdpljjmnmapmaaGreatDoor

namespace Go.Proofs.YtgdpljjmnmapmaaGreatDoor
open Go Go.RowKit

theorem infoWall : ∃ i, Tryz.prog.info? 133 = some i ∧ i.zero = some (.int .u64 0) ∧ i.size = 1 ∧ i.bytes = 8 := by
  have h := makeZ
  cases hi : Tryz.prog.info? 133 with
  | none => rw [hi] at h; cases h
  | some i =>
    rw [hi] at h
    simp only [Option.map_some, Option.some.injEq, Prod.mk.injEq] at h
    exact ⟨i, rfl, h⟩
theorem zeroCellsW (n : Nat) : Builtin.zeroCells (Value.int .u64 0).cells n = ((List.replicate n 0).map uw).toArray := by
  unfold Builtin.zeroCells
  apply Array.ext
  · simp [Value.cells]
  · intro j h1 h2
    simp [Value.cells, uw, Nat.mod_one]
/-- k noughts are added to a row that has no room for them: a new row. -/
theorem run_growW (w : World) (T ty : TypeId) (hT : Tryz.prog.underlying T = some (.slice 133)) (h3 : Tryz.prog.underlying 3 = some (.int .i64)) (base : Option Addr) (l c k : Nat) (L : List Nat)
    (hold : (base = none ∧ l = 0 ∧ L = []) ∨ ∃ b, base = some ⟨b, 0, none⟩ ∧ Arr w b L) (hl : l = L.length) (hk : 0 < k) (hg : c < l + k) (hsm : l + k ≤ 1000000) :
    (Builtin.append_ #[T, 3] ty #[.slice base l c, .int .i64 (k : Int)]).run Tryz.prog w =
      .ok (.slice (some ⟨w.heap.size, 0, none⟩) (l + k) (grownCap w (l + k) c 133)) (w.drew.alloc (.cells ((L ++ List.replicate (grownCap w (l + k) c 133 - l) 0).map uw).toArray 133 (0, 0))) := by
  obtain ⟨i, hi, hz, hs, hb⟩ := infoWall
  have hfc : (Builtin.firstCells i.size l (.slice base l c)).run Tryz.prog w.drew = .ok (L.map uw).toArray w.drew := by
    rcases hold with ⟨rfl, rfl, rfl⟩ | ⟨b, rfl, ha⟩
    · exact run_firstCells_none _ _ _ _ _
    · rw [hs]
      refine run_firstCells_some w.drew 1 l ⟨b, 0, none⟩ l c (L.map uw) (by simp; omega) ?_
      intro j v hv
      rw [List.getElem?_map] at hv
      have hj : j < L.length := by
        rcases Nat.lt_or_ge j L.length with h | h
        · exact h
        · rw [List.getElem?_eq_none h] at hv; cases hv
      rw [get_nth hj] at hv
      simp only [Option.map_some, Option.some.injEq] at hv
      subst hv
      have e : (⟨b, 0, none⟩ : Addr).add j = ⟨b, 0 + j, none⟩ := by unfold Addr.add; split <;> simp_all
      rw [e, Nat.zero_add]
      exact ha.cellN hj
  have hge := grownCap_ge w (l + k) c 133
  have h := Lib.run_append_grow_zeros w T 3 ty 133 i _ .i64 .i64 hT h3 hi hz base l c (L.map uw) hfc k hk (by omega) hg (by omega) (by rw [hb]; omega) (by
    rw [hb]; exact growslice_fits hg (by omega))
  rw [h, zeroCellsW, zeroCellsW]
  have e2 : (L.map uw).toArray ++ ((List.replicate k 0).map uw).toArray ++ ((List.replicate (grownCap w (l + k) c 133 - (l + k)) 0).map uw).toArray = ((L ++ List.replicate (grownCap w (l + k) c 133 - l) 0).map uw).toArray := by
    generalize grownCap w (l + k) c 133 = G at hge ⊢
    have e : List.replicate (G - l) 0 = List.replicate k 0 ++ List.replicate (G - (l + k)) 0 := by
      have e0 : G - l = k + (G - (l + k)) := by omega
      rw [List.replicate_append_replicate, e0]
    rw [e]
    simp
  rw [e2]

theorem arr_alloc {w : World} {C : List Nat} {a : Array Value} (hC : Wd C) (h : a = (C.map uw).toArray) : Arr (w.alloc (.cells a 133 (0, 0))) w.heap.size C := by
  subst h
  refine ⟨?_, hC⟩
  show (w.heap.push _)[w.heap.size]? = _
  rw [Array.getElem?_push, if_pos rfl]

set_option maxHeartbeats 1000000 in
theorem grow287_c (w : World) (n : Nat) (hn0 : 0 < n) (hn : n ≤ 1000) :
    Calls Tryz.prog 213 #[.slice none 0 0, .int .i64 n] w fun e w' => ∃ G, n ≤ G ∧ e = .returned (.slice (some ⟨w.heap.size, 0, none⟩) 0 G) ∧ Chg w w' (fun _ => False) ∧ Arr w' w.heap.size (List.replicate G 0) ∧ w'.heap.size = w.heap.size + 1 := by
  have hr := fun ty => run_growW w 58 ty Tryz.underlying58 Tryz.underlying3 none 0 0 n [] (.inl ⟨rfl, rfl, rfl⟩) rfl hn0 (by omega) (by omega)
  have hG := grownCap_ge w (0 + n) 0 133
  obtain ⟨G, hGe⟩ : ∃ G, G = grownCap w (0 + n) 0 133 := ⟨_, rfl⟩
  have hG63 : G ≤ 9223372036854775807 := by
    have := grownCap_le_maxLen w (0 + n) 0 133 (by unfold maxLen; omega)
    rw [← hGe] at this
    unfold maxLen at this
    omega
  rw [← hGe] at hr hG
  simp only [Nat.zero_add, List.nil_append, Nat.sub_zero] at hr hG
  replace hGe := Lib.hid hGe
  have e1 : (0 : Int) < (n : Int) := by omega
  go_enter Tryz.func213, Tryz.ntmps213
  go_wp2_with (at_builtin; refine Lib.wpList_append_run _ rfl _ _ _ _ rfl _ _ rfl rfl _ _ (hr _) ?_)
  all_goals
    go_ret
    refine ⟨G, hG, rfl, ((Chg.refl w _).alloc _).drew, ?_, by simp⟩
    have := arr_alloc (w := w) (C := List.replicate G 0) (a := Array.replicate G (uw 0)) (Wd.zeros G) (by simp)
    exact ⟨this.heap, this.wd⟩

set_option maxHeartbeats 1000000 in
/-- slices.Grow where there is room. -/
theorem grow313_room (w : World) (b l c n : Nat) (hlc : l ≤ c) (hc : c ≤ 9223372036854775807) (hn : n ≤ 1000) (hr : l + n ≤ c) :
    Calls Tryz.prog 237 #[.slice (some ⟨b, 0, none⟩) l c, .int .i64 n] w fun e w' => e = .returned (.slice (some ⟨b, 0, none⟩) l c) ∧ w = w' := by
  have h2 : IntKind.i64.wrap ((c : Int) - (l : Int)) = (c : Int) - (l : Int) := IntWalk.i64_in _ (by omega)
  have h3 : IntKind.i64.wrap ((n : Int) - ((c : Int) - (l : Int))) = (n : Int) - ((c : Int) - (l : Int)) := IntWalk.i64_in _ (by omega)
  have h4 : ¬ (0 : Int) < ((n : Int) - ((c : Int) - (l : Int))) := by omega
  go_enter Tryz.func237, Tryz.ntmps237
  go_wp2
  go_ret
  exact ⟨rfl, rfl⟩
set_option maxHeartbeats 1000000 in
theorem grow313_nil (w : World) (n : Nat) (hn0 : 0 < n) (hn : n ≤ 1000) :
    Calls Tryz.prog 237 #[.slice none 0 0, .int .i64 n] w fun e w' => ∃ G, n ≤ G ∧ G ≤ 9223372036854775807 ∧ e = .returned (.slice (some ⟨w.heap.size, 0, none⟩) 0 G) ∧ Chg w w' (fun _ => False) ∧ Arr w' w.heap.size (List.replicate G 0) ∧ w'.heap.size = w.heap.size + 1 := by
  have hr := fun ty => run_growW w 57 ty Tryz.underlying57 Tryz.underlying3 none 0 0 n [] (.inl ⟨rfl, rfl, rfl⟩) rfl hn0 (by omega) (by omega)
  have hG := grownCap_ge w (0 + n) 0 133
  obtain ⟨G, hGe⟩ : ∃ G, G = grownCap w (0 + n) 0 133 := ⟨_, rfl⟩
  have hG63 : G ≤ 9223372036854775807 := by
    have := grownCap_le_maxLen w (0 + n) 0 133 (by unfold maxLen; omega)
    rw [← hGe] at this
    unfold maxLen at this
    omega
  rw [← hGe] at hr hG
  simp only [Nat.zero_add, List.nil_append, Nat.sub_zero] at hr hG
  replace hGe := Lib.hid hGe
  have e1 : (0 : Int) < (n : Int) := by omega
  go_enter Tryz.func237, Tryz.ntmps237
  go_wp2_with (at_builtin; refine Lib.wpList_append_run _ rfl _ _ _ _ rfl _ _ rfl rfl _ _ (hr _) ?_)
  all_goals
    go_ret
    refine ⟨G, hG, hG63, rfl, ((Chg.refl w _).alloc _).drew, ?_, by simp⟩
    have := arr_alloc (w := w) (C := List.replicate G 0) (a := Array.replicate G (uw 0)) (Wd.zeros G) (by simp)
    exact ⟨this.heap, this.wd⟩
set_option maxHeartbeats 1000000 in
/-- slices.Grow where there is none: a new row with the old words at its head. -/
theorem grow313_new (w : World) (b l c n : Nat) (C : List Nat) (ha : Arr w b C) (hC : C.length = c) (hlc : l ≤ c) (hc : c ≤ 900000) (hn : n ≤ 1000) (hr : c < l + n) :
    Calls Tryz.prog 237 #[.slice (some ⟨b, 0, none⟩) l c, .int .i64 n] w fun e w' => ∃ G, l + n ≤ G ∧ G ≤ 9223372036854775807 ∧ e = .returned (.slice (some ⟨w.heap.size, 0, none⟩) l G) ∧ Chg w w' (fun _ => False) ∧ Arr w' w.heap.size (C ++ List.replicate (G - c) 0) ∧ w'.heap.size = w.heap.size + 1 := by
  have hrn := fun ty => run_growW w 57 ty Tryz.underlying57 Tryz.underlying3 (some ⟨b, 0, none⟩) c c (l + n - c) C (.inr ⟨b, rfl, ha⟩) hC.symm (by omega) (by omega) (by omega)
  rw [show c + (l + n - c) = l + n by omega] at hrn
  have hG := grownCap_ge w (l + n) c 133
  obtain ⟨G, hGe⟩ : ∃ G, G = grownCap w (l + n) c 133 := ⟨_, rfl⟩
  have hG63 : G ≤ 9223372036854775807 := by
    have := grownCap_le_maxLen w (l + n) c 133 (by unfold maxLen; omega)
    rw [← hGe] at this
    unfold maxLen at this
    omega
  rw [← hGe] at hrn hG
  replace hGe := Lib.hid hGe
  have hk : ((l + n - c : Nat) : Int) = (n : Int) - ((c : Int) - (l : Int)) := by omega
  rw [hk] at hrn
  have h2 : IntKind.i64.wrap ((c : Int) - (l : Int)) = (c : Int) - (l : Int) := IntWalk.i64_in _ (by omega)
  have h3 : IntKind.i64.wrap ((n : Int) - ((c : Int) - (l : Int))) = (n : Int) - ((c : Int) - (l : Int)) := IntWalk.i64_in _ (by omega)
  have h4 : (0 : Int) < ((n : Int) - ((c : Int) - (l : Int))) := by omega
  have hlG : l ≤ G := by omega
  go_enter Tryz.func237, Tryz.ntmps237
  go_wp2_with (at_builtin; refine Lib.wpList_append_run _ rfl _ _ _ _ rfl _ _ rfl rfl _ _ (hrn _) ?_)
  all_goals
    go_ret
    refine ⟨G, hG, hG63, rfl, ((Chg.refl w _).alloc _).drew, ?_, by simp⟩
    have := arr_alloc (w := w) (C := C ++ List.replicate (G - c) 0) (a := (C.map uw ++ List.replicate (G - c) (uw 0)).toArray) (ha.wd.append (Wd.zeros _)) (by simp)
    exact ⟨this.heap, this.wd⟩
end Go.Proofs.YtgdpljjmnmapmaaGreatDoor

namespace Go.Proofs.YtgdpljjmnmapmaaGreatDoor
open Go Go.RowKit

def r4 (n : Nat) : Nat := (n + 3) / 4 * 4
theorem r4_ge (n : Nat) : n ≤ r4 n := by unfold r4; omega
theorem r4_le (n : Nat) : r4 n ≤ n + 3 := by unfold r4; omega
theorem andNot_all : (List.range 901).all (fun n => decide (bits .andNot .i64 ((n : Int) + 3) 3 = ((r4 n : Nat) : Int))) = true := by kernel_rfl
@[go_sem ↓ high] theorem bits_andNot3 (n : Nat) (h : n ≤ 900) : bits .andNot .i64 ((n : Int) + 3) 3 = (r4 n : Int) := by
  have := List.all_eq_true.1 andNot_all n (List.mem_range.2 (by omega))
  exact of_decide_eq_true this

theorem cell1 {w : World} {b : Nat} {v : Value} {T : TypeId} (h : w.heap[b]? = some (.cells #[v] T (0, 0))) : w.cell? ⟨b, 0, none⟩ = some v := by
  unfold World.cell?; simp [h]
theorem frozen1 {w : World} {b : Nat} {v : Array Value} {T : TypeId} (h : w.heap[b]? = some (.cells v T (0, 0))) (i : Nat) : w.frozen? ⟨b, i, none⟩ = false := by
  unfold World.frozen?; rw [h]; simp
theorem set1 {w : World} {b : Nat} {v v' : Value} {T : TypeId} (h : w.heap[b]? = some (.cells #[v] T (0, 0))) : (w.setCell ⟨b, 0, none⟩ v').heap[b]? = some (.cells #[v'] T (0, 0)) := by
  simp only [World.setCell, Array.getElem?_modify, if_true, h, Option.map_some]
  simp
theorem chg_set (w : World) (b i : Nat) (v : Value) : Chg w (w.setCell ⟨b, i, none⟩ v) (fun k => k = b) :=
  ⟨rfl, rfl, rfl, by rw [World.size_setCell]; exact Nat.le_refl _, fun k _ hn => Below.heap_setCell _ _ _ _ hn⟩
theorem lt_of_heap {w : World} {b : Nat} {o : Obj} (h : w.heap[b]? = some o) : b < w.heap.size := by
  rcases Nat.lt_or_ge b w.heap.size with h' | h'
  · exact h'
  · rw [Array.getElem?_eq_none h'] at h; cases h
theorem Chg.heap {w w' : World} {S : Nat → Prop} (h : Chg w w' S) {b : Nat} {o : Obj} (hb : w.heap[b]? = some o) (hn : ¬ S b) : w'.heap[b]? = some o := by
  rw [h.block b (lt_of_heap hb) hn]; exact hb
theorem Arr.ne {w : World} {b t : Nat} {C : List Nat} {cs : Array Value} {T : TypeId} (ha : Arr w b C) (ht : w.heap[t]? = some (.cells cs T (0, 0))) (hT : T ≠ 133) : b ≠ t := by
  rintro rfl
  have := ha.heap
  rw [ht] at this
  simp only [Option.some.injEq, Obj.cells.injEq] at this
  exact hT this.2.1

/-- A stack that holds nothing. -/
def Stk0 (w : World) (s : Nat) : Prop := w.heap[s]? = some (.cells #[.pointer none] 201 (0, 0))
/-- A stack (block s) with its row of words (block b, in use up to l) behind block t. -/
structure Stk1 (w : World) (s t b l c : Nat) (C : List Nat) : Prop where
  hs : w.heap[s]? = some (.cells #[.pointer (some ⟨t, 0, none⟩)] 201 (0, 0))
  ht : w.heap[t]? = some (.cells #[.slice (some ⟨b, 0, none⟩) l c] 224 (0, 0))
  hb : Arr w b C
  hl : l ≤ c
  hC : C.length = c
  hc : c ≤ 9223372036854775807

theorem getStack_c (w : World) : Calls Tryz.prog 160 #[] w fun e w' => e = .returned (.pointer (some ⟨w.heap.size, 0, none⟩)) ∧ Stk0 w' w.heap.size ∧ Chg w w' (fun _ => False) := by
  go_enter Tryz.func160, Tryz.ntmps160
  go_wp2
  go_ret
  refine ⟨rfl, ?_, (Chg.refl w _).alloc _⟩
  show (w.heap.push _)[w.heap.size]? = _
  rw [Array.getElem?_push, if_pos rfl]
theorem save0 (w : World) (s : Nat) (h : Stk0 w s) : Calls Tryz.prog 180 #[.pointer (some ⟨s, 0, none⟩)] w fun e w' => e = .returned (.int .i64 0) ∧ w = w' := by
  have hc := cell1 h
  go_enter Tryz.func180, Tryz.ntmps180
  go_wp2
  go_ret
  exact ⟨rfl, rfl⟩
theorem save1 (w : World) (s t b l c : Nat) (C : List Nat) (h : Stk1 w s t b l c C) : Calls Tryz.prog 180 #[.pointer (some ⟨s, 0, none⟩)] w fun e w' => e = .returned (.int .i64 l) ∧ w = w' := by
  have hc := cell1 h.hs
  have hc2 := cell1 h.ht
  have hi : Calls Tryz.prog 211 #[.pointer (some ⟨t, 0, none⟩)] w fun e w' => e = .returned (.int .i64 l) ∧ w = w' := by
    go_enter Tryz.func211, Tryz.ntmps211
    go_wp2
    go_ret
    exact ⟨rfl, rfl⟩
  clear hc2
  go_enter Tryz.func180, Tryz.ntmps180
  go_wp2_with fail
  refine hi.mono ?_
  rintro e w' ⟨rfl, hw⟩
  obtain rfl := hw
  go_wp2
  go_ret
  exact ⟨rfl, rfl⟩
theorem restore0 (w : World) (s n : Nat) (u : FrameMode) (h : Stk0 w s) : CallsD Tryz.prog 179 #[.pointer (some ⟨s, 0, none⟩), .int .i64 n] u w fun e u' w' => u' = u ∧ e = .returned (.tuple #[]) ∧ w = w' := by
  have hc := cell1 h
  go_enter_d Tryz.func179, Tryz.ntmps179
  go_wp2
  exact bodyPost_ret (results_none rfl _ _ _) rfl ⟨rfl, rfl⟩
theorem restore1 (w : World) (s t b l c n : Nat) (C : List Nat) (u : FrameMode) (h : Stk1 w s t b l c C) (hn : n ≤ c) :
    CallsD Tryz.prog 179 #[.pointer (some ⟨s, 0, none⟩), .int .i64 n] u w fun e u' w' => u' = u ∧ e = .returned (.tuple #[]) ∧ w' = w.setCell ⟨t, 0, none⟩ (.slice (some ⟨b, 0, none⟩) n c) := by
  have hc := cell1 h.hs
  have hc2 := cell1 h.ht
  have hf2 := frozen1 h.ht 0
  have hcc := h.hc
  have hi : Calls Tryz.prog 210 #[.pointer (some ⟨t, 0, none⟩), .int .i64 n] w fun e w' => e = .returned (.tuple #[]) ∧ w' = w.setCell ⟨t, 0, none⟩ (.slice (some ⟨b, 0, none⟩) n c) := by
    go_enter Tryz.func210, Tryz.ntmps210
    go_wp2
    exact bodyPost_end (results_none rfl _ _ _) rfl ⟨rfl, rfl⟩
  clear hc2 hf2 hcc
  go_enter_d Tryz.func179, Tryz.ntmps179
  go_wp2_with fail
  refine hi.mono ?_
  rintro e w' ⟨rfl, rfl⟩
  go_wp2
  exact bodyPost_end (results_none rfl _ _ _) rfl ⟨rfl, rfl⟩
theorem free0 (w : World) (s : Nat) (u : FrameMode) (h : Stk0 w s) : CallsD Tryz.prog 161 #[.pointer (some ⟨s, 0, none⟩)] u w fun e u' w' => u' = u ∧ e = .returned (.tuple #[]) ∧ w = w' := by
  have hc := cell1 h
  go_enter_d Tryz.func161, Tryz.ntmps161
  go_wp2
  exact bodyPost_end (results_none rfl _ _ _) rfl ⟨rfl, rfl⟩
theorem free1 (w : World) (s t b l c : Nat) (C : List Nat) (u : FrameMode) (h : Stk1 w s t b l c C) :
    CallsD Tryz.prog 161 #[.pointer (some ⟨s, 0, none⟩)] u w fun e u' w' => u' = u ∧ e = .returned (.tuple #[]) ∧ w' = w.setCell ⟨t, 0, none⟩ (.slice (some ⟨b, 0, none⟩) 0 c) := by
  have hc := cell1 h.hs
  have hc2 := cell1 h.ht
  have hf2 := frozen1 h.ht 0
  have hcc := h.hc
  have hi : Calls Tryz.prog 178 #[.pointer (some ⟨t, 0, none⟩)] w fun e w' => e = .returned (.tuple #[]) ∧ w' = w.setCell ⟨t, 0, none⟩ (.slice (some ⟨b, 0, none⟩) 0 c) := by
    go_enter Tryz.func178, Tryz.ntmps178
    go_wp2
    exact bodyPost_end (results_none rfl _ _ _) rfl ⟨rfl, rfl⟩
  clear hc2 hf2 hcc
  go_enter_d Tryz.func161, Tryz.ntmps161
  go_wp2_with fail
  refine hi.mono ?_
  rintro e w' ⟨rfl, rfl⟩
  go_wp2
  exact bodyPost_end (results_none rfl _ _ _) rfl ⟨rfl, rfl⟩

/-- A place of at most four words from a stack that holds nothing. -/
theorem stkSmall (w : World) (s n : Nat) (h : Stk0 w s) (hn0 : 0 < n) (hn : n ≤ 4) :
    Calls Tryz.prog 182 #[.pointer (some ⟨s, 0, none⟩), .int .i64 n] w fun e w' => ∃ b G C, e = .returned (.slice (some ⟨b, 0, none⟩) n G) ∧ w.heap.size ≤ b ∧ Arr w' b C ∧ n ≤ C.length ∧ n ≤ G ∧ Chg w w' (fun _ => False) := by
  have hc := cell1 h
  have hg := grow287_c w n hn0 (by omega)
  have e1 : (0 : Int) < (n : Int) := by omega
  clear h
  go_enter Tryz.func182, Tryz.ntmps182
  go_wp2_with fail
  refine hg.mono ?_
  rintro e w1 ⟨G, hG, rfl, hchg, ha, _⟩
  have hz1 := ha.cellN (i := 0) (by simp; omega)
  have hz2 := ha.frozen 0
  go_wp2
  go_ret
  have hx : (11259375 : Nat) < WB := by rw [WB_eq]; decide
  have hS := (Sub.refl ha).set (i := 0) 11259375 hx
  refine ⟨w.heap.size, G, _, rfl, Nat.le_refl _, hS.arr, by simp; omega, hG, hchg.trans (hS.chg.mono ?_)⟩
  rintro k _ rfl
  exact .inr (Nat.le_refl _)
end Go.Proofs.YtgdpljjmnmapmaaGreatDoor
