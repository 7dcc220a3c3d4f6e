/- nat: the wrappers of the rows, add, sub. nat: sub. -/
import Derived.Test.YtlnillnngckegaaGreatDoorM08
namespace Go.Proofs.YtlnillnngckegaaGreatDoor
open Go Go.RowKit

theorem int_eq0 {n : Nat} (h : 0 < n) : ((n : Int) == 0) = false := by rw [beq_eq_false_iff_ne]; omega
theorem digs_len_pos {n : Nat} (h : n ≠ 0) : 0 < (digs n).length := Nat.pos_of_ne_zero (mt digs_len_eq_zero.1 h)
/-- A call that only hands its arguments on. -/
theorem addVV_c (w : World) (bz oz n cz bx ox cx by_ oy cy : Nat) (Cz X Y : List Nat) (hn : n < 1000000)
    (hz : Arr w bz Cz) (hzl : oz + n ≤ Cz.length) (hX : X.length = n) (hY : Y.length = n) (WX : Wd X) (WY : Wd Y)
    (hx : Rd w bz oz n Cz bx ox X) (hy : Rd w bz oz n Cz by_ oy Y) :
    Calls Tryz.prog 169 #[.slice (some ⟨bz, oz, none⟩) n cz, .slice (some ⟨bx, ox, none⟩) n cx, .slice (some ⟨by_, oy, none⟩) n cy] w fun e w' =>
      ∃ R c, e = .returned (.int .u64 ((c : Nat) : Int)) ∧ Sub w w' bz (spl Cz oz R) ∧ R.length = n ∧ c ≤ 1 ∧ val R + WB ^ n * c = val X + val Y := by
  have hc := addVV_g_c w bz oz n cz bx ox cx by_ oy cy Cz X Y hn hz hzl hX hY WX WY hx hy
  go_enter Tryz.func169, Tryz.ntmps169
  go_wp2_with fail
  refine hc.mono ?_
  rintro e w' ⟨R, c, rfl, h⟩
  go_wp2
  go_ret
  exact ⟨R, c, rfl, h⟩
theorem subVV_c (w : World) (bz oz n cz bx ox cx by_ oy cy : Nat) (Cz X Y : List Nat) (hn : n < 1000000)
    (hz : Arr w bz Cz) (hzl : oz + n ≤ Cz.length) (hX : X.length = n) (hY : Y.length = n) (WX : Wd X) (WY : Wd Y)
    (hx : Rd w bz oz n Cz bx ox X) (hy : Rd w bz oz n Cz by_ oy Y) :
    Calls Tryz.prog 171 #[.slice (some ⟨bz, oz, none⟩) n cz, .slice (some ⟨bx, ox, none⟩) n cx, .slice (some ⟨by_, oy, none⟩) n cy] w fun e w' =>
      ∃ R c, e = .returned (.int .u64 ((c : Nat) : Int)) ∧ Sub w w' bz (spl Cz oz R) ∧ R.length = n ∧ Wd R ∧ c ≤ 1 ∧ val X + WB ^ n * c = val R + val Y := by
  have hc := subVV_g_c w bz oz n cz bx ox cx by_ oy cy Cz X Y hn hz hzl hX hY WX WY hx hy
  go_enter Tryz.func171, Tryz.ntmps171
  go_wp2_with fail
  refine hc.mono ?_
  rintro e w' ⟨R, c, rfl, h⟩
  go_wp2
  go_ret
  exact ⟨R, c, rfl, h⟩

theorem natRes_spl {w w1 w2 : World} {o : Option Nat} {b cap : Nat} {C L : List Nat} (hb : o = some b ∨ w.heap.size = b) (hc : Chg w w1 (fun _ => False)) (hS : Sub w1 w2 b (spl C 0 L))
    (hC : C.length = cap) (hn : L.length ≤ cap) (hcap : 0 < cap ∧ cap ≤ 1000000) : NatRes w w2 o (.slice (some ⟨b, 0, none⟩) (digs (val L)).length cap) (val L) := by
  have h1 := isNat_of (l := L.length) hS.arr (by rw [spl_length (by omega), hC]) hcap hn
  rw [spl_zero_take (by omega)] at h1
  refine ⟨some b, h1, ?_, (hc.mono (fun _ _ h => h.elim)).trans (hS.chg.mono ?_)⟩
  · rcases hb with h | h
    · exact .inl h.symm
    · exact .inr (.inr ⟨b, rfl, by omega⟩)
  · rintro k _ rfl
    rcases hb with h | h
    · exact .inl h.symm
    · exact .inr (by omega)
/-- The words are brought to a number. -/
theorem norm_spl (w : World) (b l cap : Nat) (C L : List Nat) (hb : Arr w b (spl C 0 L)) (hC : C.length = cap) (hl : L.length = l) (hlc : l ≤ cap) (hn : cap ≤ 1000000) :
    Calls Tryz.prog 100 #[.slice (some ⟨b, 0, none⟩) l cap] w fun e w' => e = .returned (.slice (some ⟨b, 0, none⟩) (digs (val L)).length cap) ∧ w = w' := by
  have h := norm_c w b l cap (spl C 0 L) hb (by rw [spl_length (by omega)]; omega) hlc (by omega)
  rw [← hl] at h ⊢
  rw [spl_zero_take (by omega)] at h
  exact h

theorem spl_zero_drop {C R : List Nat} (_h : R.length ≤ C.length) : (spl C 0 R).drop R.length = C.drop R.length := by
  unfold spl; simp
theorem take_eq_of {C L : List Nat} (h : C.take L.length = L) {n : Nat} (hn : n ≤ L.length) : C.take n = L.take n := by
  rw [← h, List.take_take, Nat.min_eq_left hn]
theorem dt_eq_of {C L : List Nat} {m n : Nat} (h : C.take L.length = L) (hm : L.length = m) : (C.drop n).take (m - n) = L.drop n := by
  conv => rhs; rw [← h, hm]
  rw [List.drop_take]

set_option maxRecDepth 100000 in
set_option maxHeartbeats 2000000 in
theorem natadd_ge (w : World) (z x y : Value) (X Y : Nat) (o ox oy : Option Nat) (hz : Stor w z o) (hx : IsNat w x X ox) (hy : IsNat w y Y oy) (hn : (digs X).length ≤ 900) (hge : (digs Y).length ≤ (digs X).length) :
    Calls Tryz.prog 140 #[z, x, y] w fun e w' => ∃ r, e = .returned r ∧ NatRes w w' o r (X + Y) := by
  by_cases h0 : X = 0
  · subst h0
    have hY : Y = 0 := by rw [digs_zero] at hge; exact digs_len_eq_zero.1 (by simpa using hge)
    subst hY
    obtain ⟨px, cx, rfl, _, _⟩ := hx.shape
    obtain ⟨py, cy, rfl, _, _⟩ := hy.shape
    obtain ⟨p, l, c, rfl, hl, hc, hr⟩ := NatRes.zero hz
    rw [digs_zero] at *
    replace hr := Lib.hid hr
    clear hz hx hy
    go_enter Tryz.func140, Tryz.ntmps140
    go_wp2
    go_ret
    exact ⟨_, rfl, hr.out⟩
  by_cases h1 : Y = 0
  · subst h1
    have hs := set_c w z x X o ox hz hx (by omega)
    have hle : (digs X).length ≤ 900 := hn
    clear hge
    obtain ⟨px, cx, rfl, _, _⟩ := hx.shape
    obtain ⟨py, cy, rfl, _, _⟩ := hy.shape
    have hpos := int_eq0 (digs_len_pos h0)
    rw [digs_zero]
    clear hz hx hy
    go_enter Tryz.func140, Tryz.ntmps140
    go_wp2_with fail
    refine hs.mono ?_
    rintro e w1 ⟨r, rfl, hr⟩
    go_wp2
    go_ret
    exact ⟨_, rfl, by simpa using hr⟩
  obtain ⟨bx, cx, Cx, rfl, rfl, hax, hcx, hcapx, htx, hlx, hpx⟩ := hx.pos h0
  obtain ⟨by_, cy, Cy, rfl, rfl, hay, hcy, hcapy, hty, hly, hpy⟩ := hy.pos h1
  have hmk := make_c w z o hz ((digs X).length + 1) (by omega) (by omega)
  have hvX : val (digs X) = X := val_digs X
  have hvY : val (digs Y) = Y := val_digs Y
  have hwX := Wd_digs X
  have hwY := Wd_digs Y
  generalize hXL : digs X = XL at *
  generalize hYL : digs Y = YL at *
  generalize hm : XL.length = m at *
  generalize hn' : YL.length = n at *
  have hmk' : Calls Tryz.prog 127 #[z, .int .i64 ((m : Int) + 1)] w fun e w' => ∃ r, e = .returned r ∧ MakeRes w w' o r (m + 1) := by exact_mod_cast hmk
  have e1 : ((m : Int) == 0) = false := by simp; omega
  have e2 : ((n : Int) == 0) = false := by simp; omega
  have e3 : ¬ m < n := by omega
  have k1 : n ≤ cx := by omega
  have k2 : n ≤ cy := by omega
  have k3 : m ≤ cx := by omega
  replace hvX := Lib.hid hvX
  replace hvY := Lib.hid hvY
  replace hm := Lib.hid hm
  replace hn' := Lib.hid hn'
  replace htx := Lib.hid htx
  replace hty := Lib.hid hty
  replace hXL := Lib.hid hXL
  replace hYL := Lib.hid hYL
  clear hmk h0 h1 hx hy
  obtain ⟨pz, lz, cz, rfl⟩ : ∃ p l c, z = .slice p l c := by
    rcases hz with ⟨rfl, _⟩ | ⟨b, l, cap, C, _, rfl, _⟩
    · exact ⟨_, _, _, rfl⟩
    · exact ⟨_, _, _, rfl⟩
  go_enter Tryz.func140, Tryz.ntmps140
  go_wp2_with fail
  refine hmk'.mono ?_
  rintro e w1 ⟨r, rfl, b, cap, C, rfl, ha, hC, hnc, hcap, hb, hchg⟩
  have hax1 := hchg.arr hax (fun h => h)
  have hay1 := hchg.arr hay (fun h => h)
  have k4 : n ≤ cap := by omega
  have hhx : val ((Cx.drop 0).take n) + WB ^ n * val ((Cx.drop n).take (m - n)) = X := by
    have h1 := hvX.out
    rw [List.drop_zero, take_eq_of (L := XL) (by rw [hm.out]; exact htx.out) (by rw [hm.out]; omega), dt_eq_of (L := XL) (by rw [hm.out]; exact htx.out) hm.out, ← val_take_drop XL n (by rw [hm.out]; omega)]
    exact h1
  have hhy : val ((Cy.drop 0).take n) = Y := by
    have h1 := hvY.out
    rw [List.drop_zero, hty.out]; exact h1
  replace hhx := Lib.hid hhx
  replace hhy := Lib.hid hhy
  clear hvX hvY htx hty
  go_wp2
  go_still_tail 9, (by kernel_rfl)
  change wpList _ _ _ _ _ w1.drew
  have hd : Chg w1 w1.drew (fun _ => False) := (Chg.refl w1 _).drew
  generalize w1.drew = w2 at hd ⊢
  have ha2 := hd.arr ha (fun h => h)
  have hax2 := hd.arr hax1 (fun h => h)
  have hay2 := hd.arr hay1 (fun h => h)
  have hchg2 : Chg w w2 (fun _ => False) := hchg.trans (hd.mono (fun _ _ h => h.elim))
  have hb2 : (o = some b) ∨ w.heap.size = b := hb.imp (·.1) id
  clear hd ha hax1 hay1 hchg hb
  have hadd := addVV_c w2 b 0 n cap bx 0 cx by_ 0 cy C ((Cx.drop 0).take n) ((Cy.drop 0).take n) (by omega) ha2 (by omega) (by simp; omega) (by simp; omega)
    ((hax.wd.drop _).take _) ((hay.wd.drop _).take _) (Rd.mk ha2 (by omega) hax2 (by omega) (.inr (Nat.le_refl _))) (Rd.mk ha2 (by omega) hay2 (by omega) (.inr (Nat.le_refl _)))
  go_wp2_with fail
  refine hadd.mono ?_
  rintro e w3 ⟨R, c, rfl, hS, hR, hc, hv⟩
  have hcw : c < WB := Nat.lt_of_le_of_lt hc (by rw [WB_eq]; decide)
  by_cases hmn : n < m
  · obtain ⟨d, hd⟩ : ∃ d, d + 1 = m - n := ⟨m - n - 1, by omega⟩
    have hS3 : Sub w2 w3.drew b (spl C 0 R) := hS.drew
    have hx3 : ∃ Cx', Arr w3.drew bx Cx' ∧ Cx'.drop n = Cx.drop n ∧ Cx'.length = Cx.length := by
      by_cases e : bx = b
      · subst e
        obtain rfl := ha2.inj hax2
        refine ⟨_, hS3.arr, ?_, spl_length (by omega)⟩
        have := spl_zero_drop (C := C) (R := R) (by omega)
        rwa [hR] at this
      · exact ⟨Cx, hS3.other e hax2, rfl, rfl⟩
    obtain ⟨Cx', hax3, hdx, hlx'⟩ := hx3
    have hadd2 := addVW_c w3.drew b n d (cap - n) bx n (cx - n) c (spl C 0 R) Cx' (by omega) hc hS3.arr (by rw [spl_length (by omega)]; omega) hax3 (by omega) (by
      by_cases e : bx = b
      · exact .inr ⟨e, rfl⟩
      · exact .inl e) (by omega) (by omega)
    rw [hdx, hd] at hadd2
    have t1 : ¬ cap = n := by omega
    have t2 : ¬ cx = n := by omega
    have t4 : m ≤ cap := by omega
    go_wp2
    go_still_tail 8, (by kernel_rfl)
    change wpList _ _ _ _ _ w3.drew
    go_wp2_with fail
    refine hadd2.mono ?_
    rintro e w4 ⟨R2, c2, rfl, hS2, hR2, hc2, hv2⟩
    have hcw2 : c2 < WB := Nat.lt_of_le_of_lt hc2 (by rw [WB_eq]; decide)
    have hS4 := hS3.trans hS2
    have hsp := spl_spl_next (C := C) (o := 0) (R := R) (S := R2) (by omega)
    rw [Nat.zero_add, hR] at hsp
    rw [hsp] at hS4
    have hl4 : (R ++ R2).length = m := by rw [List.length_append]; omega
    have hz1 := hS4.arr.cellN (i := m) (by rw [spl_length (by omega)]; omega)
    have hz2 := hS4.arr.frozen m
    have hS5 := hS4.next (k := m) hl4 (by omega) c2 hcw2
    rw [Nat.zero_add] at hS5
    have hv5 : val (R ++ R2 ++ [c2]) = X + Y := by
      rw [val_snoc, hl4, val_append, hR]
      have h1 := hhx.out
      have h2 := hhy.out
      have h3 : WB ^ m = WB ^ n * WB ^ (m - n) := by rw [← Nat.pow_add]; congr 1; omega
      rw [h3, Nat.mul_assoc]
      have h4 : WB ^ n * (val R2 + WB ^ (m - n) * c2) = WB ^ n * (val (List.take (m - n) (List.drop n Cx)) + c) := by rw [hv2]
      rw [Nat.mul_add, Nat.mul_add] at h4
      omega
    have hl5 : (R ++ R2 ++ [c2]).length = m + 1 := by rw [List.length_append, hl4]; rfl
    generalize R ++ R2 ++ [c2] = L at *
    have hnm := fun w' (ha : Arr w' b (spl C 0 L)) => norm_spl w' b (m + 1) cap C L ha hC hl5 hnc hcap.2
    clear hS4 hS2 hS3 hS hadd2 hax3 hadd
    go_wp2_with fail
    refine (hnm _ hS5.arr).mono ?_
    rintro e w6 ⟨rfl, hw⟩
    obtain rfl := hw
    go_wp2
    go_ret
    have := natRes_spl hb2 hchg2 hS5 hC (by omega) hcap
    rw [hv5] at this
    exact ⟨_, rfl, this⟩
  · obtain rfl : n = m := by omega
    have hz1 := hS.arr.cellN (i := n) (by rw [spl_length (by omega)]; omega)
    have hz2 := hS.arr.frozen n
    have hS5 := hS.next (k := n) hR (by omega) c hcw
    rw [Nat.zero_add] at hS5
    have hv5 : val (R ++ [c]) = X + Y := by
      rw [val_snoc, hR]
      have h1 := hhx.out
      have h2 := hhy.out
      rw [Nat.sub_self, List.take_zero, val_nil] at h1
      omega
    have hl5 : (R ++ [c]).length = n + 1 := by rw [List.length_append, hR]; rfl
    generalize R ++ [c] = L at *
    have hnm := fun w' (ha : Arr w' b (spl C 0 L)) => norm_spl w' b (n + 1) cap C L ha hC hl5 hnc hcap.2
    clear hS hadd
    go_wp2_with fail
    refine (hnm _ hS5.arr).mono ?_
    rintro e w6 ⟨rfl, hw⟩
    obtain rfl := hw
    go_wp2
    go_ret
    have := natRes_spl hb2 hchg2 hS5 hC (by omega) hcap
    rw [hv5] at this
    exact ⟨_, rfl, this⟩

set_option maxHeartbeats 400000 in
theorem natadd_c (w : World) (z x y : Value) (X Y : Nat) (o ox oy : Option Nat) (hz : Stor w z o) (hx : IsNat w x X ox) (hy : IsNat w y Y oy) (hn : (digs X).length ≤ 900) (hn2 : (digs Y).length ≤ 900) :
    Calls Tryz.prog 140 #[z, x, y] w fun e w' => ∃ r, e = .returned r ∧ NatRes w w' o r (X + Y) := by
  by_cases hge : (digs Y).length ≤ (digs X).length
  · exact natadd_ge w z x y X Y o ox oy hz hx hy hn hge
  · have hc := natadd_ge w z y x Y X o oy ox hz hy hx hn2 (by omega)
    have hlt : (digs X).length < (digs Y).length := by omega
    obtain ⟨px, cx, rfl, _, _⟩ := hx.shape
    obtain ⟨py, cy, rfl, _, _⟩ := hy.shape
    clear hz hx hy
    go_enter Tryz.func140, Tryz.ntmps140
    go_wp2_with fail
    refine hc.mono ?_
    rintro e w1 ⟨r, rfl, hr⟩
    go_wp2
    go_ret
    rw [Nat.add_comm] at hr
    exact ⟨_, rfl, hr⟩
end Go.Proofs.YtlnillnngckegaaGreatDoor

namespace Go.Proofs.YtlnillnngckegaaGreatDoor
open Go Go.RowKit

set_option maxRecDepth 100000 in
set_option maxHeartbeats 2000000 in
theorem natsub_c (w : World) (z x y : Value) (X Y : Nat) (o ox oy : Option Nat) (hz : Stor w z o) (hx : IsNat w x X ox) (hy : IsNat w y Y oy) (hn : (digs X).length ≤ 900) (hle : Y ≤ X) :
    Calls Tryz.prog 142 #[z, x, y] w fun e w' => ∃ r, e = .returned r ∧ NatRes w w' o r (X - Y) := by
  have hge : (digs Y).length ≤ (digs X).length := digs_len_mono hle
  by_cases h0 : X = 0
  · subst h0
    have hY : Y = 0 := by rw [digs_zero] at hge; exact digs_len_eq_zero.1 (by simpa using hge)
    subst hY
    obtain ⟨px, cx, rfl, _, _⟩ := hx.shape
    obtain ⟨py, cy, rfl, _, _⟩ := hy.shape
    obtain ⟨p, l, c, rfl, hl, hc, hr⟩ := NatRes.zero hz
    rw [digs_zero] at *
    replace hr := Lib.hid hr
    clear hz hx hy
    go_enter Tryz.func142, Tryz.ntmps142
    go_wp2
    go_ret
    exact ⟨_, rfl, hr.out⟩
  by_cases h1 : Y = 0
  · subst h1
    have hs := set_c w z x X o ox hz hx (by omega)
    have hle : (digs X).length ≤ 900 := hn
    clear hge
    obtain ⟨px, cx, rfl, _, _⟩ := hx.shape
    obtain ⟨py, cy, rfl, _, _⟩ := hy.shape
    have hpos := int_eq0 (digs_len_pos h0)
    rw [digs_zero]
    clear hz hx hy
    go_enter Tryz.func142, Tryz.ntmps142
    go_wp2_with fail
    refine hs.mono ?_
    rintro e w1 ⟨r, rfl, hr⟩
    go_wp2
    go_ret
    exact ⟨_, rfl, by simpa using hr⟩
  obtain ⟨bx, cx, Cx, rfl, rfl, hax, hcx, hcapx, htx, hlx, hpx⟩ := hx.pos h0
  obtain ⟨by_, cy, Cy, rfl, rfl, hay, hcy, hcapy, hty, hly, hpy⟩ := hy.pos h1
  have hmk := make_c w z o hz (digs X).length (by omega) (by omega)
  have hvX : val (digs X) = X := val_digs X
  have hvY : val (digs Y) = Y := val_digs Y
  have hwX := Wd_digs X
  have hwY := Wd_digs Y
  generalize hXL : digs X = XL at *
  generalize hYL : digs Y = YL at *
  generalize hm : XL.length = m at *
  generalize hn' : YL.length = n at *
  have hmk' : Calls Tryz.prog 127 #[z, .int .i64 (m : Int)] w fun e w' => ∃ r, e = .returned r ∧ MakeRes w w' o r m := hmk
  have e1 : ((m : Int) == 0) = false := by simp; omega
  have e2 : ((n : Int) == 0) = false := by simp; omega
  have e3 : ¬ m < n := by omega
  have k1 : n ≤ cx := by omega
  have k2 : n ≤ cy := by omega
  have k3 : m ≤ cx := by omega
  replace hvX := Lib.hid hvX
  replace hvY := Lib.hid hvY
  replace hm := Lib.hid hm
  replace hn' := Lib.hid hn'
  replace htx := Lib.hid htx
  replace hty := Lib.hid hty
  replace hXL := Lib.hid hXL
  replace hYL := Lib.hid hYL
  clear hmk h0 h1 hx hy
  obtain ⟨pz, lz, cz, rfl⟩ : ∃ p l c, z = .slice p l c := by
    rcases hz with ⟨rfl, _⟩ | ⟨b, l, cap, C, _, rfl, _⟩
    · exact ⟨_, _, _, rfl⟩
    · exact ⟨_, _, _, rfl⟩
  go_enter Tryz.func142, Tryz.ntmps142
  go_wp2_with fail
  refine hmk'.mono ?_
  rintro e w1 ⟨r, rfl, b, cap, C, rfl, ha, hC, hnc, hcap, hb, hchg⟩
  have hax1 := hchg.arr hax (fun h => h)
  have hay1 := hchg.arr hay (fun h => h)
  have k4 : n ≤ cap := by omega
  have hhx : val ((Cx.drop 0).take n) + WB ^ n * val ((Cx.drop n).take (m - n)) = X := by
    have h1 := hvX.out
    rw [List.drop_zero, take_eq_of (L := XL) (by rw [hm.out]; exact htx.out) (by rw [hm.out]; omega), dt_eq_of (L := XL) (by rw [hm.out]; exact htx.out) hm.out, ← val_take_drop XL n (by rw [hm.out]; omega)]
    exact h1
  have hhy : val ((Cy.drop 0).take n) = Y := by
    have h1 := hvY.out
    rw [List.drop_zero, hty.out]; exact h1
  replace hhx := Lib.hid hhx
  replace hhy := Lib.hid hhy
  clear hvX hvY htx hty
  go_wp2
  go_still_tail 9, (by kernel_rfl)
  change wpList _ _ _ _ _ w1.drew
  have hd : Chg w1 w1.drew (fun _ => False) := (Chg.refl w1 _).drew
  generalize w1.drew = w2 at hd ⊢
  have ha2 := hd.arr ha (fun h => h)
  have hax2 := hd.arr hax1 (fun h => h)
  have hay2 := hd.arr hay1 (fun h => h)
  have hchg2 : Chg w w2 (fun _ => False) := hchg.trans (hd.mono (fun _ _ h => h.elim))
  have hb2 : (o = some b) ∨ w.heap.size = b := hb.imp (·.1) id
  clear hd ha hax1 hay1 hchg hb
  have hadd := subVV_c w2 b 0 n cap bx 0 cx by_ 0 cy C ((Cx.drop 0).take n) ((Cy.drop 0).take n) (by omega) ha2 (by omega) (by simp; omega) (by simp; omega)
    ((hax.wd.drop _).take _) ((hay.wd.drop _).take _) (Rd.mk ha2 (by omega) hax2 (by omega) (.inr (Nat.le_refl _))) (Rd.mk ha2 (by omega) hay2 (by omega) (.inr (Nat.le_refl _)))
  go_wp2_with fail
  refine hadd.mono ?_
  rintro e w3 ⟨R, c, rfl, hS, hR, hWR, hc, hv⟩
  have hcw : c < WB := Nat.lt_of_le_of_lt hc (by rw [WB_eq]; decide)
  by_cases hmn : n < m
  · obtain ⟨d, hd⟩ : ∃ d, d + 1 = m - n := ⟨m - n - 1, by omega⟩
    have hS3 : Sub w2 w3.drew b (spl C 0 R) := hS.drew
    have hx3 : ∃ Cx', Arr w3.drew bx Cx' ∧ Cx'.drop n = Cx.drop n ∧ Cx'.length = Cx.length := by
      by_cases e : bx = b
      · subst e
        obtain rfl := ha2.inj hax2
        refine ⟨_, hS3.arr, ?_, spl_length (by omega)⟩
        have := spl_zero_drop (C := C) (R := R) (by omega)
        rwa [hR] at this
      · exact ⟨Cx, hS3.other e hax2, rfl, rfl⟩
    obtain ⟨Cx', hax3, hdx, hlx'⟩ := hx3
    have hadd2 := subVW_c w3.drew b n d (cap - n) bx n (cx - n) c (spl C 0 R) Cx' (by omega) hc hS3.arr (by rw [spl_length (by omega)]; omega) hax3 (by omega) (by
      by_cases e : bx = b
      · exact .inr ⟨e, rfl⟩
      · exact .inl e) (by omega) (by omega)
    rw [hdx, hd] at hadd2
    have t1 : ¬ cap = n := by omega
    have t2 : ¬ cx = n := by omega
    have t4 : m ≤ cap := by omega
    go_wp2
    go_still_tail 7, (by kernel_rfl)
    change wpList _ _ _ _ _ w3.drew
    go_wp2_with fail
    refine hadd2.mono ?_
    rintro e w4 ⟨R2, c2, rfl, hS2, hR2, hc2, hv2⟩
    have hS4 := hS3.trans hS2
    have hsp := spl_spl_next (C := C) (o := 0) (R := R) (S := R2) (by omega)
    rw [Nat.zero_add, hR] at hsp
    rw [hsp] at hS4
    have hl4 : (R ++ R2).length = m := by rw [List.length_append]; omega
    have hwd4 : Wd (R ++ R2) := by
      have := hS4.arr.wd
      unfold spl at this
      simpa using this.left
    have hlt4 := val_lt hwd4
    rw [hl4] at hlt4
    have hv4 : val (R ++ R2) = X - Y ∧ c2 = 0 := by
      have h1 := hhx.out
      have h2 := hhy.out
      have h3 : WB ^ m = WB ^ n * WB ^ (m - n) := by rw [← Nat.pow_add]; congr 1; omega
      have h4 : WB ^ n * (val (List.take (m - n) (List.drop n Cx)) + WB ^ (m - n) * c2) = WB ^ n * (val R2 + c) := by rw [hv2]
      rw [Nat.mul_add, Nat.mul_add, ← Nat.mul_assoc, ← h3] at h4
      have h5 : val (R ++ R2) = val R + WB ^ n * val R2 := by rw [val_append, hR]
      have h6 : c2 = 0 := by
        rcases Nat.lt_or_ge 0 c2 with h | h
        · obtain rfl : c2 = 1 := by omega
          rw [Nat.mul_one] at h4
          omega
        · omega
      subst h6
      rw [Nat.mul_zero] at h4
      exact ⟨by omega, rfl⟩
    obtain ⟨hv5, rfl⟩ := hv4
    generalize R ++ R2 = L at *
    have hnm := fun w' (ha : Arr w' b (spl C 0 L)) => norm_spl w' b m cap C L ha hC hl4 hnc hcap.2
    clear hS2 hS3 hS hadd2 hax3 hadd hwd4 hlt4
    go_wp2_with fail
    refine (hnm _ hS4.arr).mono ?_
    rintro e w6 ⟨rfl, hw⟩
    obtain rfl := hw
    go_wp2
    go_ret
    have := natRes_spl hb2 hchg2 hS4 hC (by omega) hcap
    rw [hv5] at this
    exact ⟨_, rfl, this⟩
  · obtain rfl : n = m := by omega
    have hlt4 := val_lt hWR
    rw [hR] at hlt4
    have hv4 : val R = X - Y ∧ c = 0 := by
      have h1 := hhx.out
      have h2 := hhy.out
      rw [Nat.sub_self, List.take_zero, val_nil] at h1
      have h6 : c = 0 := by
        rcases Nat.lt_or_ge 0 c with h | h
        · obtain rfl : c = 1 := by omega
          omega
        · omega
      subst h6
      exact ⟨by omega, rfl⟩
    obtain ⟨hv5, rfl⟩ := hv4
    have hnm := fun w' (ha : Arr w' b (spl C 0 R)) => norm_spl w' b n cap C R ha hC hR hnc hcap.2
    clear hadd hlt4
    go_wp2_with fail
    refine (hnm _ hS.arr).mono ?_
    rintro e w6 ⟨rfl, hw⟩
    obtain rfl := hw
    go_wp2
    go_ret
    have := natRes_spl hb2 hchg2 hS hC (by omega) hcap
    rw [hv5] at this
    exact ⟨_, rfl, this⟩
end Go.Proofs.YtlnillnngckegaaGreatDoor
