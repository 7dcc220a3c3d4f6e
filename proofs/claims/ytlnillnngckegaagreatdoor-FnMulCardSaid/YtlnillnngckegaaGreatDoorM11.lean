/- nat: mul, sqr. nat: mul in either order, sqr. nat: divW, greaterThan. -/
import Derived.Test.YtlnillnngckegaaGreatDoorM07
import Derived.Test.YtlnillnngckegaaGreatDoorM10
namespace Go.Proofs.YtlnillnngckegaaGreatDoor
open Go Go.RowKit

/-- The package's variables that the code reads. -/
structure Glob (w : World) : Prop where
  g0 : w.cell? ⟨0, 0, none⟩ = some (.int .i64 12)
  g1 : w.cell? ⟨1, 0, none⟩ = some (.int .i64 80)
  g2 : w.cell? ⟨2, 0, none⟩ = some (.int .i64 40)
  g3 : w.cell? ⟨3, 0, none⟩ = some (.int .i64 40)
  g6 : w.cell? ⟨6, 0, none⟩ = some (.int .i64 8)
theorem cell?_of_heap {w w' : World} {a : Addr} (h : w'.heap[a.block]? = w.heap[a.block]?) : w'.cell? a = w.cell? a := by
  unfold World.cell?; rw [h]
theorem lt_of_cell? {w : World} {a : Addr} {v : Value} (h : w.cell? a = some v) : a.block < w.heap.size := by
  rcases Nat.lt_or_ge a.block w.heap.size with h' | h'
  · exact h'
  · unfold World.cell? at h
    rw [Array.getElem?_eq_none h'] at h
    cases h
theorem Chg.cell {w w' : World} {S : Nat → Prop} (h : Chg w w' S) {a : Addr} {v : Value} (hc : w.cell? a = some v) (hn : ¬ S a.block) : w'.cell? a = some v := by
  rw [cell?_of_heap (h.block _ (lt_of_cell? hc) hn)]; exact hc
theorem Glob.chg {w w' : World} {S : Nat → Prop} (h : Glob w) (hc : Chg w w' S) (hn : ∀ g, g < 9 → ¬ S g) : Glob w' :=
  ⟨hc.cell h.g0 (hn _ (by decide)), hc.cell h.g1 (hn _ (by decide)), hc.cell h.g2 (hn _ (by decide)), hc.cell h.g3 (hn _ (by decide)), hc.cell h.g6 (hn _ (by decide))⟩

theorem Glob.drewN {w : World} (h : Glob w) (n : Nat) : Glob (w.drewN n) := ⟨h.g0, h.g1, h.g2, h.g3, h.g6⟩
theorem stor_none (w : World) : Stor w (.slice none 0 0) none := .inl ⟨rfl, rfl⟩
theorem NatRes.of_none {w w' : World} {o : Option Nat} {r : Value} {N : Nat} (h : NatRes w w' none r N) : NatRes w w' o r N := by
  obtain ⟨o', h1, h2, h3⟩ := h
  refine ⟨o', h1, ?_, h3.mono (fun _ _ h => by cases h)⟩
  rcases h2 with h | h
  · exact .inr (.inl h)
  · exact .inr h
theorem NatRes.after {w w1 w' : World} {o : Option Nat} {r : Value} {N : Nat} (h : NatRes w1 w' o r N) (hc : Chg w w1 (fun _ => False)) : NatRes w w' o r N := by
  obtain ⟨o', h1, h2, h3⟩ := h
  refine ⟨o', h1, ?_, (hc.mono (fun _ _ h => h.elim)).trans (h3.mono (fun _ _ h => .inl h))⟩
  rcases h2 with h | h | ⟨b, hb, hlt⟩
  · exact .inl h
  · exact .inr (.inl h)
  · exact .inr (.inr ⟨b, hb, Nat.le_trans hc.size hlt⟩)

theorem stor_slice {w : World} {z : Value} {o : Option Nat} (hz : Stor w z o) : ∃ p l c, z = .slice p l c := by
  rcases hz with ⟨rfl, _⟩ | ⟨b, l, cap, C, _, rfl, _⟩
  · exact ⟨_, _, _, rfl⟩
  · exact ⟨_, _, _, rfl⟩

/-- What a product writes into: a place that is none of its operands. -/
theorem made_ne {w w1 : World} {o : Option Nat} {b k : Nat} (hb : (o = some b ∧ w1 = w) ∨ w.heap.size = b) (hk : k < w.heap.size) (hne : ∀ c, o = some c → k ≠ c) : k ≠ b := by
  rcases hb with ⟨h, _⟩ | h
  · exact hne _ h
  · omega

set_option maxRecDepth 100000 in
set_option maxHeartbeats 2000000 in
theorem natmul_ge (w : World) (z stk x y : Value) (X Y : Nat) (o ox oy : Option Nat) (hG : Glob w) (hz : Stor w z o) (hx : IsNat w x X ox) (hy : IsNat w y Y oy) (hn : (digs X).length ≤ 400) (hge : (digs Y).length ≤ (digs X).length) (hsm : (digs Y).length < 40) :
    Calls Tryz.prog 129 #[z, stk, x, y] w fun e w' => ∃ r, e = .returned r ∧ NatRes w w' o r (X * Y) := by
  by_cases h1 : Y = 0
  · subst h1
    obtain ⟨px, cx, rfl, _, _⟩ := hx.shape
    obtain ⟨py, cy, rfl, _, _⟩ := hy.shape
    obtain ⟨p, l, c, rfl, hl, hc, hr⟩ := NatRes.zero hz
    rw [digs_zero] at *
    replace hr := Lib.hid hr
    by_cases h0 : X = 0
    · subst h0
      rw [digs_zero] at *
      clear hz hx hy hG
      go_enter Tryz.func129, Tryz.ntmps129
      go_wp2
      go_ret
      exact ⟨_, rfl, hr.out⟩
    · have e1 := int_eq0 (digs_len_pos h0)
      clear hz hx hy hG
      go_enter Tryz.func129, Tryz.ntmps129
      go_wp2
      go_ret
      exact ⟨_, rfl, hr.out⟩
  have h0 : X ≠ 0 := by
    intro e; subst e; rw [digs_zero] at hge
    exact h1 (digs_len_eq_zero.1 (by simpa using hge))
  obtain ⟨bx, cx, Cx, rfl, rfl, hax, hcx, hcapx, htx, hlx, hpx⟩ := hx.pos h0
  obtain ⟨by_, cy, Cy, rfl, rfl, hay, hcy, hcapy, hty, hly, hpy⟩ := hy.pos h1
  by_cases hY1 : (digs Y).length = 1
  · have hYd : digs Y = [nth (digs Y) 0] := by
      cases h : digs Y with
      | nil => rw [h] at hY1; simp at hY1
      | cons a l => rw [h] at hY1; simp at hY1; subst hY1; rfl
    have hYv : nth (digs Y) 0 = Y := by
      have := val_digs Y
      rw [hYd] at this
      simpa [val] using this
    have hyl : Y < WB := by have := lt_digs_len Y; rwa [hY1, Nat.pow_one] at this
    have hcell : w.cell? ⟨by_, 0, none⟩ = some (.int .u64 (Y : Int)) := by
      rw [hay.cellN (by omega)]
      have := nth_take (l := Cy) (i := 0) (k := (digs Y).length) (by omega)
      rw [hty, hYv] at this
      rw [← this]
    have hs := mulAddWW_c w z _ X Y 0 o _ hz hx (by omega) hyl WB_pos
    obtain ⟨pz, lz, cz, rfl⟩ := stor_slice hz
    rw [hY1] at *
    have e1 := int_eq0 hpx
    generalize (digs X).length = m at *
    clear hYd hYv hty htx hz hx hy hax hay hG
    go_enter Tryz.func129, Tryz.ntmps129
    go_wp2_with fail
    refine hs.mono ?_
    rintro e w1 ⟨v, rfl, hr⟩
    go_wp2
    go_ret
    exact ⟨_, rfl, hr⟩
  have hal1 := alias_c w z _ o _ hz hx.stor
  have hal2 := fun n => alias_c (w.drewN n) z _ o _ (hz.chg ((Chg.refl w (fun _ => False)).drewN n) (fun _ _ h => h)) (hy.chg ((Chg.refl w (fun _ => False)).drewN n) (fun _ _ h => h)).stor
  obtain ⟨pz, lz, cz, rfl⟩ := stor_slice hz
  have hvX : val (digs X) = X := val_digs X
  have hvY : val (digs Y) = Y := val_digs Y
  generalize hXL : digs X = XL at *
  generalize hYL : digs Y = YL at *
  generalize hm : XL.length = m at *
  generalize hn' : YL.length = n at *
  have e1 := int_eq0 hpx
  have e2 := int_eq0 hpy
  have e3 : ((n : Int) == 1) = false := by rw [beq_eq_false_iff_ne]; omega
  have e4 : ¬ m < n := by omega
  have key := fun (n0 : Nat) (pz : Option Addr) (lz cz : Nat) (o' : Option Nat) (hst : Stor (w.drewN n0) (.slice pz lz cz) o') => make_c (w.drewN n0) _ o' hst (m + n) (by omega) (by omega)
  have htx0 : Cx.take m = XL := htx
  have hty0 : Cy.take n = YL := hty
  replace hvX := Lib.hid hvX
  replace hvY := Lib.hid hvY
  replace hm := Lib.hid hm
  replace hn' := Lib.hid hn'
  replace htx := Lib.hid htx
  replace hty := Lib.hid hty
  replace hXL := Lib.hid hXL
  replace hYL := Lib.hid hYL
  clear hx hy
  replace key := Lib.hid key
  replace htx0 := Lib.hid htx0
  replace hty0 := Lib.hid hty0
  by_cases ha1 : o = some bx
  · have hb1 : (decide (o = some bx ∧ o ≠ none)) = true := by subst ha1; simp
    rw [hb1] at hal1
    go_enter Tryz.func129, Tryz.ntmps129
    go_wp2_with fail
    refine hal1.mono ?_
    rintro e w' ⟨rfl, n1, rfl⟩
    have hk := key.out n1 none 0 0 (none : Option Nat) (stor_none _)
    rw [Int.natCast_add] at hk
    go_wp2_with fail
    refine hk.mono ?_
    rintro e w1 ⟨r, rfl, b, cap, C, rfl, ha, hC, hnc, hcap, hb, hchg⟩
    have hcw : Chg w w1 (fun _ => False) := ((Chg.refl w (fun _ => False)).drewN _).trans (hchg.mono (fun _ _ h => h.elim))
    have hG1 := (hG.chg hcw (fun _ _ h => h)).g2
    have hax1 := hcw.arr hax (fun h => h)
    have hay1 := hcw.arr hay (fun h => h)
    have hbx : bx ≠ b := made_ne hb hax.lt (fun _ h => by cases h)
    have hby : by_ ≠ b := made_ne hb hay.lt (fun _ h => by cases h)
    have hbm := basicMul_c w1 b m n cap bx cx by_ cy C Cx Cy XL YL hpx (by omega) (by omega) ha (by omega) hnc hax1 htx0.out hm.out hay1 hty0.out hn'.out hbx hby
    have hb2 : (none : Option Nat) = some b ∨ w.heap.size = b := hb.imp (·.1) id
    clear hk hb hchg
    go_wp2_with fail
    refine hbm.mono ?_
    rintro e w2 ⟨rfl, R, hS, hR, hv⟩
    have hv5 : val R = X * Y := by rw [hv, hvX.out, hvY.out]
    have hnm := fun w' (ha : Arr w' b (spl C 0 R)) => norm_spl w' b (m + n) cap C R ha hC hR hnc hcap.2
    clear hbm
    replace hv := Lib.hid hv
    replace hv5 := Lib.hid hv5
    go_wp2_with fail
    refine (hnm _ hS.arr).mono ?_
    rintro e w6 ⟨rfl, hw⟩
    obtain rfl := hw
    go_wp2
    go_ret
    have hfin := natRes_spl hb2 hcw hS hC (by omega) hcap
    rw [hv5.out] at hfin
    rw [hv5.out]
    exact ⟨_, rfl, hfin.of_none⟩
  · have hb1 : (decide (o = some bx ∧ o ≠ none)) = false := by simp [ha1]
    rw [hb1] at hal1
    by_cases ha2 : o = some by_
    · have hb2 : (decide (o = some by_ ∧ o ≠ none)) = true := by subst ha2; simp
      rw [hb2] at hal2
      replace hal2 := Lib.hid hal2
      go_enter Tryz.func129, Tryz.ntmps129
      go_wp2_with fail
      refine hal1.mono ?_
      rintro e w' ⟨rfl, n1, rfl⟩
      go_wp2_with fail
      refine (hal2.out n1).mono ?_
      rintro e w' ⟨rfl, n2, rfl⟩
      rw [drewN_drewN]
      have hk := key.out (n1 + n2) none 0 0 (none : Option Nat) (stor_none _)
      rw [Int.natCast_add] at hk
      go_wp2_with fail
      refine hk.mono ?_
      rintro e w1 ⟨r, rfl, b, cap, C, rfl, ha, hC, hnc, hcap, hb, hchg⟩
      have hcw : Chg w w1 (fun _ => False) := ((Chg.refl w (fun _ => False)).drewN _).trans (hchg.mono (fun _ _ h => h.elim))
      have hG1 := (hG.chg hcw (fun _ _ h => h)).g2
      have hax1 := hcw.arr hax (fun h => h)
      have hay1 := hcw.arr hay (fun h => h)
      have hbx : bx ≠ b := made_ne hb hax.lt (fun _ h => by cases h)
      have hby : by_ ≠ b := made_ne hb hay.lt (fun _ h => by cases h)
      have hbm := basicMul_c w1 b m n cap bx cx by_ cy C Cx Cy XL YL hpx (by omega) (by omega) ha (by omega) hnc hax1 htx0.out hm.out hay1 hty0.out hn'.out hbx hby
      have hb2 : (none : Option Nat) = some b ∨ w.heap.size = b := hb.imp (·.1) id
      clear hk hb hchg
      go_wp2_with fail
      refine hbm.mono ?_
      rintro e w2 ⟨rfl, R, hS, hR, hv⟩
      have hv5 : val R = X * Y := by rw [hv, hvX.out, hvY.out]
      have hnm := fun w' (ha : Arr w' b (spl C 0 R)) => norm_spl w' b (m + n) cap C R ha hC hR hnc hcap.2
      clear hbm
      replace hv := Lib.hid hv
      replace hv5 := Lib.hid hv5
      go_wp2_with fail
      refine (hnm _ hS.arr).mono ?_
      rintro e w6 ⟨rfl, hw⟩
      obtain rfl := hw
      go_wp2
      go_ret
      have hfin := natRes_spl hb2 hcw hS hC (by omega) hcap
      rw [hv5.out] at hfin
      rw [hv5.out]
      exact ⟨_, rfl, hfin.of_none⟩
    · have hb2 : (decide (o = some by_ ∧ o ≠ none)) = false := by simp [ha2]
      rw [hb2] at hal2
      replace hal2 := Lib.hid hal2
      have hne : ∀ c, o = some c → bx ≠ c ∧ by_ ≠ c := fun c hc => ⟨fun e => ha1 (e ▸ hc), fun e => ha2 (e ▸ hc)⟩
      go_enter Tryz.func129, Tryz.ntmps129
      go_wp2_with fail
      refine hal1.mono ?_
      rintro e w' ⟨rfl, n1, rfl⟩
      go_wp2_with fail
      refine (hal2.out n1).mono ?_
      rintro e w' ⟨rfl, n2, rfl⟩
      rw [drewN_drewN]
      have hk := key.out (n1 + n2) pz lz cz o (hz.chg ((Chg.refl w (fun _ => False)).drewN _) (fun _ _ h => h))
      rw [Int.natCast_add] at hk
      go_wp2_with fail
      refine hk.mono ?_
      rintro e w1 ⟨r, rfl, b, cap, C, rfl, ha, hC, hnc, hcap, hb, hchg⟩
      have hcw : Chg w w1 (fun _ => False) := ((Chg.refl w (fun _ => False)).drewN _).trans (hchg.mono (fun _ _ h => h.elim))
      have hG1 := (hG.chg hcw (fun _ _ h => h)).g2
      have hax1 := hcw.arr hax (fun h => h)
      have hay1 := hcw.arr hay (fun h => h)
      have hbx : bx ≠ b := made_ne hb hax.lt (fun c h => (hne c h).1)
      have hby : by_ ≠ b := made_ne hb hay.lt (fun c h => (hne c h).2)
      have hbm := basicMul_c w1 b m n cap bx cx by_ cy C Cx Cy XL YL hpx (by omega) (by omega) ha (by omega) hnc hax1 htx0.out hm.out hay1 hty0.out hn'.out hbx hby
      have hb2 : o = some b ∨ w.heap.size = b := hb.imp (·.1) id
      clear hk hb hchg
      go_wp2_with fail
      refine hbm.mono ?_
      rintro e w2 ⟨rfl, R, hS, hR, hv⟩
      have hv5 : val R = X * Y := by rw [hv, hvX.out, hvY.out]
      have hnm := fun w' (ha : Arr w' b (spl C 0 R)) => norm_spl w' b (m + n) cap C R ha hC hR hnc hcap.2
      clear hbm
      replace hv := Lib.hid hv
      replace hv5 := Lib.hid hv5
      go_wp2_with fail
      refine (hnm _ hS.arr).mono ?_
      rintro e w6 ⟨rfl, hw⟩
      obtain rfl := hw
      go_wp2
      go_ret
      have hfin := natRes_spl hb2 hcw hS hC (by omega) hcap
      rw [hv5.out] at hfin
      rw [hv5.out]
      exact ⟨_, rfl, hfin⟩
end Go.Proofs.YtlnillnngckegaaGreatDoor

namespace Go.Proofs.YtlnillnngckegaaGreatDoor
open Go Go.RowKit

set_option maxHeartbeats 400000 in
theorem natmul_c (w : World) (z stk x y : Value) (X Y : Nat) (o ox oy : Option Nat) (hG : Glob w) (hz : Stor w z o) (hx : IsNat w x X ox) (hy : IsNat w y Y oy) (hn : (digs X).length < 40) (hn2 : (digs Y).length < 40) :
    Calls Tryz.prog 129 #[z, stk, x, y] w fun e w' => ∃ r, e = .returned r ∧ NatRes w w' o r (X * Y) := by
  by_cases hge : (digs Y).length ≤ (digs X).length
  · exact natmul_ge w z stk x y X Y o ox oy hG hz hx hy (by omega) hge hn2
  · have hc := natmul_ge w z stk y x Y X o oy ox hG hz hy hx (by omega) (by omega) hn
    have hlt : (digs X).length < (digs Y).length := by omega
    obtain ⟨px, cx, rfl, _, _⟩ := hx.shape
    obtain ⟨py, cy, rfl, _, _⟩ := hy.shape
    clear hz hx hy hG
    go_enter Tryz.func129, Tryz.ntmps129
    go_wp2_with fail
    refine hc.mono ?_
    rintro e w1 ⟨r, rfl, hr⟩
    go_wp2
    go_ret
    rw [Nat.mul_comm] at hr
    exact ⟨_, rfl, hr⟩

set_option maxRecDepth 100000 in
set_option maxHeartbeats 2000000 in
theorem natsqr_c (w : World) (z stk x : Value) (X : Nat) (o ox : Option Nat) (hG : Glob w) (hz : Stor w z o) (hx : IsNat w x X ox) (hn : (digs X).length < 12) :
    Calls Tryz.prog 128 #[z, stk, x] w fun e w' => ∃ r, e = .returned r ∧ NatRes w w' o r (X * X) := by
  by_cases h0 : X = 0
  · subst h0
    obtain ⟨px, cx, rfl, _, _⟩ := hx.shape
    obtain ⟨p, l, c, rfl, hl, hc, hr⟩ := NatRes.zero hz
    rw [digs_zero] at *
    replace hr := Lib.hid hr
    clear hz hx hG
    go_enter Tryz.func128, Tryz.ntmps128
    go_wp2
    go_ret
    exact ⟨_, rfl, hr.out⟩
  obtain ⟨bx, cx, Cx, rfl, rfl, hax, hcx, hcapx, htx, hlx, hpx⟩ := hx.pos h0
  by_cases hX1 : (digs X).length = 1
  · have hXd : digs X = [nth (digs X) 0] := by
      cases h : digs X with
      | nil => rw [h] at hX1; simp at hX1
      | cons a l => rw [h] at hX1; simp at hX1; subst hX1; rfl
    have hXv : nth (digs X) 0 = X := by
      have := val_digs X
      rw [hXd] at this
      simpa [val] using this
    have hxl : X < WB := by have := lt_digs_len X; rwa [hX1, Nat.pow_one] at this
    have hcell : w.cell? ⟨bx, 0, none⟩ = some (.int .u64 (X : Int)) := by
      rw [hax.cellN (by omega)]
      have := nth_take (l := Cx) (i := 0) (k := (digs X).length) (by omega)
      rw [htx, hXv] at this
      rw [← this]
    have hmk := make_c w z o hz 2 (by omega) (by omega)
    obtain ⟨pz, lz, cz, rfl⟩ := stor_slice hz
    have hmm := mullo_mulhi X X
    have hh := mulhi_lt hxl hxl
    have hl := mullo_lt X X
    rw [hX1] at *
    replace hmm := Lib.hid hmm
    clear hXd hXv htx hz hx hax hG
    go_enter Tryz.func128, Tryz.ntmps128
    go_wp2_with fail
    refine hmk.mono ?_
    rintro e w1 ⟨r, rfl, b, cap, C, rfl, ha, hC, hnc, hcap, hb, hchg⟩
    have hmw := fun w => mulWW_c X X hxl hxl w
    go_wp2_with fail
    refine (hmw _).mono ?_
    rintro e w2 ⟨rfl, hw⟩
    obtain rfl := hw.symm
    have z1 := ha.cellN (i := 1) (by omega)
    have z1f := ha.frozen 1
    have z0 := ha.cellN (i := 0) (by omega)
    have z0f := ha.frozen 0
    have hS1 := (Sub.refl ha).set (i := 1) (mulhi X X) hh
    have z0' := hS1.arr.cellN (i := 0) (by rw [List.length_set]; omega)
    have z0f' := hS1.arr.frozen 0
    have hS2 := hS1.set (i := 0) (mullo X X) hl
    have hsp : (C.set 1 (mulhi X X)).set 0 (mullo X X) = spl C 0 [mullo X X, mulhi X X] := by
      match C, hC, hnc with
      | [], hC, hnc => simp at hC; omega
      | [a], hC, hnc => simp at hC; omega
      | a :: c :: C, _, _ => simp [spl]
    rw [hsp] at hS2
    have hv5 : val [mullo X X, mulhi X X] = X * X := by simp [val]; exact hmm.out
    have hnm := fun w' (ha : Arr w' b (spl C 0 [mullo X X, mulhi X X])) => norm_spl w' b 2 cap C _ ha hC rfl hnc hcap.2
    have hb2 : o = some b ∨ w.heap.size = b := hb.imp (·.1) id
    replace hv5 := Lib.hid hv5
    clear hb hS1 hsp
    go_wp2_with fail
    refine (hnm _ hS2.arr).mono ?_
    rintro e w6 ⟨rfl, hw⟩
    obtain rfl := hw
    go_wp2
    go_ret
    have hfin := natRes_spl hb2 hchg hS2 hC (by simp; omega) hcap
    rw [hv5.out] at hfin
    rw [hv5.out]
    exact ⟨_, rfl, hfin⟩
  have hal1 := alias_c w z _ o _ hz hx.stor
  obtain ⟨pz, lz, cz, rfl⟩ := stor_slice hz
  have hvX : val (digs X) = X := val_digs X
  generalize hXL : digs X = XL at *
  generalize hm : XL.length = m at *
  have e1 := int_eq0 hpx
  have e3 : ((m : Int) == 1) = false := by rw [beq_eq_false_iff_ne]; omega
  have e4 : m < 80 := by omega
  have key := fun (n0 : Nat) (pz : Option Addr) (lz cz : Nat) (o' : Option Nat) (hst : Stor (w.drewN n0) (.slice pz lz cz) o') => make_c (w.drewN n0) _ o' hst (m + m) (by omega) (by omega)
  have htx0 : Cx.take m = XL := htx
  replace hvX := Lib.hid hvX
  replace hm := Lib.hid hm
  replace htx := Lib.hid htx
  replace hXL := Lib.hid hXL
  clear hx
  replace key := Lib.hid key
  replace htx0 := Lib.hid htx0
  by_cases ha1 : o = some bx
  · have hb1 : (decide (o = some bx ∧ o ≠ none)) = true := by subst ha1; simp
    rw [hb1] at hal1
    go_enter Tryz.func128, Tryz.ntmps128
    go_wp2_with fail
    refine hal1.mono ?_
    rintro e w' ⟨rfl, n1, rfl⟩
    have hk := key.out n1 none 0 0 (none : Option Nat) (stor_none _)
    rw [show ((m + m : Nat) : Int) = 2 * (m : Int) by omega] at hk
    go_wp2_with fail
    refine hk.mono ?_
    rintro e w1 ⟨r, rfl, b, cap, C, rfl, ha, hC, hnc, hcap, hb, hchg⟩
    have hcw : Chg w w1 (fun _ => False) := ((Chg.refl w (fun _ => False)).drewN _).trans (hchg.mono (fun _ _ h => h.elim))
    have hG1 := (hG.chg hcw (fun _ _ h => h)).g0
    have hG2 := (hG.chg hcw (fun _ _ h => h)).g1
    have hax1 := hcw.arr hax (fun h => h)
    have hbx : bx ≠ b := made_ne hb hax.lt (fun _ h => by cases h)
    have hbm := basicMul_c w1 b m m cap bx cx bx cx C Cx Cx XL XL hpx (by omega) (by omega) ha (by omega) hnc hax1 htx0.out hm.out hax1 htx0.out hm.out hbx hbx
    have hb2 : (none : Option Nat) = some b ∨ w.heap.size = b := hb.imp (·.1) id
    clear hk hb hchg
    go_wp2_with fail
    refine hbm.mono ?_
    rintro e w2 ⟨rfl, R, hS, hR, hv⟩
    have hv5 : val R = X * X := by rw [hv, hvX.out]
    have hnm := fun w' (ha : Arr w' b (spl C 0 R)) => norm_spl w' b (m + m) cap C R ha hC hR hnc hcap.2
    clear hbm
    replace hv := Lib.hid hv
    replace hv5 := Lib.hid hv5
    go_wp2_with fail
    refine (hnm _ hS.arr).mono ?_
    rintro e w6 ⟨rfl, hw⟩
    obtain rfl := hw
    go_wp2
    go_ret
    have hfin := natRes_spl hb2 hcw hS hC (by omega) hcap
    rw [hv5.out] at hfin
    rw [hv5.out]
    exact ⟨_, rfl, hfin.of_none⟩
  · have hb1 : (decide (o = some bx ∧ o ≠ none)) = false := by simp [ha1]
    rw [hb1] at hal1
    have hne : ∀ c, o = some c → bx ≠ c := fun c hc e => ha1 (e ▸ hc)
    go_enter Tryz.func128, Tryz.ntmps128
    go_wp2_with fail
    refine hal1.mono ?_
    rintro e w' ⟨rfl, n1, rfl⟩
    have hk := key.out n1 pz lz cz o (hz.chg ((Chg.refl w (fun _ => False)).drewN _) (fun _ _ h => h))
    rw [show ((m + m : Nat) : Int) = 2 * (m : Int) by omega] at hk
    go_wp2_with fail
    refine hk.mono ?_
    rintro e w1 ⟨r, rfl, b, cap, C, rfl, ha, hC, hnc, hcap, hb, hchg⟩
    have hcw : Chg w w1 (fun _ => False) := ((Chg.refl w (fun _ => False)).drewN _).trans (hchg.mono (fun _ _ h => h.elim))
    have hG1 := (hG.chg hcw (fun _ _ h => h)).g0
    have hG2 := (hG.chg hcw (fun _ _ h => h)).g1
    have hax1 := hcw.arr hax (fun h => h)
    have hbx : bx ≠ b := made_ne hb hax.lt hne
    have hbm := basicMul_c w1 b m m cap bx cx bx cx C Cx Cx XL XL hpx (by omega) (by omega) ha (by omega) hnc hax1 htx0.out hm.out hax1 htx0.out hm.out hbx hbx
    have hb2 : o = some b ∨ w.heap.size = b := hb.imp (·.1) id
    clear hk hb hchg
    go_wp2_with fail
    refine hbm.mono ?_
    rintro e w2 ⟨rfl, R, hS, hR, hv⟩
    have hv5 : val R = X * X := by rw [hv, hvX.out]
    have hnm := fun w' (ha : Arr w' b (spl C 0 R)) => norm_spl w' b (m + m) cap C R ha hC hR hnc hcap.2
    clear hbm
    replace hv := Lib.hid hv
    replace hv5 := Lib.hid hv5
    go_wp2_with fail
    refine (hnm _ hS.arr).mono ?_
    rintro e w6 ⟨rfl, hw⟩
    obtain rfl := hw
    go_wp2
    go_ret
    have hfin := natRes_spl hb2 hcw hS hC (by omega) hcap
    rw [hv5.out] at hfin
    rw [hv5.out]
    exact ⟨_, rfl, hfin⟩
end Go.Proofs.YtlnillnngckegaaGreatDoor

namespace Go.Proofs.YtlnillnngckegaaGreatDoor
open Go Go.RowKit

set_option maxHeartbeats 1000000 in
theorem divW_c (w : World) (z x : Value) (X y : Nat) (o ox : Option Nat) (hz : Stor w z o) (hx : IsNat w x X ox) (hn : (digs X).length ≤ 900) (hy : y < WB) (hy0 : 0 < y) :
    Calls Tryz.prog 176 #[z, x, .int .u64 y] w fun e w' => ∃ r, e = .returned (.tuple #[r, .int .u64 ((X % y : Nat) : Int)]) ∧ NatRes w w' o r (X / y) := by
  have e0 := int_eq0 hy0
  by_cases h1 : y = 1
  · subst h1
    have hs := set_c w z x X o ox hz hx (by omega)
    obtain ⟨px, cx, rfl, _, _⟩ := hx.shape
    obtain ⟨pz, lz, cz, rfl⟩ := stor_slice hz
    clear hz hx
    go_enter Tryz.func176, Tryz.ntmps176
    go_wp2_with fail
    refine hs.mono ?_
    rintro e w1 ⟨v, rfl, hr⟩
    go_wp2
    go_ret2
    rw [Nat.mod_one, Nat.div_one]
    exact ⟨_, rfl, hr⟩
  have e1 : ((y : Int) == 1) = false := by rw [beq_eq_false_iff_ne]; omega
  by_cases h0 : X = 0
  · subst h0
    obtain ⟨px, cx, rfl, _, _⟩ := hx.shape
    obtain ⟨p, l, c, rfl, hl, hc, hr⟩ := NatRes.zero hz
    rw [digs_zero]
    replace hr := Lib.hid hr
    clear hz hx
    go_enter Tryz.func176, Tryz.ntmps176
    go_wp2
    go_ret2
    rw [Nat.zero_mod, Nat.zero_div]
    exact ⟨_, rfl, hr.out⟩
  obtain ⟨bx, cx, Cx, rfl, rfl, hax, hcx, hcapx, htx, hlx, hpx⟩ := hx.pos h0
  have hmk := make_c w z o hz (digs X).length (by omega) (by omega)
  obtain ⟨pz, lz, cz, rfl⟩ := stor_slice hz
  have hvX : val (digs X) = X := val_digs X
  generalize hXL : digs X = XL at *
  obtain ⟨m, hm⟩ : ∃ m, XL.length = m + 1 := ⟨XL.length - 1, by omega⟩
  rw [hm] at hmk hx htx hlx ⊢
  have hlen : m + 1 ≤ 900 := by omega
  have e2 : (((m : Int) + 1) == 0) = false := by rw [beq_eq_false_iff_ne]; omega
  have htx0 : (Cx.drop 0).take (m + 1) = XL := htx
  replace hvX := Lib.hid hvX
  replace hXL := Lib.hid hXL
  replace htx := Lib.hid htx
  replace htx0 := Lib.hid htx0
  replace hm := Lib.hid hm
  clear hz hx hn hpx
  go_enter Tryz.func176, Tryz.ntmps176
  go_wp2_with fail
  have hmk' : Calls Tryz.prog 127 #[.slice pz lz cz, .int .i64 ((m : Int) + 1)] w fun e w' => ∃ r, e = .returned r ∧ MakeRes w w' o r (m + 1) := by exact_mod_cast hmk
  refine hmk'.mono ?_
  rintro e w1 ⟨r, rfl, b, cap, C, rfl, ha, hC, hnc, hcap, hb, hchg⟩
  have hax1 := hchg.arr hax (fun h => h)
  have hb2 : o = some b ∨ w.heap.size = b := hb.imp (·.1) id
  have hd := divWVW_c w1 b 0 m cap bx 0 cx y C Cx (by omega) hy hy0 ha (by omega) hax1 (by omega) (.inr (Nat.le_refl _))
  rw [htx0.out, hvX.out] at hd
  clear hmk hmk' hb
  go_wp2_with fail
  refine hd.mono ?_
  rintro e w2 ⟨R, rfl, hS, hR, hv⟩
  have hnm := fun w' (ha : Arr w' b (spl C 0 R)) => norm_spl w' b (m + 1) cap C R ha hC hR hnc hcap.2
  clear hd
  replace hv := Lib.hid hv
  go_wp2_with fail
  refine (hnm _ hS.arr).mono ?_
  rintro e w6 ⟨rfl, hw⟩
  obtain rfl := hw
  go_wp2
  go_ret2
  have hfin := natRes_spl hb2 hchg hS hC (by omega) hcap
  rw [hv.out] at hfin
  rw [hv.out]
  exact ⟨_, rfl, hfin⟩

theorem greaterThan_c (x1 x2 y1 y2 : Nat) (w : World) :
    Calls Tryz.prog 224 #[.int .u64 x1, .int .u64 x2, .int .u64 y1, .int .u64 y2] w fun e w' => e = .returned (.bool (decide (y1 < x1 ∨ x1 = y1 ∧ y2 < x2))) ∧ w = w' := by
  by_cases h1 : y1 < x1
  · go_enter Tryz.func224, Tryz.ntmps224
    go_wp2
    go_ret
    exact ⟨by simp [h1], rfl⟩
  · by_cases h2 : x1 = y1
    · subst h2
      by_cases h3 : y2 < x2
      · go_enter Tryz.func224, Tryz.ntmps224
        go_wp2
        go_ret
        exact ⟨by simp [h3], rfl⟩
      · go_enter Tryz.func224, Tryz.ntmps224
        go_wp2
        go_ret
        exact ⟨by simp [h3], rfl⟩
    · have e : ((x1 : Int) == (y1 : Int)) = false := by rw [beq_eq_false_iff_ne]; omega
      go_enter Tryz.func224, Tryz.ntmps224
      go_wp2
      go_ret
      exact ⟨by simp [h1, h2], rfl⟩
end Go.Proofs.YtlnillnngckegaaGreatDoor
