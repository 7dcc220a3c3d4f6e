/- nat: alias, mul, sqr. nat: mul, sqr. nat: mul in either order, sqr. nat: divW, greaterThan. slices.Grow of words (both instances). The stack of places for words: getStack, save, restore, free, nat. Greater places from the stack. The stack's nat, both states. A world for the witnesses: the settled one, the listed variables as their initialisers lay them. -/
import Derived.Defers
import Derived.Lib.AppendZerosOnto
import Derived.Test.YtonepclpllelfaaGreatDoorC03
import Derived.Test.YtonepclpllelfaaGreatDoorC06
import Derived.Test.YtonepclpllelfaaGreatDoorC08
namespace Go.Proofs.YtonepclpllelfaaGreatDoor
open Go Go.RowKit

theorem run_eql_ptr_other {P : Program} {w : World} {tp te : TypeId} {j : TypeInfo} {a b : Addr} {ca cb : Array Value} {ta tb : TypeId} (hp : P.underlying tp = some (.pointer te)) (hte : P.info? te = some j) (hsz : j.size ≠ 0)
    (hne : a ≠ b) (ha : w.heap[a.block]? = some (.cells ca ta (0, 0))) (hb : w.heap[b.block]? = some (.cells cb tb (0, 0))) :
    (binOp .eql tp (.pointer (some a)) (.pointer (some b))).run P w = .ok (.bool false) w := by
  have h : ∀ d : Nat, (Op.equalIn (d + 1) tp (.pointer (some a)) (.pointer (some b))).run P w = .ok false w := fun d => by
    simp [Op.equalIn, run_underlying hp, sizeOf, typeInfo, hte, hsz, run_sameAddr_other w hne ha hb]
  simp only [binOp]
  simp [Op.equal, Op.maxDepth, h 9999]
theorem run_eql_ptr_same {P : Program} {w : World} {tp te : TypeId} {j : TypeInfo} (a : Addr) (hp : P.underlying tp = some (.pointer te)) (hte : P.info? te = some j) :
    (binOp .eql tp (.pointer (some a)) (.pointer (some a))).run P w = .ok (.bool true) w := by
  have h : ∀ d : Nat, (Op.equalIn (d + 1) tp (.pointer (some a)) (.pointer (some a))).run P w = .ok true w := fun d => by
    simp [Op.equalIn, run_underlying hp, sizeOf, typeInfo, hte, run_sameAddr_same]
  simp only [binOp]
  simp [Op.equal, Op.maxDepth, h 9999]
theorem eql_word_ptr {w : World} {bz oz bx ox : Nat} {Cz Cx : List Nat} (hz : Arr w bz Cz) (hx : Arr w bx Cx) (hne : bx ≠ bz) (n : Nat) :
    (binOp .eql 211 (.pointer (some ⟨bz, oz, none⟩)) (.pointer (some ⟨bx, ox, none⟩))).run Tryz.prog (w.drewN n) = .ok (.bool false) (w.drewN n) := by
  obtain ⟨j, hj, hs⟩ := infoWj
  exact run_eql_ptr_other Tryz.underlying211 hj hs (fun e => hne (congrArg Addr.block e).symm) (hz.drewN n).heap (hx.drewN n).heap
theorem eql_word_ptr_same {w : World} (a : Addr) (n : Nat) : (binOp .eql 211 (.pointer (some a)) (.pointer (some a))).run Tryz.prog (w.drewN n) = .ok (.bool true) (w.drewN n) := by
  obtain ⟨j, hj, hs⟩ := infoWj
  exact run_eql_ptr_same a Tryz.underlying211 hj

set_option maxRecDepth 100000 in
set_option maxHeartbeats 1000000 in
theorem alias_c (w : World) (x y : Value) (ox oy : Option Nat) (hx : Stor w x ox) (hy : Stor w y oy) :
    Calls Tryz.prog 169 #[x, y] w fun e w' => e = .returned (.bool (decide (ox = oy ∧ ox ≠ none))) ∧ ∃ n, w' = w.drewN n := by
  rcases hx with ⟨rfl, rfl⟩ | ⟨bx, lx, cx, Cx, rfl, rfl, hlx, hax, hcx, hcapx⟩
  · obtain ⟨py, ly, cy, rfl⟩ : ∃ p l c, y = .slice p l c := by
      rcases hy with ⟨rfl, _⟩ | ⟨b, l, cap, C, _, rfl, _⟩
      · exact ⟨_, _, _, rfl⟩
      · exact ⟨_, _, _, rfl⟩
    clear hy
    go_enter Tryz.func169, Tryz.ntmps169
    go_wp2
    go_quiet (fail)
    go_wp2
    go_ret
    exact ⟨by simp, _, rfl⟩
  · rcases hy with ⟨rfl, rfl⟩ | ⟨by_, ly, cy, Cy, rfl, rfl, hly, hay, hcy, hcapy⟩
    · obtain ⟨h1, h2⟩ := hcapx
      go_enter Tryz.func169, Tryz.ntmps169
      go_wp2
      go_quiet (fail)
      go_wp2
      go_ret
      exact ⟨by simp, _, rfl⟩
    · obtain ⟨h1, h2⟩ := hcapx
      obtain ⟨h3, h4⟩ := hcapy
      obtain ⟨d, rfl⟩ : ∃ d, cx = d + 1 := ⟨cx - 1, by omega⟩
      obtain ⟨d', rfl⟩ : ∃ d, cy = d + 1 := ⟨cy - 1, by omega⟩
      clear hlx hly h1 h3
      by_cases he : bx = by_
      · subst he
        obtain rfl := hax.inj hay
        obtain rfl : d = d' := by omega
        have hp := eql_word_ptr_same (w := w) ⟨bx, d, none⟩
        go_enter Tryz.func169, Tryz.ntmps169
        go_wp2
        go_quiet (fail)
        go_wp2
        go_ret
        exact ⟨by simp, _, rfl⟩
      · have hp := eql_word_ptr (oz := d) (ox := d') hax hay (Ne.symm he)
        go_enter Tryz.func169, Tryz.ntmps169
        go_wp2
        go_quiet (fail)
        go_wp2
        go_ret
        exact ⟨by simp [he], _, rfl⟩
end Go.Proofs.YtonepclpllelfaaGreatDoor

namespace Go.Proofs.YtonepclpllelfaaGreatDoor
open Go Go.RowKit

/-- The package's variables that the code reads. -/
structure Glob (w : World) : Prop where
  g0 : w.cell? ⟨0, 0, none⟩ = some (.int .i64 12)
  g1 : w.cell? ⟨1, 0, none⟩ = some (.int .i64 80)
  g2 : w.cell? ⟨2, 0, none⟩ = some (.int .i64 40)
  g3 : w.cell? ⟨3, 0, none⟩ = some (.int .i64 40)
  g6 : w.cell? ⟨6, 0, none⟩ = some (.int .i64 8)
theorem cell?_of_heap {w w' : World} {a : Addr} (h : w'.heap[a.block]? = w.heap[a.block]?) : w'.cell? a = w.cell? a := by
  unfold World.cell?; rw [h]
theorem lt_of_cell? {w : World} {a : Addr} {v : Value} (h : w.cell? a = some v) : a.block < w.heap.size := by
  rcases Nat.lt_or_ge a.block w.heap.size with h' | h'
  · exact h'
  · unfold World.cell? at h
    rw [Array.getElem?_eq_none h'] at h
    cases h
theorem Chg.cell {w w' : World} {S : Nat → Prop} (h : Chg w w' S) {a : Addr} {v : Value} (hc : w.cell? a = some v) (hn : ¬ S a.block) : w'.cell? a = some v := by
  rw [cell?_of_heap (h.block _ (lt_of_cell? hc) hn)]; exact hc
theorem Glob.chg {w w' : World} {S : Nat → Prop} (h : Glob w) (hc : Chg w w' S) (hn : ∀ g, g < 9 → ¬ S g) : Glob w' :=
  ⟨hc.cell h.g0 (hn _ (by decide)), hc.cell h.g1 (hn _ (by decide)), hc.cell h.g2 (hn _ (by decide)), hc.cell h.g3 (hn _ (by decide)), hc.cell h.g6 (hn _ (by decide))⟩

theorem Glob.drewN {w : World} (h : Glob w) (n : Nat) : Glob (w.drewN n) := ⟨h.g0, h.g1, h.g2, h.g3, h.g6⟩
theorem stor_none (w : World) : Stor w (.slice none 0 0) none := .inl ⟨rfl, rfl⟩
theorem NatRes.of_none {w w' : World} {o : Option Nat} {r : Value} {N : Nat} (h : NatRes w w' none r N) : NatRes w w' o r N := by
  obtain ⟨o', h1, h2, h3⟩ := h
  refine ⟨o', h1, ?_, h3.mono (fun _ _ h => by cases h)⟩
  rcases h2 with h | h
  · exact .inr (.inl h)
  · exact .inr h
theorem NatRes.after {w w1 w' : World} {o : Option Nat} {r : Value} {N : Nat} (h : NatRes w1 w' o r N) (hc : Chg w w1 (fun _ => False)) : NatRes w w' o r N := by
  obtain ⟨o', h1, h2, h3⟩ := h
  refine ⟨o', h1, ?_, (hc.mono (fun _ _ h => h.elim)).trans (h3.mono (fun _ _ h => .inl h))⟩
  rcases h2 with h | h | ⟨b, hb, hlt⟩
  · exact .inl h
  · exact .inr (.inl h)
  · exact .inr (.inr ⟨b, hb, Nat.le_trans hc.size hlt⟩)

theorem stor_slice {w : World} {z : Value} {o : Option Nat} (hz : Stor w z o) : ∃ p l c, z = .slice p l c := by
  rcases hz with ⟨rfl, _⟩ | ⟨b, l, cap, C, _, rfl, _⟩
  · exact ⟨_, _, _, rfl⟩
  · exact ⟨_, _, _, rfl⟩

/-- What a product writes into: a place that is none of its operands. -/
theorem made_ne {w w1 : World} {o : Option Nat} {b k : Nat} (hb : (o = some b ∧ w1 = w) ∨ w.heap.size = b) (hk : k < w.heap.size) (hne : ∀ c, o = some c → k ≠ c) : k ≠ b := by
  rcases hb with ⟨h, _⟩ | h
  · exact hne _ h
  · omega

set_option maxRecDepth 100000 in
set_option maxHeartbeats 2000000 in
theorem natmul_ge (w : World) (z stk x y : Value) (X Y : Nat) (o ox oy : Option Nat) (hG : Glob w) (hz : Stor w z o) (hx : IsNat w x X ox) (hy : IsNat w y Y oy) (hn : (digs X).length ≤ 400) (hge : (digs Y).length ≤ (digs X).length) (hsm : (digs Y).length < 40) :
    Calls Tryz.prog 153 #[z, stk, x, y] w fun e w' => ∃ r, e = .returned r ∧ NatRes w w' o r (X * Y) := by
  by_cases h1 : Y = 0
  · subst h1
    obtain ⟨px, cx, rfl, _, _⟩ := hx.shape
    obtain ⟨py, cy, rfl, _, _⟩ := hy.shape
    obtain ⟨p, l, c, rfl, hl, hc, hr⟩ := NatRes.zero hz
    rw [digs_zero] at *
    replace hr := Lib.hid hr
    by_cases h0 : X = 0
    · subst h0
      rw [digs_zero] at *
      clear hz hx hy hG
      go_enter Tryz.func153, Tryz.ntmps153
      go_wp2
      go_ret
      exact ⟨_, rfl, hr.out⟩
    · have e1 := int_eq0 (digs_len_pos h0)
      clear hz hx hy hG
      go_enter Tryz.func153, Tryz.ntmps153
      go_wp2
      go_ret
      exact ⟨_, rfl, hr.out⟩
  have h0 : X ≠ 0 := by
    intro e; subst e; rw [digs_zero] at hge
    exact h1 (digs_len_eq_zero.1 (by simpa using hge))
  obtain ⟨bx, cx, Cx, rfl, rfl, hax, hcx, hcapx, htx, hlx, hpx⟩ := hx.pos h0
  obtain ⟨by_, cy, Cy, rfl, rfl, hay, hcy, hcapy, hty, hly, hpy⟩ := hy.pos h1
  by_cases hY1 : (digs Y).length = 1
  · have hYd : digs Y = [nth (digs Y) 0] := by
      cases h : digs Y with
      | nil => rw [h] at hY1; simp at hY1
      | cons a l => rw [h] at hY1; simp at hY1; subst hY1; rfl
    have hYv : nth (digs Y) 0 = Y := by
      have := val_digs Y
      rw [hYd] at this
      simpa [val] using this
    have hyl : Y < WB := by have := lt_digs_len Y; rwa [hY1, Nat.pow_one] at this
    have hcell : w.cell? ⟨by_, 0, none⟩ = some (.int .u64 (Y : Int)) := by
      rw [hay.cellN (by omega)]
      have := nth_take (l := Cy) (i := 0) (k := (digs Y).length) (by omega)
      rw [hty, hYv] at this
      rw [← this]
    have hs := mulAddWW_c w z _ X Y 0 o _ hz hx (by omega) hyl WB_pos
    obtain ⟨pz, lz, cz, rfl⟩ := stor_slice hz
    rw [hY1] at *
    have e1 := int_eq0 hpx
    generalize (digs X).length = m at *
    clear hYd hYv hty htx hz hx hy hax hay hG
    go_enter Tryz.func153, Tryz.ntmps153
    go_wp2_with fail
    refine hs.mono ?_
    rintro e w1 ⟨v, rfl, hr⟩
    go_wp2
    go_ret
    exact ⟨_, rfl, hr⟩
  have hal1 := alias_c w z _ o _ hz hx.stor
  have hal2 := fun n => alias_c (w.drewN n) z _ o _ (hz.chg ((Chg.refl w (fun _ => False)).drewN n) (fun _ _ h => h)) (hy.chg ((Chg.refl w (fun _ => False)).drewN n) (fun _ _ h => h)).stor
  obtain ⟨pz, lz, cz, rfl⟩ := stor_slice hz
  have hvX : val (digs X) = X := val_digs X
  have hvY : val (digs Y) = Y := val_digs Y
  generalize hXL : digs X = XL at *
  generalize hYL : digs Y = YL at *
  generalize hm : XL.length = m at *
  generalize hn' : YL.length = n at *
  have e1 := int_eq0 hpx
  have e2 := int_eq0 hpy
  have e3 : ((n : Int) == 1) = false := by rw [beq_eq_false_iff_ne]; omega
  have e4 : ¬ m < n := by omega
  have key := fun (n0 : Nat) (pz : Option Addr) (lz cz : Nat) (o' : Option Nat) (hst : Stor (w.drewN n0) (.slice pz lz cz) o') => make_c (w.drewN n0) _ o' hst (m + n) (by omega) (by omega)
  have htx0 : Cx.take m = XL := htx
  have hty0 : Cy.take n = YL := hty
  replace hvX := Lib.hid hvX
  replace hvY := Lib.hid hvY
  replace hm := Lib.hid hm
  replace hn' := Lib.hid hn'
  replace htx := Lib.hid htx
  replace hty := Lib.hid hty
  replace hXL := Lib.hid hXL
  replace hYL := Lib.hid hYL
  clear hx hy
  replace key := Lib.hid key
  replace htx0 := Lib.hid htx0
  replace hty0 := Lib.hid hty0
  by_cases ha1 : o = some bx
  · have hb1 : (decide (o = some bx ∧ o ≠ none)) = true := by subst ha1; simp
    rw [hb1] at hal1
    go_enter Tryz.func153, Tryz.ntmps153
    go_wp2_with fail
    refine hal1.mono ?_
    rintro e w' ⟨rfl, n1, rfl⟩
    have hk := key.out n1 none 0 0 (none : Option Nat) (stor_none _)
    rw [Int.natCast_add] at hk
    go_wp2_with fail
    refine hk.mono ?_
    rintro e w1 ⟨r, rfl, b, cap, C, rfl, ha, hC, hnc, hcap, hb, hchg⟩
    have hcw : Chg w w1 (fun _ => False) := ((Chg.refl w (fun _ => False)).drewN _).trans (hchg.mono (fun _ _ h => h.elim))
    have hG1 := (hG.chg hcw (fun _ _ h => h)).g2
    have hax1 := hcw.arr hax (fun h => h)
    have hay1 := hcw.arr hay (fun h => h)
    have hbx : bx ≠ b := made_ne hb hax.lt (fun _ h => by cases h)
    have hby : by_ ≠ b := made_ne hb hay.lt (fun _ h => by cases h)
    have hbm := basicMul_c w1 b m n cap bx cx by_ cy C Cx Cy XL YL hpx (by omega) (by omega) ha (by omega) hnc hax1 htx0.out hm.out hay1 hty0.out hn'.out hbx hby
    have hb2 : (none : Option Nat) = some b ∨ w.heap.size = b := hb.imp (·.1) id
    clear hk hb hchg
    go_wp2_with fail
    refine hbm.mono ?_
    rintro e w2 ⟨rfl, R, hS, hR, hv⟩
    have hv5 : val R = X * Y := by rw [hv, hvX.out, hvY.out]
    have hnm := fun w' (ha : Arr w' b (spl C 0 R)) => norm_spl w' b (m + n) cap C R ha hC hR hnc hcap.2
    clear hbm
    replace hv := Lib.hid hv
    replace hv5 := Lib.hid hv5
    go_wp2_with fail
    refine (hnm _ hS.arr).mono ?_
    rintro e w6 ⟨rfl, hw⟩
    obtain rfl := hw
    go_wp2
    go_ret
    have hfin := natRes_spl hb2 hcw hS hC (by omega) hcap
    rw [hv5.out] at hfin
    rw [hv5.out]
    exact ⟨_, rfl, hfin.of_none⟩
  · have hb1 : (decide (o = some bx ∧ o ≠ none)) = false := by simp [ha1]
    rw [hb1] at hal1
    by_cases ha2 : o = some by_
    · have hb2 : (decide (o = some by_ ∧ o ≠ none)) = true := by subst ha2; simp
      rw [hb2] at hal2
      replace hal2 := Lib.hid hal2
      go_enter Tryz.func153, Tryz.ntmps153
      go_wp2_with fail
      refine hal1.mono ?_
      rintro e w' ⟨rfl, n1, rfl⟩
      go_wp2_with fail
      refine (hal2.out n1).mono ?_
      rintro e w' ⟨rfl, n2, rfl⟩
      rw [drewN_drewN]
      have hk := key.out (n1 + n2) none 0 0 (none : Option Nat) (stor_none _)
      rw [Int.natCast_add] at hk
      go_wp2_with fail
      refine hk.mono ?_
      rintro e w1 ⟨r, rfl, b, cap, C, rfl, ha, hC, hnc, hcap, hb, hchg⟩
      have hcw : Chg w w1 (fun _ => False) := ((Chg.refl w (fun _ => False)).drewN _).trans (hchg.mono (fun _ _ h => h.elim))
      have hG1 := (hG.chg hcw (fun _ _ h => h)).g2
      have hax1 := hcw.arr hax (fun h => h)
      have hay1 := hcw.arr hay (fun h => h)
      have hbx : bx ≠ b := made_ne hb hax.lt (fun _ h => by cases h)
      have hby : by_ ≠ b := made_ne hb hay.lt (fun _ h => by cases h)
      have hbm := basicMul_c w1 b m n cap bx cx by_ cy C Cx Cy XL YL hpx (by omega) (by omega) ha (by omega) hnc hax1 htx0.out hm.out hay1 hty0.out hn'.out hbx hby
      have hb2 : (none : Option Nat) = some b ∨ w.heap.size = b := hb.imp (·.1) id
      clear hk hb hchg
      go_wp2_with fail
      refine hbm.mono ?_
      rintro e w2 ⟨rfl, R, hS, hR, hv⟩
      have hv5 : val R = X * Y := by rw [hv, hvX.out, hvY.out]
      have hnm := fun w' (ha : Arr w' b (spl C 0 R)) => norm_spl w' b (m + n) cap C R ha hC hR hnc hcap.2
      clear hbm
      replace hv := Lib.hid hv
      replace hv5 := Lib.hid hv5
      go_wp2_with fail
      refine (hnm _ hS.arr).mono ?_
      rintro e w6 ⟨rfl, hw⟩
      obtain rfl := hw
      go_wp2
      go_ret
      have hfin := natRes_spl hb2 hcw hS hC (by omega) hcap
      rw [hv5.out] at hfin
      rw [hv5.out]
      exact ⟨_, rfl, hfin.of_none⟩
    · have hb2 : (decide (o = some by_ ∧ o ≠ none)) = false := by simp [ha2]
      rw [hb2] at hal2
      replace hal2 := Lib.hid hal2
      have hne : ∀ c, o = some c → bx ≠ c ∧ by_ ≠ c := fun c hc => ⟨fun e => ha1 (e ▸ hc), fun e => ha2 (e ▸ hc)⟩
      go_enter Tryz.func153, Tryz.ntmps153
      go_wp2_with fail
      refine hal1.mono ?_
      rintro e w' ⟨rfl, n1, rfl⟩
      go_wp2_with fail
      refine (hal2.out n1).mono ?_
      rintro e w' ⟨rfl, n2, rfl⟩
      rw [drewN_drewN]
      have hk := key.out (n1 + n2) pz lz cz o (hz.chg ((Chg.refl w (fun _ => False)).drewN _) (fun _ _ h => h))
      rw [Int.natCast_add] at hk
      go_wp2_with fail
      refine hk.mono ?_
      rintro e w1 ⟨r, rfl, b, cap, C, rfl, ha, hC, hnc, hcap, hb, hchg⟩
      have hcw : Chg w w1 (fun _ => False) := ((Chg.refl w (fun _ => False)).drewN _).trans (hchg.mono (fun _ _ h => h.elim))
      have hG1 := (hG.chg hcw (fun _ _ h => h)).g2
      have hax1 := hcw.arr hax (fun h => h)
      have hay1 := hcw.arr hay (fun h => h)
      have hbx : bx ≠ b := made_ne hb hax.lt (fun c h => (hne c h).1)
      have hby : by_ ≠ b := made_ne hb hay.lt (fun c h => (hne c h).2)
      have hbm := basicMul_c w1 b m n cap bx cx by_ cy C Cx Cy XL YL hpx (by omega) (by omega) ha (by omega) hnc hax1 htx0.out hm.out hay1 hty0.out hn'.out hbx hby
      have hb2 : o = some b ∨ w.heap.size = b := hb.imp (·.1) id
      clear hk hb hchg
      go_wp2_with fail
      refine hbm.mono ?_
      rintro e w2 ⟨rfl, R, hS, hR, hv⟩
      have hv5 : val R = X * Y := by rw [hv, hvX.out, hvY.out]
      have hnm := fun w' (ha : Arr w' b (spl C 0 R)) => norm_spl w' b (m + n) cap C R ha hC hR hnc hcap.2
      clear hbm
      replace hv := Lib.hid hv
      replace hv5 := Lib.hid hv5
      go_wp2_with fail
      refine (hnm _ hS.arr).mono ?_
      rintro e w6 ⟨rfl, hw⟩
      obtain rfl := hw
      go_wp2
      go_ret
      have hfin := natRes_spl hb2 hcw hS hC (by omega) hcap
      rw [hv5.out] at hfin
      rw [hv5.out]
      exact ⟨_, rfl, hfin⟩
end Go.Proofs.YtonepclpllelfaaGreatDoor

namespace Go.Proofs.YtonepclpllelfaaGreatDoor
open Go Go.RowKit

set_option maxHeartbeats 400000 in
theorem natmul_c (w : World) (z stk x y : Value) (X Y : Nat) (o ox oy : Option Nat) (hG : Glob w) (hz : Stor w z o) (hx : IsNat w x X ox) (hy : IsNat w y Y oy) (hn : (digs X).length < 40) (hn2 : (digs Y).length < 40) :
    Calls Tryz.prog 153 #[z, stk, x, y] w fun e w' => ∃ r, e = .returned r ∧ NatRes w w' o r (X * Y) := by
  by_cases hge : (digs Y).length ≤ (digs X).length
  · exact natmul_ge w z stk x y X Y o ox oy hG hz hx hy (by omega) hge hn2
  · have hc := natmul_ge w z stk y x Y X o oy ox hG hz hy hx (by omega) (by omega) hn
    have hlt : (digs X).length < (digs Y).length := by omega
    obtain ⟨px, cx, rfl, _, _⟩ := hx.shape
    obtain ⟨py, cy, rfl, _, _⟩ := hy.shape
    clear hz hx hy hG
    go_enter Tryz.func153, Tryz.ntmps153
    go_wp2_with fail
    refine hc.mono ?_
    rintro e w1 ⟨r, rfl, hr⟩
    go_wp2
    go_ret
    rw [Nat.mul_comm] at hr
    exact ⟨_, rfl, hr⟩

set_option maxRecDepth 100000 in
set_option maxHeartbeats 2000000 in
theorem natsqr_c (w : World) (z stk x : Value) (X : Nat) (o ox : Option Nat) (hG : Glob w) (hz : Stor w z o) (hx : IsNat w x X ox) (hn : (digs X).length < 12) :
    Calls Tryz.prog 152 #[z, stk, x] w fun e w' => ∃ r, e = .returned r ∧ NatRes w w' o r (X * X) := by
  by_cases h0 : X = 0
  · subst h0
    obtain ⟨px, cx, rfl, _, _⟩ := hx.shape
    obtain ⟨p, l, c, rfl, hl, hc, hr⟩ := NatRes.zero hz
    rw [digs_zero] at *
    replace hr := Lib.hid hr
    clear hz hx hG
    go_enter Tryz.func152, Tryz.ntmps152
    go_wp2
    go_ret
    exact ⟨_, rfl, hr.out⟩
  obtain ⟨bx, cx, Cx, rfl, rfl, hax, hcx, hcapx, htx, hlx, hpx⟩ := hx.pos h0
  by_cases hX1 : (digs X).length = 1
  · have hXd : digs X = [nth (digs X) 0] := by
      cases h : digs X with
      | nil => rw [h] at hX1; simp at hX1
      | cons a l => rw [h] at hX1; simp at hX1; subst hX1; rfl
    have hXv : nth (digs X) 0 = X := by
      have := val_digs X
      rw [hXd] at this
      simpa [val] using this
    have hxl : X < WB := by have := lt_digs_len X; rwa [hX1, Nat.pow_one] at this
    have hcell : w.cell? ⟨bx, 0, none⟩ = some (.int .u64 (X : Int)) := by
      rw [hax.cellN (by omega)]
      have := nth_take (l := Cx) (i := 0) (k := (digs X).length) (by omega)
      rw [htx, hXv] at this
      rw [← this]
    have hmk := make_c w z o hz 2 (by omega) (by omega)
    obtain ⟨pz, lz, cz, rfl⟩ := stor_slice hz
    have hmm := mullo_mulhi X X
    have hh := mulhi_lt hxl hxl
    have hl := mullo_lt X X
    rw [hX1] at *
    replace hmm := Lib.hid hmm
    clear hXd hXv htx hz hx hax hG
    go_enter Tryz.func152, Tryz.ntmps152
    go_wp2_with fail
    refine hmk.mono ?_
    rintro e w1 ⟨r, rfl, b, cap, C, rfl, ha, hC, hnc, hcap, hb, hchg⟩
    have hmw := fun w => mulWW_c X X hxl hxl w
    go_wp2_with fail
    refine (hmw _).mono ?_
    rintro e w2 ⟨rfl, hw⟩
    obtain rfl := hw.symm
    have z1 := ha.cellN (i := 1) (by omega)
    have z1f := ha.frozen 1
    have z0 := ha.cellN (i := 0) (by omega)
    have z0f := ha.frozen 0
    have hS1 := (Sub.refl ha).set (i := 1) (mulhi X X) hh
    have z0' := hS1.arr.cellN (i := 0) (by rw [List.length_set]; omega)
    have z0f' := hS1.arr.frozen 0
    have hS2 := hS1.set (i := 0) (mullo X X) hl
    have hsp : (C.set 1 (mulhi X X)).set 0 (mullo X X) = spl C 0 [mullo X X, mulhi X X] := by
      match C, hC, hnc with
      | [], hC, hnc => simp at hC; omega
      | [a], hC, hnc => simp at hC; omega
      | a :: c :: C, _, _ => simp [spl]
    rw [hsp] at hS2
    have hv5 : val [mullo X X, mulhi X X] = X * X := by simp [val]; exact hmm.out
    have hnm := fun w' (ha : Arr w' b (spl C 0 [mullo X X, mulhi X X])) => norm_spl w' b 2 cap C _ ha hC rfl hnc hcap.2
    have hb2 : o = some b ∨ w.heap.size = b := hb.imp (·.1) id
    replace hv5 := Lib.hid hv5
    clear hb hS1 hsp
    go_wp2_with fail
    refine (hnm _ hS2.arr).mono ?_
    rintro e w6 ⟨rfl, hw⟩
    obtain rfl := hw
    go_wp2
    go_ret
    have hfin := natRes_spl hb2 hchg hS2 hC (by simp; omega) hcap
    rw [hv5.out] at hfin
    rw [hv5.out]
    exact ⟨_, rfl, hfin⟩
  have hal1 := alias_c w z _ o _ hz hx.stor
  obtain ⟨pz, lz, cz, rfl⟩ := stor_slice hz
  have hvX : val (digs X) = X := val_digs X
  generalize hXL : digs X = XL at *
  generalize hm : XL.length = m at *
  have e1 := int_eq0 hpx
  have e3 : ((m : Int) == 1) = false := by rw [beq_eq_false_iff_ne]; omega
  have e4 : m < 80 := by omega
  have key := fun (n0 : Nat) (pz : Option Addr) (lz cz : Nat) (o' : Option Nat) (hst : Stor (w.drewN n0) (.slice pz lz cz) o') => make_c (w.drewN n0) _ o' hst (m + m) (by omega) (by omega)
  have htx0 : Cx.take m = XL := htx
  replace hvX := Lib.hid hvX
  replace hm := Lib.hid hm
  replace htx := Lib.hid htx
  replace hXL := Lib.hid hXL
  clear hx
  replace key := Lib.hid key
  replace htx0 := Lib.hid htx0
  by_cases ha1 : o = some bx
  · have hb1 : (decide (o = some bx ∧ o ≠ none)) = true := by subst ha1; simp
    rw [hb1] at hal1
    go_enter Tryz.func152, Tryz.ntmps152
    go_wp2_with fail
    refine hal1.mono ?_
    rintro e w' ⟨rfl, n1, rfl⟩
    have hk := key.out n1 none 0 0 (none : Option Nat) (stor_none _)
    rw [show ((m + m : Nat) : Int) = 2 * (m : Int) by omega] at hk
    go_wp2_with fail
    refine hk.mono ?_
    rintro e w1 ⟨r, rfl, b, cap, C, rfl, ha, hC, hnc, hcap, hb, hchg⟩
    have hcw : Chg w w1 (fun _ => False) := ((Chg.refl w (fun _ => False)).drewN _).trans (hchg.mono (fun _ _ h => h.elim))
    have hG1 := (hG.chg hcw (fun _ _ h => h)).g0
    have hG2 := (hG.chg hcw (fun _ _ h => h)).g1
    have hax1 := hcw.arr hax (fun h => h)
    have hbx : bx ≠ b := made_ne hb hax.lt (fun _ h => by cases h)
    have hbm := basicMul_c w1 b m m cap bx cx bx cx C Cx Cx XL XL hpx (by omega) (by omega) ha (by omega) hnc hax1 htx0.out hm.out hax1 htx0.out hm.out hbx hbx
    have hb2 : (none : Option Nat) = some b ∨ w.heap.size = b := hb.imp (·.1) id
    clear hk hb hchg
    go_wp2_with fail
    refine hbm.mono ?_
    rintro e w2 ⟨rfl, R, hS, hR, hv⟩
    have hv5 : val R = X * X := by rw [hv, hvX.out]
    have hnm := fun w' (ha : Arr w' b (spl C 0 R)) => norm_spl w' b (m + m) cap C R ha hC hR hnc hcap.2
    clear hbm
    replace hv := Lib.hid hv
    replace hv5 := Lib.hid hv5
    go_wp2_with fail
    refine (hnm _ hS.arr).mono ?_
    rintro e w6 ⟨rfl, hw⟩
    obtain rfl := hw
    go_wp2
    go_ret
    have hfin := natRes_spl hb2 hcw hS hC (by omega) hcap
    rw [hv5.out] at hfin
    rw [hv5.out]
    exact ⟨_, rfl, hfin.of_none⟩
  · have hb1 : (decide (o = some bx ∧ o ≠ none)) = false := by simp [ha1]
    rw [hb1] at hal1
    have hne : ∀ c, o = some c → bx ≠ c := fun c hc e => ha1 (e ▸ hc)
    go_enter Tryz.func152, Tryz.ntmps152
    go_wp2_with fail
    refine hal1.mono ?_
    rintro e w' ⟨rfl, n1, rfl⟩
    have hk := key.out n1 pz lz cz o (hz.chg ((Chg.refl w (fun _ => False)).drewN _) (fun _ _ h => h))
    rw [show ((m + m : Nat) : Int) = 2 * (m : Int) by omega] at hk
    go_wp2_with fail
    refine hk.mono ?_
    rintro e w1 ⟨r, rfl, b, cap, C, rfl, ha, hC, hnc, hcap, hb, hchg⟩
    have hcw : Chg w w1 (fun _ => False) := ((Chg.refl w (fun _ => False)).drewN _).trans (hchg.mono (fun _ _ h => h.elim))
    have hG1 := (hG.chg hcw (fun _ _ h => h)).g0
    have hG2 := (hG.chg hcw (fun _ _ h => h)).g1
    have hax1 := hcw.arr hax (fun h => h)
    have hbx : bx ≠ b := made_ne hb hax.lt hne
    have hbm := basicMul_c w1 b m m cap bx cx bx cx C Cx Cx XL XL hpx (by omega) (by omega) ha (by omega) hnc hax1 htx0.out hm.out hax1 htx0.out hm.out hbx hbx
    have hb2 : o = some b ∨ w.heap.size = b := hb.imp (·.1) id
    clear hk hb hchg
    go_wp2_with fail
    refine hbm.mono ?_
    rintro e w2 ⟨rfl, R, hS, hR, hv⟩
    have hv5 : val R = X * X := by rw [hv, hvX.out]
    have hnm := fun w' (ha : Arr w' b (spl C 0 R)) => norm_spl w' b (m + m) cap C R ha hC hR hnc hcap.2
    clear hbm
    replace hv := Lib.hid hv
    replace hv5 := Lib.hid hv5
    go_wp2_with fail
    refine (hnm _ hS.arr).mono ?_
    rintro e w6 ⟨rfl, hw⟩
    obtain rfl := hw
    go_wp2
    go_ret
    have hfin := natRes_spl hb2 hcw hS hC (by omega) hcap
    rw [hv5.out] at hfin
    rw [hv5.out]
    exact ⟨_, rfl, hfin⟩
end Go.Proofs.YtonepclpllelfaaGreatDoor

namespace Go.Proofs.YtonepclpllelfaaGreatDoor
open Go Go.RowKit

set_option maxHeartbeats 1000000 in
theorem divW_c (w : World) (z x : Value) (X y : Nat) (o ox : Option Nat) (hz : Stor w z o) (hx : IsNat w x X ox) (hn : (digs X).length ≤ 900) (hy : y < WB) (hy0 : 0 < y) :
    Calls Tryz.prog 154 #[z, x, .int .u64 y] w fun e w' => ∃ r, e = .returned (.tuple #[r, .int .u64 ((X % y : Nat) : Int)]) ∧ NatRes w w' o r (X / y) := by
  have e0 := int_eq0 hy0
  by_cases h1 : y = 1
  · subst h1
    have hs := set_c w z x X o ox hz hx (by omega)
    obtain ⟨px, cx, rfl, _, _⟩ := hx.shape
    obtain ⟨pz, lz, cz, rfl⟩ := stor_slice hz
    clear hz hx
    go_enter Tryz.func154, Tryz.ntmps154
    go_wp2_with fail
    refine hs.mono ?_
    rintro e w1 ⟨v, rfl, hr⟩
    go_wp2
    go_ret2
    rw [Nat.mod_one, Nat.div_one]
    exact ⟨_, rfl, hr⟩
  have e1 : ((y : Int) == 1) = false := by rw [beq_eq_false_iff_ne]; omega
  by_cases h0 : X = 0
  · subst h0
    obtain ⟨px, cx, rfl, _, _⟩ := hx.shape
    obtain ⟨p, l, c, rfl, hl, hc, hr⟩ := NatRes.zero hz
    rw [digs_zero]
    replace hr := Lib.hid hr
    clear hz hx
    go_enter Tryz.func154, Tryz.ntmps154
    go_wp2
    go_ret2
    rw [Nat.zero_mod, Nat.zero_div]
    exact ⟨_, rfl, hr.out⟩
  obtain ⟨bx, cx, Cx, rfl, rfl, hax, hcx, hcapx, htx, hlx, hpx⟩ := hx.pos h0
  have hmk := make_c w z o hz (digs X).length (by omega) (by omega)
  obtain ⟨pz, lz, cz, rfl⟩ := stor_slice hz
  have hvX : val (digs X) = X := val_digs X
  generalize hXL : digs X = XL at *
  obtain ⟨m, hm⟩ : ∃ m, XL.length = m + 1 := ⟨XL.length - 1, by omega⟩
  rw [hm] at hmk hx htx hlx ⊢
  have hlen : m + 1 ≤ 900 := by omega
  have e2 : (((m : Int) + 1) == 0) = false := by rw [beq_eq_false_iff_ne]; omega
  have htx0 : (Cx.drop 0).take (m + 1) = XL := htx
  replace hvX := Lib.hid hvX
  replace hXL := Lib.hid hXL
  replace htx := Lib.hid htx
  replace htx0 := Lib.hid htx0
  replace hm := Lib.hid hm
  clear hz hx hn hpx
  go_enter Tryz.func154, Tryz.ntmps154
  go_wp2_with fail
  have hmk' : Calls Tryz.prog 127 #[.slice pz lz cz, .int .i64 ((m : Int) + 1)] w fun e w' => ∃ r, e = .returned r ∧ MakeRes w w' o r (m + 1) := by exact_mod_cast hmk
  refine hmk'.mono ?_
  rintro e w1 ⟨r, rfl, b, cap, C, rfl, ha, hC, hnc, hcap, hb, hchg⟩
  have hax1 := hchg.arr hax (fun h => h)
  have hb2 : o = some b ∨ w.heap.size = b := hb.imp (·.1) id
  have hd := divWVW_c w1 b 0 m cap bx 0 cx y C Cx (by omega) hy hy0 ha (by omega) hax1 (by omega) (.inr (Nat.le_refl _))
  rw [htx0.out, hvX.out] at hd
  clear hmk hmk' hb
  go_wp2_with fail
  refine hd.mono ?_
  rintro e w2 ⟨R, rfl, hS, hR, hv⟩
  have hnm := fun w' (ha : Arr w' b (spl C 0 R)) => norm_spl w' b (m + 1) cap C R ha hC hR hnc hcap.2
  clear hd
  replace hv := Lib.hid hv
  go_wp2_with fail
  refine (hnm _ hS.arr).mono ?_
  rintro e w6 ⟨rfl, hw⟩
  obtain rfl := hw
  go_wp2
  go_ret2
  have hfin := natRes_spl hb2 hchg hS hC (by omega) hcap
  rw [hv.out] at hfin
  rw [hv.out]
  exact ⟨_, rfl, hfin⟩

theorem greaterThan_c (x1 x2 y1 y2 : Nat) (w : World) :
    Calls Tryz.prog 223 #[.int .u64 x1, .int .u64 x2, .int .u64 y1, .int .u64 y2] w fun e w' => e = .returned (.bool (decide (y1 < x1 ∨ x1 = y1 ∧ y2 < x2))) ∧ w = w' := by
  by_cases h1 : y1 < x1
  · go_enter Tryz.func223, Tryz.ntmps223
    go_wp2
    go_ret
    exact ⟨by simp [h1], rfl⟩
  · by_cases h2 : x1 = y1
    · subst h2
      by_cases h3 : y2 < x2
      · go_enter Tryz.func223, Tryz.ntmps223
        go_wp2
        go_ret
        exact ⟨by simp [h3], rfl⟩
      · go_enter Tryz.func223, Tryz.ntmps223
        go_wp2
        go_ret
        exact ⟨by simp [h3], rfl⟩
    · have e : ((x1 : Int) == (y1 : Int)) = false := by rw [beq_eq_false_iff_ne]; omega
      go_enter Tryz.func223, Tryz.ntmps223
      go_wp2
      go_ret
      exact ⟨by simp [h1, h2], rfl⟩
end Go.Proofs.YtonepclpllelfaaGreatDoor

namespace Go.Proofs.YtonepclpllelfaaGreatDoor
open Go Go.RowKit

theorem infoWall : ∃ i, Tryz.prog.info? 112 = some i ∧ i.zero = some (.int .u64 0) ∧ i.size = 1 ∧ i.bytes = 8 := by
  have h := makeZ
  cases hi : Tryz.prog.info? 112 with
  | none => rw [hi] at h; cases h
  | some i =>
    rw [hi] at h
    simp only [Option.map_some, Option.some.injEq, Prod.mk.injEq] at h
    exact ⟨i, rfl, h⟩
theorem zeroCellsW (n : Nat) : Builtin.zeroCells (Value.int .u64 0).cells n = ((List.replicate n 0).map uw).toArray := by
  unfold Builtin.zeroCells
  apply Array.ext
  · simp [Value.cells]
  · intro j h1 h2
    simp [Value.cells, uw, Nat.mod_one]
/-- k noughts are added to a row that has no room for them: a new row. -/
theorem run_growW (w : World) (T ty : TypeId) (hT : Tryz.prog.underlying T = some (.slice 112)) (h3 : Tryz.prog.underlying 3 = some (.int .i64)) (base : Option Addr) (l c k : Nat) (L : List Nat)
    (hold : (base = none ∧ l = 0 ∧ L = []) ∨ ∃ b, base = some ⟨b, 0, none⟩ ∧ Arr w b L) (hl : l = L.length) (hk : 0 < k) (hg : c < l + k) (hsm : l + k ≤ 1000000) :
    (Builtin.append_ #[T, 3] ty #[.slice base l c, .int .i64 (k : Int)]).run Tryz.prog w =
      .ok (.slice (some ⟨w.heap.size, 0, none⟩) (l + k) (grownCap w (l + k) c 112)) (w.drew.alloc (.cells ((L ++ List.replicate (grownCap w (l + k) c 112 - l) 0).map uw).toArray 112 (0, 0))) := by
  obtain ⟨i, hi, hz, hs, hb⟩ := infoWall
  have hfc : (Builtin.firstCells i.size l (.slice base l c)).run Tryz.prog w.drew = .ok (L.map uw).toArray w.drew := by
    rcases hold with ⟨rfl, rfl, rfl⟩ | ⟨b, rfl, ha⟩
    · exact run_firstCells_none _ _ _ _ _
    · rw [hs]
      refine run_firstCells_some w.drew 1 l ⟨b, 0, none⟩ l c (L.map uw) (by simp; omega) ?_
      intro j v hv
      rw [List.getElem?_map] at hv
      have hj : j < L.length := by
        rcases Nat.lt_or_ge j L.length with h | h
        · exact h
        · rw [List.getElem?_eq_none h] at hv; cases hv
      rw [get_nth hj] at hv
      simp only [Option.map_some, Option.some.injEq] at hv
      subst hv
      have e : (⟨b, 0, none⟩ : Addr).add j = ⟨b, 0 + j, none⟩ := by unfold Addr.add; split <;> simp_all
      rw [e, Nat.zero_add]
      exact ha.cellN hj
  have hge := grownCap_ge w (l + k) c 112
  have h := Lib.run_append_grow_zeros w T 3 ty 112 i _ .i64 .i64 hT h3 hi hz base l c (L.map uw) hfc k hk (by omega) hg (by omega) (by rw [hb]; omega) (by
    rw [hb]; exact growslice_fits hg (by omega))
  rw [h, zeroCellsW, zeroCellsW]
  have e2 : (L.map uw).toArray ++ ((List.replicate k 0).map uw).toArray ++ ((List.replicate (grownCap w (l + k) c 112 - (l + k)) 0).map uw).toArray = ((L ++ List.replicate (grownCap w (l + k) c 112 - l) 0).map uw).toArray := by
    generalize grownCap w (l + k) c 112 = G at hge ⊢
    have e : List.replicate (G - l) 0 = List.replicate k 0 ++ List.replicate (G - (l + k)) 0 := by
      have e0 : G - l = k + (G - (l + k)) := by omega
      rw [List.replicate_append_replicate, e0]
    rw [e]
    simp
  rw [e2]

theorem arr_alloc {w : World} {C : List Nat} {a : Array Value} (hC : Wd C) (h : a = (C.map uw).toArray) : Arr (w.alloc (.cells a 112 (0, 0))) w.heap.size C := by
  subst h
  refine ⟨?_, hC⟩
  show (w.heap.push _)[w.heap.size]? = _
  rw [Array.getElem?_push, if_pos rfl]

set_option maxHeartbeats 1000000 in
theorem grow287_c (w : World) (n : Nat) (hn0 : 0 < n) (hn : n ≤ 1000) :
    Calls Tryz.prog 217 #[.slice none 0 0, .int .i64 n] w fun e w' => ∃ G, n ≤ G ∧ e = .returned (.slice (some ⟨w.heap.size, 0, none⟩) 0 G) ∧ Chg w w' (fun _ => False) ∧ Arr w' w.heap.size (List.replicate G 0) ∧ w'.heap.size = w.heap.size + 1 := by
  have hr := fun ty => run_growW w 49 ty Tryz.underlying49 Tryz.underlying3 none 0 0 n [] (.inl ⟨rfl, rfl, rfl⟩) rfl hn0 (by omega) (by omega)
  have hG := grownCap_ge w (0 + n) 0 112
  obtain ⟨G, hGe⟩ : ∃ G, G = grownCap w (0 + n) 0 112 := ⟨_, rfl⟩
  have hG63 : G ≤ 9223372036854775807 := by
    have := grownCap_le_maxLen w (0 + n) 0 112 (by unfold maxLen; omega)
    rw [← hGe] at this
    unfold maxLen at this
    omega
  rw [← hGe] at hr hG
  simp only [Nat.zero_add, List.nil_append, Nat.sub_zero] at hr hG
  replace hGe := Lib.hid hGe
  have e1 : (0 : Int) < (n : Int) := by omega
  go_enter Tryz.func217, Tryz.ntmps217
  go_wp2_with (at_builtin; refine Lib.wpList_append_run _ rfl _ _ _ _ rfl _ _ rfl rfl _ _ (hr _) ?_)
  all_goals
    go_ret
    refine ⟨G, hG, rfl, ((Chg.refl w _).alloc _).drew, ?_, by simp⟩
    have := arr_alloc (w := w) (C := List.replicate G 0) (a := Array.replicate G (uw 0)) (Wd.zeros G) (by simp)
    exact ⟨this.heap, this.wd⟩

set_option maxHeartbeats 1000000 in
/-- slices.Grow where there is room. -/
theorem grow313_room (w : World) (b l c n : Nat) (hlc : l ≤ c) (hc : c ≤ 9223372036854775807) (hn : n ≤ 1000) (hr : l + n ≤ c) :
    Calls Tryz.prog 247 #[.slice (some ⟨b, 0, none⟩) l c, .int .i64 n] w fun e w' => e = .returned (.slice (some ⟨b, 0, none⟩) l c) ∧ w = w' := by
  have h2 : IntKind.i64.wrap ((c : Int) - (l : Int)) = (c : Int) - (l : Int) := IntWalk.i64_in _ (by omega)
  have h3 : IntKind.i64.wrap ((n : Int) - ((c : Int) - (l : Int))) = (n : Int) - ((c : Int) - (l : Int)) := IntWalk.i64_in _ (by omega)
  have h4 : ¬ (0 : Int) < ((n : Int) - ((c : Int) - (l : Int))) := by omega
  go_enter Tryz.func247, Tryz.ntmps247
  go_wp2
  go_ret
  exact ⟨rfl, rfl⟩
set_option maxHeartbeats 1000000 in
theorem grow313_nil (w : World) (n : Nat) (hn0 : 0 < n) (hn : n ≤ 1000) :
    Calls Tryz.prog 247 #[.slice none 0 0, .int .i64 n] w fun e w' => ∃ G, n ≤ G ∧ G ≤ 9223372036854775807 ∧ e = .returned (.slice (some ⟨w.heap.size, 0, none⟩) 0 G) ∧ Chg w w' (fun _ => False) ∧ Arr w' w.heap.size (List.replicate G 0) ∧ w'.heap.size = w.heap.size + 1 := by
  have hr := fun ty => run_growW w 48 ty Tryz.underlying48 Tryz.underlying3 none 0 0 n [] (.inl ⟨rfl, rfl, rfl⟩) rfl hn0 (by omega) (by omega)
  have hG := grownCap_ge w (0 + n) 0 112
  obtain ⟨G, hGe⟩ : ∃ G, G = grownCap w (0 + n) 0 112 := ⟨_, rfl⟩
  have hG63 : G ≤ 9223372036854775807 := by
    have := grownCap_le_maxLen w (0 + n) 0 112 (by unfold maxLen; omega)
    rw [← hGe] at this
    unfold maxLen at this
    omega
  rw [← hGe] at hr hG
  simp only [Nat.zero_add, List.nil_append, Nat.sub_zero] at hr hG
  replace hGe := Lib.hid hGe
  have e1 : (0 : Int) < (n : Int) := by omega
  go_enter Tryz.func247, Tryz.ntmps247
  go_wp2_with (at_builtin; refine Lib.wpList_append_run _ rfl _ _ _ _ rfl _ _ rfl rfl _ _ (hr _) ?_)
  all_goals
    go_ret
    refine ⟨G, hG, hG63, rfl, ((Chg.refl w _).alloc _).drew, ?_, by simp⟩
    have := arr_alloc (w := w) (C := List.replicate G 0) (a := Array.replicate G (uw 0)) (Wd.zeros G) (by simp)
    exact ⟨this.heap, this.wd⟩
set_option maxHeartbeats 1000000 in
/-- slices.Grow where there is none: a new row with the old words at its head. -/
theorem grow313_new (w : World) (b l c n : Nat) (C : List Nat) (ha : Arr w b C) (hC : C.length = c) (hlc : l ≤ c) (hc : c ≤ 900000) (hn : n ≤ 1000) (hr : c < l + n) :
    Calls Tryz.prog 247 #[.slice (some ⟨b, 0, none⟩) l c, .int .i64 n] w fun e w' => ∃ G, l + n ≤ G ∧ G ≤ 9223372036854775807 ∧ e = .returned (.slice (some ⟨w.heap.size, 0, none⟩) l G) ∧ Chg w w' (fun _ => False) ∧ Arr w' w.heap.size (C ++ List.replicate (G - c) 0) ∧ w'.heap.size = w.heap.size + 1 := by
  have hrn := fun ty => run_growW w 48 ty Tryz.underlying48 Tryz.underlying3 (some ⟨b, 0, none⟩) c c (l + n - c) C (.inr ⟨b, rfl, ha⟩) hC.symm (by omega) (by omega) (by omega)
  rw [show c + (l + n - c) = l + n by omega] at hrn
  have hG := grownCap_ge w (l + n) c 112
  obtain ⟨G, hGe⟩ : ∃ G, G = grownCap w (l + n) c 112 := ⟨_, rfl⟩
  have hG63 : G ≤ 9223372036854775807 := by
    have := grownCap_le_maxLen w (l + n) c 112 (by unfold maxLen; omega)
    rw [← hGe] at this
    unfold maxLen at this
    omega
  rw [← hGe] at hrn hG
  replace hGe := Lib.hid hGe
  have hk : ((l + n - c : Nat) : Int) = (n : Int) - ((c : Int) - (l : Int)) := by omega
  rw [hk] at hrn
  have h2 : IntKind.i64.wrap ((c : Int) - (l : Int)) = (c : Int) - (l : Int) := IntWalk.i64_in _ (by omega)
  have h3 : IntKind.i64.wrap ((n : Int) - ((c : Int) - (l : Int))) = (n : Int) - ((c : Int) - (l : Int)) := IntWalk.i64_in _ (by omega)
  have h4 : (0 : Int) < ((n : Int) - ((c : Int) - (l : Int))) := by omega
  have hlG : l ≤ G := by omega
  go_enter Tryz.func247, Tryz.ntmps247
  go_wp2_with (at_builtin; refine Lib.wpList_append_run _ rfl _ _ _ _ rfl _ _ rfl rfl _ _ (hrn _) ?_)
  all_goals
    go_ret
    refine ⟨G, hG, hG63, rfl, ((Chg.refl w _).alloc _).drew, ?_, by simp⟩
    have := arr_alloc (w := w) (C := C ++ List.replicate (G - c) 0) (a := (C.map uw ++ List.replicate (G - c) (uw 0)).toArray) (ha.wd.append (Wd.zeros _)) (by simp)
    exact ⟨this.heap, this.wd⟩
end Go.Proofs.YtonepclpllelfaaGreatDoor

namespace Go.Proofs.YtonepclpllelfaaGreatDoor
open Go Go.RowKit

def r4 (n : Nat) : Nat := (n + 3) / 4 * 4
theorem r4_ge (n : Nat) : n ≤ r4 n := by unfold r4; omega
theorem r4_le (n : Nat) : r4 n ≤ n + 3 := by unfold r4; omega
theorem andNot_all : (List.range 901).all (fun n => decide (bits .andNot .i64 ((n : Int) + 3) 3 = ((r4 n : Nat) : Int))) = true := by kernel_rfl
@[go_sem ↓ high] theorem bits_andNot3 (n : Nat) (h : n ≤ 900) : bits .andNot .i64 ((n : Int) + 3) 3 = (r4 n : Int) := by
  have := List.all_eq_true.1 andNot_all n (List.mem_range.2 (by omega))
  exact of_decide_eq_true this

theorem cell1 {w : World} {b : Nat} {v : Value} {T : TypeId} (h : w.heap[b]? = some (.cells #[v] T (0, 0))) : w.cell? ⟨b, 0, none⟩ = some v := by
  unfold World.cell?; simp [h]
theorem frozen1 {w : World} {b : Nat} {v : Array Value} {T : TypeId} (h : w.heap[b]? = some (.cells v T (0, 0))) (i : Nat) : w.frozen? ⟨b, i, none⟩ = false := by
  unfold World.frozen?; rw [h]; simp
theorem set1 {w : World} {b : Nat} {v v' : Value} {T : TypeId} (h : w.heap[b]? = some (.cells #[v] T (0, 0))) : (w.setCell ⟨b, 0, none⟩ v').heap[b]? = some (.cells #[v'] T (0, 0)) := by
  simp only [World.setCell, Array.getElem?_modify, if_true, h, Option.map_some]
  simp
theorem chg_set (w : World) (b i : Nat) (v : Value) : Chg w (w.setCell ⟨b, i, none⟩ v) (fun k => k = b) :=
  ⟨rfl, rfl, rfl, by rw [World.size_setCell]; exact Nat.le_refl _, fun k _ hn => Below.heap_setCell _ _ _ _ hn⟩
theorem lt_of_heap {w : World} {b : Nat} {o : Obj} (h : w.heap[b]? = some o) : b < w.heap.size := by
  rcases Nat.lt_or_ge b w.heap.size with h' | h'
  · exact h'
  · rw [Array.getElem?_eq_none h'] at h; cases h
theorem Chg.heap {w w' : World} {S : Nat → Prop} (h : Chg w w' S) {b : Nat} {o : Obj} (hb : w.heap[b]? = some o) (hn : ¬ S b) : w'.heap[b]? = some o := by
  rw [h.block b (lt_of_heap hb) hn]; exact hb
theorem Arr.ne {w : World} {b t : Nat} {C : List Nat} {cs : Array Value} {T : TypeId} (ha : Arr w b C) (ht : w.heap[t]? = some (.cells cs T (0, 0))) (hT : T ≠ 112) : b ≠ t := by
  rintro rfl
  have := ha.heap
  rw [ht] at this
  simp only [Option.some.injEq, Obj.cells.injEq] at this
  exact hT this.2.1

/-- A stack that holds nothing. -/
def Stk0 (w : World) (s : Nat) : Prop := w.heap[s]? = some (.cells #[.pointer none] 206 (0, 0))
/-- A stack (block s) with its row of words (block b, in use up to l) behind block t. -/
structure Stk1 (w : World) (s t b l c : Nat) (C : List Nat) : Prop where
  hs : w.heap[s]? = some (.cells #[.pointer (some ⟨t, 0, none⟩)] 206 (0, 0))
  ht : w.heap[t]? = some (.cells #[.slice (some ⟨b, 0, none⟩) l c] 231 (0, 0))
  hb : Arr w b C
  hl : l ≤ c
  hC : C.length = c
  hc : c ≤ 9223372036854775807

theorem getStack_c (w : World) : Calls Tryz.prog 155 #[] w fun e w' => e = .returned (.pointer (some ⟨w.heap.size, 0, none⟩)) ∧ Stk0 w' w.heap.size ∧ Chg w w' (fun _ => False) := by
  go_enter Tryz.func155, Tryz.ntmps155
  go_wp2
  go_ret
  refine ⟨rfl, ?_, (Chg.refl w _).alloc _⟩
  show (w.heap.push _)[w.heap.size]? = _
  rw [Array.getElem?_push, if_pos rfl]
theorem save0 (w : World) (s : Nat) (h : Stk0 w s) : Calls Tryz.prog 181 #[.pointer (some ⟨s, 0, none⟩)] w fun e w' => e = .returned (.int .i64 0) ∧ w = w' := by
  have hc := cell1 h
  go_enter Tryz.func181, Tryz.ntmps181
  go_wp2
  go_ret
  exact ⟨rfl, rfl⟩
theorem save1 (w : World) (s t b l c : Nat) (C : List Nat) (h : Stk1 w s t b l c C) : Calls Tryz.prog 181 #[.pointer (some ⟨s, 0, none⟩)] w fun e w' => e = .returned (.int .i64 l) ∧ w = w' := by
  have hc := cell1 h.hs
  have hc2 := cell1 h.ht
  have hi : Calls Tryz.prog 216 #[.pointer (some ⟨t, 0, none⟩)] w fun e w' => e = .returned (.int .i64 l) ∧ w = w' := by
    go_enter Tryz.func216, Tryz.ntmps216
    go_wp2
    go_ret
    exact ⟨rfl, rfl⟩
  clear hc2
  go_enter Tryz.func181, Tryz.ntmps181
  go_wp2_with fail
  refine hi.mono ?_
  rintro e w' ⟨rfl, hw⟩
  obtain rfl := hw
  go_wp2
  go_ret
  exact ⟨rfl, rfl⟩
theorem restore0 (w : World) (s n : Nat) (u : FrameMode) (h : Stk0 w s) : CallsD Tryz.prog 180 #[.pointer (some ⟨s, 0, none⟩), .int .i64 n] u w fun e u' w' => u' = u ∧ e = .returned (.tuple #[]) ∧ w = w' := by
  have hc := cell1 h
  go_enter_d Tryz.func180, Tryz.ntmps180
  go_wp2
  exact bodyPost_ret (results_none rfl _ _ _) rfl ⟨rfl, rfl⟩
theorem free0 (w : World) (s : Nat) (u : FrameMode) (h : Stk0 w s) : CallsD Tryz.prog 156 #[.pointer (some ⟨s, 0, none⟩)] u w fun e u' w' => u' = u ∧ e = .returned (.tuple #[]) ∧ w = w' := by
  have hc := cell1 h
  go_enter_d Tryz.func156, Tryz.ntmps156
  go_wp2
  exact bodyPost_end (results_none rfl _ _ _) rfl ⟨rfl, rfl⟩
/-- A place of at most four words from a stack that holds nothing. -/
theorem stkSmall (w : World) (s n : Nat) (h : Stk0 w s) (hn0 : 0 < n) (hn : n ≤ 4) :
    Calls Tryz.prog 182 #[.pointer (some ⟨s, 0, none⟩), .int .i64 n] w fun e w' => ∃ b G C, e = .returned (.slice (some ⟨b, 0, none⟩) n G) ∧ w.heap.size ≤ b ∧ Arr w' b C ∧ n ≤ C.length ∧ n ≤ G ∧ Chg w w' (fun _ => False) := by
  have hc := cell1 h
  have hg := grow287_c w n hn0 (by omega)
  have e1 : (0 : Int) < (n : Int) := by omega
  clear h
  go_enter Tryz.func182, Tryz.ntmps182
  go_wp2_with fail
  refine hg.mono ?_
  rintro e w1 ⟨G, hG, rfl, hchg, ha, _⟩
  have hz1 := ha.cellN (i := 0) (by simp; omega)
  have hz2 := ha.frozen 0
  go_wp2
  go_ret
  have hx : (11259375 : Nat) < WB := by rw [WB_eq]; decide
  have hS := (Sub.refl ha).set (i := 0) 11259375 hx
  refine ⟨w.heap.size, G, _, rfl, Nat.le_refl _, hS.arr, by simp; omega, hG, hchg.trans (hS.chg.mono ?_)⟩
  rintro k _ rfl
  exact .inr (Nat.le_refl _)
end Go.Proofs.YtonepclpllelfaaGreatDoor

namespace Go.Proofs.YtonepclpllelfaaGreatDoor
open Go Go.RowKit

set_option maxHeartbeats 1000000 in
/-- A place from an empty row. -/
theorem innerNil (w : World) (t n : Nat) (ht : w.heap[t]? = some (.cells #[.slice none 0 0] 231 (0, 0))) (hn0 : 0 < n) (hn : n ≤ 800) :
    Calls Tryz.prog 218 #[.pointer (some ⟨t, 0, none⟩), .int .i64 n] w fun e w' => ∃ b c C, e = .returned (.slice (some ⟨b, 0, none⟩) n n) ∧ w.heap.size ≤ b ∧
      w'.heap[t]? = some (.cells #[.slice (some ⟨b, 0, none⟩) (r4 n) c] 231 (0, 0)) ∧ Arr w' b C ∧ r4 n ≤ c ∧ C.length = c ∧ c ≤ 9223372036854775807 ∧ Chg w w' (fun k => k = t) := by
  have h4 := r4_ge n
  have h5 := r4_le n
  have hc := cell1 ht
  have hg := grow313_nil w (r4 n) (by omega) (by omega)
  have e1 : (0 : Int) < (n : Int) := by omega
  have hn9 : n ≤ 900 := by omega
  go_enter Tryz.func218, Tryz.ntmps218
  go_wp2_with fail
  refine hg.mono ?_
  rintro e w1 ⟨G, hG, hG2, rfl, hchg, ha, hsz⟩
  have ht1 := hchg.heap ht (fun h => h)
  have hc1 := cell1 ht1
  have hf1 := frozen1 ht1 0
  have hlt := lt_of_heap ht
  have hne : w.heap.size ≠ t := by omega
  have hz1 := ha.cellN (i := 0) (by simp; omega)
  have hz2 := ha.frozen 0
  go_wp2
  go_ret
  have ht2 := set1 (v' := .slice (some ⟨w.heap.size, 0, none⟩) 0 G) ht1
  have ht3 := set1 (v' := .slice (some ⟨w.heap.size, 0, none⟩) (r4 n) G) ht2
  have hx : (1043915 : Nat) < WB := by rw [WB_eq]; decide
  have ha2 := (chg_set _ t 0 (.slice (some ⟨w.heap.size, 0, none⟩) (r4 n) G)).arr ((chg_set w1 t 0 (.slice (some ⟨w.heap.size, 0, none⟩) 0 G)).arr ha hne) hne
  have hS := (Sub.refl ha2).set (i := 0) 1043915 hx
  have hch : Chg w _ (fun k => k = t) := (((hchg.mono (fun _ _ h => h.elim)).trans ((chg_set w1 t 0 (.slice (some ⟨w.heap.size, 0, none⟩) 0 G)).mono (fun _ _ h => .inl h))).trans ((chg_set _ t 0 (.slice (some ⟨w.heap.size, 0, none⟩) (r4 n) G)).mono (fun _ _ h => .inl h))).trans (hS.chg.mono (fun k _ h => .inr (by rw [h]; exact Nat.le_refl _)))
  exact ⟨w.heap.size, G, _, rfl, Nat.le_refl _, hS.chg.heap ht3 (fun h => hne h.symm), hS.arr, hG, by simp, hG2, hch⟩

set_option maxHeartbeats 1000000 in
/-- A place from a row in use. -/
theorem innerMore (w : World) (t b l c n : Nat) (C : List Nat) (ht : w.heap[t]? = some (.cells #[.slice (some ⟨b, 0, none⟩) l c] 231 (0, 0))) (ha : Arr w b C) (hC : C.length = c) (hlc : l ≤ c) (hc63 : c ≤ 9223372036854775807) (hl : l ≤ 800) (hn0 : 0 < n) (hn : n ≤ 800) :
    Calls Tryz.prog 218 #[.pointer (some ⟨t, 0, none⟩), .int .i64 n] w fun e w' => ∃ b' c' C', e = .returned (.slice (some ⟨b', l, none⟩) n n) ∧ (b' = b ∨ w.heap.size ≤ b') ∧
      w'.heap[t]? = some (.cells #[.slice (some ⟨b', 0, none⟩) (l + r4 n) c'] 231 (0, 0)) ∧ Arr w' b' C' ∧ l + r4 n ≤ c' ∧ C'.length = c' ∧ c' ≤ 9223372036854775807 ∧ Chg w w' (fun k => k = t ∨ k = b) ∧
      ∃ Cb, Arr w' b Cb ∧ Cb.length = c ∧ ∀ j, j < l → nth Cb j = nth C j := by
  have h4 := r4_ge n
  have h5 := r4_le n
  have hc := cell1 ht
  have hf := frozen1 ht 0
  have hbt : b ≠ t := ha.ne ht (by decide)
  have hn9 : n ≤ 900 := by omega
  have hx : (1043915 : Nat) < WB := by rw [WB_eq]; decide
  have i1 : IntKind.i64.wrap ((l : Int) + (r4 n : Int)) = (l : Int) + (r4 n : Int) := IntWalk.i64_in _ (by omega)
  have i2 : ((l : Int) + (r4 n : Int)).toNat = l + r4 n := by omega
  have i3 : (0 : Int) ≤ (l : Int) + (r4 n : Int) := by omega
  have j1 : IntKind.i64.wrap ((l : Int) + (n : Int)) = (l : Int) + (n : Int) := IntWalk.i64_in _ (by omega)
  have j2 : ((l : Int) + (n : Int)).toNat = l + n := by omega
  have j3 : (0 : Int) ≤ (l : Int) + (n : Int) := by omega
  have j4 : (l : Int) ≤ (l : Int) + (n : Int) := by omega
  by_cases hr : l + r4 n ≤ c
  · have hg := grow313_room w b l c (r4 n) hlc hc63 (by omega) hr
    have k1 : (l : Int) + (r4 n : Int) ≤ (c : Int) := by omega
    have k2 : (l : Int) + (n : Int) ≤ (c : Int) := by omega
    have k3 : l + r4 n ≤ c := hr
    have hz1 := ha.cellN (i := l) (by omega)
    have hz2 := ha.frozen l
    go_enter Tryz.func218, Tryz.ntmps218
    go_wp2_with fail
    refine hg.mono ?_
    rintro e w1 ⟨rfl, hw⟩
    obtain rfl := hw
    go_wp2
    go_ret
    have ht2 := set1 (v' := .slice (some ⟨b, 0, none⟩) l c) ht
    have ht3 := set1 (v' := .slice (some ⟨b, 0, none⟩) (l + r4 n) c) ht2
    have ha2 := (chg_set _ t 0 (.slice (some ⟨b, 0, none⟩) (l + r4 n) c)).arr ((chg_set w t 0 (.slice (some ⟨b, 0, none⟩) l c)).arr ha hbt) hbt
    have hS := (Sub.refl ha2).set (i := l) 1043915 hx
    have hch : Chg w _ (fun k => k = t ∨ k = b) := (((chg_set w t 0 (.slice (some ⟨b, 0, none⟩) l c)).mono (fun _ _ h => .inl h)).trans ((chg_set _ t 0 (.slice (some ⟨b, 0, none⟩) (l + r4 n) c)).mono (fun _ _ h => .inl (.inl h)))).trans (hS.chg.mono (fun k _ h => .inl (.inr h)))
    refine ⟨b, c, _, rfl, .inl rfl, hS.chg.heap ht3 (fun h => hbt h.symm), hS.arr, hr, by simpa using hC, hc63, hch, _, hS.arr, by simpa using hC, ?_⟩
    intro j hj
    unfold nth
    rw [List.getElem?_set_ne (by omega)]
  · have hg := grow313_new w b l c (r4 n) C ha hC hlc (by omega) (by omega) (by omega)
    go_enter Tryz.func218, Tryz.ntmps218
    go_wp2_with fail
    refine hg.mono ?_
    rintro e w1 ⟨G, hG, hG2, rfl, hchg, ha1, hsz⟩
    have ht1 := hchg.heap ht (fun h => h)
    have hc1 := cell1 ht1
    have hf1 := frozen1 ht1 0
    have hlt := lt_of_heap ht
    have hne : w.heap.size ≠ t := by omega
    have hne2 : b ≠ w.heap.size := by have := ha.lt; omega
    have k1 : (l : Int) + (r4 n : Int) ≤ (G : Int) := by omega
    have k2 : (l : Int) + (n : Int) ≤ (G : Int) := by omega
    have hz1 := ha1.cellN (i := l) (by simp; omega)
    have hz2 := ha1.frozen l
    have hab1 := hchg.arr ha (fun h => h)
    clear hg hc hf
    go_wp2
    go_ret
    have ht2 := set1 (v' := .slice (some ⟨w.heap.size, 0, none⟩) l G) ht1
    have ht3 := set1 (v' := .slice (some ⟨w.heap.size, 0, none⟩) (l + r4 n) G) ht2
    have ha2 := (chg_set _ t 0 (.slice (some ⟨w.heap.size, 0, none⟩) (l + r4 n) G)).arr ((chg_set w1 t 0 (.slice (some ⟨w.heap.size, 0, none⟩) l G)).arr ha1 hne) hne
    have hab2 := (chg_set _ t 0 (.slice (some ⟨w.heap.size, 0, none⟩) (l + r4 n) G)).arr ((chg_set w1 t 0 (.slice (some ⟨w.heap.size, 0, none⟩) l G)).arr hab1 hbt) hbt
    have hS := (Sub.refl ha2).set (i := l) 1043915 hx
    have hch : Chg w _ (fun k => k = t ∨ k = b) := (((hchg.mono (fun _ _ h => h.elim)).trans ((chg_set w1 t 0 (.slice (some ⟨w.heap.size, 0, none⟩) l G)).mono (fun _ _ h => .inl (.inl h)))).trans ((chg_set _ t 0 (.slice (some ⟨w.heap.size, 0, none⟩) (l + r4 n) G)).mono (fun _ _ h => .inl (.inl h)))).trans (hS.chg.mono (fun k _ h => .inr (by rw [h]; exact Nat.le_refl _)))
    refine ⟨w.heap.size, G, _, rfl, .inr (Nat.le_refl _), hS.chg.heap ht3 (fun h => hne h.symm), hS.arr, hG, by simp; omega, hG2, hch, C, hS.other hne2 hab2, hC, fun j _ => rfl⟩
end Go.Proofs.YtonepclpllelfaaGreatDoor

namespace Go.Proofs.YtonepclpllelfaaGreatDoor
open Go Go.RowKit

/-- The stack's state: empty, or its two blocks and how much is in use. -/
def StkS (w : World) (s : Nat) : Option (Nat × Nat × Nat) → Prop
  | none => Stk0 w s
  | some (t, b, l) => ∃ c C, Stk1 w s t b l c C

set_option maxHeartbeats 1000000 in
theorem stkNat0 (w : World) (s n : Nat) (h : Stk0 w s) (hn0 : 0 < n) (hn : n ≤ 800) :
    Calls Tryz.prog 182 #[.pointer (some ⟨s, 0, none⟩), .int .i64 n] w fun e w' => ∃ b G C st, e = .returned (.slice (some ⟨b, 0, none⟩) n G) ∧ w.heap.size ≤ b ∧ Arr w' b C ∧ n ≤ C.length ∧ n ≤ G ∧ Chg w w' (fun k => k = s) ∧
      StkS w' s st ∧ (st = none ∨ ∃ t l, st = some (t, b, l) ∧ w.heap.size ≤ t ∧ n ≤ l ∧ l ≤ n + 3) := by
  by_cases h4 : n ≤ 4
  · refine (stkSmall w s n h hn0 h4).mono ?_
    rintro e w' ⟨b, G, C, rfl, hb, ha, hC, hG, hchg⟩
    exact ⟨b, G, C, none, rfl, hb, ha, hC, hG, hchg.mono (fun _ _ h => h.elim), hchg.heap h (fun h => h), .inl rfl⟩
  · have hc := cell1 h
    have hf := frozen1 h 0
    have hlt := lt_of_heap h
    have hi := fun w' ht => innerNil w' w.heap.size n ht hn0 hn
    go_enter Tryz.func182, Tryz.ntmps182
    go_wp2_with fail
    have hs2 := set1 (v' := .pointer (some ⟨w.heap.size, 0, none⟩)) h
    have hch1 := chg_set w s 0 (.pointer (some ⟨w.heap.size, 0, none⟩))
    have hsz : (w.setCell ⟨s, 0, none⟩ (.pointer (some ⟨w.heap.size, 0, none⟩))).heap.size = w.heap.size := World.size_setCell _ _ _
    generalize w.setCell ⟨s, 0, none⟩ (.pointer (some ⟨w.heap.size, 0, none⟩)) = w1 at hs2 hch1 hsz ⊢
    have ht1 : ((w1.alloc (.cells #[.slice none 0 0] 231 (0, 0))).heap)[w.heap.size]? = some (.cells #[.slice none 0 0] 231 (0, 0)) := by
      rw [← hsz]
      show (w1.heap.push _)[w1.heap.size]? = _
      rw [Array.getElem?_push, if_pos rfl]
    have hs3 : ((w1.alloc (.cells #[.slice none 0 0] 231 (0, 0))).heap)[s]? = some (.cells #[.pointer (some ⟨w.heap.size, 0, none⟩)] 206 (0, 0)) := by
      rw [Below.heap_alloc _ _ _ (by omega)]; exact hs2
    have hch2 : Chg w (w1.alloc (.cells #[.slice none 0 0] 231 (0, 0))) (fun k => k = s) := hch1.alloc _
    have hsz2 : (w1.alloc (.cells #[.slice none 0 0] 231 (0, 0))).heap.size = w.heap.size + 1 := by rw [World.size_alloc, hsz]
    generalize w1.alloc (.cells #[.slice none 0 0] 231 (0, 0)) = w2 at ht1 hs3 hch2 hsz2 ⊢
    refine (hi w2 ht1).mono ?_
    rintro e w3 ⟨b, c, C, rfl, hb, ht3, ha, hlc, hC, hc63, hchg⟩
    have h4' := r4_ge n
    have h5' := r4_le n
    clear hc hf
    go_wp2
    go_ret
    refine ⟨b, n, C, some (w.heap.size, b, r4 n), rfl, by omega, ha, by omega, Nat.le_refl _, hch2.trans (hchg.mono (fun k _ h => .inr (by omega))), ?_, .inr ⟨_, _, rfl, Nat.le_refl _, h4', h5'⟩⟩
    exact ⟨c, C, hchg.heap hs3 (by omega), ht3, ha, hlc, hC, hc63⟩

set_option maxHeartbeats 1000000 in
theorem stkNat1 (w : World) (s t b l n : Nat) (h : StkS w s (some (t, b, l))) (hl : l ≤ 800) (hn0 : 0 < n) (hn : n ≤ 800) (hsb : s ≠ t) :
    Calls Tryz.prog 182 #[.pointer (some ⟨s, 0, none⟩), .int .i64 n] w fun e w' => ∃ b' C', e = .returned (.slice (some ⟨b', l, none⟩) n n) ∧ (b' = b ∨ w.heap.size ≤ b') ∧ Arr w' b' C' ∧ l + n ≤ C'.length ∧
      Chg w w' (fun k => k = t ∨ k = b) ∧ (∃ l', StkS w' s (some (t, b', l'))) ∧ ∀ Cv, Arr w b Cv → ∃ Cb, Arr w' b Cb ∧ Cb.length = Cv.length ∧ ∀ j, j < l → nth Cb j = nth Cv j := by
  obtain ⟨c, C, h1⟩ := h
  have hc := cell1 h1.hs
  have hi := innerMore w t b l c n C h1.ht h1.hb h1.hC h1.hl h1.hc hl hn0 hn
  have h4 := r4_ge n
  go_enter Tryz.func182, Tryz.ntmps182
  go_wp2_with fail
  refine hi.mono ?_
  rintro e w3 ⟨b', c', C', rfl, hb, ht3, ha, hlc, hC, hc63, hchg, Cb, hCb, hCbl, hsame⟩
  go_wp2
  go_ret
  refine ⟨b', C', rfl, hb, ha, by omega, hchg, ⟨l + r4 n, c', C', ?_, ht3, ha, hlc, hC, hc63⟩, ?_⟩
  · refine hchg.heap h1.hs ?_
    rintro (e | e)
    · exact hsb e
    · exact (h1.hb.ne h1.hs (by decide)) e.symm
  · intro Cv hCv
    obtain rfl := h1.hb.inj hCv
    exact ⟨Cb, hCb, by rw [hCbl, h1.hC], hsame⟩
end Go.Proofs.YtonepclpllelfaaGreatDoor

namespace Go.Proofs.YtonepclpllelfaaGreatDoor
open Go.ChangeShapes Go.WideShapes Go.ChangeAt Go.RowKit

/-- A settled world in which a block is laid. -/
noncomputable def lay (w : World) (g : Nat) (cs : Array Value) : World :=
  { w with heap := w.heap.modify g fun
      | .cells _ t frozen => .cells cs t frozen
      | o => o }
noncomputable def laidWorld (os : Os) : World :=
  lay (lay (lay (lay (lay (lay (lay (World.holding Tryz.prog os ⟨#[], #[], []⟩)
    0 #[.int .i64 12])
    1 #[.int .i64 80])
    2 #[.int .i64 40])
    3 #[.int .i64 40])
    6 #[.int .i64 8])
    7 #[.int .u8 0, .int .u8 1, .int .u8 28, .int .u8 2, .int .u8 29, .int .u8 14, .int .u8 24, .int .u8 3, .int .u8 30, .int .u8 22, .int .u8 20, .int .u8 15, .int .u8 25, .int .u8 17, .int .u8 4, .int .u8 8, .int .u8 31, .int .u8 27, .int .u8 13, .int .u8 23, .int .u8 21, .int .u8 19, .int .u8 16, .int .u8 7, .int .u8 26, .int .u8 12, .int .u8 18, .int .u8 6, .int .u8 11, .int .u8 5, .int .u8 10, .int .u8 9])
    8 #[.int .u8 0, .int .u8 1, .int .u8 56, .int .u8 2, .int .u8 57, .int .u8 49, .int .u8 28, .int .u8 3, .int .u8 61, .int .u8 58, .int .u8 42, .int .u8 50, .int .u8 38, .int .u8 29, .int .u8 17, .int .u8 4, .int .u8 62, .int .u8 47, .int .u8 59, .int .u8 36, .int .u8 45, .int .u8 43, .int .u8 51, .int .u8 22, .int .u8 53, .int .u8 39, .int .u8 33, .int .u8 30, .int .u8 24, .int .u8 18, .int .u8 12, .int .u8 5, .int .u8 63, .int .u8 55, .int .u8 48, .int .u8 27, .int .u8 60, .int .u8 41, .int .u8 37, .int .u8 16, .int .u8 46, .int .u8 35, .int .u8 44, .int .u8 21, .int .u8 52, .int .u8 32, .int .u8 23, .int .u8 11, .int .u8 54, .int .u8 26, .int .u8 40, .int .u8 15, .int .u8 34, .int .u8 20, .int .u8 31, .int .u8 10, .int .u8 25, .int .u8 14, .int .u8 19, .int .u8 9, .int .u8 13, .int .u8 8, .int .u8 7, .int .u8 6]

theorem trodVars_len {H : Type} {enc : TypeId × Value → H} {P : Program} {w : World} {sp : Nat → Bool} : ∀ {ns : List String} {gs : List (DataW H)} {ps : List MemPlace}, DataW.TrodVars enc P w sp ns gs ps → gs.length = ns.length
  | [], [], _, _ => rfl
  | [], _ :: _, _, h => h.elim
  | _ :: _, [], _, h => h.elim
  | _ :: ns, _ :: ds, _, h => by
    obtain ⟨g, t, cs, fuel, p, q, h1, h2, h3, h4, hs, e⟩ := h
    simp only [List.length_cons]
    rw [trodVars_len hs]
theorem five_of {α : Type} {l : List α} (h : l.length = 5) : ∃ a b c d e, l = [a, b, c, d, e] := by
  match l, h with
  | [a, b, c, d, e], _ => exact ⟨a, b, c, d, e, rfl⟩

/-- What a row's list gives: the package's variables. -/
theorem glob_of {w : World} {l : List (String × DataW Unit)} (h : laidMet Tryz.prog l w) (h0 : ("loop.example/pub-g03241/pub/bigall.basicSqrThreshold", DataW.lit (.int .i64 12)) ∈ l) (h1 : ("loop.example/pub-g03241/pub/bigall.karatsubaSqrThreshold", DataW.lit (.int .i64 80)) ∈ l)
    (h2 : ("loop.example/pub-g03241/pub/bigall.karatsubaThreshold", DataW.lit (.int .i64 40)) ∈ l) (h3 : ("loop.example/pub-g03241/pub/bigall.divRecursiveThreshold", DataW.lit (.int .i64 40)) ∈ l) (h6 : ("loop.example/pub-g03241/pub/bigall.leafSize", DataW.lit (.int .i64 8)) ∈ l) : Glob w := by
  obtain ⟨ps, hl, _⟩ := h
  have hi : Tryz.prog.underlying 3 = some (.int .i64) := Tryz.underlying3
  exact ⟨laid_int (n := "loop.example/pub-g03241/pub/bigall.basicSqrThreshold") (by kernel_rfl) (by kernel_rfl) hi hl h0, laid_int (n := "loop.example/pub-g03241/pub/bigall.karatsubaSqrThreshold") (by kernel_rfl) (by kernel_rfl) hi hl h1,
    laid_int (n := "loop.example/pub-g03241/pub/bigall.karatsubaThreshold") (by kernel_rfl) (by kernel_rfl) hi hl h2, laid_int (n := "loop.example/pub-g03241/pub/bigall.divRecursiveThreshold") (by kernel_rfl) (by kernel_rfl) hi hl h3,
    laid_int (n := "loop.example/pub-g03241/pub/bigall.leafSize") (by kernel_rfl) (by kernel_rfl) hi hl h6⟩
/-- The list that every row of this seat bears. -/
noncomputable def laidList : List (String × DataW Unit) := Rows.fnSqrtRow.laid
theorem glob_of_laid {w : World} (h : laidMetH Tryz.prog laidList w) : Glob w :=
  glob_of (l := laidList) h (by simp [laidList, Rows.fnSqrtRow, Rows.laid_loop_example_pub_g03241_pub_bigall_basicSqrThreshold]) (by simp [laidList, Rows.fnSqrtRow, Rows.laid_loop_example_pub_g03241_pub_bigall_karatsubaSqrThreshold]) (by simp [laidList, Rows.fnSqrtRow, Rows.laid_loop_example_pub_g03241_pub_bigall_karatsubaThreshold]) (by simp [laidList, Rows.fnSqrtRow, Rows.laid_loop_example_pub_g03241_pub_bigall_divRecursiveThreshold]) (by simp [laidList, Rows.fnSqrtRow, Rows.laid_loop_example_pub_g03241_pub_bigall_leafSize])

end Go.Proofs.YtonepclpllelfaaGreatDoor
