/- nat.itoa at 10 of numbers of at most 128 bits; Int.Text, String. -/
import Derived.Test.YtonepclpllelfaaGreatDoorC09
import Derived.Test.YtonepclpllelfaaGreatDoorC15
import Derived.Test.YtonepclpllelfaaGreatDoorC21
import Derived.Test.YtonepclpllelfaaGreatDoorC24
namespace Go.Proofs.YtonepclpllelfaaGreatDoor
open Go Go.RowKit

theorem run_quo_conv (bl : Nat) (h : bl < 1200) : ∃ q, (∀ (w : World) (t : TypeId), (binOp .quo t (.float .f64 (floatOfInt .f64 (bl : Int))) (.float .f64 4614662735865160561)).run Tryz.prog w = .ok (.float .f64 q) w) ∧
    (∀ w : World, (convert 123 3 (.float .f64 q)).run Tryz.prog w = .ok (.int .i64 (fguess bl : Int)) w) ∧ (∀ w : World, (convert 123 2 (.float .f64 q)).run Tryz.prog w = .ok (.int .i64 (fguess bl : Int)) w) := by
  obtain ⟨q, h1, h2, _⟩ := fguess_spec h
  exact ⟨q, fun w t => run_float_arith (P := Tryz.prog) w .quo t .f64 _ _ _ h1, fun w => run_convert_float_int (P := Tryz.prog) w _ _ .f64 .i64 q _ (by kernel_rfl) Tryz.underlying3 h2, fun w => run_convert_float_int (P := Tryz.prog) w _ _ .f64 .i64 q _ (by kernel_rfl) Tryz.underlying2 h2⟩
theorem f10 : floatOfInt .f64 10 = 4621819117588971520 := by kernel_rfl

/-- What itoa gives: figures in new memory. -/
def TextRes (w w' : World) (e : Ending) (N : Nat) : Prop :=
  ∃ bs i D cap, e = .returned (.slice (some ⟨bs, i, none⟩) (figs N) cap) ∧ ArrY w' bs D ∧ i + figs N ≤ D.length ∧ Chg w w' (fun _ => False)

set_option maxRecDepth 200000 in
set_option maxHeartbeats 4000000 in
theorem itoa_c (w : World) (x : Value) (N : Nat) (o : Option Nat) (hG : Glob w) (hx : IsNat w x N o) (h0 : N ≠ 0) (hb : nbits N ≤ 128) :
    Calls Tryz.prog 171 #[x, .bool false, .int .i64 10] w fun e w' => TextRes w w' e N := by
  have hl2 : (digs N).length ≤ 2 := digs_len_le.2 (by rw [WB_bits, ← Nat.pow_mul]; exact nbits_le_iff.1 hb)
  have hbp := nbits_pos h0
  have hbl := bitLen_c w x N o hx (by omega)
  obtain ⟨q, hq1, hq2, _⟩ := run_quo_conv (nbits N) (by omega)
  obtain ⟨_, _, _, hg1, hg2, _⟩ := fguess_spec (show nbits N < 1200 by omega)
  have hNlt : N < 10 ^ (fguess (nbits N) + 1) := Nat.lt_of_lt_of_le (nbits_lt N) hg2
  have hfl : figs N ≤ fguess (nbits N) + 1 := (figs_le_iff (by omega)).2 hNlt
  have hfp := figs_pos N
  have hkl := Log2_10
  have hf10 := f10
  have hneg : bits .and .u64 10 18446744073709551606 = 2 := by kernel_rfl
  have hkm := maxPow_c
  have hp := digs_len_pos h0
  have hx' := hx
  obtain ⟨px, cx, rfl, hlc, hcc⟩ := hx.shape
  have hdv := fun w2 stk (hc : Chg w w2 (fun _ => False)) => divisors_c w2 stk (hG.chg hc (fun _ _ h => h)) (digs N).length 19 (by omega) 10 10000000000000000000
  have hset := fun w2 (hc : Chg w w2 (fun _ => False)) => set_c w2 (.slice none 0 0) _ N none o (stor_none w2) (hx.chg hc (fun _ _ h => h)) (by omega)
  have hlt10 : (digs N).length ≤ 900 := by omega
  obtain ⟨bl, hble⟩ : ∃ bl, nbits N = bl := ⟨_, rfl⟩
  rw [hble] at hb hbp hbl hq1 hq2 hg1 hg2 hNlt hfl
  obtain ⟨n, hne⟩ : ∃ n, fguess bl + 1 = n := ⟨_, rfl⟩
  rw [hne] at hNlt hfl
  have hn1 : n ≤ 401 := by omega
  have hadd : IntKind.i64.wrap ((fguess bl : Int) + 1) = (n : Int) := by rw [← hne]; exact IntWalk.i64_in _ (by omega)
  have hadd2 : (fguess bl : Int) + 1 = (n : Int) := by omega
  generalize fguess bl = fg at *
  have hmk := fun w => run_makeY w (l := (n : Int)) (l' := n) rfl (by omega)
  generalize hLe : (digs N).length = L at *
  have e0 := int_eq0 hp
  replace hble := Lib.hid hble
  replace hne := Lib.hid hne
  replace hLe := Lib.hid hLe
  replace hbl := Lib.hid hbl
  replace hkl := Lib.hid hkl
  replace hkm := Lib.hid hkm
  replace hdv := Lib.hid hdv
  replace hset := Lib.hid hset
  replace hG := Lib.hid hG
  replace hx' := Lib.hid hx'
  replace hNlt := Lib.hid hNlt
  replace hlt10 := Lib.hid hlt10
  replace h0 := Lib.hid h0
  clear hx hg2
  go_enter_defers Tryz.func171, Tryz.ntmps171
  go_wp2_with fail
  with_reducible refine hbl.out.mono ?_
  rintro e w' ⟨rfl, hw⟩
  obtain rfl := hw
  go_wp2_with fail
  with_reducible refine (hkl.out _).mono ?_
  rintro e w' ⟨rfl, hw⟩
  obtain rfl := hw
  go_wp2_with fail
  have hy0 := arrY_zero w n
  have hcy : Chg w (w.alloc (.cells ((List.replicate n 0).map yw).toArray 5 (0, 0))) (fun _ => False) := (Chg.refl w _).alloc _
  have hre : ((List.replicate n 0).map yw).toArray = Array.replicate n (yw 0) := by simp
  rw [hre] at hy0 hcy
  clear hre
  obtain ⟨bs, hbs⟩ : ∃ bs, w.heap.size = bs := ⟨_, rfl⟩
  rw [hbs] at hy0 ⊢
  generalize w.alloc (.cells (Array.replicate n (yw 0)) 5 (0, 0)) = w1 at hy0 hcy ⊢
  replace hy0 := Lib.hid hy0
  replace hcy := Lib.hid hcy
  replace hbs := Lib.hid hbs
  clear hmk
  with_reducible refine (getStackE _).mono ?_
  rintro e w2 ⟨s, rfl, hse, hs, hc2⟩
  have hc02 : Chg w w2 (fun _ => False) := hcy.out.trans (hc2.mono (fun _ _ h => h.elim))
  have hy2 := hy0.out.chg hc2 (fun h => h)
  have hdv2 := hdv.out w2 (.pointer (some ⟨s, 0, none⟩)) hc02
  have hset2 := hset.out w2 hc02
  have hys : bs ≠ s := by have := hy0.out.lt; omega
  have hsl := lt_of_heap hs
  replace hdv2 := Lib.hid hdv2
  replace hset2 := Lib.hid hset2
  replace hs := Lib.hid hs
  replace hc02 := Lib.hid hc02
  replace hy2 := Lib.hid hy2
  replace hse := Lib.hid hse
  replace hys := Lib.hid hys
  clear hc2 hdv hset
  go_wp2_with fail
  with_reducible refine (hkm.out _).mono ?_
  rintro e w' ⟨rfl, hw⟩
  obtain rfl := hw
  go_wp2_with fail
  with_reducible refine hdv2.out.mono ?_
  rintro e w' ⟨rfl, hw⟩
  obtain rfl := hw
  go_wp2_with fail
  with_reducible refine hset2.out.mono ?_
  rintro e w3 ⟨r3, rfl, o3, hr3, ho3, hc3⟩
  have hc3' : Chg w2 w3 (fun _ => False) := hc3.mono (fun _ _ h => by cases h)
  have hy3 := hy2.out.chg hc3' (fun h => h)
  have hs3 : Stk0 w3 s := hc3'.heap hs.out (fun h => h)
  have hs2l := hc3'.size
  have kcw := convWords_c w3 (.pointer (some ⟨s, 0, none⟩)) r3 N o3 hr3 (by rw [hLe.out]; omega) bs n n (List.replicate n 0) hy3 (by simp) (by omega) hNlt.out
  have ho3n : ∀ k, some k = o3 → w2.heap.size ≤ k := by
    intro k e
    rcases ho3 with h | h | ⟨b, h, hb⟩
    · rw [h] at e; cases e
    · rw [h] at e; cases e
    · rw [h] at e; cases e; exact hb
  replace kcw := Lib.hid kcw
  replace hs3 := Lib.hid hs3
  replace hc3' := Lib.hid hc3'
  replace ho3n := Lib.hid ho3n
  clear hc3 ho3 hr3 hy3
  go_wp2_with fail
  with_reducible refine kcw.out.mono ?_
  rintro e w4 ⟨rfl, D, hD, hF, hc4⟩
  have hs4 : Stk0 w4 s := hc4.heap hs3.out (fun e => by rcases e with e | e; exact hys.out e.symm; (have := ho3n.out _ e; omega))
  have hcf : Chg w w4 (fun _ => False) := (hc02.out.trans (hc3'.out.mono (fun _ _ h => h.elim))).trans (hc4.mono (fun k _ e => .inr (by
    have h1 := hc02.out.size
    rcases e with e | e
    · have := hbs.out; omega
    · have := ho3n.out _ e; omega)))
  have kfr := free0 w4 s .returning hs4
  have hDl : D.length = n := hF.1
  have hdig : ∀ j, j < n → nth D j = 48 + N / 10 ^ (n - 1 - j) % 10 := fun j hj => hF.2.2 j (Nat.zero_le _) hj
  replace kfr := Lib.hid kfr
  replace hcf := Lib.hid hcf
  replace hDl := Lib.hid hDl
  replace hdig := Lib.hid hdig
  clear hs4 hF hc4 kcw
  go_wp2
  go_loop [7] (fun i => ∃ k : Nat, k ≤ n - figs N ∧ i = .int .i64 (k : Int)) (fun i => n - (intOf i).toNat)
  case atStart => exact ⟨0, Nat.zero_le _, rfl⟩
  case round =>
    obtain ⟨k, hk, rfl⟩ := hrel
    have hkn : k < n := by omega
    have hc := hD.cell (i := k) (by rw [hDl.out]; exact hkn)
    rw [hdig.out k hkn] at hc
    by_cases hlt : k < n - figs N
    · have hz : N / 10 ^ (n - 1 - k) % 10 = 0 := by
        rw [Nat.div_eq_of_lt (Nat.lt_of_lt_of_le (figs_lt N) (ten_le (by omega)))]
      rw [hz] at hc
      replace hz := Lib.hid hz
      replace hD := Lib.hid hD
      go_wp2
      go_round
      case rel => exact ⟨k + 1, by omega, by go_num⟩
      case measure => simp [intOf]; omega
    · obtain ⟨f, hf⟩ : ∃ f, figs N = f + 1 := ⟨figs N - 1, by omega⟩
      have hnz : N / 10 ^ (n - 1 - k) % 10 ≠ 0 := by
        have h1 := figs_ge h0.out
        have h2 := figs_lt N
        rw [hf] at h1 h2
        rw [Nat.add_sub_cancel] at h1
        rw [show n - 1 - k = f by omega]
        have h3 : N / 10 ^ f < 10 := by rw [Nat.div_lt_iff_lt_mul (ten_pos f), ← ten_succ]; exact h2
        have h4 : 1 ≤ N / 10 ^ f := by rw [Nat.le_div_iff_mul_le (ten_pos f)]; omega
        omega
      have hne2 : (((48 + N / 10 ^ (n - 1 - k) % 10 : Nat) : Int) == 48) = false := by rw [beq_eq_false_iff_ne]; omega
      generalize 48 + N / 10 ^ (n - 1 - k) % 10 = dg at *
      have hfin : k + figs N = n := by omega
      have hsub : n - k = figs N := by omega
      replace hfin := Lib.hid hfin
      replace hsub := Lib.hid hsub
      replace hf := Lib.hid hf
      replace hD := Lib.hid hD
      go_wp2
      refine leaves_cons (f := 156) (args := #[.pointer (some ⟨s, 0, none⟩)]) (by simp) (by simp [go_sem]) ?_
      refine kfr.out.mono ?_
      rintro e u' w7 ⟨rfl, rfl, hw7⟩
      obtain rfl := hw7
      exact ⟨.slice (some ⟨bs, k, none⟩) (n - k) (n - k), by simp [results, Tryz.results171, go_sem], bs, k, D, n - k, by rw [hsub.out], hD.out, by rw [hDl.out, hfin.out]; exact Nat.le_refl _, hcf.out⟩
end Go.Proofs.YtonepclpllelfaaGreatDoor
