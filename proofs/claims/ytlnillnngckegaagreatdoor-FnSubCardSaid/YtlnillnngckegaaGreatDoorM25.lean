/- nat.itoa at 10 of numbers of at most 128 bits; Int.Text, String. nat.lsh of 1. -/
import Derived.Test.YtlnillnngckegaaGreatDoorM06
import Derived.Test.YtlnillnngckegaaGreatDoorM11
import Derived.Test.YtlnillnngckegaaGreatDoorM16
import Derived.Test.YtlnillnngckegaaGreatDoorM22
import Derived.Test.YtlnillnngckegaaGreatDoorM24
namespace Go.Proofs.YtlnillnngckegaaGreatDoor
open Go Go.RowKit

theorem run_quo_conv (bl : Nat) (h : bl < 1200) : ∃ q, (∀ (w : World) (t : TypeId), (binOp .quo t (.float .f64 (floatOfInt .f64 (bl : Int))) (.float .f64 4614662735865160561)).run Tryz.prog w = .ok (.float .f64 q) w) ∧
    (∀ w : World, (convert 158 3 (.float .f64 q)).run Tryz.prog w = .ok (.int .i64 (fguess bl : Int)) w) ∧ (∀ w : World, (convert 158 2 (.float .f64 q)).run Tryz.prog w = .ok (.int .i64 (fguess bl : Int)) w) := by
  obtain ⟨q, h1, h2, _⟩ := fguess_spec h
  exact ⟨q, fun w t => run_float_arith (P := Tryz.prog) w .quo t .f64 _ _ _ h1, fun w => run_convert_float_int (P := Tryz.prog) w _ _ .f64 .i64 q _ (by kernel_rfl) Tryz.underlying3 h2, fun w => run_convert_float_int (P := Tryz.prog) w _ _ .f64 .i64 q _ (by kernel_rfl) Tryz.underlying2 h2⟩
theorem f10 : floatOfInt .f64 10 = 4621819117588971520 := by kernel_rfl

/-- What itoa gives: figures in new memory. -/
def TextRes (w w' : World) (e : Ending) (N : Nat) : Prop :=
  ∃ bs i D cap, e = .returned (.slice (some ⟨bs, i, none⟩) (figs N) cap) ∧ ArrY w' bs D ∧ i + figs N ≤ D.length ∧ Chg w w' (fun _ => False)

set_option maxRecDepth 200000 in
set_option maxHeartbeats 4000000 in
theorem itoa_c (w : World) (x : Value) (N : Nat) (o : Option Nat) (hG : Glob w) (hx : IsNat w x N o) (h0 : N ≠ 0) (hb : nbits N ≤ 128) :
    Calls Tryz.prog 231 #[x, .bool false, .int .i64 10] w fun e w' => TextRes w w' e N := by
  have hl2 : (digs N).length ≤ 2 := digs_len_le.2 (by rw [WB_bits, ← Nat.pow_mul]; exact nbits_le_iff.1 hb)
  have hbp := nbits_pos h0
  have hbl := bitLen_c w x N o hx (by omega)
  obtain ⟨q, hq1, hq2, _⟩ := run_quo_conv (nbits N) (by omega)
  obtain ⟨_, _, _, hg1, hg2, _⟩ := fguess_spec (show nbits N < 1200 by omega)
  have hNlt : N < 10 ^ (fguess (nbits N) + 1) := Nat.lt_of_lt_of_le (nbits_lt N) hg2
  have hfl : figs N ≤ fguess (nbits N) + 1 := (figs_le_iff (by omega)).2 hNlt
  have hfp := figs_pos N
  have hkl := Log2_10
  have hf10 := f10
  have hneg : bits .and .u64 10 18446744073709551606 = 2 := by kernel_rfl
  have hkm := maxPow_c
  have hp := digs_len_pos h0
  have hx' := hx
  obtain ⟨px, cx, rfl, hlc, hcc⟩ := hx.shape
  have hdv := fun w2 stk (hc : Chg w w2 (fun _ => False)) => divisors_c w2 stk (hG.chg hc (fun _ _ h => h)) (digs N).length 19 (by omega) 10 10000000000000000000
  have hset := fun w2 (hc : Chg w w2 (fun _ => False)) => set_c w2 (.slice none 0 0) _ N none o (stor_none w2) (hx.chg hc (fun _ _ h => h)) (by omega)
  have hlt10 : (digs N).length ≤ 900 := by omega
  obtain ⟨bl, hble⟩ : ∃ bl, nbits N = bl := ⟨_, rfl⟩
  rw [hble] at hb hbp hbl hq1 hq2 hg1 hg2 hNlt hfl
  obtain ⟨n, hne⟩ : ∃ n, fguess bl + 1 = n := ⟨_, rfl⟩
  rw [hne] at hNlt hfl
  have hn1 : n ≤ 401 := by omega
  have hadd : IntKind.i64.wrap ((fguess bl : Int) + 1) = (n : Int) := by rw [← hne]; exact IntWalk.i64_in _ (by omega)
  have hadd2 : (fguess bl : Int) + 1 = (n : Int) := by omega
  generalize fguess bl = fg at *
  have hmk := fun w => run_makeY w (l := (n : Int)) (l' := n) rfl (by omega)
  generalize hLe : (digs N).length = L at *
  have e0 := int_eq0 hp
  replace hble := Lib.hid hble
  replace hne := Lib.hid hne
  replace hLe := Lib.hid hLe
  replace hbl := Lib.hid hbl
  replace hkl := Lib.hid hkl
  replace hkm := Lib.hid hkm
  replace hdv := Lib.hid hdv
  replace hset := Lib.hid hset
  replace hG := Lib.hid hG
  replace hx' := Lib.hid hx'
  replace hNlt := Lib.hid hNlt
  replace hlt10 := Lib.hid hlt10
  replace h0 := Lib.hid h0
  clear hx hg2
  go_enter_defers Tryz.func231, Tryz.ntmps231
  go_wp2_with fail
  with_reducible refine hbl.out.mono ?_
  rintro e w' ⟨rfl, hw⟩
  obtain rfl := hw
  go_wp2_with fail
  with_reducible refine (hkl.out _).mono ?_
  rintro e w' ⟨rfl, hw⟩
  obtain rfl := hw
  go_wp2_with fail
  have hy0 := arrY_zero w n
  have hcy : Chg w (w.alloc (.cells ((List.replicate n 0).map yw).toArray 5 (0, 0))) (fun _ => False) := (Chg.refl w _).alloc _
  have hre : ((List.replicate n 0).map yw).toArray = Array.replicate n (yw 0) := by simp
  rw [hre] at hy0 hcy
  clear hre
  obtain ⟨bs, hbs⟩ : ∃ bs, w.heap.size = bs := ⟨_, rfl⟩
  rw [hbs] at hy0 ⊢
  generalize w.alloc (.cells (Array.replicate n (yw 0)) 5 (0, 0)) = w1 at hy0 hcy ⊢
  replace hy0 := Lib.hid hy0
  replace hcy := Lib.hid hcy
  replace hbs := Lib.hid hbs
  clear hmk
  with_reducible refine (getStackE _).mono ?_
  rintro e w2 ⟨s, rfl, hse, hs, hc2⟩
  have hc02 : Chg w w2 (fun _ => False) := hcy.out.trans (hc2.mono (fun _ _ h => h.elim))
  have hy2 := hy0.out.chg hc2 (fun h => h)
  have hdv2 := hdv.out w2 (.pointer (some ⟨s, 0, none⟩)) hc02
  have hset2 := hset.out w2 hc02
  have hys : bs ≠ s := by have := hy0.out.lt; omega
  have hsl := lt_of_heap hs
  replace hdv2 := Lib.hid hdv2
  replace hset2 := Lib.hid hset2
  replace hs := Lib.hid hs
  replace hc02 := Lib.hid hc02
  replace hy2 := Lib.hid hy2
  replace hse := Lib.hid hse
  replace hys := Lib.hid hys
  clear hc2 hdv hset
  go_wp2_with fail
  with_reducible refine (hkm.out _).mono ?_
  rintro e w' ⟨rfl, hw⟩
  obtain rfl := hw
  go_wp2_with fail
  with_reducible refine hdv2.out.mono ?_
  rintro e w' ⟨rfl, hw⟩
  obtain rfl := hw
  go_wp2_with fail
  with_reducible refine hset2.out.mono ?_
  rintro e w3 ⟨r3, rfl, o3, hr3, ho3, hc3⟩
  have hc3' : Chg w2 w3 (fun _ => False) := hc3.mono (fun _ _ h => by cases h)
  have hy3 := hy2.out.chg hc3' (fun h => h)
  have hs3 : Stk0 w3 s := hc3'.heap hs.out (fun h => h)
  have hs2l := hc3'.size
  have kcw := convWords_c w3 (.pointer (some ⟨s, 0, none⟩)) r3 N o3 hr3 (by rw [hLe.out]; omega) bs n n (List.replicate n 0) hy3 (by simp) (by omega) hNlt.out
  have ho3n : ∀ k, some k = o3 → w2.heap.size ≤ k := by
    intro k e
    rcases ho3 with h | h | ⟨b, h, hb⟩
    · rw [h] at e; cases e
    · rw [h] at e; cases e
    · rw [h] at e; cases e; exact hb
  replace kcw := Lib.hid kcw
  replace hs3 := Lib.hid hs3
  replace hc3' := Lib.hid hc3'
  replace ho3n := Lib.hid ho3n
  clear hc3 ho3 hr3 hy3
  go_wp2_with fail
  with_reducible refine kcw.out.mono ?_
  rintro e w4 ⟨rfl, D, hD, hF, hc4⟩
  have hs4 : Stk0 w4 s := hc4.heap hs3.out (fun e => by rcases e with e | e; exact hys.out e.symm; (have := ho3n.out _ e; omega))
  have hcf : Chg w w4 (fun _ => False) := (hc02.out.trans (hc3'.out.mono (fun _ _ h => h.elim))).trans (hc4.mono (fun k _ e => .inr (by
    have h1 := hc02.out.size
    rcases e with e | e
    · have := hbs.out; omega
    · have := ho3n.out _ e; omega)))
  have kfr := free0 w4 s .returning hs4
  have hDl : D.length = n := hF.1
  have hdig : ∀ j, j < n → nth D j = 48 + N / 10 ^ (n - 1 - j) % 10 := fun j hj => hF.2.2 j (Nat.zero_le _) hj
  replace kfr := Lib.hid kfr
  replace hcf := Lib.hid hcf
  replace hDl := Lib.hid hDl
  replace hdig := Lib.hid hdig
  clear hs4 hF hc4 kcw
  go_wp2
  go_loop [7] (fun i => ∃ k : Nat, k ≤ n - figs N ∧ i = .int .i64 (k : Int)) (fun i => n - (intOf i).toNat)
  case atStart => exact ⟨0, Nat.zero_le _, rfl⟩
  case round =>
    obtain ⟨k, hk, rfl⟩ := hrel
    have hkn : k < n := by omega
    have hc := hD.cell (i := k) (by rw [hDl.out]; exact hkn)
    rw [hdig.out k hkn] at hc
    by_cases hlt : k < n - figs N
    · have hz : N / 10 ^ (n - 1 - k) % 10 = 0 := by
        rw [Nat.div_eq_of_lt (Nat.lt_of_lt_of_le (figs_lt N) (ten_le (by omega)))]
      rw [hz] at hc
      replace hz := Lib.hid hz
      replace hD := Lib.hid hD
      go_wp2
      go_round
      case rel => exact ⟨k + 1, by omega, by go_num⟩
      case measure => simp [intOf]; omega
    · obtain ⟨f, hf⟩ : ∃ f, figs N = f + 1 := ⟨figs N - 1, by omega⟩
      have hnz : N / 10 ^ (n - 1 - k) % 10 ≠ 0 := by
        have h1 := figs_ge h0.out
        have h2 := figs_lt N
        rw [hf] at h1 h2
        rw [Nat.add_sub_cancel] at h1
        rw [show n - 1 - k = f by omega]
        have h3 : N / 10 ^ f < 10 := by rw [Nat.div_lt_iff_lt_mul (ten_pos f), ← ten_succ]; exact h2
        have h4 : 1 ≤ N / 10 ^ f := by rw [Nat.le_div_iff_mul_le (ten_pos f)]; omega
        omega
      have hne2 : (((48 + N / 10 ^ (n - 1 - k) % 10 : Nat) : Int) == 48) = false := by rw [beq_eq_false_iff_ne]; omega
      generalize 48 + N / 10 ^ (n - 1 - k) % 10 = dg at *
      have hfin : k + figs N = n := by omega
      have hsub : n - k = figs N := by omega
      replace hfin := Lib.hid hfin
      replace hsub := Lib.hid hsub
      replace hf := Lib.hid hf
      replace hD := Lib.hid hD
      go_wp2
      refine leaves_cons (f := 152) (args := #[.pointer (some ⟨s, 0, none⟩)]) (by simp) (by simp [go_sem]) ?_
      refine kfr.out.mono ?_
      rintro e u' w7 ⟨rfl, rfl, hw7⟩
      obtain rfl := hw7
      exact ⟨.slice (some ⟨bs, k, none⟩) (n - k) (n - k), by simp [results, Tryz.results231, go_sem], bs, k, D, n - k, by rw [hsub.out], hD.out, by rw [hDl.out, hfin.out]; exact Nat.le_refl _, hcf.out⟩
end Go.Proofs.YtlnillnngckegaaGreatDoor

namespace Go.Proofs.YtlnillnngckegaaGreatDoor
open Go Go.RowKit

theorem same1_c (w : World) (b cap : Nat) (C : List Nat) (_ha : Arr w b C) (hc : 0 < cap) :
    Calls Tryz.prog 230 #[.slice (some ⟨b, 0, none⟩) 1 cap, .slice (some ⟨b, 0, none⟩) 1 cap] w fun e w' => e = .returned (.bool true) ∧ ∃ n, w' = w.drewN n := by
  have q := fun n => eql_word_ptr_same (w := w) ⟨b, 0, none⟩ n
  have h1 : decide (0 < cap) = true := by simpa using hc
  go_enter Tryz.func230, Tryz.ntmps230
  go_upto_region 1 with (fail)
  go_quiet (fail)
  go_wp2
  go_ret
  exact ⟨rfl, _, rfl⟩

theorem spl_two (C : List Nat) (x c : Nat) (h : 2 ≤ C.length) : (spl C 0 [x]).set 1 c = spl C 0 [x, c] := by
  have := spl_next (C := C) (o := 0) (R := [x]) (by simp; omega) c
  simpa using this
theorem spl_three (C : List Nat) (x c : Nat) (h : 3 ≤ C.length) : spl ((spl C 1 [x]).set 2 c) 0 [0] = spl C 0 [0, x, c] := by
  match C, h with
  | a :: b :: d :: t, _ => simp [spl]
theorem two_split {R : List Nat} {c s : Nat} (hR : R.length = 0 + 1) (hw : Wd R) (hs : s < 64) (hv : val R + WB ^ (0 + 1) * c = 1 * 2 ^ s) : R = [2 ^ s] ∧ c = 0 := by
  match R, hR with
  | [x], _ =>
    simp only [val_cons, val_nil, Nat.mul_zero, Nat.add_zero, Nat.zero_add, Nat.pow_one, Nat.one_mul] at hv
    have h2 : 2 ^ s < WB := by rw [WB_bits]; exact Nat.pow_lt_pow_right (by omega) hs
    have h3 : c = 0 := by
      rcases Nat.eq_zero_or_pos c with h | h
      · exact h
      · have := Nat.mul_le_mul_left WB h; omega
    subst h3
    exact ⟨by simp at hv; rw [hv], rfl⟩

set_option maxRecDepth 20000 in
set_option maxHeartbeats 2000000 in
theorem lsh1_c (w : World) (b cap : Nat) (h : IsNat w (.slice (some ⟨b, 0, none⟩) 1 cap) 1 (some b)) (s : Nat) (hs : s ≤ 127) :
    Calls Tryz.prog 212 #[.slice (some ⟨b, 0, none⟩) 1 cap, .slice (some ⟨b, 0, none⟩) 1 cap, .int .u64 (s : Int)] w fun e w' => ∃ r, e = .returned r ∧ NatRes w w' (some b) r (2 ^ s) := by
  have h' := h
  have e1d := digs_word (x := 1) (by rw [WB_eq]; omega) (by omega)
  obtain ⟨b', cap', C, hbb, hv, ha, hC, hcap, htk, hl, hp⟩ := h.pos (by omega)
  cases hbb
  rw [e1d] at hv htk hl
  simp only [List.length_cons, List.length_nil, Nat.zero_add] at hv htk hl
  injection hv with _ _ hcc
  subst hcc
  have hx0 : nth C 0 = 1 := by have := nth_take (l := C) (i := 0) (k := 1) (by omega); rw [htk] at this; rw [← this]; rfl
  by_cases hs0 : s = 0
  · subst hs0
    have ks := same1_c w b cap C ha (by omega)
    replace ks := Lib.hid ks
    replace h' := Lib.hid h'
    clear h ha hC hcap htk hl hp hx0 e1d hs
    go_enter Tryz.func212, Tryz.ntmps212
    go_wp2_with fail
    with_reducible refine ks.out.mono ?_
    rintro e w1 ⟨rfl, n, rfl⟩
    go_wp2
    go_ret
    exact ⟨_, rfl, some b, h'.out.chg ((Chg.refl w (fun _ => False)).drewN n) (fun _ _ h => h), .inl rfl, (Chg.refl w _).drewN n⟩
  · have e0 : ((s : Int) == 0) = false := int_eq0 (by omega)
    have hzc : (C.drop 0).take (0 + 1) = [1] := htk
    have hv1 : val ((C.drop 0).take (0 + 1)) = 1 := by rw [hzc]; simp [val_cons]
    rcases (by omega : s < 64 ∨ s = 64 ∨ 64 < s) with hlt | rfl | hgt
    · have hq : s / 64 = 0 := by omega
      have hr : s % 64 = s := by omega
      have hmk : Calls Tryz.prog 127 #[.slice (some ⟨b, 0, none⟩) 1 cap, .int .i64 2] w fun e w' => ∃ r, e = .returned r ∧ MakeRes w w' (some b) r 2 := make_c w _ (some b) h.stor 2 (by omega) (by omega)
      have iq : (s : Int) / 64 = 0 := by omega
      have ir : (s : Int) % 64 = (s : Int) := by omega
      replace hmk := Lib.hid hmk
      replace ha := Lib.hid ha
      replace hv1 := Lib.hid hv1
      replace hq := Lib.hid hq
      replace hr := Lib.hid hr
      clear htk hzc hx0 h h' e1d
      go_enter Tryz.func212, Tryz.ntmps212
      go_wp2_with fail
      with_reducible refine hmk.out.mono ?_
      rintro e w1 ⟨r, rfl, bz, capz, Cz, rfl, haz, hCz, hnc, hcapz, hb, hch⟩
      have hx1 : Arr w1 b C := hch.arr ha.out (fun h => h)
      have hb2 : (some b = some bz) ∨ w.heap.size = bz := hb.imp (·.1) id
      have kl := lshVU_c w1 bz 0 0 capz b 0 cap s Cz C (by omega) (by omega) hlt haz (by omega) hx1 (by omega) (by rcases hb with ⟨e, _⟩ | e; exact .inr (Nat.le_refl _); exact .inr (Nat.le_refl _))
      rw [hv1.out] at kl
      have j1 : (0 : Int) ≤ 1 ∧ (1 : Int) ≤ (capz : Int) := by omega
      replace kl := Lib.hid kl
      replace hb := Lib.hid hb
      replace hch := Lib.hid hch
      replace hx1 := Lib.hid hx1
      go_wp2_with fail
      with_reducible refine kl.out.mono ?_
      rintro e w3 ⟨R, c, rfl, hS, hR, hcw, hv⟩
      have hRw : Wd R := by
        have h1 := hS.arr.wd
        unfold spl at h1
        exact h1.left.right
      obtain ⟨rfl, rfl⟩ := two_split hR hRw hlt hv
      have hz1 := hS.arr.cellN (i := 1) (by rw [spl_length (by simp; omega)]; omega)
      have hz2 := hS.arr.frozen 1
      have hS2 := hS.next (k := 1) rfl (by omega) 0 WB_pos
      rw [Nat.zero_add] at hS2
      replace hS := Lib.hid hS
      replace hv := Lib.hid hv
      clear kl
      have hS3 : Sub w1 (w3.setCell ⟨bz, 1, none⟩ (.int .u64 0)) bz (spl Cz 0 [2 ^ s, 0]) := hS2
      replace hS3 := Lib.hid hS3
      clear hS2
      go_wp2_with (refine wpList_clearW rfl (.tmp 68) 50 rfl Tryz.underlying50 bz 0 0 capz rfl (spl Cz 0 [2 ^ s, 0]) hS3.out.arr (by omega) ?_)
      intro w5 hS5
      have hS6 := hS3.out.trans hS5
      rw [spl_nil] at hS6
      have hnm := norm_spl w5 bz 2 capz Cz [2 ^ s, 0] hS6.arr hCz rfl hnc hcapz.2
      have hval : val [2 ^ s, 0] = 2 ^ s := by simp [val_cons]
      rw [hval] at hnm
      replace hnm := Lib.hid hnm
      replace hS6 := Lib.hid hS6
      clear hS5 hz1 hz2
      go_wp2_with fail
      with_reducible refine hnm.out.mono ?_
      rintro e w6 ⟨rfl, hw6⟩
      obtain rfl := hw6
      go_wp2
      go_ret
      have hfin := natRes_spl hb2 hch.out hS6.out hCz (by simp; omega) hcapz
      rw [hval] at hfin
      exact ⟨_, rfl, hfin⟩
    · have hmk : Calls Tryz.prog 127 #[.slice (some ⟨b, 0, none⟩) 1 cap, .int .i64 3] w fun e w' => ∃ r, e = .returned r ∧ MakeRes w w' (some b) r 3 := make_c w _ (some b) h.stor 3 (by omega) (by omega)
      have hw1 : Wd [1] := Wd.cons (by rw [WB_eq]; omega) Wd.nil
      have hval : val [0, 1, 0] = 2 ^ 64 := by simp only [val_cons, val_nil, Nat.mul_zero, Nat.add_zero, Nat.mul_one, Nat.zero_add]; rw [WB_bits]
      have h64 : ((64 : Nat) : Int) = 64 := rfl
      rw [h64]
      rw [h64] at e0
      have hxc : C[0]? = some 1 := by rw [get_nth (by omega), hx0]
      replace hmk := Lib.hid hmk
      replace ha := Lib.hid ha
      replace hv1 := Lib.hid hv1
      replace hw1 := Lib.hid hw1
      replace hval := Lib.hid hval
      replace hxc := Lib.hid hxc
      clear htk hzc hx0 h h' e1d h64
      go_enter Tryz.func212, Tryz.ntmps212
      go_wp2_with fail
      with_reducible refine hmk.out.mono ?_
      rintro e w1 ⟨r, rfl, bz, capz, Cz, rfl, haz, hCz, hnc, hcapz, hb, hch⟩
      have hx1 : Arr w1 b C := hch.arr ha.out (fun h => h)
      have hb2 : (some b = some bz) ∨ w.heap.size = bz := hb.imp (·.1) id
      have j2 : (2 : Int) ≤ (capz : Int) := by omega
      have hsrc : ∀ j, j < [1].length → w1.cell? ⟨b, 0 + j, none⟩ = some (.int .u64 (nth [1] j : Int)) := by
        intro j hj
        obtain rfl : j = 0 := by simp at hj; exact hj
        exact hx1.cell hxc.out
      replace hsrc := Lib.hid hsrc
      replace hb := Lib.hid hb
      replace hch := Lib.hid hch
      replace hx1 := Lib.hid hx1
      go_wp2_with (refine wpList_copyW rfl (.tmp 46) (.tmp 47) 50 50 rfl Tryz.underlying50 bz 1 1 (capz - 1) b 0 1 cap rfl rfl Cz [1] haz hw1.out rfl (by simp; omega) hsrc.out ?_)
      intro w3 hS
      have hz1 := hS.arr.cellN (i := 2) (by rw [spl_length (by simp; omega)]; omega)
      have hz2 := hS.arr.frozen 2
      have hS2 := hS.set (i := 2) 0 WB_pos
      replace hS := Lib.hid hS
      have hS3 : Sub w1 (w3.setCell ⟨bz, 2, none⟩ (.int .u64 0)) bz ((spl Cz 1 [1]).set 2 0) := hS2
      have hlen : ((spl Cz 1 [1]).set 2 0).length = capz := by rw [List.length_set, spl_length (by simp; omega)]; exact hCz
      replace hS3 := Lib.hid hS3
      replace hlen := Lib.hid hlen
      clear hS2
      go_wp2_with (refine wpList_clearW rfl (.tmp 68) 50 rfl Tryz.underlying50 bz 0 1 capz rfl ((spl Cz 1 [1]).set 2 0) hS3.out.arr (by rw [hlen.out]; omega) ?_)
      intro w5 hS5
      have hS6 := hS3.out.trans hS5
      rw [spl_three Cz 1 0 (by omega)] at hS6
      have hnm := norm_spl w5 bz 3 capz Cz [0, 1, 0] hS6.arr hCz rfl hnc hcapz.2
      rw [hval.out] at hnm
      replace hnm := Lib.hid hnm
      replace hS6 := Lib.hid hS6
      clear hS5 hz1 hz2
      go_wp2_with fail
      with_reducible refine hnm.out.mono ?_
      rintro e w6 ⟨rfl, hw6⟩
      obtain rfl := hw6
      go_wp2
      go_ret
      have hfin := natRes_spl hb2 hch.out hS6.out hCz (by simp; omega) hcapz
      rw [hval.out] at hfin
      exact ⟨_, rfl, hfin⟩
    · obtain ⟨t, rfl⟩ : ∃ t, s = t + 64 := ⟨s - 64, by omega⟩
      have hmk : Calls Tryz.prog 127 #[.slice (some ⟨b, 0, none⟩) 1 cap, .int .i64 3] w fun e w' => ∃ r, e = .returned r ∧ MakeRes w w' (some b) r 3 := make_c w _ (some b) h.stor 3 (by omega) (by omega)
      have iq : ((t + 64 : Nat) : Int) / 64 = 1 := by omega
      have ir : ((t + 64 : Nat) : Int) % 64 = (t : Int) := by omega
      have et : ((t : Int) == 0) = false := int_eq0 (by omega)
      have hval : val [0, 2 ^ t, 0] = 2 ^ (t + 64) := by simp only [val_cons, val_nil]; rw [WB_bits, Nat.pow_add]; simp [Nat.mul_comm]
      have hlt : t < 64 := by omega
      obtain ⟨S, hS⟩ : ∃ S : Int, ((t + 64 : Nat) : Int) = S := ⟨_, rfl⟩
      have hSb : 0 ≤ S ∧ S ≤ 200 := by omega
      rw [hS] at iq ir e0 ⊢
      obtain ⟨hSb1, hSb2⟩ := hSb
      replace hmk := Lib.hid hmk
      replace ha := Lib.hid ha
      replace hv1 := Lib.hid hv1
      replace hval := Lib.hid hval
      replace hS := Lib.hid hS
      clear htk hzc hx0 h h' e1d
      go_enter Tryz.func212, Tryz.ntmps212
      go_wp2_with fail
      with_reducible refine hmk.out.mono ?_
      rintro e w1 ⟨r, rfl, bz, capz, Cz, rfl, haz, hCz, hnc, hcapz, hb, hch⟩
      have hx1 : Arr w1 b C := hch.arr ha.out (fun h => h)
      have hb2 : (some b = some bz) ∨ w.heap.size = bz := hb.imp (·.1) id
      have kl := lshVU_c w1 bz 1 0 (capz - 1) b 0 cap t Cz C (by omega) (by omega) hlt haz (by omega) hx1 (by omega) (.inr (by omega))
      rw [hv1.out] at kl
      have j2 : (2 : Int) ≤ (capz : Int) := by omega
      replace kl := Lib.hid kl
      replace hb := Lib.hid hb
      replace hch := Lib.hid hch
      replace hx1 := Lib.hid hx1
      go_wp2_with fail
      with_reducible refine kl.out.mono ?_
      rintro e w3 ⟨R, c, rfl, hS, hR, hcw, hv⟩
      have hRw : Wd R := by
        have h1 := hS.arr.wd
        unfold spl at h1
        exact h1.left.right
      obtain ⟨rfl, rfl⟩ := two_split hR hRw hlt hv
      have hz1 := hS.arr.cellN (i := 2) (by rw [spl_length (by simp; omega)]; omega)
      have hz2 := hS.arr.frozen 2
      have hS2 := hS.set (i := 2) 0 WB_pos
      replace hS := Lib.hid hS
      replace hv := Lib.hid hv
      clear kl
      have hS3 : Sub w1 (w3.setCell ⟨bz, 2, none⟩ (.int .u64 0)) bz ((spl Cz 1 [2 ^ t]).set 2 0) := hS2
      have hlen : ((spl Cz 1 [2 ^ t]).set 2 0).length = capz := by rw [List.length_set, spl_length (by simp; omega)]; exact hCz
      replace hS3 := Lib.hid hS3
      replace hlen := Lib.hid hlen
      clear hS2
      go_wp2_with (refine wpList_clearW rfl (.tmp 68) 50 rfl Tryz.underlying50 bz 0 1 capz rfl ((spl Cz 1 [2 ^ t]).set 2 0) hS3.out.arr (by rw [hlen.out]; omega) ?_)
      intro w5 hS5
      have hS6 := hS3.out.trans hS5
      rw [spl_three Cz _ 0 (by omega)] at hS6
      have hnm := norm_spl w5 bz 3 capz Cz [0, 2 ^ t, 0] hS6.arr hCz rfl hnc hcapz.2
      rw [hval.out] at hnm
      replace hnm := Lib.hid hnm
      replace hS6 := Lib.hid hS6
      clear hS5 hz1 hz2
      go_wp2_with fail
      with_reducible refine hnm.out.mono ?_
      rintro e w6 ⟨rfl, hw6⟩
      obtain rfl := hw6
      go_wp2
      go_ret
      have hfin := natRes_spl hb2 hch.out hS6.out hCz (by simp; omega) hcapz
      rw [hval.out] at hfin
      exact ⟨_, rfl, hfin⟩
end Go.Proofs.YtlnillnngckegaaGreatDoor
