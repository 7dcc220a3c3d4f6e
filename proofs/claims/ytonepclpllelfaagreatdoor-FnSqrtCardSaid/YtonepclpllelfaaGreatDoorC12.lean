/- nat.lsh of 1. Closed facts that every row shares. -/
import Derived.Test.YtonepclpllelfaaGreatDoorC09
import Derived.Test.YtonepclpllelfaaGreatDoorC10
namespace Go.Proofs.YtonepclpllelfaaGreatDoor
open Go Go.RowKit

theorem same1_c (w : World) (b cap : Nat) (C : List Nat) (_ha : Arr w b C) (hc : 0 < cap) :
    Calls Tryz.prog 168 #[.slice (some ⟨b, 0, none⟩) 1 cap, .slice (some ⟨b, 0, none⟩) 1 cap] w fun e w' => e = .returned (.bool true) ∧ ∃ n, w' = w.drewN n := by
  have q := fun n => eql_word_ptr_same (w := w) ⟨b, 0, none⟩ n
  have h1 : decide (0 < cap) = true := by simpa using hc
  go_enter Tryz.func168, Tryz.ntmps168
  go_upto_region 1 with (fail)
  go_quiet (fail)
  go_wp2
  go_ret
  exact ⟨rfl, _, rfl⟩

theorem spl_three (C : List Nat) (x c : Nat) (h : 3 ≤ C.length) : spl ((spl C 1 [x]).set 2 c) 0 [0] = spl C 0 [0, x, c] := by
  match C, h with
  | a :: b :: d :: t, _ => simp [spl]
theorem two_split {R : List Nat} {c s : Nat} (hR : R.length = 0 + 1) (hw : Wd R) (hs : s < 64) (hv : val R + WB ^ (0 + 1) * c = 1 * 2 ^ s) : R = [2 ^ s] ∧ c = 0 := by
  match R, hR with
  | [x], _ =>
    simp only [val_cons, val_nil, Nat.mul_zero, Nat.add_zero, Nat.zero_add, Nat.pow_one, Nat.one_mul] at hv
    have h2 : 2 ^ s < WB := by rw [WB_bits]; exact Nat.pow_lt_pow_right (by omega) hs
    have h3 : c = 0 := by
      rcases Nat.eq_zero_or_pos c with h | h
      · exact h
      · have := Nat.mul_le_mul_left WB h; omega
    subst h3
    exact ⟨by simp at hv; rw [hv], rfl⟩

set_option maxRecDepth 20000 in
set_option maxHeartbeats 2000000 in
theorem lsh1_c (w : World) (b cap : Nat) (h : IsNat w (.slice (some ⟨b, 0, none⟩) 1 cap) 1 (some b)) (s : Nat) (hs : s ≤ 127) :
    Calls Tryz.prog 148 #[.slice (some ⟨b, 0, none⟩) 1 cap, .slice (some ⟨b, 0, none⟩) 1 cap, .int .u64 (s : Int)] w fun e w' => ∃ r, e = .returned r ∧ NatRes w w' (some b) r (2 ^ s) := by
  have h' := h
  have e1d := digs_word (x := 1) (by rw [WB_eq]; omega) (by omega)
  obtain ⟨b', cap', C, hbb, hv, ha, hC, hcap, htk, hl, hp⟩ := h.pos (by omega)
  cases hbb
  rw [e1d] at hv htk hl
  simp only [List.length_cons, List.length_nil, Nat.zero_add] at hv htk hl
  injection hv with _ _ hcc
  subst hcc
  have hx0 : nth C 0 = 1 := by have := nth_take (l := C) (i := 0) (k := 1) (by omega); rw [htk] at this; rw [← this]; rfl
  by_cases hs0 : s = 0
  · subst hs0
    have ks := same1_c w b cap C ha (by omega)
    replace ks := Lib.hid ks
    replace h' := Lib.hid h'
    clear h ha hC hcap htk hl hp hx0 e1d hs
    go_enter Tryz.func148, Tryz.ntmps148
    go_wp2_with fail
    with_reducible refine ks.out.mono ?_
    rintro e w1 ⟨rfl, n, rfl⟩
    go_wp2
    go_ret
    exact ⟨_, rfl, some b, h'.out.chg ((Chg.refl w (fun _ => False)).drewN n) (fun _ _ h => h), .inl rfl, (Chg.refl w _).drewN n⟩
  · have e0 : ((s : Int) == 0) = false := int_eq0 (by omega)
    have hzc : (C.drop 0).take (0 + 1) = [1] := htk
    have hv1 : val ((C.drop 0).take (0 + 1)) = 1 := by rw [hzc]; simp [val_cons]
    rcases (by omega : s < 64 ∨ s = 64 ∨ 64 < s) with hlt | rfl | hgt
    · have hq : s / 64 = 0 := by omega
      have hr : s % 64 = s := by omega
      have hmk : Calls Tryz.prog 127 #[.slice (some ⟨b, 0, none⟩) 1 cap, .int .i64 2] w fun e w' => ∃ r, e = .returned r ∧ MakeRes w w' (some b) r 2 := make_c w _ (some b) h.stor 2 (by omega) (by omega)
      have iq : (s : Int) / 64 = 0 := by omega
      have ir : (s : Int) % 64 = (s : Int) := by omega
      replace hmk := Lib.hid hmk
      replace ha := Lib.hid ha
      replace hv1 := Lib.hid hv1
      replace hq := Lib.hid hq
      replace hr := Lib.hid hr
      clear htk hzc hx0 h h' e1d
      go_enter Tryz.func148, Tryz.ntmps148
      go_wp2_with fail
      with_reducible refine hmk.out.mono ?_
      rintro e w1 ⟨r, rfl, bz, capz, Cz, rfl, haz, hCz, hnc, hcapz, hb, hch⟩
      have hx1 : Arr w1 b C := hch.arr ha.out (fun h => h)
      have hb2 : (some b = some bz) ∨ w.heap.size = bz := hb.imp (·.1) id
      have kl := lshVU_c w1 bz 0 0 capz b 0 cap s Cz C (by omega) (by omega) hlt haz (by omega) hx1 (by omega) (by rcases hb with ⟨e, _⟩ | e; exact .inr (Nat.le_refl _); exact .inr (Nat.le_refl _))
      rw [hv1.out] at kl
      have j1 : (0 : Int) ≤ 1 ∧ (1 : Int) ≤ (capz : Int) := by omega
      replace kl := Lib.hid kl
      replace hb := Lib.hid hb
      replace hch := Lib.hid hch
      replace hx1 := Lib.hid hx1
      go_wp2_with fail
      with_reducible refine kl.out.mono ?_
      rintro e w3 ⟨R, c, rfl, hS, hR, hcw, hv⟩
      have hRw : Wd R := by
        have h1 := hS.arr.wd
        unfold spl at h1
        exact h1.left.right
      obtain ⟨rfl, rfl⟩ := two_split hR hRw hlt hv
      have hz1 := hS.arr.cellN (i := 1) (by rw [spl_length (by simp; omega)]; omega)
      have hz2 := hS.arr.frozen 1
      have hS2 := hS.next (k := 1) rfl (by omega) 0 WB_pos
      rw [Nat.zero_add] at hS2
      replace hS := Lib.hid hS
      replace hv := Lib.hid hv
      clear kl
      have hS3 : Sub w1 (w3.setCell ⟨bz, 1, none⟩ (.int .u64 0)) bz (spl Cz 0 [2 ^ s, 0]) := hS2
      replace hS3 := Lib.hid hS3
      clear hS2
      go_wp2_with (refine wpList_clearW rfl (.tmp 68) 49 rfl Tryz.underlying49 bz 0 0 capz rfl (spl Cz 0 [2 ^ s, 0]) hS3.out.arr (by omega) ?_)
      intro w5 hS5
      have hS6 := hS3.out.trans hS5
      rw [spl_nil] at hS6
      have hnm := norm_spl w5 bz 2 capz Cz [2 ^ s, 0] hS6.arr hCz rfl hnc hcapz.2
      have hval : val [2 ^ s, 0] = 2 ^ s := by simp [val_cons]
      rw [hval] at hnm
      replace hnm := Lib.hid hnm
      replace hS6 := Lib.hid hS6
      clear hS5 hz1 hz2
      go_wp2_with fail
      with_reducible refine hnm.out.mono ?_
      rintro e w6 ⟨rfl, hw6⟩
      obtain rfl := hw6
      go_wp2
      go_ret
      have hfin := natRes_spl hb2 hch.out hS6.out hCz (by simp; omega) hcapz
      rw [hval] at hfin
      exact ⟨_, rfl, hfin⟩
    · have hmk : Calls Tryz.prog 127 #[.slice (some ⟨b, 0, none⟩) 1 cap, .int .i64 3] w fun e w' => ∃ r, e = .returned r ∧ MakeRes w w' (some b) r 3 := make_c w _ (some b) h.stor 3 (by omega) (by omega)
      have hw1 : Wd [1] := Wd.cons (by rw [WB_eq]; omega) Wd.nil
      have hval : val [0, 1, 0] = 2 ^ 64 := by simp only [val_cons, val_nil, Nat.mul_zero, Nat.add_zero, Nat.mul_one, Nat.zero_add]; rw [WB_bits]
      have h64 : ((64 : Nat) : Int) = 64 := rfl
      rw [h64]
      rw [h64] at e0
      have hxc : C[0]? = some 1 := by rw [get_nth (by omega), hx0]
      replace hmk := Lib.hid hmk
      replace ha := Lib.hid ha
      replace hv1 := Lib.hid hv1
      replace hw1 := Lib.hid hw1
      replace hval := Lib.hid hval
      replace hxc := Lib.hid hxc
      clear htk hzc hx0 h h' e1d h64
      go_enter Tryz.func148, Tryz.ntmps148
      go_wp2_with fail
      with_reducible refine hmk.out.mono ?_
      rintro e w1 ⟨r, rfl, bz, capz, Cz, rfl, haz, hCz, hnc, hcapz, hb, hch⟩
      have hx1 : Arr w1 b C := hch.arr ha.out (fun h => h)
      have hb2 : (some b = some bz) ∨ w.heap.size = bz := hb.imp (·.1) id
      have j2 : (2 : Int) ≤ (capz : Int) := by omega
      have hsrc : ∀ j, j < [1].length → w1.cell? ⟨b, 0 + j, none⟩ = some (.int .u64 (nth [1] j : Int)) := by
        intro j hj
        obtain rfl : j = 0 := by simp at hj; exact hj
        exact hx1.cell hxc.out
      replace hsrc := Lib.hid hsrc
      replace hb := Lib.hid hb
      replace hch := Lib.hid hch
      replace hx1 := Lib.hid hx1
      go_wp2_with (refine wpList_copyW rfl (.tmp 46) (.tmp 47) 49 49 rfl Tryz.underlying49 bz 1 1 (capz - 1) b 0 1 cap rfl rfl Cz [1] haz hw1.out rfl (by simp; omega) hsrc.out ?_)
      intro w3 hS
      have hz1 := hS.arr.cellN (i := 2) (by rw [spl_length (by simp; omega)]; omega)
      have hz2 := hS.arr.frozen 2
      have hS2 := hS.set (i := 2) 0 WB_pos
      replace hS := Lib.hid hS
      have hS3 : Sub w1 (w3.setCell ⟨bz, 2, none⟩ (.int .u64 0)) bz ((spl Cz 1 [1]).set 2 0) := hS2
      have hlen : ((spl Cz 1 [1]).set 2 0).length = capz := by rw [List.length_set, spl_length (by simp; omega)]; exact hCz
      replace hS3 := Lib.hid hS3
      replace hlen := Lib.hid hlen
      clear hS2
      go_wp2_with (refine wpList_clearW rfl (.tmp 68) 49 rfl Tryz.underlying49 bz 0 1 capz rfl ((spl Cz 1 [1]).set 2 0) hS3.out.arr (by rw [hlen.out]; omega) ?_)
      intro w5 hS5
      have hS6 := hS3.out.trans hS5
      rw [spl_three Cz 1 0 (by omega)] at hS6
      have hnm := norm_spl w5 bz 3 capz Cz [0, 1, 0] hS6.arr hCz rfl hnc hcapz.2
      rw [hval.out] at hnm
      replace hnm := Lib.hid hnm
      replace hS6 := Lib.hid hS6
      clear hS5 hz1 hz2
      go_wp2_with fail
      with_reducible refine hnm.out.mono ?_
      rintro e w6 ⟨rfl, hw6⟩
      obtain rfl := hw6
      go_wp2
      go_ret
      have hfin := natRes_spl hb2 hch.out hS6.out hCz (by simp; omega) hcapz
      rw [hval.out] at hfin
      exact ⟨_, rfl, hfin⟩
    · obtain ⟨t, rfl⟩ : ∃ t, s = t + 64 := ⟨s - 64, by omega⟩
      have hmk : Calls Tryz.prog 127 #[.slice (some ⟨b, 0, none⟩) 1 cap, .int .i64 3] w fun e w' => ∃ r, e = .returned r ∧ MakeRes w w' (some b) r 3 := make_c w _ (some b) h.stor 3 (by omega) (by omega)
      have iq : ((t + 64 : Nat) : Int) / 64 = 1 := by omega
      have ir : ((t + 64 : Nat) : Int) % 64 = (t : Int) := by omega
      have et : ((t : Int) == 0) = false := int_eq0 (by omega)
      have hval : val [0, 2 ^ t, 0] = 2 ^ (t + 64) := by simp only [val_cons, val_nil]; rw [WB_bits, Nat.pow_add]; simp [Nat.mul_comm]
      have hlt : t < 64 := by omega
      obtain ⟨S, hS⟩ : ∃ S : Int, ((t + 64 : Nat) : Int) = S := ⟨_, rfl⟩
      have hSb : 0 ≤ S ∧ S ≤ 200 := by omega
      rw [hS] at iq ir e0 ⊢
      obtain ⟨hSb1, hSb2⟩ := hSb
      replace hmk := Lib.hid hmk
      replace ha := Lib.hid ha
      replace hv1 := Lib.hid hv1
      replace hval := Lib.hid hval
      replace hS := Lib.hid hS
      clear htk hzc hx0 h h' e1d
      go_enter Tryz.func148, Tryz.ntmps148
      go_wp2_with fail
      with_reducible refine hmk.out.mono ?_
      rintro e w1 ⟨r, rfl, bz, capz, Cz, rfl, haz, hCz, hnc, hcapz, hb, hch⟩
      have hx1 : Arr w1 b C := hch.arr ha.out (fun h => h)
      have hb2 : (some b = some bz) ∨ w.heap.size = bz := hb.imp (·.1) id
      have kl := lshVU_c w1 bz 1 0 (capz - 1) b 0 cap t Cz C (by omega) (by omega) hlt haz (by omega) hx1 (by omega) (.inr (by omega))
      rw [hv1.out] at kl
      have j2 : (2 : Int) ≤ (capz : Int) := by omega
      replace kl := Lib.hid kl
      replace hb := Lib.hid hb
      replace hch := Lib.hid hch
      replace hx1 := Lib.hid hx1
      go_wp2_with fail
      with_reducible refine kl.out.mono ?_
      rintro e w3 ⟨R, c, rfl, hS, hR, hcw, hv⟩
      have hRw : Wd R := by
        have h1 := hS.arr.wd
        unfold spl at h1
        exact h1.left.right
      obtain ⟨rfl, rfl⟩ := two_split hR hRw hlt hv
      have hz1 := hS.arr.cellN (i := 2) (by rw [spl_length (by simp; omega)]; omega)
      have hz2 := hS.arr.frozen 2
      have hS2 := hS.set (i := 2) 0 WB_pos
      replace hS := Lib.hid hS
      replace hv := Lib.hid hv
      clear kl
      have hS3 : Sub w1 (w3.setCell ⟨bz, 2, none⟩ (.int .u64 0)) bz ((spl Cz 1 [2 ^ t]).set 2 0) := hS2
      have hlen : ((spl Cz 1 [2 ^ t]).set 2 0).length = capz := by rw [List.length_set, spl_length (by simp; omega)]; exact hCz
      replace hS3 := Lib.hid hS3
      replace hlen := Lib.hid hlen
      clear hS2
      go_wp2_with (refine wpList_clearW rfl (.tmp 68) 49 rfl Tryz.underlying49 bz 0 1 capz rfl ((spl Cz 1 [2 ^ t]).set 2 0) hS3.out.arr (by rw [hlen.out]; omega) ?_)
      intro w5 hS5
      have hS6 := hS3.out.trans hS5
      rw [spl_three Cz _ 0 (by omega)] at hS6
      have hnm := norm_spl w5 bz 3 capz Cz [0, 2 ^ t, 0] hS6.arr hCz rfl hnc hcapz.2
      rw [hval.out] at hnm
      replace hnm := Lib.hid hnm
      replace hS6 := Lib.hid hS6
      clear hS5 hz1 hz2
      go_wp2_with fail
      with_reducible refine hnm.out.mono ?_
      rintro e w6 ⟨rfl, hw6⟩
      obtain rfl := hw6
      go_wp2
      go_ret
      have hfin := natRes_spl hb2 hch.out hS6.out hCz (by simp; omega) hcapz
      rw [hval.out] at hfin
      exact ⟨_, rfl, hfin⟩
end Go.Proofs.YtonepclpllelfaaGreatDoor

namespace Go.Proofs.YtonepclpllelfaaGreatDoor
open Go.ChangeShapes Go.WideShapes Go.ChangeAt Go.RowKit Go.Joins
open Go
theorem fact2 : (mapsRowed Tryz.prog) = true := by kernel_rfl
theorem fact6 : ((Tryz.prog.stops == [])) = true := by kernel_rfl
theorem fact8 : ((Tryz.prog.stopKnobs == [])) = true := by kernel_rfl
theorem fact22 : ((Rows.fnSqrtRow.plainKeys == Tryz.prog.plainKeys)) = true := by kernel_rfl
theorem fact24 : (Tryz.prog.stopsHeard) = true := by kernel_rfl
theorem fact25 : (Tryz.prog.mayEnter) = true := by kernel_rfl
theorem fact26 : ((Rows.fnSqrtRow.lifted == Tryz.prog.liftsFinal)) = true := by kernel_rfl
theorem fact27 : ((Tryz.prog.make == some Rows.fnSqrtRow.make)) = true := by kernel_rfl
theorem band {a b : Bool} (ha : a = true) (hb : b = true) : (a && b) = true := by rw [ha, hb]; rfl
end Go.Proofs.YtonepclpllelfaaGreatDoor
