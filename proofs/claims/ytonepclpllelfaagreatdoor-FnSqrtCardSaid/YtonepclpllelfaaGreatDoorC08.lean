/- nat: set, setWord, setUint64, cmp. nat: the wrappers of the rows, add, sub. nat: sub. nat: wrappers of the rows, clear, mulAddWW. nat: basicMul. -/
import Derived.Deep.RegionHeld3
import Derived.Test.YtonepclpllelfaaGreatDoorC06
namespace Go.Proofs.YtonepclpllelfaaGreatDoor
open Go Go.RowKit

theorem drewN_drewN (w : World) (m n : Nat) : (w.drewN m).drewN n = w.drewN (m + n) := by unfold World.drewN; simp [Nat.add_assoc]
theorem chg_made {w w1 w2 : World} {o : Option Nat} {b : Nat} {D : List Nat} (hb : (o = some b ∧ w1 = w) ∨ w.heap.size = b) (hc : Chg w w1 (fun _ => False)) (hS : Sub w1 w2 b D) : Chg w w2 (fun k => some k = o) := by
  refine (hc.mono (fun _ _ h => h.elim)).trans (hS.chg.mono ?_)
  rintro k _ rfl
  rcases hb with ⟨h, _⟩ | h
  · exact .inl h.symm
  · exact .inr (by omega)
/-- The words in a place that make gave are a number. -/
theorem natRes_of {w w1 w2 : World} {o : Option Nat} {b n cap : Nat} {D : List Nat} (hb : (o = some b ∧ w1 = w) ∨ w.heap.size = b) (hc : Chg w w1 (fun _ => False)) (hS : Sub w1 w2 b D)
    (hD : D.length = cap) (hn : n ≤ cap) (hcap : 0 < cap ∧ cap ≤ 1000000) : NatRes w w2 o (.slice (some ⟨b, 0, none⟩) (digs (val (D.take n))).length cap) (val (D.take n)) := by
  refine ⟨some b, isNat_of hS.arr hD hcap hn, ?_, chg_made hb hc hS⟩
  rcases hb with ⟨h, _⟩ | h
  · exact .inl h.symm
  · exact .inr (.inr ⟨b, rfl, by omega⟩)
theorem spl_zero_take {C R : List Nat} (h : R.length ≤ C.length) : (spl C 0 R).take R.length = R := by
  have := spl_take_drop (C := C) (R := R) (o := 0) (by omega)
  simpa using this
theorem NatRes.zero {w : World} {o : Option Nat} {z : Value} (hz : Stor w z o) : ∃ p l c, z = .slice p l c ∧ l ≤ c ∧ c ≤ 1000000 ∧ NatRes w w o (.slice p 0 c) 0 := by
  rcases hz with ⟨rfl, rfl⟩ | ⟨b, l, cap, C, rfl, rfl, hl, ha, hc, hcap⟩
  · exact ⟨none, 0, 0, rfl, Nat.le_refl _, by omega, none, IsNat.zero w, .inl rfl, Chg.refl _ _⟩
  · refine ⟨_, l, cap, rfl, hl, hcap.2, some b, .inr ⟨b, cap, C, rfl, by rw [digs_zero]; rfl, ha, hc, hcap, by rw [digs_zero]; rfl⟩, .inl rfl, Chg.refl _ _⟩
theorem NatRes.drewN {w w' : World} {o : Option Nat} {r : Value} {N : Nat} (h : NatRes w w' o r N) (n : Nat) : NatRes w (w'.drewN n) o r N := by
  obtain ⟨o', h1, h2, h3⟩ := h
  refine ⟨o', ?_, h2, h3.drewN n⟩
  exact h1.chg (S := fun _ => False) ((Chg.refl w' _).drewN n) (fun _ _ h => h)

set_option maxHeartbeats 400000 in
theorem set_c (w : World) (z x : Value) (X : Nat) (o ox : Option Nat) (hz : Stor w z o) (hx : IsNat w x X ox) (hn : (digs X).length ≤ 1000) :
    Calls Tryz.prog 93 #[z, x] w fun e w' => ∃ r, e = .returned r ∧ NatRes w w' o r X := by
  by_cases h0 : X = 0
  · subst h0
    obtain ⟨px, cx, rfl, _, _⟩ := hx.shape
    rw [digs_zero]
    obtain ⟨p, l, c, rfl, hl, hc, hr⟩ := NatRes.zero hz
    replace hr := Lib.hid hr
    clear hz hx
    have hmk : Calls Tryz.prog 127 #[.slice p l c, .int .i64 0] w fun e w' => e = .returned (.slice p 0 c) ∧ w = w' := by
      go_enter Tryz.func127, Tryz.ntmps127
      go_wp2
      go_ret
      exact ⟨rfl, rfl⟩
    go_enter Tryz.func93, Tryz.ntmps93
    go_wp2_with fail
    refine hmk.mono ?_
    rintro e w' ⟨rfl, hw⟩
    obtain rfl := hw
    go_upto_region 2 with (fail)
    refine wp_region_lit ?_
    go_wp2_with (refine wpList_copy_nothing rfl (.tmp 9) (.tmp 10) 49 49 rfl 112 Tryz.underlying49 infoW _ _ _ _ _ _ rfl rfl (by simp) ?_)
    go_ret
    exact ⟨_, rfl, hr.out⟩
  · obtain ⟨bx, cx, Cx, rfl, rfl, hax, hcx, hcapx, htx, hlx, hpx⟩ := hx.pos h0
    have hmk := make_c w z o hz (digs X).length hpx hn
    go_enter Tryz.func93, Tryz.ntmps93
    go_wp2_with fail
    refine hmk.mono ?_
    rintro e w1 ⟨r, rfl, b, cap, C, rfl, ha, hC, hnc, hcap, hb, hchg⟩
    have hax1 := hchg.arr hax (fun h => h)
    have hwd := Wd_digs X
    have hsrc : ∀ j, j < (digs X).length → w1.cell? ⟨bx, 0 + j, none⟩ = some (.int .u64 (nth (digs X) j : Int)) := by
      intro j hj
      rw [Nat.zero_add, hax1.cellN (by omega)]
      have := nth_take (l := Cx) hj
      rw [htx] at this
      rw [this]
    have hmin : (digs X).length = Nat.min (digs X).length (digs X).length := by simp
    replace hsrc := Lib.hid hsrc
    replace hmin := Lib.hid hmin
    go_upto_region 2 with (fail)
    refine wp_region_lit ?_
    go_wp2_with (refine wpList_copyW rfl (.tmp 9) (.tmp 10) 49 49 rfl Tryz.underlying49 b 0 _ cap bx 0 _ cx rfl rfl C (digs X) ha hwd hmin.out (by omega) hsrc.out ?_)
    intro w2 hS
    go_wp2
    go_ret
    have h1 : (spl C 0 (digs X)).length = cap := by rw [spl_length (by omega), hC]
    have := natRes_of hb hchg hS h1 hnc hcap
    rw [spl_zero_take (by omega), val_digs] at this
    exact ⟨_, rfl, this⟩

theorem digs_word {x : Nat} (h : x < WB) (h0 : 0 < x) : digs x = [x] := by
  rw [digs_pos (by omega), Nat.mod_eq_of_lt h, Nat.div_eq_of_lt h, digs_zero]

set_option maxHeartbeats 400000 in
theorem setWord_c (w : World) (z : Value) (x : Nat) (o : Option Nat) (hz : Stor w z o) (hx : x < WB) :
    Calls Tryz.prog 151 #[z, .int .u64 x] w fun e w' => ∃ r, e = .returned r ∧ NatRes w w' o r x := by
  by_cases h0 : x = 0
  · subst h0
    obtain ⟨p, l, c, rfl, hl, hc, hr⟩ := NatRes.zero hz
    replace hr := Lib.hid hr
    go_enter Tryz.func151, Tryz.ntmps151
    go_wp2
    go_ret
    exact ⟨_, rfl, hr.out⟩
  · have e0 : ((x : Int) == 0) = false := by simp; omega
    have hmk := make_c w z o hz 1 (by omega) (by omega)
    go_enter Tryz.func151, Tryz.ntmps151
    go_wp2_with fail
    refine hmk.mono ?_
    rintro e w1 ⟨r, rfl, b, cap, C, rfl, ha, hC, hnc, hcap, hb, hchg⟩
    have hz1 := ha.cellN (i := 0) (by omega)
    have hz2 := ha.frozen 0
    replace hC := Lib.hid hC
    go_wp2
    go_ret
    have hS := (Sub.refl ha).set (i := 0) x hx
    have hl : (C.set 0 x).length = cap := by rw [List.length_set]; exact hC.out
    have := natRes_of hb hchg hS hl hnc hcap
    have ht : (C.set 0 x).take 1 = [x] := by
      cases C with
      | nil => have := hC.out; simp at this; omega
      | cons c C => simp
    rw [ht] at this
    have hv : val [x] = x := by simp [val]
    rw [hv, digs_word hx (by omega)] at this
    exact ⟨_, rfl, this⟩

set_option maxHeartbeats 400000 in
theorem setUint64_c (w : World) (z : Value) (x : Nat) (o : Option Nat) (hz : Stor w z o) (hx : x < WB) :
    Calls Tryz.prog 134 #[z, .int .u64 x] w fun e w' => ∃ r, e = .returned r ∧ NatRes w w' o r x := by
  have hc := setWord_c w z x o hz hx
  go_enter Tryz.func134, Tryz.ntmps134
  go_wp2_with fail
  refine hc.mono ?_
  rintro e w1 ⟨r, rfl, hr⟩
  go_wp2
  go_ret
  exact ⟨_, rfl, hr⟩

/-- The order of two numbers with as many words: by the highest word in which they differ. -/
theorem val_lt_of {X Y : List Nat} (hX : Wd X) (_hY : Wd Y) {k : Nat} (hk : k < X.length) (hl : X.length = Y.length) (hs : ∀ j, k < j → j < X.length → nth X j = nth Y j) (hlt : nth X k < nth Y k) : val X < val Y := by
  have hd : X.drop (k + 1) = Y.drop (k + 1) := by
    apply List.ext_getElem?
    intro j
    rw [List.getElem?_drop, List.getElem?_drop]
    by_cases hj : k + 1 + j < X.length
    · rw [get_nth hj, get_nth (by omega), hs _ (by omega) hj]
    · rw [List.getElem?_eq_none (by omega), List.getElem?_eq_none (by omega)]
  have hx := val_take_drop X (k + 1) (by omega)
  have hy := val_take_drop Y (k + 1) (by omega)
  rw [val_take_succ hk] at hx
  rw [val_take_succ (by omega), ← hd] at hy
  have h1 := val_lt (hX.take k)
  rw [List.length_take, Nat.min_eq_left (by omega)] at h1
  have h2 : WB ^ k * (nth X k + 1) ≤ WB ^ k * nth Y k := Nat.mul_le_mul_left _ hlt
  rw [Nat.mul_add, Nat.mul_one] at h2
  omega
theorem val_eq_of {X Y : List Nat} (hl : X.length = Y.length) (hs : ∀ j, j < X.length → nth X j = nth Y j) : val X = val Y := by
  have : X = Y := by
    apply List.ext_getElem?
    intro j
    by_cases hj : j < X.length
    · rw [get_nth hj, get_nth (by omega), hs _ hj]
    · rw [List.getElem?_eq_none (by omega), List.getElem?_eq_none (by omega)]
  rw [this]
theorem digs_len_lt {x y : Nat} (h : (digs x).length < (digs y).length) : x < y := by
  rcases Nat.lt_or_ge x y with h' | h'
  · exact h'
  · have := digs_len_mono h'; omega

/-- The order of two numbers, as -1, 0, 1. -/
def ordN (x y : Nat) : Int := if x < y then -1 else if y < x then 1 else 0
theorem ordN_lt {x y : Nat} (h : x < y) : ordN x y = -1 := by unfold ordN; rw [if_pos h]
theorem ordN_gt {x y : Nat} (h : y < x) : ordN x y = 1 := by unfold ordN; rw [if_neg (by omega), if_pos h]
theorem ordN_eq {x y : Nat} (h : x = y) : ordN x y = 0 := by unfold ordN; rw [if_neg (by omega), if_neg (by omega)]

set_option maxHeartbeats 1000000 in
theorem natcmp_c (w : World) (x y : Value) (X Y : Nat) (ox oy : Option Nat) (hx : IsNat w x X ox) (hy : IsNat w y Y oy) :
    Calls Tryz.prog 133 #[x, y] w fun e w' => e = .returned (.int .i64 (ordN X Y)) ∧ ∃ n, w' = w.drewN n := by
  obtain ⟨px, cx, rfl, hlx, hcx⟩ := hx.shape
  obtain ⟨py, cy, rfl, hly, hcy⟩ := hy.shape
  by_cases hm : (digs X).length = (digs Y).length
  · by_cases h0 : X = 0
    · subst h0
      have hY : Y = 0 := by rw [digs_zero] at hm; exact digs_len_eq_zero.1 hm.symm
      subst hY
      rw [digs_zero] at *
      clear hm hx hy
      go_enter Tryz.func133, Tryz.ntmps133
      go_wp2
      go_ret
      exact ⟨by rw [ordN_eq rfl]; rfl, 0, rfl⟩
    · have hY0 : Y ≠ 0 := fun e => by subst e; rw [digs_zero] at hm; exact h0 (digs_len_eq_zero.1 hm)
      obtain ⟨bx, cx', Cx, rfl, e1, hax, hcx', _, htx, hlX, hpX⟩ := hx.pos h0
      obtain ⟨by_, cy', Cy, rfl, e2, hay, hcy', _, hty, hlY, hpY⟩ := hy.pos hY0
      obtain ⟨rfl, rfl⟩ : px = some ⟨bx, 0, none⟩ ∧ cx' = cx := by injection e1 with a b c; exact ⟨a, c.symm⟩
      obtain ⟨rfl, rfl⟩ : py = some ⟨by_, 0, none⟩ ∧ cy' = cy := by injection e2 with a b c; exact ⟨a, c.symm⟩
      clear e1 e2 hx hy
      rw [← hm] at hlY hpY hly ⊢
      obtain ⟨m, hmm⟩ : ∃ m, (digs X).length = m + 1 := ⟨(digs X).length - 1, by omega⟩
      have hcX : ∀ j, j < m + 1 → w.cell? ⟨bx, j, none⟩ = some (.int .u64 (nth (digs X) j : Int)) := by
        intro j hj
        rw [hax.cellN (by omega)]
        have := nth_take (l := Cx) (i := j) (k := (digs X).length) (by omega)
        rw [htx] at this
        rw [this]
      have hcY : ∀ j, j < m + 1 → w.cell? ⟨by_, j, none⟩ = some (.int .u64 (nth (digs Y) j : Int)) := by
        intro j hj
        rw [hay.cellN (by omega)]
        have := nth_take (l := Cy) (i := j) (k := (digs Y).length) (by omega)
        rw [hty] at this
        rw [this]
      have fin1 : ∀ k, k < m + 1 → (∀ j, k < j → j < m + 1 → nth (digs X) j = nth (digs Y) j) → nth (digs X) k < nth (digs Y) k → ordN X Y = -1 := by
        intro k hk hs hlt
        have := val_lt_of (Wd_digs X) (Wd_digs Y) (k := k) (by omega) hm (fun j h1 h2 => hs j h1 (by omega)) hlt
        rw [val_digs, val_digs] at this
        exact ordN_lt this
      have fin2 : ∀ k, k < m + 1 → (∀ j, k < j → j < m + 1 → nth (digs X) j = nth (digs Y) j) → nth (digs Y) k < nth (digs X) k → ordN X Y = 1 := by
        intro k hk hs hlt
        have := val_lt_of (Wd_digs Y) (Wd_digs X) (k := k) (by omega) hm.symm (fun j h1 h2 => (hs j h1 (by omega)).symm) hlt
        rw [val_digs, val_digs] at this
        exact ordN_gt this
      have fin3 : (∀ j, j < m + 1 → nth (digs X) j = nth (digs Y) j) → ordN X Y = 0 := by
        intro hs
        have := val_eq_of hm (fun j h => hs j (by omega))
        rw [val_digs, val_digs] at this
        exact ordN_eq this
      have hmb : m < 1000000 := by omega
      rw [hmm]
      clear hmm hm htx hty hlX hlY hpX hpY hax hay hlx hly hcx hcy
      replace hcX := Lib.hid hcX
      replace hcY := Lib.hid hcY
      replace fin1 := Lib.hid fin1
      replace fin2 := Lib.hid fin2
      replace fin3 := Lib.hid fin3
      have e0 : ((m : Int) + 1 == 0) = false := by simp; omega
      go_enter Tryz.func133, Tryz.ntmps133
      go_upto_block 1 with (fail)
      go_cut [7] (fun i wr => ∃ k n : Nat, k ≤ m ∧ i = .int .i64 k ∧ wr = w.drewN n ∧ (∀ j, k < j → j < m + 1 → nth (digs X) j = nth (digs Y) j) ∧ (k = 0 ∨ nth (digs X) k ≠ nth (digs Y) k))
      case first =>
        go_wp2_with fail
        go_loopw [7] (fun i wr => ∃ k n : Nat, k ≤ m ∧ i = .int .i64 k ∧ wr = w.drewN n ∧ (∀ j, k < j → j < m + 1 → nth (digs X) j = nth (digs Y) j)) (fun i _ => (intOf i).toNat)
        case atStart => exact ⟨m, 0, Nat.le_refl _, rfl, rfl, fun j h1 h2 => by omega⟩
        case round =>
          obtain ⟨k, n, hk, rfl, hwr, hs⟩ := hrel
          replace hs := Lib.hid hs
          by_cases hk0 : k = 0
          · subst hk0 hwr
            go_wp2
            go_quiet (fail)
            go_wp2
            go_meet
            exact ⟨0, _, hk, rfl, by first | exact drewN_drewN _ _ _ | rfl, hs.out, .inl rfl⟩
          · have hk1 : 0 < k := by omega
            have c1 := hcX.out k (by omega)
            have c2 := hcY.out k (by omega)
            by_cases he : nth (digs X) k = nth (digs Y) k
            · have e1 : ((nth (digs X) k : Int) == (nth (digs Y) k : Int)) = true := by simp; omega
              replace he := Lib.hid he
              subst hwr
              go_wp2
              go_quiet (fail)
              go_wp2
              go_roundw
              case rel =>
                refine ⟨k - 1, _, by omega, by go_num, by first | exact drewN_drewN _ _ _ | rfl, fun j h1 h2 => ?_⟩
                by_cases hjk : j = k
                · subst hjk; exact he.out
                · exact hs.out j (by omega) h2
              case measure => simp [intOf]; omega
            · have e1 : ((nth (digs X) k : Int) == (nth (digs Y) k : Int)) = false := by simp; omega
              replace he := Lib.hid he
              subst hwr
              go_wp2
              go_quiet (fail)
              go_wp2
              go_meet
              exact ⟨k, _, hk, rfl, by first | exact drewN_drewN _ _ _ | rfl, hs.out, .inr he.out⟩
      case rest =>
        obtain ⟨k, n, hk, rfl, rfl, hs, hd⟩ := hcut
        have c1 := hcX.out k (by omega)
        have c2 := hcY.out k (by omega)
        replace fin1 := Lib.hid (fin1.out k (by omega) hs)
        replace fin2 := Lib.hid (fin2.out k (by omega) hs)
        have fin4 : nth (digs X) k = nth (digs Y) k → ordN X Y = 0 := by
          intro e
          rcases hd with h | h
          · subst h
            exact fin3.out (fun j hj => by
              by_cases hj0 : j = 0
              · subst hj0; exact e
              · exact hs j (by omega) hj)
          · exact absurd e h
        replace fin4 := Lib.hid fin4
        clear fin3 hs hd hcX hcY
        rcases Nat.lt_trichotomy (nth (digs X) k) (nth (digs Y) k) with hlt | he | hgt
        · replace fin1 := fin1.out hlt
          replace fin1 := Lib.hid fin1
          go_wp2
          go_quiet (fail)
          go_wp2
          go_ret
          exact ⟨by rw [fin1.out]; rfl, _, by first | exact drewN_drewN _ _ _ | (rw [drewN_drewN]; exact drewN_drewN _ _ _)⟩
        · replace fin4 := fin4.out he
          replace fin4 := Lib.hid fin4
          have h1 : ¬ nth (digs X) k < nth (digs Y) k := by omega
          have h2 : ¬ nth (digs Y) k < nth (digs X) k := by omega
          replace he := Lib.hid he
          go_wp2
          go_quiet (fail)
          go_wp2
          go_quiet (fail)
          go_wp2
          go_ret
          exact ⟨by rw [fin4.out]; rfl, _, by first | exact drewN_drewN _ _ _ | (rw [drewN_drewN]; exact drewN_drewN _ _ _)⟩
        · replace fin2 := fin2.out hgt
          replace fin2 := Lib.hid fin2
          have h1 : ¬ nth (digs X) k < nth (digs Y) k := by omega
          go_wp2
          go_quiet (fail)
          go_wp2
          go_quiet (fail)
          go_wp2
          go_ret
          exact ⟨by rw [fin2.out]; rfl, _, by first | exact drewN_drewN _ _ _ | (rw [drewN_drewN]; exact drewN_drewN _ _ _)⟩
  · have e1 : (((digs X).length : Int) != (digs Y).length) = true := by simp; omega
    clear hx hy
    by_cases hlt : (digs X).length < (digs Y).length
    · have hr := Lib.hid (ordN_lt (digs_len_lt hlt))
      go_enter Tryz.func133, Tryz.ntmps133
      go_wp2
      go_ret
      exact ⟨by rw [hr.out]; rfl, 0, rfl⟩
    · have hr := Lib.hid (ordN_gt (digs_len_lt (show (digs Y).length < (digs X).length by omega)))
      have hgt : (digs Y).length < (digs X).length := by omega
      go_enter Tryz.func133, Tryz.ntmps133
      go_wp2
      go_ret
      exact ⟨by rw [hr.out]; rfl, 0, rfl⟩
end Go.Proofs.YtonepclpllelfaaGreatDoor

namespace Go.Proofs.YtonepclpllelfaaGreatDoor
open Go Go.RowKit

theorem int_eq0 {n : Nat} (h : 0 < n) : ((n : Int) == 0) = false := by rw [beq_eq_false_iff_ne]; omega
theorem digs_len_pos {n : Nat} (h : n ≠ 0) : 0 < (digs n).length := Nat.pos_of_ne_zero (mt digs_len_eq_zero.1 h)
/-- A call that only hands its arguments on. -/
theorem addVV_c (w : World) (bz oz n cz bx ox cx by_ oy cy : Nat) (Cz X Y : List Nat) (hn : n < 1000000)
    (hz : Arr w bz Cz) (hzl : oz + n ≤ Cz.length) (hX : X.length = n) (hY : Y.length = n) (WX : Wd X) (WY : Wd Y)
    (hx : Rd w bz oz n Cz bx ox X) (hy : Rd w bz oz n Cz by_ oy Y) :
    Calls Tryz.prog 160 #[.slice (some ⟨bz, oz, none⟩) n cz, .slice (some ⟨bx, ox, none⟩) n cx, .slice (some ⟨by_, oy, none⟩) n cy] w fun e w' =>
      ∃ R c, e = .returned (.int .u64 ((c : Nat) : Int)) ∧ Sub w w' bz (spl Cz oz R) ∧ R.length = n ∧ c ≤ 1 ∧ val R + WB ^ n * c = val X + val Y := by
  have hc := addVV_g_c w bz oz n cz bx ox cx by_ oy cy Cz X Y hn hz hzl hX hY WX WY hx hy
  go_enter Tryz.func160, Tryz.ntmps160
  go_wp2_with fail
  refine hc.mono ?_
  rintro e w' ⟨R, c, rfl, h⟩
  go_wp2
  go_ret
  exact ⟨R, c, rfl, h⟩
theorem subVV_c (w : World) (bz oz n cz bx ox cx by_ oy cy : Nat) (Cz X Y : List Nat) (hn : n < 1000000)
    (hz : Arr w bz Cz) (hzl : oz + n ≤ Cz.length) (hX : X.length = n) (hY : Y.length = n) (WX : Wd X) (WY : Wd Y)
    (hx : Rd w bz oz n Cz bx ox X) (hy : Rd w bz oz n Cz by_ oy Y) :
    Calls Tryz.prog 162 #[.slice (some ⟨bz, oz, none⟩) n cz, .slice (some ⟨bx, ox, none⟩) n cx, .slice (some ⟨by_, oy, none⟩) n cy] w fun e w' =>
      ∃ R c, e = .returned (.int .u64 ((c : Nat) : Int)) ∧ Sub w w' bz (spl Cz oz R) ∧ R.length = n ∧ Wd R ∧ c ≤ 1 ∧ val X + WB ^ n * c = val R + val Y := by
  have hc := subVV_g_c w bz oz n cz bx ox cx by_ oy cy Cz X Y hn hz hzl hX hY WX WY hx hy
  go_enter Tryz.func162, Tryz.ntmps162
  go_wp2_with fail
  refine hc.mono ?_
  rintro e w' ⟨R, c, rfl, h⟩
  go_wp2
  go_ret
  exact ⟨R, c, rfl, h⟩

theorem natRes_spl {w w1 w2 : World} {o : Option Nat} {b cap : Nat} {C L : List Nat} (hb : o = some b ∨ w.heap.size = b) (hc : Chg w w1 (fun _ => False)) (hS : Sub w1 w2 b (spl C 0 L))
    (hC : C.length = cap) (hn : L.length ≤ cap) (hcap : 0 < cap ∧ cap ≤ 1000000) : NatRes w w2 o (.slice (some ⟨b, 0, none⟩) (digs (val L)).length cap) (val L) := by
  have h1 := isNat_of (l := L.length) hS.arr (by rw [spl_length (by omega), hC]) hcap hn
  rw [spl_zero_take (by omega)] at h1
  refine ⟨some b, h1, ?_, (hc.mono (fun _ _ h => h.elim)).trans (hS.chg.mono ?_)⟩
  · rcases hb with h | h
    · exact .inl h.symm
    · exact .inr (.inr ⟨b, rfl, by omega⟩)
  · rintro k _ rfl
    rcases hb with h | h
    · exact .inl h.symm
    · exact .inr (by omega)
/-- The words are brought to a number. -/
theorem norm_spl (w : World) (b l cap : Nat) (C L : List Nat) (hb : Arr w b (spl C 0 L)) (hC : C.length = cap) (hl : L.length = l) (hlc : l ≤ cap) (hn : cap ≤ 1000000) :
    Calls Tryz.prog 94 #[.slice (some ⟨b, 0, none⟩) l cap] w fun e w' => e = .returned (.slice (some ⟨b, 0, none⟩) (digs (val L)).length cap) ∧ w = w' := by
  have h := norm_c w b l cap (spl C 0 L) hb (by rw [spl_length (by omega)]; omega) hlc (by omega)
  rw [← hl] at h ⊢
  rw [spl_zero_take (by omega)] at h
  exact h

theorem spl_zero_drop {C R : List Nat} (_h : R.length ≤ C.length) : (spl C 0 R).drop R.length = C.drop R.length := by
  unfold spl; simp
theorem take_eq_of {C L : List Nat} (h : C.take L.length = L) {n : Nat} (hn : n ≤ L.length) : C.take n = L.take n := by
  rw [← h, List.take_take, Nat.min_eq_left hn]
theorem dt_eq_of {C L : List Nat} {m n : Nat} (h : C.take L.length = L) (hm : L.length = m) : (C.drop n).take (m - n) = L.drop n := by
  conv => rhs; rw [← h, hm]
  rw [List.drop_take]

set_option maxRecDepth 100000 in
set_option maxHeartbeats 2000000 in
theorem natadd_ge (w : World) (z x y : Value) (X Y : Nat) (o ox oy : Option Nat) (hz : Stor w z o) (hx : IsNat w x X ox) (hy : IsNat w y Y oy) (hn : (digs X).length ≤ 900) (hge : (digs Y).length ≤ (digs X).length) :
    Calls Tryz.prog 141 #[z, x, y] w fun e w' => ∃ r, e = .returned r ∧ NatRes w w' o r (X + Y) := by
  by_cases h0 : X = 0
  · subst h0
    have hY : Y = 0 := by rw [digs_zero] at hge; exact digs_len_eq_zero.1 (by simpa using hge)
    subst hY
    obtain ⟨px, cx, rfl, _, _⟩ := hx.shape
    obtain ⟨py, cy, rfl, _, _⟩ := hy.shape
    obtain ⟨p, l, c, rfl, hl, hc, hr⟩ := NatRes.zero hz
    rw [digs_zero] at *
    replace hr := Lib.hid hr
    clear hz hx hy
    go_enter Tryz.func141, Tryz.ntmps141
    go_wp2
    go_ret
    exact ⟨_, rfl, hr.out⟩
  by_cases h1 : Y = 0
  · subst h1
    have hs := set_c w z x X o ox hz hx (by omega)
    have hle : (digs X).length ≤ 900 := hn
    clear hge
    obtain ⟨px, cx, rfl, _, _⟩ := hx.shape
    obtain ⟨py, cy, rfl, _, _⟩ := hy.shape
    have hpos := int_eq0 (digs_len_pos h0)
    rw [digs_zero]
    clear hz hx hy
    go_enter Tryz.func141, Tryz.ntmps141
    go_wp2_with fail
    refine hs.mono ?_
    rintro e w1 ⟨r, rfl, hr⟩
    go_wp2
    go_ret
    exact ⟨_, rfl, by simpa using hr⟩
  obtain ⟨bx, cx, Cx, rfl, rfl, hax, hcx, hcapx, htx, hlx, hpx⟩ := hx.pos h0
  obtain ⟨by_, cy, Cy, rfl, rfl, hay, hcy, hcapy, hty, hly, hpy⟩ := hy.pos h1
  have hmk := make_c w z o hz ((digs X).length + 1) (by omega) (by omega)
  have hvX : val (digs X) = X := val_digs X
  have hvY : val (digs Y) = Y := val_digs Y
  have hwX := Wd_digs X
  have hwY := Wd_digs Y
  generalize hXL : digs X = XL at *
  generalize hYL : digs Y = YL at *
  generalize hm : XL.length = m at *
  generalize hn' : YL.length = n at *
  have hmk' : Calls Tryz.prog 127 #[z, .int .i64 ((m : Int) + 1)] w fun e w' => ∃ r, e = .returned r ∧ MakeRes w w' o r (m + 1) := by exact_mod_cast hmk
  have e1 : ((m : Int) == 0) = false := by simp; omega
  have e2 : ((n : Int) == 0) = false := by simp; omega
  have e3 : ¬ m < n := by omega
  have k1 : n ≤ cx := by omega
  have k2 : n ≤ cy := by omega
  have k3 : m ≤ cx := by omega
  replace hvX := Lib.hid hvX
  replace hvY := Lib.hid hvY
  replace hm := Lib.hid hm
  replace hn' := Lib.hid hn'
  replace htx := Lib.hid htx
  replace hty := Lib.hid hty
  replace hXL := Lib.hid hXL
  replace hYL := Lib.hid hYL
  clear hmk h0 h1 hx hy
  obtain ⟨pz, lz, cz, rfl⟩ : ∃ p l c, z = .slice p l c := by
    rcases hz with ⟨rfl, _⟩ | ⟨b, l, cap, C, _, rfl, _⟩
    · exact ⟨_, _, _, rfl⟩
    · exact ⟨_, _, _, rfl⟩
  go_enter Tryz.func141, Tryz.ntmps141
  go_wp2_with fail
  refine hmk'.mono ?_
  rintro e w1 ⟨r, rfl, b, cap, C, rfl, ha, hC, hnc, hcap, hb, hchg⟩
  have hax1 := hchg.arr hax (fun h => h)
  have hay1 := hchg.arr hay (fun h => h)
  have k4 : n ≤ cap := by omega
  have hhx : val ((Cx.drop 0).take n) + WB ^ n * val ((Cx.drop n).take (m - n)) = X := by
    have h1 := hvX.out
    rw [List.drop_zero, take_eq_of (L := XL) (by rw [hm.out]; exact htx.out) (by rw [hm.out]; omega), dt_eq_of (L := XL) (by rw [hm.out]; exact htx.out) hm.out, ← val_take_drop XL n (by rw [hm.out]; omega)]
    exact h1
  have hhy : val ((Cy.drop 0).take n) = Y := by
    have h1 := hvY.out
    rw [List.drop_zero, hty.out]; exact h1
  replace hhx := Lib.hid hhx
  replace hhy := Lib.hid hhy
  clear hvX hvY htx hty
  go_wp2
  go_still_tail 9, (by kernel_rfl)
  change wpList _ _ _ _ _ w1.drew
  have hd : Chg w1 w1.drew (fun _ => False) := (Chg.refl w1 _).drew
  generalize w1.drew = w2 at hd ⊢
  have ha2 := hd.arr ha (fun h => h)
  have hax2 := hd.arr hax1 (fun h => h)
  have hay2 := hd.arr hay1 (fun h => h)
  have hchg2 : Chg w w2 (fun _ => False) := hchg.trans (hd.mono (fun _ _ h => h.elim))
  have hb2 : (o = some b) ∨ w.heap.size = b := hb.imp (·.1) id
  clear hd ha hax1 hay1 hchg hb
  have hadd := addVV_c w2 b 0 n cap bx 0 cx by_ 0 cy C ((Cx.drop 0).take n) ((Cy.drop 0).take n) (by omega) ha2 (by omega) (by simp; omega) (by simp; omega)
    ((hax.wd.drop _).take _) ((hay.wd.drop _).take _) (Rd.mk ha2 (by omega) hax2 (by omega) (.inr (Nat.le_refl _))) (Rd.mk ha2 (by omega) hay2 (by omega) (.inr (Nat.le_refl _)))
  go_wp2_with fail
  refine hadd.mono ?_
  rintro e w3 ⟨R, c, rfl, hS, hR, hc, hv⟩
  have hcw : c < WB := Nat.lt_of_le_of_lt hc (by rw [WB_eq]; decide)
  by_cases hmn : n < m
  · obtain ⟨d, hd⟩ : ∃ d, d + 1 = m - n := ⟨m - n - 1, by omega⟩
    have hS3 : Sub w2 w3.drew b (spl C 0 R) := hS.drew
    have hx3 : ∃ Cx', Arr w3.drew bx Cx' ∧ Cx'.drop n = Cx.drop n ∧ Cx'.length = Cx.length := by
      by_cases e : bx = b
      · subst e
        obtain rfl := ha2.inj hax2
        refine ⟨_, hS3.arr, ?_, spl_length (by omega)⟩
        have := spl_zero_drop (C := C) (R := R) (by omega)
        rwa [hR] at this
      · exact ⟨Cx, hS3.other e hax2, rfl, rfl⟩
    obtain ⟨Cx', hax3, hdx, hlx'⟩ := hx3
    have hadd2 := addVW_c w3.drew b n d (cap - n) bx n (cx - n) c (spl C 0 R) Cx' (by omega) hc hS3.arr (by rw [spl_length (by omega)]; omega) hax3 (by omega) (by
      by_cases e : bx = b
      · exact .inr ⟨e, rfl⟩
      · exact .inl e) (by omega) (by omega)
    rw [hdx, hd] at hadd2
    have t1 : ¬ cap = n := by omega
    have t2 : ¬ cx = n := by omega
    have t4 : m ≤ cap := by omega
    go_wp2
    go_still_tail 8, (by kernel_rfl)
    change wpList _ _ _ _ _ w3.drew
    go_wp2_with fail
    refine hadd2.mono ?_
    rintro e w4 ⟨R2, c2, rfl, hS2, hR2, hc2, hv2⟩
    have hcw2 : c2 < WB := Nat.lt_of_le_of_lt hc2 (by rw [WB_eq]; decide)
    have hS4 := hS3.trans hS2
    have hsp := spl_spl_next (C := C) (o := 0) (R := R) (S := R2) (by omega)
    rw [Nat.zero_add, hR] at hsp
    rw [hsp] at hS4
    have hl4 : (R ++ R2).length = m := by rw [List.length_append]; omega
    have hz1 := hS4.arr.cellN (i := m) (by rw [spl_length (by omega)]; omega)
    have hz2 := hS4.arr.frozen m
    have hS5 := hS4.next (k := m) hl4 (by omega) c2 hcw2
    rw [Nat.zero_add] at hS5
    have hv5 : val (R ++ R2 ++ [c2]) = X + Y := by
      rw [val_snoc, hl4, val_append, hR]
      have h1 := hhx.out
      have h2 := hhy.out
      have h3 : WB ^ m = WB ^ n * WB ^ (m - n) := by rw [← Nat.pow_add]; congr 1; omega
      rw [h3, Nat.mul_assoc]
      have h4 : WB ^ n * (val R2 + WB ^ (m - n) * c2) = WB ^ n * (val (List.take (m - n) (List.drop n Cx)) + c) := by rw [hv2]
      rw [Nat.mul_add, Nat.mul_add] at h4
      omega
    have hl5 : (R ++ R2 ++ [c2]).length = m + 1 := by rw [List.length_append, hl4]; rfl
    generalize R ++ R2 ++ [c2] = L at *
    have hnm := fun w' (ha : Arr w' b (spl C 0 L)) => norm_spl w' b (m + 1) cap C L ha hC hl5 hnc hcap.2
    clear hS4 hS2 hS3 hS hadd2 hax3 hadd
    go_wp2_with fail
    refine (hnm _ hS5.arr).mono ?_
    rintro e w6 ⟨rfl, hw⟩
    obtain rfl := hw
    go_wp2
    go_ret
    have := natRes_spl hb2 hchg2 hS5 hC (by omega) hcap
    rw [hv5] at this
    exact ⟨_, rfl, this⟩
  · obtain rfl : n = m := by omega
    have hz1 := hS.arr.cellN (i := n) (by rw [spl_length (by omega)]; omega)
    have hz2 := hS.arr.frozen n
    have hS5 := hS.next (k := n) hR (by omega) c hcw
    rw [Nat.zero_add] at hS5
    have hv5 : val (R ++ [c]) = X + Y := by
      rw [val_snoc, hR]
      have h1 := hhx.out
      have h2 := hhy.out
      rw [Nat.sub_self, List.take_zero, val_nil] at h1
      omega
    have hl5 : (R ++ [c]).length = n + 1 := by rw [List.length_append, hR]; rfl
    generalize R ++ [c] = L at *
    have hnm := fun w' (ha : Arr w' b (spl C 0 L)) => norm_spl w' b (n + 1) cap C L ha hC hl5 hnc hcap.2
    clear hS hadd
    go_wp2_with fail
    refine (hnm _ hS5.arr).mono ?_
    rintro e w6 ⟨rfl, hw⟩
    obtain rfl := hw
    go_wp2
    go_ret
    have := natRes_spl hb2 hchg2 hS5 hC (by omega) hcap
    rw [hv5] at this
    exact ⟨_, rfl, this⟩

set_option maxHeartbeats 400000 in
theorem natadd_c (w : World) (z x y : Value) (X Y : Nat) (o ox oy : Option Nat) (hz : Stor w z o) (hx : IsNat w x X ox) (hy : IsNat w y Y oy) (hn : (digs X).length ≤ 900) (hn2 : (digs Y).length ≤ 900) :
    Calls Tryz.prog 141 #[z, x, y] w fun e w' => ∃ r, e = .returned r ∧ NatRes w w' o r (X + Y) := by
  by_cases hge : (digs Y).length ≤ (digs X).length
  · exact natadd_ge w z x y X Y o ox oy hz hx hy hn hge
  · have hc := natadd_ge w z y x Y X o oy ox hz hy hx hn2 (by omega)
    have hlt : (digs X).length < (digs Y).length := by omega
    obtain ⟨px, cx, rfl, _, _⟩ := hx.shape
    obtain ⟨py, cy, rfl, _, _⟩ := hy.shape
    clear hz hx hy
    go_enter Tryz.func141, Tryz.ntmps141
    go_wp2_with fail
    refine hc.mono ?_
    rintro e w1 ⟨r, rfl, hr⟩
    go_wp2
    go_ret
    rw [Nat.add_comm] at hr
    exact ⟨_, rfl, hr⟩
end Go.Proofs.YtonepclpllelfaaGreatDoor

namespace Go.Proofs.YtonepclpllelfaaGreatDoor
open Go Go.RowKit

set_option maxRecDepth 100000 in
set_option maxHeartbeats 2000000 in
theorem natsub_c (w : World) (z x y : Value) (X Y : Nat) (o ox oy : Option Nat) (hz : Stor w z o) (hx : IsNat w x X ox) (hy : IsNat w y Y oy) (hn : (digs X).length ≤ 900) (hle : Y ≤ X) :
    Calls Tryz.prog 142 #[z, x, y] w fun e w' => ∃ r, e = .returned r ∧ NatRes w w' o r (X - Y) := by
  have hge : (digs Y).length ≤ (digs X).length := digs_len_mono hle
  by_cases h0 : X = 0
  · subst h0
    have hY : Y = 0 := by rw [digs_zero] at hge; exact digs_len_eq_zero.1 (by simpa using hge)
    subst hY
    obtain ⟨px, cx, rfl, _, _⟩ := hx.shape
    obtain ⟨py, cy, rfl, _, _⟩ := hy.shape
    obtain ⟨p, l, c, rfl, hl, hc, hr⟩ := NatRes.zero hz
    rw [digs_zero] at *
    replace hr := Lib.hid hr
    clear hz hx hy
    go_enter Tryz.func142, Tryz.ntmps142
    go_wp2
    go_ret
    exact ⟨_, rfl, hr.out⟩
  by_cases h1 : Y = 0
  · subst h1
    have hs := set_c w z x X o ox hz hx (by omega)
    have hle : (digs X).length ≤ 900 := hn
    clear hge
    obtain ⟨px, cx, rfl, _, _⟩ := hx.shape
    obtain ⟨py, cy, rfl, _, _⟩ := hy.shape
    have hpos := int_eq0 (digs_len_pos h0)
    rw [digs_zero]
    clear hz hx hy
    go_enter Tryz.func142, Tryz.ntmps142
    go_wp2_with fail
    refine hs.mono ?_
    rintro e w1 ⟨r, rfl, hr⟩
    go_wp2
    go_ret
    exact ⟨_, rfl, by simpa using hr⟩
  obtain ⟨bx, cx, Cx, rfl, rfl, hax, hcx, hcapx, htx, hlx, hpx⟩ := hx.pos h0
  obtain ⟨by_, cy, Cy, rfl, rfl, hay, hcy, hcapy, hty, hly, hpy⟩ := hy.pos h1
  have hmk := make_c w z o hz (digs X).length (by omega) (by omega)
  have hvX : val (digs X) = X := val_digs X
  have hvY : val (digs Y) = Y := val_digs Y
  have hwX := Wd_digs X
  have hwY := Wd_digs Y
  generalize hXL : digs X = XL at *
  generalize hYL : digs Y = YL at *
  generalize hm : XL.length = m at *
  generalize hn' : YL.length = n at *
  have hmk' : Calls Tryz.prog 127 #[z, .int .i64 (m : Int)] w fun e w' => ∃ r, e = .returned r ∧ MakeRes w w' o r m := hmk
  have e1 : ((m : Int) == 0) = false := by simp; omega
  have e2 : ((n : Int) == 0) = false := by simp; omega
  have e3 : ¬ m < n := by omega
  have k1 : n ≤ cx := by omega
  have k2 : n ≤ cy := by omega
  have k3 : m ≤ cx := by omega
  replace hvX := Lib.hid hvX
  replace hvY := Lib.hid hvY
  replace hm := Lib.hid hm
  replace hn' := Lib.hid hn'
  replace htx := Lib.hid htx
  replace hty := Lib.hid hty
  replace hXL := Lib.hid hXL
  replace hYL := Lib.hid hYL
  clear hmk h0 h1 hx hy
  obtain ⟨pz, lz, cz, rfl⟩ : ∃ p l c, z = .slice p l c := by
    rcases hz with ⟨rfl, _⟩ | ⟨b, l, cap, C, _, rfl, _⟩
    · exact ⟨_, _, _, rfl⟩
    · exact ⟨_, _, _, rfl⟩
  go_enter Tryz.func142, Tryz.ntmps142
  go_wp2_with fail
  refine hmk'.mono ?_
  rintro e w1 ⟨r, rfl, b, cap, C, rfl, ha, hC, hnc, hcap, hb, hchg⟩
  have hax1 := hchg.arr hax (fun h => h)
  have hay1 := hchg.arr hay (fun h => h)
  have k4 : n ≤ cap := by omega
  have hhx : val ((Cx.drop 0).take n) + WB ^ n * val ((Cx.drop n).take (m - n)) = X := by
    have h1 := hvX.out
    rw [List.drop_zero, take_eq_of (L := XL) (by rw [hm.out]; exact htx.out) (by rw [hm.out]; omega), dt_eq_of (L := XL) (by rw [hm.out]; exact htx.out) hm.out, ← val_take_drop XL n (by rw [hm.out]; omega)]
    exact h1
  have hhy : val ((Cy.drop 0).take n) = Y := by
    have h1 := hvY.out
    rw [List.drop_zero, hty.out]; exact h1
  replace hhx := Lib.hid hhx
  replace hhy := Lib.hid hhy
  clear hvX hvY htx hty
  go_wp2
  go_still_tail 9, (by kernel_rfl)
  change wpList _ _ _ _ _ w1.drew
  have hd : Chg w1 w1.drew (fun _ => False) := (Chg.refl w1 _).drew
  generalize w1.drew = w2 at hd ⊢
  have ha2 := hd.arr ha (fun h => h)
  have hax2 := hd.arr hax1 (fun h => h)
  have hay2 := hd.arr hay1 (fun h => h)
  have hchg2 : Chg w w2 (fun _ => False) := hchg.trans (hd.mono (fun _ _ h => h.elim))
  have hb2 : (o = some b) ∨ w.heap.size = b := hb.imp (·.1) id
  clear hd ha hax1 hay1 hchg hb
  have hadd := subVV_c w2 b 0 n cap bx 0 cx by_ 0 cy C ((Cx.drop 0).take n) ((Cy.drop 0).take n) (by omega) ha2 (by omega) (by simp; omega) (by simp; omega)
    ((hax.wd.drop _).take _) ((hay.wd.drop _).take _) (Rd.mk ha2 (by omega) hax2 (by omega) (.inr (Nat.le_refl _))) (Rd.mk ha2 (by omega) hay2 (by omega) (.inr (Nat.le_refl _)))
  go_wp2_with fail
  refine hadd.mono ?_
  rintro e w3 ⟨R, c, rfl, hS, hR, hWR, hc, hv⟩
  have hcw : c < WB := Nat.lt_of_le_of_lt hc (by rw [WB_eq]; decide)
  by_cases hmn : n < m
  · obtain ⟨d, hd⟩ : ∃ d, d + 1 = m - n := ⟨m - n - 1, by omega⟩
    have hS3 : Sub w2 w3.drew b (spl C 0 R) := hS.drew
    have hx3 : ∃ Cx', Arr w3.drew bx Cx' ∧ Cx'.drop n = Cx.drop n ∧ Cx'.length = Cx.length := by
      by_cases e : bx = b
      · subst e
        obtain rfl := ha2.inj hax2
        refine ⟨_, hS3.arr, ?_, spl_length (by omega)⟩
        have := spl_zero_drop (C := C) (R := R) (by omega)
        rwa [hR] at this
      · exact ⟨Cx, hS3.other e hax2, rfl, rfl⟩
    obtain ⟨Cx', hax3, hdx, hlx'⟩ := hx3
    have hadd2 := subVW_c w3.drew b n d (cap - n) bx n (cx - n) c (spl C 0 R) Cx' (by omega) hc hS3.arr (by rw [spl_length (by omega)]; omega) hax3 (by omega) (by
      by_cases e : bx = b
      · exact .inr ⟨e, rfl⟩
      · exact .inl e) (by omega) (by omega)
    rw [hdx, hd] at hadd2
    have t1 : ¬ cap = n := by omega
    have t2 : ¬ cx = n := by omega
    have t4 : m ≤ cap := by omega
    go_wp2
    go_still_tail 7, (by kernel_rfl)
    change wpList _ _ _ _ _ w3.drew
    go_wp2_with fail
    refine hadd2.mono ?_
    rintro e w4 ⟨R2, c2, rfl, hS2, hR2, hc2, hv2⟩
    have hS4 := hS3.trans hS2
    have hsp := spl_spl_next (C := C) (o := 0) (R := R) (S := R2) (by omega)
    rw [Nat.zero_add, hR] at hsp
    rw [hsp] at hS4
    have hl4 : (R ++ R2).length = m := by rw [List.length_append]; omega
    have hwd4 : Wd (R ++ R2) := by
      have := hS4.arr.wd
      unfold spl at this
      simpa using this.left
    have hlt4 := val_lt hwd4
    rw [hl4] at hlt4
    have hv4 : val (R ++ R2) = X - Y ∧ c2 = 0 := by
      have h1 := hhx.out
      have h2 := hhy.out
      have h3 : WB ^ m = WB ^ n * WB ^ (m - n) := by rw [← Nat.pow_add]; congr 1; omega
      have h4 : WB ^ n * (val (List.take (m - n) (List.drop n Cx)) + WB ^ (m - n) * c2) = WB ^ n * (val R2 + c) := by rw [hv2]
      rw [Nat.mul_add, Nat.mul_add, ← Nat.mul_assoc, ← h3] at h4
      have h5 : val (R ++ R2) = val R + WB ^ n * val R2 := by rw [val_append, hR]
      have h6 : c2 = 0 := by
        rcases Nat.lt_or_ge 0 c2 with h | h
        · obtain rfl : c2 = 1 := by omega
          rw [Nat.mul_one] at h4
          omega
        · omega
      subst h6
      rw [Nat.mul_zero] at h4
      exact ⟨by omega, rfl⟩
    obtain ⟨hv5, rfl⟩ := hv4
    generalize R ++ R2 = L at *
    have hnm := fun w' (ha : Arr w' b (spl C 0 L)) => norm_spl w' b m cap C L ha hC hl4 hnc hcap.2
    clear hS2 hS3 hS hadd2 hax3 hadd hwd4 hlt4
    go_wp2_with fail
    refine (hnm _ hS4.arr).mono ?_
    rintro e w6 ⟨rfl, hw⟩
    obtain rfl := hw
    go_wp2
    go_ret
    have := natRes_spl hb2 hchg2 hS4 hC (by omega) hcap
    rw [hv5] at this
    exact ⟨_, rfl, this⟩
  · obtain rfl : n = m := by omega
    have hlt4 := val_lt hWR
    rw [hR] at hlt4
    have hv4 : val R = X - Y ∧ c = 0 := by
      have h1 := hhx.out
      have h2 := hhy.out
      rw [Nat.sub_self, List.take_zero, val_nil] at h1
      have h6 : c = 0 := by
        rcases Nat.lt_or_ge 0 c with h | h
        · obtain rfl : c = 1 := by omega
          omega
        · omega
      subst h6
      exact ⟨by omega, rfl⟩
    obtain ⟨hv5, rfl⟩ := hv4
    have hnm := fun w' (ha : Arr w' b (spl C 0 R)) => norm_spl w' b n cap C R ha hC hR hnc hcap.2
    clear hadd hlt4
    go_wp2_with fail
    refine (hnm _ hS.arr).mono ?_
    rintro e w6 ⟨rfl, hw⟩
    obtain rfl := hw
    go_wp2
    go_ret
    have := natRes_spl hb2 hchg2 hS hC (by omega) hcap
    rw [hv5] at this
    exact ⟨_, rfl, this⟩
end Go.Proofs.YtonepclpllelfaaGreatDoor

namespace Go.Proofs.YtonepclpllelfaaGreatDoor
open Go Go.RowKit

theorem mulAddVWW_c (w : World) (bz oz n cz bx ox cx y r : Nat) (Cz X : List Nat) (hn : n < 1000000)
    (hz : Arr w bz Cz) (hzl : oz + n ≤ Cz.length) (hX : X.length = n) (WX : Wd X) (hwy : y < WB) (hwr : r < WB)
    (hx : Rd w bz oz n Cz bx ox X) :
    Calls Tryz.prog 214 #[.slice (some ⟨bz, oz, none⟩) n cz, .slice (some ⟨bx, ox, none⟩) n cx, .int .u64 y, .int .u64 r] w fun e w' =>
      ∃ R c, e = .returned (.int .u64 ((c : Nat) : Int)) ∧ Sub w w' bz (spl Cz oz R) ∧ R.length = n ∧ c < WB ∧ val R + WB ^ n * c = val X * y + r := by
  have hc := mulAddVWW_g_c w bz oz n cz bx ox cx y r Cz X hn hz hzl hX WX hwy hwr hx
  go_enter Tryz.func214, Tryz.ntmps214
  go_wp2_with fail
  refine hc.mono ?_
  rintro e w' ⟨R, c, rfl, h⟩
  go_wp2
  go_ret
  exact ⟨R, c, rfl, h⟩
theorem addMulVVWW_c (w : World) (bz oz n cz bx ox cx by_ oy cy m a : Nat) (Cz X Y : List Nat) (hn : n < 1000000)
    (hz : Arr w bz Cz) (hzl : oz + n ≤ Cz.length) (hX : X.length = n) (hY : Y.length = n) (WX : Wd X) (WY : Wd Y) (hwm : m < WB) (hwa : a < WB)
    (hx : Rd w bz oz n Cz bx ox X) (hy : Rd w bz oz n Cz by_ oy Y) :
    Calls Tryz.prog 213 #[.slice (some ⟨bz, oz, none⟩) n cz, .slice (some ⟨bx, ox, none⟩) n cx, .slice (some ⟨by_, oy, none⟩) n cy, .int .u64 m, .int .u64 a] w fun e w' =>
      ∃ R c, e = .returned (.int .u64 ((c : Nat) : Int)) ∧ Sub w w' bz (spl Cz oz R) ∧ R.length = n ∧ c < WB ∧ val R + WB ^ n * c = val X + val Y * m + a := by
  have hc := addMulVVWW_g_c w bz oz n cz bx ox cx by_ oy cy m a Cz X Y hn hz hzl hX hY WX WY hwm hwa hx hy
  go_enter Tryz.func213, Tryz.ntmps213
  go_wp2_with fail
  refine hc.mono ?_
  rintro e w' ⟨R, c, rfl, h⟩
  go_wp2
  go_ret
  exact ⟨R, c, rfl, h⟩
theorem lshVU_c (w : World) (bz oz m cz bx ox cx s : Nat) (Cz Cx : List Nat) (hn : m < 1000000) (hs0 : 0 < s) (hs : s < 64)
    (hz : Arr w bz Cz) (hzl : oz + (m + 1) ≤ Cz.length) (hx : Arr w bx Cx) (hxl : ox + (m + 1) ≤ Cx.length) (hsep : bx ≠ bz ∨ ox ≤ oz) :
    Calls Tryz.prog 170 #[.slice (some ⟨bz, oz, none⟩) (m + 1) cz, .slice (some ⟨bx, ox, none⟩) (m + 1) cx, .int .u64 s] w fun e w' =>
      ∃ R c, e = .returned (.int .u64 ((c : Nat) : Int)) ∧ Sub w w' bz (spl Cz oz R) ∧ R.length = m + 1 ∧ c < WB ∧ val R + WB ^ (m + 1) * c = val ((Cx.drop ox).take (m + 1)) * 2 ^ s := by
  have hc := lshVU_g_c w bz oz m cz bx ox cx s Cz Cx hn hs0 hs hz hzl hx hxl hsep
  go_enter Tryz.func170, Tryz.ntmps170
  go_wp2_with fail
  refine hc.mono ?_
  rintro e w' ⟨R, c, rfl, h⟩
  go_wp2
  go_ret
  exact ⟨R, c, rfl, h⟩
theorem rshVU_c (w : World) (bz oz m cz bx ox cx s : Nat) (Cz Cx : List Nat) (hn : m < 1000000) (hs0 : 0 < s) (hs : s < 64)
    (hz : Arr w bz Cz) (hzl : oz + (m + 1) ≤ Cz.length) (hx : Arr w bx Cx) (hxl : ox + (m + 1) ≤ Cx.length) (hsep : bx ≠ bz ∨ oz ≤ ox) :
    Calls Tryz.prog 189 #[.slice (some ⟨bz, oz, none⟩) (m + 1) cz, .slice (some ⟨bx, ox, none⟩) (m + 1) cx, .int .u64 s] w fun e w' =>
      ∃ R c, e = .returned (.int .u64 ((c : Nat) : Int)) ∧ Sub w w' bz (spl Cz oz R) ∧ R.length = m + 1 ∧ val R = val ((Cx.drop ox).take (m + 1)) / 2 ^ s := by
  have hc := rshVU_g_c w bz oz m cz bx ox cx s Cz Cx hn hs0 hs hz hzl hx hxl hsep
  go_enter Tryz.func189, Tryz.ntmps189
  go_wp2_with fail
  refine hc.mono ?_
  rintro e w' ⟨R, c, rfl, h⟩
  go_wp2
  go_ret
  exact ⟨R, c, rfl, h⟩

/-- clear of a row of words. -/
theorem run_clearW (w : World) (T ty : TypeId) (hu : Tryz.prog.underlying T = some (.slice 112)) (bz oz n cz : Nat) (Cz : List Nat) (hz : Arr w bz Cz) (hn : 0 < n) (hfit : oz + n ≤ Cz.length) :
    ∃ w', (Builtin.clear_ #[T] ty #[.slice (some ⟨bz, oz, none⟩) n cz]).run Tryz.prog w = .ok (.tuple #[]) w' ∧ Sub w w' bz (spl Cz oz (List.replicate n 0)) := by
  have h := makeZ
  cases hi : Tryz.prog.info? 112 with
  | none => rw [hi] at h; cases h
  | some i =>
    rw [hi] at h
    simp only [Option.map_some, Option.some.injEq, Prod.mk.injEq] at h
    obtain ⟨h1, h2, h3⟩ := h
    have ez : Builtin.zeroCells (Value.int .u64 0).cells n = ((List.replicate n 0).map uw).toArray := by
      unfold Builtin.zeroCells
      apply Array.ext
      · simp [Value.cells]
      · intro j h1 h2
        simp [Value.cells, uw, Nat.mod_one]
    have hst := run_storeCells_at Tryz.prog bz oz 112 ((List.replicate n 0).map uw) 0 (Cz.map uw).toArray w hz.heap (by simpa using hfit) (by
      intro v hv
      obtain ⟨x, _, rfl⟩ := List.mem_map.1 hv
      rfl)
    have e : (((Cz.map uw).toArray.toList.take (oz + 0)) ++ (List.replicate n 0).map uw ++ (Cz.map uw).toArray.toList.drop (oz + 0 + ((List.replicate n 0).map uw).length)).toArray = ((spl Cz oz (List.replicate n 0)).map uw).toArray := by
      unfold spl; simp
    rw [e] at hst
    refine ⟨w.setRow bz ((spl Cz oz (List.replicate n 0)).map uw).toArray, ?_, ⟨⟨?_, Wd_spl hz.wd (Wd.zeros n)⟩, fun k hk => setRow_other w bz k _ hk, by simp [World.setRow], rfl, rfl, rfl⟩⟩
    · obtain ⟨n, rfl⟩ : ∃ k, n = k + 1 := ⟨n - 1, by omega⟩
      have hz0 : (zeroValue 112).run Tryz.prog w = .ok (.int .u64 0) w := by simp [zeroValue, typeInfo, hi, h1]
      unfold Builtin.clear_
      simp [run_underlying hu, hz0]
      rw [ez, show ((List.map uw (List.replicate (n + 1) 0)).toArray).toList = List.map uw (List.replicate (n + 1) 0) from rfl, hst]
      rfl
    · exact setRow_heap w bz (Cz.map uw).toArray _ 112 (0, 0) hz.heap
theorem wpList_clearW {ops : Array Oper} {rest : List Oper} {o : Oper} {a : Act} {w : World} {Q : Exit → Act → World → Prop} (hgd : o.guard = none) (d : Operand) (T : TypeId)
    (ho : o.op = .call { callee := .builtin .clear, args := #[d], argTypes := #[T] }) (hu : Tryz.prog.underlying T = some (.slice 112))
    (bz oz n cz : Nat) (hd : a.eval d = .slice (some ⟨bz, oz, none⟩) n cz) (Cz : List Nat) (hz : Arr w bz Cz) (hfit : oz + n ≤ Cz.length)
    (h : ∀ w', Sub w w' bz (spl Cz oz (List.replicate n 0)) → wpList Tryz.prog ops Q rest (a.put o.dst (.tuple #[])) w') : wpList Tryz.prog ops Q (o :: rest) a w := by
  refine wpList_plain hgd fun K hK => ?_
  have hrun : ∃ w', (Builtin.clear_ #[T] o.type #[.slice (some ⟨bz, oz, none⟩) n cz]).run Tryz.prog w = .ok (.tuple #[]) w' ∧ Sub w w' bz (spl Cz oz (List.replicate n 0)) := by
    rcases Nat.eq_zero_or_pos n with h0 | h0
    · subst h0
      refine ⟨w, ?_, ?_⟩
      · unfold Builtin.clear_
        simp [run_underlying hu]
      · rw [List.replicate_zero, spl_nil]; exact Sub.refl hz
    · exact run_clearW w T o.type hu bz oz n cz Cz hz h0 hfit
  obtain ⟨w', hrun, hS⟩ := hrun
  unfold Oper.wp
  simp [execOp, ho, resolve, invoke, builtin, hd, hrun, Result.andThen]
  exact hK _ _ (h w' hS)

set_option maxHeartbeats 1000000 in
theorem mulAddWW_c (w : World) (z x : Value) (X y r : Nat) (o ox : Option Nat) (hz : Stor w z o) (hx : IsNat w x X ox) (hn : (digs X).length ≤ 900) (hwy : y < WB) (hwr : r < WB) :
    Calls Tryz.prog 178 #[z, x, .int .u64 y, .int .u64 r] w fun e w' => ∃ v, e = .returned v ∧ NatRes w w' o v (X * y + r) := by
  obtain ⟨pz, lz, cz, rfl⟩ : ∃ p l c, z = .slice p l c := by
    rcases hz with ⟨rfl, _⟩ | ⟨b, l, cap, C, _, rfl, _⟩
    · exact ⟨_, _, _, rfl⟩
    · exact ⟨_, _, _, rfl⟩
  have hs := setWord_c w _ r o hz hwr
  by_cases h0 : X = 0
  · subst h0
    obtain ⟨px, cx, rfl, _, _⟩ := hx.shape
    rw [digs_zero]
    clear hx hz
    go_enter Tryz.func178, Tryz.ntmps178
    go_wp2_with fail
    refine hs.mono ?_
    rintro e w1 ⟨v, rfl, hr⟩
    go_wp2
    go_ret
    rw [Nat.zero_mul, Nat.zero_add]
    exact ⟨_, rfl, hr⟩
  by_cases h1 : y = 0
  · subst h1
    obtain ⟨px, cx, rfl, _, _⟩ := hx.shape
    have e1 := int_eq0 (digs_len_pos h0)
    clear hx hz
    go_enter Tryz.func178, Tryz.ntmps178
    go_wp2_with fail
    refine hs.mono ?_
    rintro e w1 ⟨v, rfl, hr⟩
    go_wp2
    go_ret
    rw [Nat.mul_zero, Nat.zero_add]
    exact ⟨_, rfl, hr⟩
  clear hs
  obtain ⟨bx, cx, Cx, rfl, rfl, hax, hcx, hcapx, htx, hlx, hpx⟩ := hx.pos h0
  have hmk := make_c w _ o hz ((digs X).length + 1) (by omega) (by omega)
  have hvX : val (digs X) = X := val_digs X
  have hwX := Wd_digs X
  generalize hXL : digs X = XL at *
  generalize hm : XL.length = m at *
  have hmk' : Calls Tryz.prog 127 #[.slice pz lz cz, .int .i64 ((m : Int) + 1)] w fun e w' => ∃ r, e = .returned r ∧ MakeRes w w' o r (m + 1) := by exact_mod_cast hmk
  have e1 : ((m : Int) == 0) = false := int_eq0 hpx
  have e2 : ((y : Int) == 0) = false := int_eq0 (by omega)
  have htx' : (Cx.drop 0).take m = XL := htx
  replace hvX := Lib.hid hvX
  replace hXL := Lib.hid hXL
  clear hmk h0 h1 hx htx
  go_enter Tryz.func178, Tryz.ntmps178
  go_wp2_with fail
  refine hmk'.mono ?_
  rintro e w1 ⟨v, rfl, b, cap, C, rfl, ha, hC, hnc, hcap, hb, hchg⟩
  have hax1 := hchg.arr hax (fun h => h)
  have hb2 : (o = some b) ∨ w.heap.size = b := hb.imp (·.1) id
  have k1 : m ≤ cap := by omega
  have hc := mulAddVWW_c w1 b 0 m cap bx 0 cx y r C XL (by omega) ha (by omega) hm hwX hwy hwr (by
    have := Rd.mk (n := m) (oz := 0) (ox := 0) ha (by omega) hax1 (by omega) (.inr (Nat.le_refl _))
    rwa [htx'] at this)
  replace hm := Lib.hid hm
  replace htx' := Lib.hid htx'
  go_wp2_with fail
  refine hc.mono ?_
  rintro e w3 ⟨R, c, rfl, hS, hR, hcw, hv⟩
  have hz1 := hS.arr.cellN (i := m) (by rw [spl_length (by omega)]; omega)
  have hz2 := hS.arr.frozen m
  have hS5 := hS.next (k := m) hR (by omega) c hcw
  rw [Nat.zero_add] at hS5
  have hv5 : val (R ++ [c]) = X * y + r := by
    rw [val_snoc, hR, hv, hvX.out]
  have hl5 : (R ++ [c]).length = m + 1 := by rw [List.length_append, hR]; rfl
  generalize R ++ [c] = L at *
  have hnm := fun w' (ha : Arr w' b (spl C 0 L)) => norm_spl w' b (m + 1) cap C L ha hC hl5 hnc hcap.2
  replace hv := Lib.hid hv
  replace hv5 := Lib.hid hv5
  clear hS hc hmk'
  go_wp2_with fail
  refine (hnm _ hS5.arr).mono ?_
  rintro e w6 ⟨rfl, hw⟩
  obtain rfl := hw
  go_wp2
  go_ret
  have := natRes_spl hb2 hchg hS5 hC (by omega) hcap
  rw [hv5.out] at this
  rw [hv5.out]
  exact ⟨_, rfl, this⟩
end Go.Proofs.YtonepclpllelfaaGreatDoor

namespace Go.Proofs.YtonepclpllelfaaGreatDoor
open Go Go.RowKit

theorem spl_mid_zero {C L M Z : List Nat} {k m : Nat} (hL : L.length = k + m) (hM : M.length = m) (h : (L ++ Z).length ≤ C.length) : spl (spl C 0 (L ++ Z)) k M = spl C 0 (L.take k ++ M ++ Z) := by
  have hl : (L ++ Z).length = k + m + Z.length := by rw [List.length_append, hL]
  have hl2 : (L.take k ++ M ++ Z).length = k + m + Z.length := by simp; omega
  have hl3 : (spl C 0 (L ++ Z)).length = C.length := spl_length (by omega)
  apply List.ext_getElem?
  intro j
  by_cases h1 : j < k
  · rw [spl_lt (by omega) h1]
    have e1 := spl_mid (C := C) (o := 0) (R := L ++ Z) (j := j) (by omega) (by omega)
    have e2 := spl_mid (C := C) (o := 0) (R := L.take k ++ M ++ Z) (j := j) (by omega) (by omega)
    rw [Nat.zero_add] at e1 e2
    rw [e1, e2, List.append_assoc, List.getElem?_append_left (by omega), List.getElem?_append_left (by simp; omega), List.getElem?_take_of_lt h1]
  · by_cases h2 : j < k + m
    · obtain ⟨d, rfl⟩ : ∃ d, j = k + d := ⟨j - k, by omega⟩
      rw [spl_mid (by omega) (by omega)]
      have e2 := spl_mid (C := C) (o := 0) (R := L.take k ++ M ++ Z) (j := k + d) (by omega) (by omega)
      rw [Nat.zero_add] at e2
      rw [e2, List.append_assoc, List.getElem?_append_right (by simp; omega), List.getElem?_append_left (by simp; omega)]
      congr 1; simp; omega
    · rw [spl_ge (by omega) (by omega)]
      by_cases h3 : j < k + m + Z.length
      · have e1 := spl_mid (C := C) (o := 0) (R := L ++ Z) (j := j) (by omega) (by omega)
        have e2 := spl_mid (C := C) (o := 0) (R := L.take k ++ M ++ Z) (j := j) (by omega) (by omega)
        rw [Nat.zero_add] at e1 e2
        rw [e1, e2, List.getElem?_append_right (by omega), List.getElem?_append_right (by simp; omega)]
        congr 1; simp; omega
      · rw [spl_ge (by omega) (by omega), spl_ge (by omega) (by omega)]
theorem spl_set_zero {C A Z : List Nat} {k x y : Nat} (hA : A.length = k) (_h : (A ++ y :: Z).length ≤ C.length) : (spl C 0 (A ++ y :: Z)).set k x = spl C 0 (A ++ [x] ++ Z) := by
  unfold spl
  simp only [List.take_zero, List.nil_append]
  subst hA
  simp

theorem nth_spl0 {C R : List Nat} {j : Nat} (h : R.length ≤ C.length) (hj : j < R.length) : nth (spl C 0 R) j = nth R j := by
  have := nth_spl_mid (C := C) (o := 0) (R := R) (j := j) (by omega) hj
  rwa [Nat.zero_add] at this

/-- Nothing is asked of a world (a word that simp leaves standing). -/
def Anyw (_ : World) : Prop := True
theorem anyw (w : World) : Anyw w := trivial

set_option maxRecDepth 100000 in
set_option maxHeartbeats 2000000 in
theorem basicMul_c (w : World) (bz m n cz bx cx by_ cy : Nat) (Cz Cx Cy X Y : List Nat) (hm : 0 < m) (hm1 : m ≤ 1000) (hn1 : n ≤ 1000)
    (hz : Arr w bz Cz) (hzl : m + n ≤ Cz.length) (hzc : m + n ≤ cz) (hx : Arr w bx Cx) (hX : Cx.take m = X) (lX : X.length = m) (hy : Arr w by_ Cy) (hY : Cy.take n = Y) (lY : Y.length = n) (hbx : bx ≠ bz) (hby : by_ ≠ bz) :
    Calls Tryz.prog 175 #[.slice (some ⟨bz, 0, none⟩) (m + n) cz, .slice (some ⟨bx, 0, none⟩) m cx, .slice (some ⟨by_, 0, none⟩) n cy] w fun e w' =>
      e = .returned (.tuple #[]) ∧ ∃ R, Sub w w' bz (spl Cz 0 R) ∧ R.length = m + n ∧ val R = val X * val Y := by
  have hxl : m ≤ Cx.length := by have := congrArg List.length hX; rw [List.length_take] at this; omega
  have hyl : n ≤ Cy.length := by have := congrArg List.length hY; rw [List.length_take] at this; omega
  have WX : Wd X := hX ▸ hx.wd.take m
  have WY : Wd Y := hY ▸ hy.wd.take n
  have hYc : ∀ wr, Arr wr by_ Cy → ∀ j, j < n → wr.cell? ⟨by_, j, none⟩ = some (.int .u64 (nth Y j : Int)) := by
    intro wr h j hj
    rw [h.cellN (by omega), ← hY, nth_take hj]
  have hX0 : (Cx.drop 0).take m = X := hX
  replace hX0 := Lib.hid hX0
  replace hYc := Lib.hid hYc
  clear hX hY
  go_enter Tryz.func175, Tryz.ntmps175
  go_wp2_with (refine wpList_clearW rfl (.tmp 14) 49 rfl Tryz.underlying49 bz 0 (m + n) cz rfl Cz hz (by omega) ?_)
  intro w1 hS1
  have hr : List.replicate (m + n) 0 = List.replicate m 0 ++ List.replicate n 0 := by rw [List.replicate_append_replicate]
  rw [hr] at hS1
  clear hr
  go_wp2
  go_loopw [17] (fun i wr => ∃ k : Nat, k ≤ n ∧ i = .int .i64 k ∧ ∃ L : List Nat, L.length = k + m ∧ val L = val X * val (Y.take k) ∧ Sub w wr bz (spl Cz 0 (L ++ List.replicate (n - k) 0))) (fun i _ => n - (intOf i).toNat)
  case atStart => exact ⟨0, by omega, by go_num, List.replicate m 0, by simp, by simp [val_zeros], hS1⟩
  case round =>
    obtain ⟨k, hk, rfl, L, hL, hv, hS⟩ := hrel
    by_cases hlt : k < n
    · have hyk := hYc.out wr (hS.other hby hy) k hlt
      have hwd := WY.nth k
      obtain ⟨r, hr⟩ : ∃ r, n - k = r + 1 := ⟨n - k - 1, by omega⟩
      rw [hr, List.replicate_succ] at hS
      have hvt : val (Y.take (k + 1)) = val (Y.take k) + WB ^ k * nth Y k := val_take_succ (by omega)
      replace hvt := Lib.hid hvt
      replace hv := Lib.hid hv
      by_cases hd : nth Y k = 0
      · rw [hd] at hyk
        go_wp2
        go_roundw
        case rel =>
          refine ⟨k + 1, by omega, by go_num, L ++ [0], by rw [List.length_append, hL]; simp; omega, ?_, ?_⟩
          · rw [val_snoc, hvt.out, hd, hv.out]; simp
          · rw [show n - (k + 1) = r by omega, List.append_assoc]; exact hS
        case measure => simp [intOf]; omega
      · have hd0 : ((nth Y k : Int) != 0) = true := by simp; omega
        have hM : ((spl Cz 0 (L ++ 0 :: List.replicate r 0)).drop k).take m = L.drop k := by
          unfold spl
          rw [List.take_zero, List.nil_append, List.append_assoc, List.drop_append_of_le_length (by omega), List.take_append_of_le_length (by simp; omega), List.take_of_length_le (by simp; omega)]
        have hlz : (L ++ 0 :: List.replicate r 0).length = m + n := by simp; omega
        have hlz2 : (spl Cz 0 (L ++ 0 :: List.replicate r 0)).length = Cz.length := spl_length (by omega)
        have hc := fun wr' (hh : Sub w wr' bz (spl Cz 0 (L ++ 0 :: List.replicate r 0))) => addMulVVWW_c wr' bz k m (cz - k) bz k (cz - k) bx 0 cx (nth Y k) 0 (spl Cz 0 (L ++ 0 :: List.replicate r 0)) (L.drop k) X (by omega) hh.arr (by omega) (by simp; omega) lX
          (by rw [← hM]; exact (hh.arr.wd.drop _).take _) WX hwd WB_pos (by rw [← hM]; exact Rd.mk hh.arr (by omega) hh.arr (by omega) (.inr (Nat.le_refl _))) (by rw [← hX0.out]; exact Rd.mk hh.arr (by omega) (hh.other hbx hx) (by omega) (.inl hbx))
        replace hc := Lib.hid hc
        have t1 : k ≤ cz := by omega
        have t2 : ¬ cz = k := by omega
        have t3 : (k : Int) ≤ (k : Int) + (m : Int) := by omega
        have t4 : (k : Int) + (m : Int) ≤ (cz : Int) := by omega
        have t5 : ((k : Int) + (m : Int)).toNat = k + m := by omega
        have t6 : IntKind.i64.wrap ((k : Int) + (m : Int)) = (k : Int) + (m : Int) := IntWalk.i64_in _ (by omega)
        have t7 : IntKind.i64.wrap ((m : Int) + (k : Int)) = (m : Int) + (k : Int) := IntWalk.i64_in _ (by omega)
        have t8 : (0 : Int) ≤ (k : Int) + (m : Int) := by omega
        have t9 : (0 : Int) ≤ (m : Int) + (k : Int) := by omega
        have t10 : (m : Int) + (k : Int) < (m : Int) + (n : Int) := by omega
        have t11 : ((m : Int) + (k : Int)).toNat = m + k := by omega
        go_wp2
        go_region_held3 (fun w' => Anyw w') (exact anyw _) (first
          | (go_at_call 213
             refine (hc.out _ hS.drew).mono ?_
             rintro e w4 ⟨M, c, rfl, hS2, hM2, hcw, hv2⟩
             have hz1 := hS2.arr.cellN (i := m + k) (by rw [spl_length (by omega)]; omega)
             have hz2 := hS2.arr.frozen (m + k)))
        have hS3 := (hS.drew).trans hS2
        have hsp := spl_mid_zero (C := Cz) (L := L) (M := M) (Z := 0 :: List.replicate r 0) (k := k) (m := m) hL hM2 (by omega)
        rw [hsp] at hS3
        have hS4 := hS3.set (i := m + k) c hcw
        have hA : (L.take k ++ M).length = m + k := by simp; omega
        rw [spl_set_zero hA (by rw [List.length_append, hA]; simp; omega)] at hS4
        have hval : val (L.take k ++ M ++ [c]) = val X * val (Y.take (k + 1)) := by
          rw [val_snoc, hA, val_append, List.length_take, hL, Nat.min_eq_left (by omega), hvt.out, Nat.mul_add, ← hv.out, Nat.mul_left_comm]
          have e1 := val_take_drop L k (by omega)
          have e2 : WB ^ (m + k) * c = WB ^ k * (WB ^ m * c) := by rw [Nat.add_comm, Nat.pow_add, Nat.mul_assoc]
          have e3 : WB ^ k * (val M + WB ^ m * c) = WB ^ k * (val (List.drop k L) + val X * nth Y k) := by rw [hv2, Nat.add_zero]
          rw [Nat.mul_add, Nat.mul_add] at e3
          rw [e2]
          omega
        replace hval := Lib.hid hval
        have hlA : (L.take k ++ M ++ [c]).length = k + 1 + m := by rw [List.length_append, hA]; simp; omega
        generalize L.take k ++ M ++ [c] = L' at hS4 hval hlA
        clear hc hS3 hS2 hsp hM hlz hlz2
        go_wp2
        go_roundw
        case rel =>
          refine ⟨k + 1, by omega, by go_num, L', hlA, hval.out, ?_⟩
          rw [show n - (k + 1) = r by omega]
          exact hS4
        case measure => simp [intOf]; omega
    · obtain rfl : k = n := by omega
      replace hv := Lib.hid hv
      go_wp2
      refine ⟨rfl, _, results_none rfl _ _ _, rfl, L, ?_, by omega, ?_⟩
      · rw [Nat.sub_self, List.replicate_zero, List.append_nil] at hS; exact hS
      · have := hv.out
        rwa [List.take_of_length_le (by omega)] at this
end Go.Proofs.YtonepclpllelfaaGreatDoor
