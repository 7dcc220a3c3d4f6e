/- nat: norm, make. nat: set, setWord, setUint64, cmp. -/
import Derived.Test.YtlnillnngckegaaGreatDoorM07
namespace Go.Proofs.YtlnillnngckegaaGreatDoor
open Go Go.RowKit

/-- Noughts at the end are left out. -/
theorem digs_val_cut {L : List Nat} (hL : Wd L) {k : Nat} (hk : k ≤ L.length) (hz : ∀ j, k ≤ j → j < L.length → nth L j = 0) (hl : k = 0 ∨ nth L (k - 1) ≠ 0) : (digs (val L)).length = k := by
  have := digs_take hL hk (fun j h1 h2 => by rw [get_nth h2, hz j h1 h2]) (by
    rcases hl with h | h
    · exact .inl h
    · rcases Nat.eq_zero_or_pos k with h0 | h0
      · exact .inl h0
      · exact .inr ⟨_, get_nth (by omega), h⟩)
  rw [this, List.length_take]; omega

set_option maxHeartbeats 400000 in
theorem norm_c (w : World) (b l cap : Nat) (C : List Nat) (hb : Arr w b C) (hl : l ≤ C.length) (hlc : l ≤ cap) (hn : l ≤ 1000000) :
    Calls Tryz.prog 100 #[.slice (some ⟨b, 0, none⟩) l cap] w fun e w' => e = .returned (.slice (some ⟨b, 0, none⟩) (digs (val (C.take l))).length cap) ∧ w = w' := by
  have hL : (C.take l).length = l := by rw [List.length_take]; omega
  replace hL := Lib.hid hL
  go_enter Tryz.func100, Tryz.ntmps100
  go_wp2
  go_loop [3] (fun i => ∃ k : Nat, k ≤ l ∧ i = .int .i64 k ∧ ∀ j, k ≤ j → j < l → nth (C.take l) j = 0) (fun i => (intOf i).toNat)
  case atStart => exact ⟨l, Nat.le_refl _, rfl, fun j h1 h2 => by omega⟩
  case round =>
    obtain ⟨k, hk, rfl, hz⟩ := hrel
    replace hz := Lib.hid hz
    by_cases hk0 : k = 0
    · subst hk0
      go_wp2
      go_ret
      have := digs_val_cut (hb.wd.take l) (k := 0) (Nat.zero_le _) (fun j h1 h2 => hz.out j h1 (by rw [hL.out] at h2; exact h2)) (.inl rfl)
      exact ⟨by rw [this]; rfl, rfl⟩
    · obtain ⟨j, rfl⟩ : ∃ j, k = j + 1 := ⟨k - 1, by omega⟩
      have hcell := hb.cellN (i := j) (by omega)
      have hnt : nth (C.take l) j = nth C j := nth_take (by omega)
      by_cases h0 : nth C j = 0
      · rw [h0] at hcell
        replace h0 := Lib.hid h0
        replace hnt := Lib.hid hnt
        go_wp2
        go_round
        case rel =>
          refine ⟨j, by omega, rfl, fun i h1 h2 => ?_⟩
          by_cases e : i = j
          · subst e; rw [hnt.out, h0.out]
          · exact hz.out i (by omega) h2
        case measure => simp [intOf]
      · have e0 : ((nth C j : Int) == 0) = false := by simp; omega
        replace h0 := Lib.hid h0
        replace hnt := Lib.hid hnt
        go_wp2
        go_ret
        have := digs_val_cut (hb.wd.take l) (k := j + 1) (by rw [hL.out]; omega) (fun i h1 h2 => hz.out i h1 (by rw [hL.out] at h2; exact h2)) (.inr (by rw [Nat.add_sub_cancel, hnt.out]; exact h0.out))
        exact ⟨by rw [this]; rfl, rfl⟩

theorem makeZ : (Tryz.prog.info? 104).map (fun i => (i.zero, i.size, i.bytes)) = some (some (.int .u64 0), 1, 8) := by kernel_rfl

/-- A new block of noughts. -/
def zeroObj (c : Nat) : Obj := .cells ((List.replicate c 0).map uw).toArray 104 (0, 0)
theorem arr_zero (w : World) (c : Nat) : Arr (w.alloc (zeroObj c)) w.heap.size (List.replicate c 0) := by
  refine ⟨?_, Wd.zeros c⟩
  show (w.heap.push _)[w.heap.size]? = _
  rw [Array.getElem?_push, if_pos rfl]; rfl
theorem run_makeW (w : World) {l c : Int} {l' c' : Nat} (hl : l = l') (hc : c = c') (hlc : l' ≤ c') (hcap : c' ≤ 1000000) (T : TypeId) (hT : Tryz.prog.underlying T = some (.slice 104)) :
    (Instr.makeSlice T (.int .i64 l) (.int .i64 c)).run Tryz.prog w = .ok (.slice (some ⟨w.heap.size, 0, none⟩) l' c') (w.alloc (zeroObj c')) := by
  have h := makeZ
  cases hi : Tryz.prog.info? 104 with
  | none => rw [hi] at h; cases h
  | some i =>
    rw [hi] at h
    simp only [Option.map_some, Option.some.injEq, Prod.mk.injEq] at h
    obtain ⟨h1, h2, h3⟩ := h
    subst hl hc
    rw [run_make (P := Tryz.prog) w T 104 i (.int .u64 0) hT hi h1 .i64 .i64 l' c' (by omega) (by omega) (by rw [h3]; omega) (by omega)]
    simp only [Int.toNat_natCast]
    have e : madeCells (Value.int .u64 0).cells (c' * i.size) = ((List.replicate c' 0).map uw).toArray := by
      rw [h2, Nat.mul_one]
      unfold madeCells
      apply Array.ext
      · simp
      · intro j h1 h2
        simp [Value.cells, uw]
        have : j % 1 = 0 := Nat.mod_one j
        simp [Nat.mod_one]
    unfold zeroObj
    rw [e]

/-- A place of n words: in the old block, or in a new one. -/
def MakeRes (w w' : World) (o : Option Nat) (r : Value) (n : Nat) : Prop :=
  ∃ b cap C, r = .slice (some ⟨b, 0, none⟩) n cap ∧ Arr w' b C ∧ C.length = cap ∧ n ≤ cap ∧ (0 < cap ∧ cap ≤ 1000000) ∧ ((o = some b ∧ w' = w) ∨ w.heap.size = b) ∧ Chg w w' (fun _ => False)

set_option maxHeartbeats 400000 in
theorem make_c (w : World) (z : Value) (o : Option Nat) (hz : Stor w z o) (n : Nat) (hn0 : 0 < n) (hn : n ≤ 1000) :
    Calls Tryz.prog 127 #[z, .int .i64 n] w fun e w' => ∃ r, e = .returned r ∧ MakeRes w w' o r n := by
  have hz' : ∃ p l c, z = .slice p l c ∧ l ≤ c ∧ c ≤ 1000000 ∧ (n ≤ c → ∃ b C, p = some ⟨b, 0, none⟩ ∧ o = some b ∧ Arr w b C ∧ C.length = c) := by
    rcases hz with ⟨rfl, rfl⟩ | ⟨b, l, cap, C, rfl, rfl, hl, ha, hc, hcap⟩
    · exact ⟨none, 0, 0, rfl, Nat.le_refl _, by omega, fun h => by omega⟩
    · exact ⟨_, l, cap, rfl, hl, hcap.2, fun _ => ⟨b, C, rfl, rfl, ha, hc⟩⟩
  obtain ⟨p, l, c, rfl, hl, hc, hp⟩ := hz'
  by_cases h : n ≤ c
  · obtain ⟨b, C, rfl, rfl, ha, hC⟩ := hp h
    clear hz hp
    go_enter Tryz.func127, Tryz.ntmps127
    go_wp2
    go_ret
    exact ⟨_, rfl, b, c, C, rfl, ha, hC, h, ⟨by omega, hc⟩, .inl ⟨rfl, rfl⟩, Chg.refl _ _⟩
  · clear hz hp
    by_cases h1 : n = 1
    · subst h1
      have hmk := fun w => run_makeW w (l := 1) (c := 1) (l' := 1) (c' := 1) rfl rfl (Nat.le_refl _) (by omega) 50 Tryz.underlying50
      go_enter Tryz.func127, Tryz.ntmps127
      go_wp2
      go_ret
      exact ⟨_, rfl, w.heap.size, 1, _, rfl, arr_zero w 1, by simp, by omega, ⟨by omega, by omega⟩, .inr rfl, (Chg.refl _ _).alloc _⟩
    · have e1 : ((n : Int) == 1) = false := by simp; omega
      have hmk := fun w => run_makeW w (l := (n : Int)) (c := (n : Int) + 4) (l' := n) (c' := n + 4) rfl (by omega) (by omega) (by omega) 50 Tryz.underlying50
      go_enter Tryz.func127, Tryz.ntmps127
      go_wp2
      go_ret
      exact ⟨_, rfl, w.heap.size, n + 4, _, rfl, arr_zero w (n + 4), by simp, by omega, ⟨by omega, by omega⟩, .inr rfl, (Chg.refl _ _).alloc _⟩
end Go.Proofs.YtlnillnngckegaaGreatDoor

namespace Go.Proofs.YtlnillnngckegaaGreatDoor
open Go Go.RowKit

theorem drewN_drewN (w : World) (m n : Nat) : (w.drewN m).drewN n = w.drewN (m + n) := by unfold World.drewN; simp [Nat.add_assoc]
theorem chg_made {w w1 w2 : World} {o : Option Nat} {b : Nat} {D : List Nat} (hb : (o = some b ∧ w1 = w) ∨ w.heap.size = b) (hc : Chg w w1 (fun _ => False)) (hS : Sub w1 w2 b D) : Chg w w2 (fun k => some k = o) := by
  refine (hc.mono (fun _ _ h => h.elim)).trans (hS.chg.mono ?_)
  rintro k _ rfl
  rcases hb with ⟨h, _⟩ | h
  · exact .inl h.symm
  · exact .inr (by omega)
/-- The words in a place that make gave are a number. -/
theorem natRes_of {w w1 w2 : World} {o : Option Nat} {b n cap : Nat} {D : List Nat} (hb : (o = some b ∧ w1 = w) ∨ w.heap.size = b) (hc : Chg w w1 (fun _ => False)) (hS : Sub w1 w2 b D)
    (hD : D.length = cap) (hn : n ≤ cap) (hcap : 0 < cap ∧ cap ≤ 1000000) : NatRes w w2 o (.slice (some ⟨b, 0, none⟩) (digs (val (D.take n))).length cap) (val (D.take n)) := by
  refine ⟨some b, isNat_of hS.arr hD hcap hn, ?_, chg_made hb hc hS⟩
  rcases hb with ⟨h, _⟩ | h
  · exact .inl h.symm
  · exact .inr (.inr ⟨b, rfl, by omega⟩)
theorem spl_zero_take {C R : List Nat} (h : R.length ≤ C.length) : (spl C 0 R).take R.length = R := by
  have := spl_take_drop (C := C) (R := R) (o := 0) (by omega)
  simpa using this
theorem NatRes.zero {w : World} {o : Option Nat} {z : Value} (hz : Stor w z o) : ∃ p l c, z = .slice p l c ∧ l ≤ c ∧ c ≤ 1000000 ∧ NatRes w w o (.slice p 0 c) 0 := by
  rcases hz with ⟨rfl, rfl⟩ | ⟨b, l, cap, C, rfl, rfl, hl, ha, hc, hcap⟩
  · exact ⟨none, 0, 0, rfl, Nat.le_refl _, by omega, none, IsNat.zero w, .inl rfl, Chg.refl _ _⟩
  · refine ⟨_, l, cap, rfl, hl, hcap.2, some b, .inr ⟨b, cap, C, rfl, by rw [digs_zero]; rfl, ha, hc, hcap, by rw [digs_zero]; rfl⟩, .inl rfl, Chg.refl _ _⟩
theorem NatRes.drewN {w w' : World} {o : Option Nat} {r : Value} {N : Nat} (h : NatRes w w' o r N) (n : Nat) : NatRes w (w'.drewN n) o r N := by
  obtain ⟨o', h1, h2, h3⟩ := h
  refine ⟨o', ?_, h2, h3.drewN n⟩
  exact h1.chg (S := fun _ => False) ((Chg.refl w' _).drewN n) (fun _ _ h => h)

set_option maxHeartbeats 400000 in
theorem set_c (w : World) (z x : Value) (X : Nat) (o ox : Option Nat) (hz : Stor w z o) (hx : IsNat w x X ox) (hn : (digs X).length ≤ 1000) :
    Calls Tryz.prog 99 #[z, x] w fun e w' => ∃ r, e = .returned r ∧ NatRes w w' o r X := by
  by_cases h0 : X = 0
  · subst h0
    obtain ⟨px, cx, rfl, _, _⟩ := hx.shape
    rw [digs_zero]
    obtain ⟨p, l, c, rfl, hl, hc, hr⟩ := NatRes.zero hz
    replace hr := Lib.hid hr
    clear hz hx
    have hmk : Calls Tryz.prog 127 #[.slice p l c, .int .i64 0] w fun e w' => e = .returned (.slice p 0 c) ∧ w = w' := by
      go_enter Tryz.func127, Tryz.ntmps127
      go_wp2
      go_ret
      exact ⟨rfl, rfl⟩
    go_enter Tryz.func99, Tryz.ntmps99
    go_wp2_with fail
    refine hmk.mono ?_
    rintro e w' ⟨rfl, hw⟩
    obtain rfl := hw
    go_upto_region 2 with (fail)
    refine wp_region_lit ?_
    go_wp2_with (refine wpList_copy_nothing rfl (.tmp 9) (.tmp 10) 50 50 rfl 104 Tryz.underlying50 infoW _ _ _ _ _ _ rfl rfl (by simp) ?_)
    go_ret
    exact ⟨_, rfl, hr.out⟩
  · obtain ⟨bx, cx, Cx, rfl, rfl, hax, hcx, hcapx, htx, hlx, hpx⟩ := hx.pos h0
    have hmk := make_c w z o hz (digs X).length hpx hn
    go_enter Tryz.func99, Tryz.ntmps99
    go_wp2_with fail
    refine hmk.mono ?_
    rintro e w1 ⟨r, rfl, b, cap, C, rfl, ha, hC, hnc, hcap, hb, hchg⟩
    have hax1 := hchg.arr hax (fun h => h)
    have hwd := Wd_digs X
    have hsrc : ∀ j, j < (digs X).length → w1.cell? ⟨bx, 0 + j, none⟩ = some (.int .u64 (nth (digs X) j : Int)) := by
      intro j hj
      rw [Nat.zero_add, hax1.cellN (by omega)]
      have := nth_take (l := Cx) hj
      rw [htx] at this
      rw [this]
    have hmin : (digs X).length = Nat.min (digs X).length (digs X).length := by simp
    replace hsrc := Lib.hid hsrc
    replace hmin := Lib.hid hmin
    go_upto_region 2 with (fail)
    refine wp_region_lit ?_
    go_wp2_with (refine wpList_copyW rfl (.tmp 9) (.tmp 10) 50 50 rfl Tryz.underlying50 b 0 _ cap bx 0 _ cx rfl rfl C (digs X) ha hwd hmin.out (by omega) hsrc.out ?_)
    intro w2 hS
    go_wp2
    go_ret
    have h1 : (spl C 0 (digs X)).length = cap := by rw [spl_length (by omega), hC]
    have := natRes_of hb hchg hS h1 hnc hcap
    rw [spl_zero_take (by omega), val_digs] at this
    exact ⟨_, rfl, this⟩

theorem digs_word {x : Nat} (h : x < WB) (h0 : 0 < x) : digs x = [x] := by
  rw [digs_pos (by omega), Nat.mod_eq_of_lt h, Nat.div_eq_of_lt h, digs_zero]

set_option maxHeartbeats 400000 in
theorem setWord_c (w : World) (z : Value) (x : Nat) (o : Option Nat) (hz : Stor w z o) (hx : x < WB) :
    Calls Tryz.prog 177 #[z, .int .u64 x] w fun e w' => ∃ r, e = .returned r ∧ NatRes w w' o r x := by
  by_cases h0 : x = 0
  · subst h0
    obtain ⟨p, l, c, rfl, hl, hc, hr⟩ := NatRes.zero hz
    replace hr := Lib.hid hr
    go_enter Tryz.func177, Tryz.ntmps177
    go_wp2
    go_ret
    exact ⟨_, rfl, hr.out⟩
  · have e0 : ((x : Int) == 0) = false := by simp; omega
    have hmk := make_c w z o hz 1 (by omega) (by omega)
    go_enter Tryz.func177, Tryz.ntmps177
    go_wp2_with fail
    refine hmk.mono ?_
    rintro e w1 ⟨r, rfl, b, cap, C, rfl, ha, hC, hnc, hcap, hb, hchg⟩
    have hz1 := ha.cellN (i := 0) (by omega)
    have hz2 := ha.frozen 0
    replace hC := Lib.hid hC
    go_wp2
    go_ret
    have hS := (Sub.refl ha).set (i := 0) x hx
    have hl : (C.set 0 x).length = cap := by rw [List.length_set]; exact hC.out
    have := natRes_of hb hchg hS hl hnc hcap
    have ht : (C.set 0 x).take 1 = [x] := by
      cases C with
      | nil => have := hC.out; simp at this; omega
      | cons c C => simp
    rw [ht] at this
    have hv : val [x] = x := by simp [val]
    rw [hv, digs_word hx (by omega)] at this
    exact ⟨_, rfl, this⟩

set_option maxHeartbeats 400000 in
theorem setUint64_c (w : World) (z : Value) (x : Nat) (o : Option Nat) (hz : Stor w z o) (hx : x < WB) :
    Calls Tryz.prog 165 #[z, .int .u64 x] w fun e w' => ∃ r, e = .returned r ∧ NatRes w w' o r x := by
  have hc := setWord_c w z x o hz hx
  go_enter Tryz.func165, Tryz.ntmps165
  go_wp2_with fail
  refine hc.mono ?_
  rintro e w1 ⟨r, rfl, hr⟩
  go_wp2
  go_ret
  exact ⟨_, rfl, hr⟩

/-- The order of two numbers with as many words: by the highest word in which they differ. -/
theorem val_lt_of {X Y : List Nat} (hX : Wd X) (_hY : Wd Y) {k : Nat} (hk : k < X.length) (hl : X.length = Y.length) (hs : ∀ j, k < j → j < X.length → nth X j = nth Y j) (hlt : nth X k < nth Y k) : val X < val Y := by
  have hd : X.drop (k + 1) = Y.drop (k + 1) := by
    apply List.ext_getElem?
    intro j
    rw [List.getElem?_drop, List.getElem?_drop]
    by_cases hj : k + 1 + j < X.length
    · rw [get_nth hj, get_nth (by omega), hs _ (by omega) hj]
    · rw [List.getElem?_eq_none (by omega), List.getElem?_eq_none (by omega)]
  have hx := val_take_drop X (k + 1) (by omega)
  have hy := val_take_drop Y (k + 1) (by omega)
  rw [val_take_succ hk] at hx
  rw [val_take_succ (by omega), ← hd] at hy
  have h1 := val_lt (hX.take k)
  rw [List.length_take, Nat.min_eq_left (by omega)] at h1
  have h2 : WB ^ k * (nth X k + 1) ≤ WB ^ k * nth Y k := Nat.mul_le_mul_left _ hlt
  rw [Nat.mul_add, Nat.mul_one] at h2
  omega
theorem val_eq_of {X Y : List Nat} (hl : X.length = Y.length) (hs : ∀ j, j < X.length → nth X j = nth Y j) : val X = val Y := by
  have : X = Y := by
    apply List.ext_getElem?
    intro j
    by_cases hj : j < X.length
    · rw [get_nth hj, get_nth (by omega), hs _ hj]
    · rw [List.getElem?_eq_none (by omega), List.getElem?_eq_none (by omega)]
  rw [this]
theorem digs_len_lt {x y : Nat} (h : (digs x).length < (digs y).length) : x < y := by
  rcases Nat.lt_or_ge x y with h' | h'
  · exact h'
  · have := digs_len_mono h'; omega

/-- The order of two numbers, as -1, 0, 1. -/
def ordN (x y : Nat) : Int := if x < y then -1 else if y < x then 1 else 0
theorem ordN_lt {x y : Nat} (h : x < y) : ordN x y = -1 := by unfold ordN; rw [if_pos h]
theorem ordN_gt {x y : Nat} (h : y < x) : ordN x y = 1 := by unfold ordN; rw [if_neg (by omega), if_pos h]
theorem ordN_eq {x y : Nat} (h : x = y) : ordN x y = 0 := by unfold ordN; rw [if_neg (by omega), if_neg (by omega)]

set_option maxHeartbeats 1000000 in
theorem natcmp_c (w : World) (x y : Value) (X Y : Nat) (ox oy : Option Nat) (hx : IsNat w x X ox) (hy : IsNat w y Y oy) :
    Calls Tryz.prog 141 #[x, y] w fun e w' => e = .returned (.int .i64 (ordN X Y)) ∧ ∃ n, w' = w.drewN n := by
  obtain ⟨px, cx, rfl, hlx, hcx⟩ := hx.shape
  obtain ⟨py, cy, rfl, hly, hcy⟩ := hy.shape
  by_cases hm : (digs X).length = (digs Y).length
  · by_cases h0 : X = 0
    · subst h0
      have hY : Y = 0 := by rw [digs_zero] at hm; exact digs_len_eq_zero.1 hm.symm
      subst hY
      rw [digs_zero] at *
      clear hm hx hy
      go_enter Tryz.func141, Tryz.ntmps141
      go_wp2
      go_ret
      exact ⟨by rw [ordN_eq rfl]; rfl, 0, rfl⟩
    · have hY0 : Y ≠ 0 := fun e => by subst e; rw [digs_zero] at hm; exact h0 (digs_len_eq_zero.1 hm)
      obtain ⟨bx, cx', Cx, rfl, e1, hax, hcx', _, htx, hlX, hpX⟩ := hx.pos h0
      obtain ⟨by_, cy', Cy, rfl, e2, hay, hcy', _, hty, hlY, hpY⟩ := hy.pos hY0
      obtain ⟨rfl, rfl⟩ : px = some ⟨bx, 0, none⟩ ∧ cx' = cx := by injection e1 with a b c; exact ⟨a, c.symm⟩
      obtain ⟨rfl, rfl⟩ : py = some ⟨by_, 0, none⟩ ∧ cy' = cy := by injection e2 with a b c; exact ⟨a, c.symm⟩
      clear e1 e2 hx hy
      rw [← hm] at hlY hpY hly ⊢
      obtain ⟨m, hmm⟩ : ∃ m, (digs X).length = m + 1 := ⟨(digs X).length - 1, by omega⟩
      have hcX : ∀ j, j < m + 1 → w.cell? ⟨bx, j, none⟩ = some (.int .u64 (nth (digs X) j : Int)) := by
        intro j hj
        rw [hax.cellN (by omega)]
        have := nth_take (l := Cx) (i := j) (k := (digs X).length) (by omega)
        rw [htx] at this
        rw [this]
      have hcY : ∀ j, j < m + 1 → w.cell? ⟨by_, j, none⟩ = some (.int .u64 (nth (digs Y) j : Int)) := by
        intro j hj
        rw [hay.cellN (by omega)]
        have := nth_take (l := Cy) (i := j) (k := (digs Y).length) (by omega)
        rw [hty] at this
        rw [this]
      have fin1 : ∀ k, k < m + 1 → (∀ j, k < j → j < m + 1 → nth (digs X) j = nth (digs Y) j) → nth (digs X) k < nth (digs Y) k → ordN X Y = -1 := by
        intro k hk hs hlt
        have := val_lt_of (Wd_digs X) (Wd_digs Y) (k := k) (by omega) hm (fun j h1 h2 => hs j h1 (by omega)) hlt
        rw [val_digs, val_digs] at this
        exact ordN_lt this
      have fin2 : ∀ k, k < m + 1 → (∀ j, k < j → j < m + 1 → nth (digs X) j = nth (digs Y) j) → nth (digs Y) k < nth (digs X) k → ordN X Y = 1 := by
        intro k hk hs hlt
        have := val_lt_of (Wd_digs Y) (Wd_digs X) (k := k) (by omega) hm.symm (fun j h1 h2 => (hs j h1 (by omega)).symm) hlt
        rw [val_digs, val_digs] at this
        exact ordN_gt this
      have fin3 : (∀ j, j < m + 1 → nth (digs X) j = nth (digs Y) j) → ordN X Y = 0 := by
        intro hs
        have := val_eq_of hm (fun j h => hs j (by omega))
        rw [val_digs, val_digs] at this
        exact ordN_eq this
      have hmb : m < 1000000 := by omega
      rw [hmm]
      clear hmm hm htx hty hlX hlY hpX hpY hax hay hlx hly hcx hcy
      replace hcX := Lib.hid hcX
      replace hcY := Lib.hid hcY
      replace fin1 := Lib.hid fin1
      replace fin2 := Lib.hid fin2
      replace fin3 := Lib.hid fin3
      have e0 : ((m : Int) + 1 == 0) = false := by simp; omega
      go_enter Tryz.func141, Tryz.ntmps141
      go_upto_block 1 with (fail)
      go_cut [7] (fun i wr => ∃ k n : Nat, k ≤ m ∧ i = .int .i64 k ∧ wr = w.drewN n ∧ (∀ j, k < j → j < m + 1 → nth (digs X) j = nth (digs Y) j) ∧ (k = 0 ∨ nth (digs X) k ≠ nth (digs Y) k))
      case first =>
        go_wp2_with fail
        go_loopw [7] (fun i wr => ∃ k n : Nat, k ≤ m ∧ i = .int .i64 k ∧ wr = w.drewN n ∧ (∀ j, k < j → j < m + 1 → nth (digs X) j = nth (digs Y) j)) (fun i _ => (intOf i).toNat)
        case atStart => exact ⟨m, 0, Nat.le_refl _, rfl, rfl, fun j h1 h2 => by omega⟩
        case round =>
          obtain ⟨k, n, hk, rfl, hwr, hs⟩ := hrel
          replace hs := Lib.hid hs
          by_cases hk0 : k = 0
          · subst hk0 hwr
            go_wp2
            go_quiet (fail)
            go_wp2
            go_meet
            exact ⟨0, _, hk, rfl, by first | exact drewN_drewN _ _ _ | rfl, hs.out, .inl rfl⟩
          · have hk1 : 0 < k := by omega
            have c1 := hcX.out k (by omega)
            have c2 := hcY.out k (by omega)
            by_cases he : nth (digs X) k = nth (digs Y) k
            · have e1 : ((nth (digs X) k : Int) == (nth (digs Y) k : Int)) = true := by simp; omega
              replace he := Lib.hid he
              subst hwr
              go_wp2
              go_quiet (fail)
              go_wp2
              go_roundw
              case rel =>
                refine ⟨k - 1, _, by omega, by go_num, by first | exact drewN_drewN _ _ _ | rfl, fun j h1 h2 => ?_⟩
                by_cases hjk : j = k
                · subst hjk; exact he.out
                · exact hs.out j (by omega) h2
              case measure => simp [intOf]; omega
            · have e1 : ((nth (digs X) k : Int) == (nth (digs Y) k : Int)) = false := by simp; omega
              replace he := Lib.hid he
              subst hwr
              go_wp2
              go_quiet (fail)
              go_wp2
              go_meet
              exact ⟨k, _, hk, rfl, by first | exact drewN_drewN _ _ _ | rfl, hs.out, .inr he.out⟩
      case rest =>
        obtain ⟨k, n, hk, rfl, rfl, hs, hd⟩ := hcut
        have c1 := hcX.out k (by omega)
        have c2 := hcY.out k (by omega)
        replace fin1 := Lib.hid (fin1.out k (by omega) hs)
        replace fin2 := Lib.hid (fin2.out k (by omega) hs)
        have fin4 : nth (digs X) k = nth (digs Y) k → ordN X Y = 0 := by
          intro e
          rcases hd with h | h
          · subst h
            exact fin3.out (fun j hj => by
              by_cases hj0 : j = 0
              · subst hj0; exact e
              · exact hs j (by omega) hj)
          · exact absurd e h
        replace fin4 := Lib.hid fin4
        clear fin3 hs hd hcX hcY
        rcases Nat.lt_trichotomy (nth (digs X) k) (nth (digs Y) k) with hlt | he | hgt
        · replace fin1 := fin1.out hlt
          replace fin1 := Lib.hid fin1
          go_wp2
          go_quiet (fail)
          go_wp2
          go_ret
          exact ⟨by rw [fin1.out]; rfl, _, by first | exact drewN_drewN _ _ _ | (rw [drewN_drewN]; exact drewN_drewN _ _ _)⟩
        · replace fin4 := fin4.out he
          replace fin4 := Lib.hid fin4
          have h1 : ¬ nth (digs X) k < nth (digs Y) k := by omega
          have h2 : ¬ nth (digs Y) k < nth (digs X) k := by omega
          replace he := Lib.hid he
          go_wp2
          go_quiet (fail)
          go_wp2
          go_quiet (fail)
          go_wp2
          go_ret
          exact ⟨by rw [fin4.out]; rfl, _, by first | exact drewN_drewN _ _ _ | (rw [drewN_drewN]; exact drewN_drewN _ _ _)⟩
        · replace fin2 := fin2.out hgt
          replace fin2 := Lib.hid fin2
          have h1 : ¬ nth (digs X) k < nth (digs Y) k := by omega
          go_wp2
          go_quiet (fail)
          go_wp2
          go_quiet (fail)
          go_wp2
          go_ret
          exact ⟨by rw [fin2.out]; rfl, _, by first | exact drewN_drewN _ _ _ | (rw [drewN_drewN]; exact drewN_drewN _ _ _)⟩
  · have e1 : (((digs X).length : Int) != (digs Y).length) = true := by simp; omega
    clear hx hy
    by_cases hlt : (digs X).length < (digs Y).length
    · have hr := Lib.hid (ordN_lt (digs_len_lt hlt))
      go_enter Tryz.func141, Tryz.ntmps141
      go_wp2
      go_ret
      exact ⟨by rw [hr.out]; rfl, 0, rfl⟩
    · have hr := Lib.hid (ordN_gt (digs_len_lt (show (digs Y).length < (digs X).length by omega)))
      have hgt : (digs Y).length < (digs X).length := by omega
      go_enter Tryz.func141, Tryz.ntmps141
      go_wp2
      go_ret
      exact ⟨by rw [hr.out]; rfl, 0, rfl⟩
end Go.Proofs.YtlnillnngckegaaGreatDoor
