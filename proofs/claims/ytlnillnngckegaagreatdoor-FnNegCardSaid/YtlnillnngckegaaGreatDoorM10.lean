/- nat: wrappers of the rows, clear, mulAddWW. nat: basicMul. nat: alias, mul, sqr. -/
import Derived.Deep.RegionHeld3
import Derived.Test.YtlnillnngckegaaGreatDoorM09
namespace Go.Proofs.YtlnillnngckegaaGreatDoor
open Go Go.RowKit

theorem mulAddVWW_c (w : World) (bz oz n cz bx ox cx y r : Nat) (Cz X : List Nat) (hn : n < 1000000)
    (hz : Arr w bz Cz) (hzl : oz + n ≤ Cz.length) (hX : X.length = n) (WX : Wd X) (hwy : y < WB) (hwr : r < WB)
    (hx : Rd w bz oz n Cz bx ox X) :
    Calls Tryz.prog 183 #[.slice (some ⟨bz, oz, none⟩) n cz, .slice (some ⟨bx, ox, none⟩) n cx, .int .u64 y, .int .u64 r] w fun e w' =>
      ∃ R c, e = .returned (.int .u64 ((c : Nat) : Int)) ∧ Sub w w' bz (spl Cz oz R) ∧ R.length = n ∧ c < WB ∧ val R + WB ^ n * c = val X * y + r := by
  have hc := mulAddVWW_g_c w bz oz n cz bx ox cx y r Cz X hn hz hzl hX WX hwy hwr hx
  go_enter Tryz.func183, Tryz.ntmps183
  go_wp2_with fail
  refine hc.mono ?_
  rintro e w' ⟨R, c, rfl, h⟩
  go_wp2
  go_ret
  exact ⟨R, c, rfl, h⟩
theorem addMulVVWW_c (w : World) (bz oz n cz bx ox cx by_ oy cy m a : Nat) (Cz X Y : List Nat) (hn : n < 1000000)
    (hz : Arr w bz Cz) (hzl : oz + n ≤ Cz.length) (hX : X.length = n) (hY : Y.length = n) (WX : Wd X) (WY : Wd Y) (hwm : m < WB) (hwa : a < WB)
    (hx : Rd w bz oz n Cz bx ox X) (hy : Rd w bz oz n Cz by_ oy Y) :
    Calls Tryz.prog 180 #[.slice (some ⟨bz, oz, none⟩) n cz, .slice (some ⟨bx, ox, none⟩) n cx, .slice (some ⟨by_, oy, none⟩) n cy, .int .u64 m, .int .u64 a] w fun e w' =>
      ∃ R c, e = .returned (.int .u64 ((c : Nat) : Int)) ∧ Sub w w' bz (spl Cz oz R) ∧ R.length = n ∧ c < WB ∧ val R + WB ^ n * c = val X + val Y * m + a := by
  have hc := addMulVVWW_g_c w bz oz n cz bx ox cx by_ oy cy m a Cz X Y hn hz hzl hX hY WX WY hwm hwa hx hy
  go_enter Tryz.func180, Tryz.ntmps180
  go_wp2_with fail
  refine hc.mono ?_
  rintro e w' ⟨R, c, rfl, h⟩
  go_wp2
  go_ret
  exact ⟨R, c, rfl, h⟩
theorem lshVU_c (w : World) (bz oz m cz bx ox cx s : Nat) (Cz Cx : List Nat) (hn : m < 1000000) (hs0 : 0 < s) (hs : s < 64)
    (hz : Arr w bz Cz) (hzl : oz + (m + 1) ≤ Cz.length) (hx : Arr w bx Cx) (hxl : ox + (m + 1) ≤ Cx.length) (hsep : bx ≠ bz ∨ ox ≤ oz) :
    Calls Tryz.prog 182 #[.slice (some ⟨bz, oz, none⟩) (m + 1) cz, .slice (some ⟨bx, ox, none⟩) (m + 1) cx, .int .u64 s] w fun e w' =>
      ∃ R c, e = .returned (.int .u64 ((c : Nat) : Int)) ∧ Sub w w' bz (spl Cz oz R) ∧ R.length = m + 1 ∧ c < WB ∧ val R + WB ^ (m + 1) * c = val ((Cx.drop ox).take (m + 1)) * 2 ^ s := by
  have hc := lshVU_g_c w bz oz m cz bx ox cx s Cz Cx hn hs0 hs hz hzl hx hxl hsep
  go_enter Tryz.func182, Tryz.ntmps182
  go_wp2_with fail
  refine hc.mono ?_
  rintro e w' ⟨R, c, rfl, h⟩
  go_wp2
  go_ret
  exact ⟨R, c, rfl, h⟩
theorem rshVU_c (w : World) (bz oz m cz bx ox cx s : Nat) (Cz Cx : List Nat) (hn : m < 1000000) (hs0 : 0 < s) (hs : s < 64)
    (hz : Arr w bz Cz) (hzl : oz + (m + 1) ≤ Cz.length) (hx : Arr w bx Cx) (hxl : ox + (m + 1) ≤ Cx.length) (hsep : bx ≠ bz ∨ oz ≤ ox) :
    Calls Tryz.prog 204 #[.slice (some ⟨bz, oz, none⟩) (m + 1) cz, .slice (some ⟨bx, ox, none⟩) (m + 1) cx, .int .u64 s] w fun e w' =>
      ∃ R c, e = .returned (.int .u64 ((c : Nat) : Int)) ∧ Sub w w' bz (spl Cz oz R) ∧ R.length = m + 1 ∧ val R = val ((Cx.drop ox).take (m + 1)) / 2 ^ s := by
  have hc := rshVU_g_c w bz oz m cz bx ox cx s Cz Cx hn hs0 hs hz hzl hx hxl hsep
  go_enter Tryz.func204, Tryz.ntmps204
  go_wp2_with fail
  refine hc.mono ?_
  rintro e w' ⟨R, c, rfl, h⟩
  go_wp2
  go_ret
  exact ⟨R, c, rfl, h⟩

/-- clear of a row of words. -/
theorem run_clearW (w : World) (T ty : TypeId) (hu : Tryz.prog.underlying T = some (.slice 104)) (bz oz n cz : Nat) (Cz : List Nat) (hz : Arr w bz Cz) (hn : 0 < n) (hfit : oz + n ≤ Cz.length) :
    ∃ w', (Builtin.clear_ #[T] ty #[.slice (some ⟨bz, oz, none⟩) n cz]).run Tryz.prog w = .ok (.tuple #[]) w' ∧ Sub w w' bz (spl Cz oz (List.replicate n 0)) := by
  have h := makeZ
  cases hi : Tryz.prog.info? 104 with
  | none => rw [hi] at h; cases h
  | some i =>
    rw [hi] at h
    simp only [Option.map_some, Option.some.injEq, Prod.mk.injEq] at h
    obtain ⟨h1, h2, h3⟩ := h
    have ez : Builtin.zeroCells (Value.int .u64 0).cells n = ((List.replicate n 0).map uw).toArray := by
      unfold Builtin.zeroCells
      apply Array.ext
      · simp [Value.cells]
      · intro j h1 h2
        simp [Value.cells, uw, Nat.mod_one]
    have hst := run_storeCells_at Tryz.prog bz oz 104 ((List.replicate n 0).map uw) 0 (Cz.map uw).toArray w hz.heap (by simpa using hfit) (by
      intro v hv
      obtain ⟨x, _, rfl⟩ := List.mem_map.1 hv
      rfl)
    have e : (((Cz.map uw).toArray.toList.take (oz + 0)) ++ (List.replicate n 0).map uw ++ (Cz.map uw).toArray.toList.drop (oz + 0 + ((List.replicate n 0).map uw).length)).toArray = ((spl Cz oz (List.replicate n 0)).map uw).toArray := by
      unfold spl; simp
    rw [e] at hst
    refine ⟨w.setRow bz ((spl Cz oz (List.replicate n 0)).map uw).toArray, ?_, ⟨⟨?_, Wd_spl hz.wd (Wd.zeros n)⟩, fun k hk => setRow_other w bz k _ hk, by simp [World.setRow], rfl, rfl, rfl⟩⟩
    · obtain ⟨n, rfl⟩ : ∃ k, n = k + 1 := ⟨n - 1, by omega⟩
      have hz0 : (zeroValue 104).run Tryz.prog w = .ok (.int .u64 0) w := by simp [zeroValue, typeInfo, hi, h1]
      unfold Builtin.clear_
      simp [run_underlying hu, hz0]
      rw [ez, show ((List.map uw (List.replicate (n + 1) 0)).toArray).toList = List.map uw (List.replicate (n + 1) 0) from rfl, hst]
      rfl
    · exact setRow_heap w bz (Cz.map uw).toArray _ 104 (0, 0) hz.heap
theorem wpList_clearW {ops : Array Oper} {rest : List Oper} {o : Oper} {a : Act} {w : World} {Q : Exit → Act → World → Prop} (hgd : o.guard = none) (d : Operand) (T : TypeId)
    (ho : o.op = .call { callee := .builtin .clear, args := #[d], argTypes := #[T] }) (hu : Tryz.prog.underlying T = some (.slice 104))
    (bz oz n cz : Nat) (hd : a.eval d = .slice (some ⟨bz, oz, none⟩) n cz) (Cz : List Nat) (hz : Arr w bz Cz) (hfit : oz + n ≤ Cz.length)
    (h : ∀ w', Sub w w' bz (spl Cz oz (List.replicate n 0)) → wpList Tryz.prog ops Q rest (a.put o.dst (.tuple #[])) w') : wpList Tryz.prog ops Q (o :: rest) a w := by
  refine wpList_plain hgd fun K hK => ?_
  have hrun : ∃ w', (Builtin.clear_ #[T] o.type #[.slice (some ⟨bz, oz, none⟩) n cz]).run Tryz.prog w = .ok (.tuple #[]) w' ∧ Sub w w' bz (spl Cz oz (List.replicate n 0)) := by
    rcases Nat.eq_zero_or_pos n with h0 | h0
    · subst h0
      refine ⟨w, ?_, ?_⟩
      · unfold Builtin.clear_
        simp [run_underlying hu]
      · rw [List.replicate_zero, spl_nil]; exact Sub.refl hz
    · exact run_clearW w T o.type hu bz oz n cz Cz hz h0 hfit
  obtain ⟨w', hrun, hS⟩ := hrun
  unfold Oper.wp
  simp [execOp, ho, resolve, invoke, builtin, hd, hrun, Result.andThen]
  exact hK _ _ (h w' hS)

set_option maxHeartbeats 1000000 in
theorem mulAddWW_c (w : World) (z x : Value) (X y r : Nat) (o ox : Option Nat) (hz : Stor w z o) (hx : IsNat w x X ox) (hn : (digs X).length ≤ 900) (hwy : y < WB) (hwr : r < WB) :
    Calls Tryz.prog 155 #[z, x, .int .u64 y, .int .u64 r] w fun e w' => ∃ v, e = .returned v ∧ NatRes w w' o v (X * y + r) := by
  obtain ⟨pz, lz, cz, rfl⟩ : ∃ p l c, z = .slice p l c := by
    rcases hz with ⟨rfl, _⟩ | ⟨b, l, cap, C, _, rfl, _⟩
    · exact ⟨_, _, _, rfl⟩
    · exact ⟨_, _, _, rfl⟩
  have hs := setWord_c w _ r o hz hwr
  by_cases h0 : X = 0
  · subst h0
    obtain ⟨px, cx, rfl, _, _⟩ := hx.shape
    rw [digs_zero]
    clear hx hz
    go_enter Tryz.func155, Tryz.ntmps155
    go_wp2_with fail
    refine hs.mono ?_
    rintro e w1 ⟨v, rfl, hr⟩
    go_wp2
    go_ret
    rw [Nat.zero_mul, Nat.zero_add]
    exact ⟨_, rfl, hr⟩
  by_cases h1 : y = 0
  · subst h1
    obtain ⟨px, cx, rfl, _, _⟩ := hx.shape
    have e1 := int_eq0 (digs_len_pos h0)
    clear hx hz
    go_enter Tryz.func155, Tryz.ntmps155
    go_wp2_with fail
    refine hs.mono ?_
    rintro e w1 ⟨v, rfl, hr⟩
    go_wp2
    go_ret
    rw [Nat.mul_zero, Nat.zero_add]
    exact ⟨_, rfl, hr⟩
  clear hs
  obtain ⟨bx, cx, Cx, rfl, rfl, hax, hcx, hcapx, htx, hlx, hpx⟩ := hx.pos h0
  have hmk := make_c w _ o hz ((digs X).length + 1) (by omega) (by omega)
  have hvX : val (digs X) = X := val_digs X
  have hwX := Wd_digs X
  generalize hXL : digs X = XL at *
  generalize hm : XL.length = m at *
  have hmk' : Calls Tryz.prog 127 #[.slice pz lz cz, .int .i64 ((m : Int) + 1)] w fun e w' => ∃ r, e = .returned r ∧ MakeRes w w' o r (m + 1) := by exact_mod_cast hmk
  have e1 : ((m : Int) == 0) = false := int_eq0 hpx
  have e2 : ((y : Int) == 0) = false := int_eq0 (by omega)
  have htx' : (Cx.drop 0).take m = XL := htx
  replace hvX := Lib.hid hvX
  replace hXL := Lib.hid hXL
  clear hmk h0 h1 hx htx
  go_enter Tryz.func155, Tryz.ntmps155
  go_wp2_with fail
  refine hmk'.mono ?_
  rintro e w1 ⟨v, rfl, b, cap, C, rfl, ha, hC, hnc, hcap, hb, hchg⟩
  have hax1 := hchg.arr hax (fun h => h)
  have hb2 : (o = some b) ∨ w.heap.size = b := hb.imp (·.1) id
  have k1 : m ≤ cap := by omega
  have hc := mulAddVWW_c w1 b 0 m cap bx 0 cx y r C XL (by omega) ha (by omega) hm hwX hwy hwr (by
    have := Rd.mk (n := m) (oz := 0) (ox := 0) ha (by omega) hax1 (by omega) (.inr (Nat.le_refl _))
    rwa [htx'] at this)
  replace hm := Lib.hid hm
  replace htx' := Lib.hid htx'
  go_wp2_with fail
  refine hc.mono ?_
  rintro e w3 ⟨R, c, rfl, hS, hR, hcw, hv⟩
  have hz1 := hS.arr.cellN (i := m) (by rw [spl_length (by omega)]; omega)
  have hz2 := hS.arr.frozen m
  have hS5 := hS.next (k := m) hR (by omega) c hcw
  rw [Nat.zero_add] at hS5
  have hv5 : val (R ++ [c]) = X * y + r := by
    rw [val_snoc, hR, hv, hvX.out]
  have hl5 : (R ++ [c]).length = m + 1 := by rw [List.length_append, hR]; rfl
  generalize R ++ [c] = L at *
  have hnm := fun w' (ha : Arr w' b (spl C 0 L)) => norm_spl w' b (m + 1) cap C L ha hC hl5 hnc hcap.2
  replace hv := Lib.hid hv
  replace hv5 := Lib.hid hv5
  clear hS hc hmk'
  go_wp2_with fail
  refine (hnm _ hS5.arr).mono ?_
  rintro e w6 ⟨rfl, hw⟩
  obtain rfl := hw
  go_wp2
  go_ret
  have := natRes_spl hb2 hchg hS5 hC (by omega) hcap
  rw [hv5.out] at this
  rw [hv5.out]
  exact ⟨_, rfl, this⟩
end Go.Proofs.YtlnillnngckegaaGreatDoor

namespace Go.Proofs.YtlnillnngckegaaGreatDoor
open Go Go.RowKit

theorem spl_mid_zero {C L M Z : List Nat} {k m : Nat} (hL : L.length = k + m) (hM : M.length = m) (h : (L ++ Z).length ≤ C.length) : spl (spl C 0 (L ++ Z)) k M = spl C 0 (L.take k ++ M ++ Z) := by
  have hl : (L ++ Z).length = k + m + Z.length := by rw [List.length_append, hL]
  have hl2 : (L.take k ++ M ++ Z).length = k + m + Z.length := by simp; omega
  have hl3 : (spl C 0 (L ++ Z)).length = C.length := spl_length (by omega)
  apply List.ext_getElem?
  intro j
  by_cases h1 : j < k
  · rw [spl_lt (by omega) h1]
    have e1 := spl_mid (C := C) (o := 0) (R := L ++ Z) (j := j) (by omega) (by omega)
    have e2 := spl_mid (C := C) (o := 0) (R := L.take k ++ M ++ Z) (j := j) (by omega) (by omega)
    rw [Nat.zero_add] at e1 e2
    rw [e1, e2, List.append_assoc, List.getElem?_append_left (by omega), List.getElem?_append_left (by simp; omega), List.getElem?_take_of_lt h1]
  · by_cases h2 : j < k + m
    · obtain ⟨d, rfl⟩ : ∃ d, j = k + d := ⟨j - k, by omega⟩
      rw [spl_mid (by omega) (by omega)]
      have e2 := spl_mid (C := C) (o := 0) (R := L.take k ++ M ++ Z) (j := k + d) (by omega) (by omega)
      rw [Nat.zero_add] at e2
      rw [e2, List.append_assoc, List.getElem?_append_right (by simp; omega), List.getElem?_append_left (by simp; omega)]
      congr 1; simp; omega
    · rw [spl_ge (by omega) (by omega)]
      by_cases h3 : j < k + m + Z.length
      · have e1 := spl_mid (C := C) (o := 0) (R := L ++ Z) (j := j) (by omega) (by omega)
        have e2 := spl_mid (C := C) (o := 0) (R := L.take k ++ M ++ Z) (j := j) (by omega) (by omega)
        rw [Nat.zero_add] at e1 e2
        rw [e1, e2, List.getElem?_append_right (by omega), List.getElem?_append_right (by simp; omega)]
        congr 1; simp; omega
      · rw [spl_ge (by omega) (by omega), spl_ge (by omega) (by omega)]
theorem spl_set_zero {C A Z : List Nat} {k x y : Nat} (hA : A.length = k) (_h : (A ++ y :: Z).length ≤ C.length) : (spl C 0 (A ++ y :: Z)).set k x = spl C 0 (A ++ [x] ++ Z) := by
  unfold spl
  simp only [List.take_zero, List.nil_append]
  subst hA
  simp

theorem nth_spl0 {C R : List Nat} {j : Nat} (h : R.length ≤ C.length) (hj : j < R.length) : nth (spl C 0 R) j = nth R j := by
  have := nth_spl_mid (C := C) (o := 0) (R := R) (j := j) (by omega) hj
  rwa [Nat.zero_add] at this

/-- Nothing is asked of a world (a word that simp leaves standing). -/
def Anyw (_ : World) : Prop := True
theorem anyw (w : World) : Anyw w := trivial

set_option maxRecDepth 100000 in
set_option maxHeartbeats 2000000 in
theorem basicMul_c (w : World) (bz m n cz bx cx by_ cy : Nat) (Cz Cx Cy X Y : List Nat) (hm : 0 < m) (hm1 : m ≤ 1000) (hn1 : n ≤ 1000)
    (hz : Arr w bz Cz) (hzl : m + n ≤ Cz.length) (hzc : m + n ≤ cz) (hx : Arr w bx Cx) (hX : Cx.take m = X) (lX : X.length = m) (hy : Arr w by_ Cy) (hY : Cy.take n = Y) (lY : Y.length = n) (hbx : bx ≠ bz) (hby : by_ ≠ bz) :
    Calls Tryz.prog 150 #[.slice (some ⟨bz, 0, none⟩) (m + n) cz, .slice (some ⟨bx, 0, none⟩) m cx, .slice (some ⟨by_, 0, none⟩) n cy] w fun e w' =>
      e = .returned (.tuple #[]) ∧ ∃ R, Sub w w' bz (spl Cz 0 R) ∧ R.length = m + n ∧ val R = val X * val Y := by
  have hxl : m ≤ Cx.length := by have := congrArg List.length hX; rw [List.length_take] at this; omega
  have hyl : n ≤ Cy.length := by have := congrArg List.length hY; rw [List.length_take] at this; omega
  have WX : Wd X := hX ▸ hx.wd.take m
  have WY : Wd Y := hY ▸ hy.wd.take n
  have hYc : ∀ wr, Arr wr by_ Cy → ∀ j, j < n → wr.cell? ⟨by_, j, none⟩ = some (.int .u64 (nth Y j : Int)) := by
    intro wr h j hj
    rw [h.cellN (by omega), ← hY, nth_take hj]
  have hX0 : (Cx.drop 0).take m = X := hX
  replace hX0 := Lib.hid hX0
  replace hYc := Lib.hid hYc
  clear hX hY
  go_enter Tryz.func150, Tryz.ntmps150
  go_wp2_with (refine wpList_clearW rfl (.tmp 14) 50 rfl Tryz.underlying50 bz 0 (m + n) cz rfl Cz hz (by omega) ?_)
  intro w1 hS1
  have hr : List.replicate (m + n) 0 = List.replicate m 0 ++ List.replicate n 0 := by rw [List.replicate_append_replicate]
  rw [hr] at hS1
  clear hr
  go_wp2
  go_loopw [17] (fun i wr => ∃ k : Nat, k ≤ n ∧ i = .int .i64 k ∧ ∃ L : List Nat, L.length = k + m ∧ val L = val X * val (Y.take k) ∧ Sub w wr bz (spl Cz 0 (L ++ List.replicate (n - k) 0))) (fun i _ => n - (intOf i).toNat)
  case atStart => exact ⟨0, by omega, by go_num, List.replicate m 0, by simp, by simp [val_zeros], hS1⟩
  case round =>
    obtain ⟨k, hk, rfl, L, hL, hv, hS⟩ := hrel
    by_cases hlt : k < n
    · have hyk := hYc.out wr (hS.other hby hy) k hlt
      have hwd := WY.nth k
      obtain ⟨r, hr⟩ : ∃ r, n - k = r + 1 := ⟨n - k - 1, by omega⟩
      rw [hr, List.replicate_succ] at hS
      have hvt : val (Y.take (k + 1)) = val (Y.take k) + WB ^ k * nth Y k := val_take_succ (by omega)
      replace hvt := Lib.hid hvt
      replace hv := Lib.hid hv
      by_cases hd : nth Y k = 0
      · rw [hd] at hyk
        go_wp2
        go_roundw
        case rel =>
          refine ⟨k + 1, by omega, by go_num, L ++ [0], by rw [List.length_append, hL]; simp; omega, ?_, ?_⟩
          · rw [val_snoc, hvt.out, hd, hv.out]; simp
          · rw [show n - (k + 1) = r by omega, List.append_assoc]; exact hS
        case measure => simp [intOf]; omega
      · have hd0 : ((nth Y k : Int) != 0) = true := by simp; omega
        have hM : ((spl Cz 0 (L ++ 0 :: List.replicate r 0)).drop k).take m = L.drop k := by
          unfold spl
          rw [List.take_zero, List.nil_append, List.append_assoc, List.drop_append_of_le_length (by omega), List.take_append_of_le_length (by simp; omega), List.take_of_length_le (by simp; omega)]
        have hlz : (L ++ 0 :: List.replicate r 0).length = m + n := by simp; omega
        have hlz2 : (spl Cz 0 (L ++ 0 :: List.replicate r 0)).length = Cz.length := spl_length (by omega)
        have hc := fun wr' (hh : Sub w wr' bz (spl Cz 0 (L ++ 0 :: List.replicate r 0))) => addMulVVWW_c wr' bz k m (cz - k) bz k (cz - k) bx 0 cx (nth Y k) 0 (spl Cz 0 (L ++ 0 :: List.replicate r 0)) (L.drop k) X (by omega) hh.arr (by omega) (by simp; omega) lX
          (by rw [← hM]; exact (hh.arr.wd.drop _).take _) WX hwd WB_pos (by rw [← hM]; exact Rd.mk hh.arr (by omega) hh.arr (by omega) (.inr (Nat.le_refl _))) (by rw [← hX0.out]; exact Rd.mk hh.arr (by omega) (hh.other hbx hx) (by omega) (.inl hbx))
        replace hc := Lib.hid hc
        have t1 : k ≤ cz := by omega
        have t2 : ¬ cz = k := by omega
        have t3 : (k : Int) ≤ (k : Int) + (m : Int) := by omega
        have t4 : (k : Int) + (m : Int) ≤ (cz : Int) := by omega
        have t5 : ((k : Int) + (m : Int)).toNat = k + m := by omega
        have t6 : IntKind.i64.wrap ((k : Int) + (m : Int)) = (k : Int) + (m : Int) := IntWalk.i64_in _ (by omega)
        have t7 : IntKind.i64.wrap ((m : Int) + (k : Int)) = (m : Int) + (k : Int) := IntWalk.i64_in _ (by omega)
        have t8 : (0 : Int) ≤ (k : Int) + (m : Int) := by omega
        have t9 : (0 : Int) ≤ (m : Int) + (k : Int) := by omega
        have t10 : (m : Int) + (k : Int) < (m : Int) + (n : Int) := by omega
        have t11 : ((m : Int) + (k : Int)).toNat = m + k := by omega
        go_wp2
        go_region_held3 (fun w' => Anyw w') (exact anyw _) (first
          | (go_at_call 180
             refine (hc.out _ hS.drew).mono ?_
             rintro e w4 ⟨M, c, rfl, hS2, hM2, hcw, hv2⟩
             have hz1 := hS2.arr.cellN (i := m + k) (by rw [spl_length (by omega)]; omega)
             have hz2 := hS2.arr.frozen (m + k)))
        have hS3 := (hS.drew).trans hS2
        have hsp := spl_mid_zero (C := Cz) (L := L) (M := M) (Z := 0 :: List.replicate r 0) (k := k) (m := m) hL hM2 (by omega)
        rw [hsp] at hS3
        have hS4 := hS3.set (i := m + k) c hcw
        have hA : (L.take k ++ M).length = m + k := by simp; omega
        rw [spl_set_zero hA (by rw [List.length_append, hA]; simp; omega)] at hS4
        have hval : val (L.take k ++ M ++ [c]) = val X * val (Y.take (k + 1)) := by
          rw [val_snoc, hA, val_append, List.length_take, hL, Nat.min_eq_left (by omega), hvt.out, Nat.mul_add, ← hv.out, Nat.mul_left_comm]
          have e1 := val_take_drop L k (by omega)
          have e2 : WB ^ (m + k) * c = WB ^ k * (WB ^ m * c) := by rw [Nat.add_comm, Nat.pow_add, Nat.mul_assoc]
          have e3 : WB ^ k * (val M + WB ^ m * c) = WB ^ k * (val (List.drop k L) + val X * nth Y k) := by rw [hv2, Nat.add_zero]
          rw [Nat.mul_add, Nat.mul_add] at e3
          rw [e2]
          omega
        replace hval := Lib.hid hval
        have hlA : (L.take k ++ M ++ [c]).length = k + 1 + m := by rw [List.length_append, hA]; simp; omega
        generalize L.take k ++ M ++ [c] = L' at hS4 hval hlA
        clear hc hS3 hS2 hsp hM hlz hlz2
        go_wp2
        go_roundw
        case rel =>
          refine ⟨k + 1, by omega, by go_num, L', hlA, hval.out, ?_⟩
          rw [show n - (k + 1) = r by omega]
          exact hS4
        case measure => simp [intOf]; omega
    · obtain rfl : k = n := by omega
      replace hv := Lib.hid hv
      go_wp2
      refine ⟨rfl, _, results_none rfl _ _ _, rfl, L, ?_, by omega, ?_⟩
      · rw [Nat.sub_self, List.replicate_zero, List.append_nil] at hS; exact hS
      · have := hv.out
        rwa [List.take_of_length_le (by omega)] at this
end Go.Proofs.YtlnillnngckegaaGreatDoor

namespace Go.Proofs.YtlnillnngckegaaGreatDoor
open Go Go.RowKit

theorem run_eql_ptr_other {P : Program} {w : World} {tp te : TypeId} {j : TypeInfo} {a b : Addr} {ca cb : Array Value} {ta tb : TypeId} (hp : P.underlying tp = some (.pointer te)) (hte : P.info? te = some j) (hsz : j.size ≠ 0)
    (hne : a ≠ b) (ha : w.heap[a.block]? = some (.cells ca ta (0, 0))) (hb : w.heap[b.block]? = some (.cells cb tb (0, 0))) :
    (binOp .eql tp (.pointer (some a)) (.pointer (some b))).run P w = .ok (.bool false) w := by
  have h : ∀ d : Nat, (Op.equalIn (d + 1) tp (.pointer (some a)) (.pointer (some b))).run P w = .ok false w := fun d => by
    simp [Op.equalIn, run_underlying hp, sizeOf, typeInfo, hte, hsz, run_sameAddr_other w hne ha hb]
  simp only [binOp]
  simp [Op.equal, Op.maxDepth, h 9999]
theorem run_eql_ptr_same {P : Program} {w : World} {tp te : TypeId} {j : TypeInfo} (a : Addr) (hp : P.underlying tp = some (.pointer te)) (hte : P.info? te = some j) :
    (binOp .eql tp (.pointer (some a)) (.pointer (some a))).run P w = .ok (.bool true) w := by
  have h : ∀ d : Nat, (Op.equalIn (d + 1) tp (.pointer (some a)) (.pointer (some a))).run P w = .ok true w := fun d => by
    simp [Op.equalIn, run_underlying hp, sizeOf, typeInfo, hte, run_sameAddr_same]
  simp only [binOp]
  simp [Op.equal, Op.maxDepth, h 9999]
theorem eql_word_ptr {w : World} {bz oz bx ox : Nat} {Cz Cx : List Nat} (hz : Arr w bz Cz) (hx : Arr w bx Cx) (hne : bx ≠ bz) (n : Nat) :
    (binOp .eql 194 (.pointer (some ⟨bz, oz, none⟩)) (.pointer (some ⟨bx, ox, none⟩))).run Tryz.prog (w.drewN n) = .ok (.bool false) (w.drewN n) := by
  obtain ⟨j, hj, hs⟩ := infoWj
  exact run_eql_ptr_other Tryz.underlying194 hj hs (fun e => hne (congrArg Addr.block e).symm) (hz.drewN n).heap (hx.drewN n).heap
theorem eql_word_ptr_same {w : World} (a : Addr) (n : Nat) : (binOp .eql 194 (.pointer (some a)) (.pointer (some a))).run Tryz.prog (w.drewN n) = .ok (.bool true) (w.drewN n) := by
  obtain ⟨j, hj, hs⟩ := infoWj
  exact run_eql_ptr_same a Tryz.underlying194 hj

set_option maxRecDepth 100000 in
set_option maxHeartbeats 1000000 in
theorem alias_c (w : World) (x y : Value) (ox oy : Option Nat) (hx : Stor w x ox) (hy : Stor w y oy) :
    Calls Tryz.prog 149 #[x, y] w fun e w' => e = .returned (.bool (decide (ox = oy ∧ ox ≠ none))) ∧ ∃ n, w' = w.drewN n := by
  rcases hx with ⟨rfl, rfl⟩ | ⟨bx, lx, cx, Cx, rfl, rfl, hlx, hax, hcx, hcapx⟩
  · obtain ⟨py, ly, cy, rfl⟩ : ∃ p l c, y = .slice p l c := by
      rcases hy with ⟨rfl, _⟩ | ⟨b, l, cap, C, _, rfl, _⟩
      · exact ⟨_, _, _, rfl⟩
      · exact ⟨_, _, _, rfl⟩
    clear hy
    go_enter Tryz.func149, Tryz.ntmps149
    go_wp2
    go_quiet (fail)
    go_wp2
    go_ret
    exact ⟨by simp, _, rfl⟩
  · rcases hy with ⟨rfl, rfl⟩ | ⟨by_, ly, cy, Cy, rfl, rfl, hly, hay, hcy, hcapy⟩
    · obtain ⟨h1, h2⟩ := hcapx
      go_enter Tryz.func149, Tryz.ntmps149
      go_wp2
      go_quiet (fail)
      go_wp2
      go_ret
      exact ⟨by simp, _, rfl⟩
    · obtain ⟨h1, h2⟩ := hcapx
      obtain ⟨h3, h4⟩ := hcapy
      obtain ⟨d, rfl⟩ : ∃ d, cx = d + 1 := ⟨cx - 1, by omega⟩
      obtain ⟨d', rfl⟩ : ∃ d, cy = d + 1 := ⟨cy - 1, by omega⟩
      clear hlx hly h1 h3
      by_cases he : bx = by_
      · subst he
        obtain rfl := hax.inj hay
        obtain rfl : d = d' := by omega
        have hp := eql_word_ptr_same (w := w) ⟨bx, d, none⟩
        go_enter Tryz.func149, Tryz.ntmps149
        go_wp2
        go_quiet (fail)
        go_wp2
        go_ret
        exact ⟨by simp, _, rfl⟩
      · have hp := eql_word_ptr (oz := d) (ox := d') hax hay (Ne.symm he)
        go_enter Tryz.func149, Tryz.ntmps149
        go_wp2
        go_quiet (fail)
        go_wp2
        go_ret
        exact ⟨by simp [he], _, rfl⟩
end Go.Proofs.YtlnillnngckegaaGreatDoor
