/- nat: wrappers of the rows, clear, mulAddWW. -/
import Derived.Deep.RegionHeld3
import Derived.Test.YtabggbajgpbmmaaGreatDoorN4
namespace Go.Proofs.YtabggbajgpbmmaaGreatDoor
open Go Go.RowKit

theorem mulAddVWW_c (w : World) (bz oz n cz bx ox cx y r : Nat) (Cz X : List Nat) (hn : n < 1000000)
    (hz : Arr w bz Cz) (hzl : oz + n ≤ Cz.length) (hX : X.length = n) (WX : Wd X) (hwy : y < WB) (hwr : r < WB)
    (hx : Rd w bz oz n Cz bx ox X) :
    Calls Tryz.prog 200 #[.slice (some ⟨bz, oz, none⟩) n cz, .slice (some ⟨bx, ox, none⟩) n cx, .int .u64 y, .int .u64 r] w fun e w' =>
      ∃ R c, e = .returned (.int .u64 ((c : Nat) : Int)) ∧ Sub w w' bz (spl Cz oz R) ∧ R.length = n ∧ c < WB ∧ val R + WB ^ n * c = val X * y + r := by
  have hc := mulAddVWW_g_c w bz oz n cz bx ox cx y r Cz X hn hz hzl hX WX hwy hwr hx
  go_enter Tryz.func200, Tryz.ntmps200
  go_wp2_with fail
  refine hc.mono ?_
  rintro e w' ⟨R, c, rfl, h⟩
  go_wp2
  go_ret
  exact ⟨R, c, rfl, h⟩
theorem addMulVVWW_c (w : World) (bz oz n cz bx ox cx by_ oy cy m a : Nat) (Cz X Y : List Nat) (hn : n < 1000000)
    (hz : Arr w bz Cz) (hzl : oz + n ≤ Cz.length) (hX : X.length = n) (hY : Y.length = n) (WX : Wd X) (WY : Wd Y) (hwm : m < WB) (hwa : a < WB)
    (hx : Rd w bz oz n Cz bx ox X) (hy : Rd w bz oz n Cz by_ oy Y) :
    Calls Tryz.prog 199 #[.slice (some ⟨bz, oz, none⟩) n cz, .slice (some ⟨bx, ox, none⟩) n cx, .slice (some ⟨by_, oy, none⟩) n cy, .int .u64 m, .int .u64 a] w fun e w' =>
      ∃ R c, e = .returned (.int .u64 ((c : Nat) : Int)) ∧ Sub w w' bz (spl Cz oz R) ∧ R.length = n ∧ c < WB ∧ val R + WB ^ n * c = val X + val Y * m + a := by
  have hc := addMulVVWW_g_c w bz oz n cz bx ox cx by_ oy cy m a Cz X Y hn hz hzl hX hY WX WY hwm hwa hx hy
  go_enter Tryz.func199, Tryz.ntmps199
  go_wp2_with fail
  refine hc.mono ?_
  rintro e w' ⟨R, c, rfl, h⟩
  go_wp2
  go_ret
  exact ⟨R, c, rfl, h⟩
theorem lshVU_c (w : World) (bz oz m cz bx ox cx s : Nat) (Cz Cx : List Nat) (hn : m < 1000000) (hs0 : 0 < s) (hs : s < 64)
    (hz : Arr w bz Cz) (hzl : oz + (m + 1) ≤ Cz.length) (hx : Arr w bx Cx) (hxl : ox + (m + 1) ≤ Cx.length) (hsep : bx ≠ bz ∨ ox ≤ oz) :
    Calls Tryz.prog 180 #[.slice (some ⟨bz, oz, none⟩) (m + 1) cz, .slice (some ⟨bx, ox, none⟩) (m + 1) cx, .int .u64 s] w fun e w' =>
      ∃ R c, e = .returned (.int .u64 ((c : Nat) : Int)) ∧ Sub w w' bz (spl Cz oz R) ∧ R.length = m + 1 ∧ c < WB ∧ val R + WB ^ (m + 1) * c = val ((Cx.drop ox).take (m + 1)) * 2 ^ s := by
  have hc := lshVU_g_c w bz oz m cz bx ox cx s Cz Cx hn hs0 hs hz hzl hx hxl hsep
  go_enter Tryz.func180, Tryz.ntmps180
  go_wp2_with fail
  refine hc.mono ?_
  rintro e w' ⟨R, c, rfl, h⟩
  go_wp2
  go_ret
  exact ⟨R, c, rfl, h⟩
theorem rshVU_c (w : World) (bz oz m cz bx ox cx s : Nat) (Cz Cx : List Nat) (hn : m < 1000000) (hs0 : 0 < s) (hs : s < 64)
    (hz : Arr w bz Cz) (hzl : oz + (m + 1) ≤ Cz.length) (hx : Arr w bx Cx) (hxl : ox + (m + 1) ≤ Cx.length) (hsep : bx ≠ bz ∨ oz ≤ ox) :
    Calls Tryz.prog 183 #[.slice (some ⟨bz, oz, none⟩) (m + 1) cz, .slice (some ⟨bx, ox, none⟩) (m + 1) cx, .int .u64 s] w fun e w' =>
      ∃ R c, e = .returned (.int .u64 ((c : Nat) : Int)) ∧ Sub w w' bz (spl Cz oz R) ∧ R.length = m + 1 ∧ val R = val ((Cx.drop ox).take (m + 1)) / 2 ^ s := by
  have hc := rshVU_g_c w bz oz m cz bx ox cx s Cz Cx hn hs0 hs hz hzl hx hxl hsep
  go_enter Tryz.func183, Tryz.ntmps183
  go_wp2_with fail
  refine hc.mono ?_
  rintro e w' ⟨R, c, rfl, h⟩
  go_wp2
  go_ret
  exact ⟨R, c, rfl, h⟩

/-- clear of a row of words. -/
theorem run_clearW (w : World) (T ty : TypeId) (hu : Tryz.prog.underlying T = some (.slice 128)) (bz oz n cz : Nat) (Cz : List Nat) (hz : Arr w bz Cz) (hn : 0 < n) (hfit : oz + n ≤ Cz.length) :
    ∃ w', (Builtin.clear_ #[T] ty #[.slice (some ⟨bz, oz, none⟩) n cz]).run Tryz.prog w = .ok (.tuple #[]) w' ∧ Sub w w' bz (spl Cz oz (List.replicate n 0)) := by
  have h := makeZ
  cases hi : Tryz.prog.info? 128 with
  | none => rw [hi] at h; cases h
  | some i =>
    rw [hi] at h
    simp only [Option.map_some, Option.some.injEq, Prod.mk.injEq] at h
    obtain ⟨h1, h2, h3⟩ := h
    have ez : Builtin.zeroCells (Value.int .u64 0).cells n = ((List.replicate n 0).map uw).toArray := by
      unfold Builtin.zeroCells
      apply Array.ext
      · simp [Value.cells]
      · intro j h1 h2
        simp [Value.cells, uw, Nat.mod_one]
    have hst := run_storeCells_at Tryz.prog bz oz 128 ((List.replicate n 0).map uw) 0 (Cz.map uw).toArray w hz.heap (by simpa using hfit) (by
      intro v hv
      obtain ⟨x, _, rfl⟩ := List.mem_map.1 hv
      rfl)
    have e : (((Cz.map uw).toArray.toList.take (oz + 0)) ++ (List.replicate n 0).map uw ++ (Cz.map uw).toArray.toList.drop (oz + 0 + ((List.replicate n 0).map uw).length)).toArray = ((spl Cz oz (List.replicate n 0)).map uw).toArray := by
      unfold spl; simp
    rw [e] at hst
    refine ⟨w.setRow bz ((spl Cz oz (List.replicate n 0)).map uw).toArray, ?_, ⟨⟨?_, Wd_spl hz.wd (Wd.zeros n)⟩, fun k hk => setRow_other w bz k _ hk, by simp [World.setRow], rfl, rfl, rfl⟩⟩
    · obtain ⟨n, rfl⟩ : ∃ k, n = k + 1 := ⟨n - 1, by omega⟩
      have hz0 : (zeroValue 128).run Tryz.prog w = .ok (.int .u64 0) w := by simp [zeroValue, typeInfo, hi, h1]
      unfold Builtin.clear_
      simp [run_underlying hu, hz0]
      rw [ez, show ((List.map uw (List.replicate (n + 1) 0)).toArray).toList = List.map uw (List.replicate (n + 1) 0) from rfl, hst]
      rfl
    · exact setRow_heap w bz (Cz.map uw).toArray _ 128 (0, 0) hz.heap
theorem wpList_clearW {ops : Array Oper} {rest : List Oper} {o : Oper} {a : Act} {w : World} {Q : Exit → Act → World → Prop} (hgd : o.guard = none) (d : Operand) (T : TypeId)
    (ho : o.op = .call { callee := .builtin .clear, args := #[d], argTypes := #[T] }) (hu : Tryz.prog.underlying T = some (.slice 128))
    (bz oz n cz : Nat) (hd : a.eval d = .slice (some ⟨bz, oz, none⟩) n cz) (Cz : List Nat) (hz : Arr w bz Cz) (hfit : oz + n ≤ Cz.length)
    (h : ∀ w', Sub w w' bz (spl Cz oz (List.replicate n 0)) → wpList Tryz.prog ops Q rest (a.put o.dst (.tuple #[])) w') : wpList Tryz.prog ops Q (o :: rest) a w := by
  refine wpList_plain hgd fun K hK => ?_
  have hrun : ∃ w', (Builtin.clear_ #[T] o.type #[.slice (some ⟨bz, oz, none⟩) n cz]).run Tryz.prog w = .ok (.tuple #[]) w' ∧ Sub w w' bz (spl Cz oz (List.replicate n 0)) := by
    rcases Nat.eq_zero_or_pos n with h0 | h0
    · subst h0
      refine ⟨w, ?_, ?_⟩
      · unfold Builtin.clear_
        simp [run_underlying hu]
      · rw [List.replicate_zero, spl_nil]; exact Sub.refl hz
    · exact run_clearW w T o.type hu bz oz n cz Cz hz h0 hfit
  obtain ⟨w', hrun, hS⟩ := hrun
  unfold Oper.wp
  simp [execOp, ho, resolve, invoke, builtin, hd, hrun, Result.andThen]
  exact hK _ _ (h w' hS)

set_option maxHeartbeats 1000000 in
theorem mulAddWW_c (w : World) (z x : Value) (X y r : Nat) (o ox : Option Nat) (hz : Stor w z o) (hx : IsNat w x X ox) (hn : (digs X).length ≤ 900) (hwy : y < WB) (hwr : r < WB) :
    Calls Tryz.prog 171 #[z, x, .int .u64 y, .int .u64 r] w fun e w' => ∃ v, e = .returned v ∧ NatRes w w' o v (X * y + r) := by
  obtain ⟨pz, lz, cz, rfl⟩ : ∃ p l c, z = .slice p l c := by
    rcases hz with ⟨rfl, _⟩ | ⟨b, l, cap, C, _, rfl, _⟩
    · exact ⟨_, _, _, rfl⟩
    · exact ⟨_, _, _, rfl⟩
  have hs := setWord_c w _ r o hz hwr
  by_cases h0 : X = 0
  · subst h0
    obtain ⟨px, cx, rfl, _, _⟩ := hx.shape
    rw [digs_zero]
    clear hx hz
    go_enter Tryz.func171, Tryz.ntmps171
    go_wp2_with fail
    refine hs.mono ?_
    rintro e w1 ⟨v, rfl, hr⟩
    go_wp2
    go_ret
    rw [Nat.zero_mul, Nat.zero_add]
    exact ⟨_, rfl, hr⟩
  by_cases h1 : y = 0
  · subst h1
    obtain ⟨px, cx, rfl, _, _⟩ := hx.shape
    have e1 := int_eq0 (digs_len_pos h0)
    clear hx hz
    go_enter Tryz.func171, Tryz.ntmps171
    go_wp2_with fail
    refine hs.mono ?_
    rintro e w1 ⟨v, rfl, hr⟩
    go_wp2
    go_ret
    rw [Nat.mul_zero, Nat.zero_add]
    exact ⟨_, rfl, hr⟩
  clear hs
  obtain ⟨bx, cx, Cx, rfl, rfl, hax, hcx, hcapx, htx, hlx, hpx⟩ := hx.pos h0
  have hmk := make_c w _ o hz ((digs X).length + 1) (by omega) (by omega)
  have hvX : val (digs X) = X := val_digs X
  have hwX := Wd_digs X
  generalize hXL : digs X = XL at *
  generalize hm : XL.length = m at *
  have hmk' : Calls Tryz.prog 153 #[.slice pz lz cz, .int .i64 ((m : Int) + 1)] w fun e w' => ∃ r, e = .returned r ∧ MakeRes w w' o r (m + 1) := by exact_mod_cast hmk
  have e1 : ((m : Int) == 0) = false := int_eq0 hpx
  have e2 : ((y : Int) == 0) = false := int_eq0 (by omega)
  have htx' : (Cx.drop 0).take m = XL := htx
  replace hvX := Lib.hid hvX
  replace hXL := Lib.hid hXL
  clear hmk h0 h1 hx htx
  go_enter Tryz.func171, Tryz.ntmps171
  go_wp2_with fail
  refine hmk'.mono ?_
  rintro e w1 ⟨v, rfl, b, cap, C, rfl, ha, hC, hnc, hcap, hb, hchg⟩
  have hax1 := hchg.arr hax (fun h => h)
  have hb2 : (o = some b) ∨ w.heap.size = b := hb.imp (·.1) id
  have k1 : m ≤ cap := by omega
  have hc := mulAddVWW_c w1 b 0 m cap bx 0 cx y r C XL (by omega) ha (by omega) hm hwX hwy hwr (by
    have := Rd.mk (n := m) (oz := 0) (ox := 0) ha (by omega) hax1 (by omega) (.inr (Nat.le_refl _))
    rwa [htx'] at this)
  replace hm := Lib.hid hm
  replace htx' := Lib.hid htx'
  go_wp2_with fail
  refine hc.mono ?_
  rintro e w3 ⟨R, c, rfl, hS, hR, hcw, hv⟩
  have hz1 := hS.arr.cellN (i := m) (by rw [spl_length (by omega)]; omega)
  have hz2 := hS.arr.frozen m
  have hS5 := hS.next (k := m) hR (by omega) c hcw
  rw [Nat.zero_add] at hS5
  have hv5 : val (R ++ [c]) = X * y + r := by
    rw [val_snoc, hR, hv, hvX.out]
  have hl5 : (R ++ [c]).length = m + 1 := by rw [List.length_append, hR]; rfl
  generalize R ++ [c] = L at *
  have hnm := fun w' (ha : Arr w' b (spl C 0 L)) => norm_spl w' b (m + 1) cap C L ha hC hl5 hnc hcap.2
  replace hv := Lib.hid hv
  replace hv5 := Lib.hid hv5
  clear hS hc hmk'
  go_wp2_with fail
  refine (hnm _ hS5.arr).mono ?_
  rintro e w6 ⟨rfl, hw⟩
  obtain rfl := hw
  go_wp2
  go_ret
  have := natRes_spl hb2 hchg hS5 hC (by omega) hcap
  rw [hv5.out] at this
  rw [hv5.out]
  exact ⟨_, rfl, this⟩
end Go.Proofs.YtabggbajgpbmmaaGreatDoor
