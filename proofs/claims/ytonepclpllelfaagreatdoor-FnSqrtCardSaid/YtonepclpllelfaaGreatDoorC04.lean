/- Copies of rows of words; a word added to, or taken off, a row. A word taken off a row of words. Digits of a number in any base: plain facts, no program. -/
import Derived.Laws.CopyOwn
import Derived.LaidEqlPtr
import Derived.Test.YtonepclpllelfaaGreatDoorC01
namespace Go.Proofs.YtonepclpllelfaaGreatDoor
open Go Go.RowKit

theorem infoW : (Tryz.prog.info? 112).map (·.size) = some 1 := by kernel_rfl

theorem wpList_copyW {ops : Array Oper} {rest : List Oper} {o : Oper} {a : Act} {w : World} {Q : Exit → Act → World → Prop} (hgd : o.guard = none) (d s : Operand) (T sT : TypeId)
    (ho : o.op = .call { callee := .builtin .copy, args := #[d, s], argTypes := #[T, sT] }) (hu : Tryz.prog.underlying T = some (.slice 112))
    (bz oz n cz bx ox ns cs : Nat) (hd : a.eval d = .slice (some ⟨bz, oz, none⟩) n cz) (hs : a.eval s = .slice (some ⟨bx, ox, none⟩) ns cs)
    (Cz X : List Nat) (hz : Arr w bz Cz) (WX : Wd X) (hX : X.length = Nat.min ns n) (hfit : oz + X.length ≤ Cz.length)
    (hsrc : ∀ j, j < X.length → w.cell? ⟨bx, ox + j, none⟩ = some (.int .u64 (nth X j : Int)))
    (h : ∀ w', Sub w w' bz (spl Cz oz X) → wpList Tryz.prog ops Q rest (a.put o.dst (.int .i64 (X.length : Int))) w') : wpList Tryz.prog ops Q (o :: rest) a w := by
  refine wpList_copy_own hgd d s T sT ho 112 hu infoW bz oz n cz ⟨bx, ox, none⟩ ns cs hd hs (Cz.map uw).toArray 112 hz.heap (X.map uw) (by simpa using hX) ?_ (by simpa using hfit) ?_ ?_
  · intro j v hv
    rw [List.getElem?_map] at hv
    cases hj : X[j]? with
    | none => rw [hj] at hv; cases hv
    | some x =>
      rw [hj] at hv
      have hlt : j < X.length := by
        rcases Nat.lt_or_ge j X.length with h' | h'
        · exact h'
        · rw [List.getElem?_eq_none h'] at hj; cases hj
      have := hsrc j hlt
      rw [nth_of hj] at this
      simp only [Option.map_some, Option.some.injEq] at hv
      subst hv
      have e : (⟨bx, ox, none⟩ : Addr).add j = ⟨bx, ox + j, none⟩ := by unfold Addr.add; split <;> simp_all
      rw [e]; exact this
  · intro v hv
    obtain ⟨x, _, rfl⟩ := List.mem_map.1 hv
    rfl
  · have e : (List.take oz (Cz.map uw).toArray.toList ++ (X.map uw ++ List.drop (oz + (X.map uw).length) (Cz.map uw).toArray.toList)).toArray = ((spl Cz oz X).map uw).toArray := by
      unfold spl; simp
    rw [e]
    have hl : (X.map uw).length = X.length := by simp
    rw [hl]
    refine h _ ⟨⟨?_, Wd_spl hz.wd WX⟩, fun k hk => ?_, ?_, rfl, rfl, rfl⟩
    · have := setRow_heap w bz (Cz.map uw).toArray ((spl Cz oz X).map uw).toArray 112 (0, 0) hz.heap
      exact this
    · exact setRow_other w bz k _ hk
    · simp [World.setRow]

theorem run_neq_ptr_other {P : Program} {w : World} {tp te : TypeId} {j : TypeInfo} {a b : Addr} {ca cb : Array Value} {ta tb : TypeId} (hp : P.underlying tp = some (.pointer te)) (hte : P.info? te = some j) (hsz : j.size ≠ 0)
    (hne : a ≠ b) (ha : w.heap[a.block]? = some (.cells ca ta (0, 0))) (hb : w.heap[b.block]? = some (.cells cb tb (0, 0))) :
    (binOp .neq tp (.pointer (some a)) (.pointer (some b))).run P w = .ok (.bool true) w := by
  have h : ∀ d : Nat, (Op.equalIn (d + 1) tp (.pointer (some a)) (.pointer (some b))).run P w = .ok false w := fun d => by
    simp [Op.equalIn, run_underlying hp, sizeOf, typeInfo, hte, hsz, run_sameAddr_other w hne ha hb]
  simp only [binOp]
  simp [Op.equal, Op.maxDepth, h 9999]
theorem run_neq_ptr_same {P : Program} {w : World} {tp te : TypeId} {j : TypeInfo} (a : Addr) (hp : P.underlying tp = some (.pointer te)) (hte : P.info? te = some j) :
    (binOp .neq tp (.pointer (some a)) (.pointer (some a))).run P w = .ok (.bool false) w := by
  have h : ∀ d : Nat, (Op.equalIn (d + 1) tp (.pointer (some a)) (.pointer (some a))).run P w = .ok true w := fun d => by
    simp [Op.equalIn, run_underlying hp, sizeOf, typeInfo, hte, run_sameAddr_same]
  simp only [binOp]
  simp [Op.equal, Op.maxDepth, h 9999]
theorem infoWj : ∃ j, Tryz.prog.info? 112 = some j ∧ j.size ≠ 0 := by
  have h := infoW
  cases hj : Tryz.prog.info? 112 with
  | none => rw [hj] at h; cases h
  | some j => rw [hj] at h; exact ⟨j, rfl, by simp at h; omega⟩
theorem neq_word_ptr {w : World} {bz oz bx ox : Nat} {Cz Cx : List Nat} (hz : Arr w bz Cz) (hx : Arr w bx Cx) (hne : bx ≠ bz) (n : Nat) :
    (binOp .neq 211 (.pointer (some ⟨bz, oz, none⟩)) (.pointer (some ⟨bx, ox, none⟩))).run Tryz.prog (w.drewN n) = .ok (.bool true) (w.drewN n) := by
  obtain ⟨j, hj, hs⟩ := infoWj
  exact run_neq_ptr_other Tryz.underlying211 hj hs (fun e => hne (congrArg Addr.block e).symm) (hz.drewN n).heap (hx.drewN n).heap
theorem neq_word_ptr_same {w : World} (a : Addr) (n : Nat) : (binOp .neq 211 (.pointer (some a)) (.pointer (some a))).run Tryz.prog (w.drewN n) = .ok (.bool false) (w.drewN n) := by
  obtain ⟨j, hj, hs⟩ := infoWj
  exact run_neq_ptr_same a Tryz.underlying211 hj
theorem dt_drop (C : List Nat) (o n k : Nat) : ((C.drop o).take n).drop k = (C.drop (o + k)).take (n - k) := by
  rw [List.drop_take, List.drop_drop]
theorem spl_self {C R : List Nat} {o n : Nat} (h : o + n ≤ C.length) (hR : R.length ≤ n) : spl C o (R ++ ((C.drop o).take n).drop R.length) = spl C o R := by
  apply List.ext_getElem?
  intro j
  have hl : (R ++ ((C.drop o).take n).drop R.length).length = n := by simp; omega
  by_cases h1 : j < o
  · rw [spl_lt (by omega) h1, spl_lt (by omega) h1]
  · by_cases h2 : j < o + R.length
    · obtain ⟨d, rfl⟩ : ∃ d, j = o + d := ⟨j - o, by omega⟩
      rw [spl_mid (by omega) (by omega), spl_mid (by omega) (by omega), List.getElem?_append_left (by omega)]
    · by_cases h3 : j < o + n
      · obtain ⟨d, rfl⟩ : ∃ d, j = o + R.length + d := ⟨j - (o + R.length), by omega⟩
        rw [Nat.add_assoc, spl_mid (by omega) (by omega), ← Nat.add_assoc, spl_ge (by omega) (by omega), List.getElem?_append_right (by omega), List.getElem?_drop, List.getElem?_take_of_lt (by omega), List.getElem?_drop]
        congr 1; omega
      · rw [spl_ge (by omega) (by omega), spl_ge (by omega) (by omega)]
/-- What is behind a prefix stays. -/
theorem val_tail {X R : List Nat} {k v : Nat} (hk : k ≤ X.length) (hR : R.length = k) (h : val R = v + val (X.take k)) : val (R ++ X.drop k) = v + val X := by
  rw [val_append, hR, h, val_take_drop X k hk, Nat.add_assoc]
theorem val_tail_sub {X R : List Nat} {k v : Nat} (hk : k ≤ X.length) (hR : R.length = k) (h : val R + v = val (X.take k)) : val (R ++ X.drop k) + v = val X := by
  rw [val_append, hR, val_take_drop X k hk, ← h]; omega
theorem Sub.tail {w w1 w2 : World} {bz oz : Nat} {Cz R T : List Nat} (h1 : Sub w w1 bz (spl Cz oz R)) {k : Nat} (hk : R.length = k) (h2 : Sub w1 w2 bz (spl (spl Cz oz R) (oz + k) T)) (hl : oz + k + T.length ≤ Cz.length) :
    Sub w w2 bz (spl Cz oz (R ++ T)) := by
  subst hk
  have := h1.trans h2
  rwa [spl_spl_next hl] at this
set_option maxRecDepth 100000 in
set_option maxHeartbeats 2000000 in
theorem addVW_c (w : World) (bz oz m cz bx ox cx y : Nat) (Cz Cx : List Nat) (hn : m < 1000000) (hy : y ≤ 1)
    (hz : Arr w bz Cz) (hzl : oz + (m + 1) ≤ Cz.length) (hx : Arr w bx Cx) (hxl : ox + (m + 1) ≤ Cx.length) (hcase : bx ≠ bz ∨ (bx = bz ∧ ox = oz)) (hc0 : m + 1 ≤ cz) (hc1 : m + 1 ≤ cx) :
    Calls Tryz.prog 161 #[.slice (some ⟨bz, oz, none⟩) (m + 1) cz, .slice (some ⟨bx, ox, none⟩) (m + 1) cx, .int .u64 y] w fun e w' =>
      ∃ R c, e = .returned (.int .u64 ((c : Nat) : Int)) ∧ Sub w w' bz (spl Cz oz R) ∧ R.length = m + 1 ∧ c ≤ 1 ∧ val R + WB ^ (m + 1) * c = val ((Cx.drop ox).take (m + 1)) + y := by
  have e1 : ((m : Int) + 1 == 0) = false := by simp; omega
  have hX : ((Cx.drop ox).take (m + 1)).length = m + 1 := by simp; omega
  replace hX := Lib.hid hX
  have hl := hx.cellN (i := ox) (by omega)
  have hwl := hx.wd.nth ox
  have hz1 := hz.cellN (i := oz) (by omega)
  have hz2 := hz.frozen oz
  have hx0 : val (((Cx.drop ox).take (m + 1)).take 1) = nth Cx ox := by
    rw [val_take_succ (by rw [hX.out]; omega), nth_dt _ _ _ _ (by omega)]; simp
  have hsum := adds_addc (nth Cx ox) y 0
  have hyw : y < WB := Nat.lt_of_le_of_lt hy (by rw [WB_eq]; decide)
  have hcc := addc_le hwl hyw (Nat.zero_le 1)
  replace hx0 := Lib.hid hx0
  replace hsum := Lib.hid hsum
  replace hcc := Lib.hid hcc
  go_enter Tryz.func161, Tryz.ntmps161
  go_wp2_with (go_at_call 193; refine (bits_Add _ _ 0 hwl hyw (by omega) _).mono ?_; rintro e w' ⟨rfl, hw⟩; obtain rfl := hw.symm)
  · have hc0' : addc (nth Cx ox) y 0 = 0 := by simpa using ‹((addc (nth Cx ox) y 0 : Int) == 0) = true›
    have hS1 := (Sub.refl hz).set (i := oz) _ (adds_lt (nth Cx ox) y 0)
    have hsp : Cz.set oz (adds (nth Cx ox) y 0) = spl Cz oz [adds (nth Cx ox) y 0] := by
      have := spl_next (C := Cz) (o := oz) (R := []) (by simp; omega) (adds (nth Cx ox) y 0)
      rw [spl_nil] at this; simpa using this
    rw [hsp] at hS1
    clear hsp
    replace hc0' := Lib.hid hc0'
    generalize w.setCell ⟨bz, oz, none⟩ _ = w1 at hS1 ⊢
    have hv : val [adds (nth Cx ox) y 0] = y + val (((Cx.drop ox).take (m + 1)).take 1) := by
      have h1 := hsum.out; have h2 := hx0.out; have h3 := hc0'.out; rw [h3] at h1; rw [h2]; simp [val]; omega
    replace hv := Lib.hid hv
    rcases hcase with hne | ⟨rfl, rfl⟩
    · have hxw := hS1.other hne hx
      have hp := neq_word_ptr (oz := oz) (ox := ox) hS1.arr hxw hne
      go_quiet (fail)
      clear hp
      by_cases hm : 0 < m
      · have h1 : (1 : Int) ≤ (m : Int) + 1 := by omega
        have h2 : ¬ cz = 1 := by omega
        have h3 : ¬ cx = 1 := by omega
        go_wp2
        go_still_tail 4, (by kernel_rfl)
        change wpList _ _ _ _ _ (w1.drewN _).drew
        have hT : ((Cx.drop (ox + 1)).take m).length = m := by simp; omega
        refine wpList_copyW rfl (.tmp 40) (.tmp 42) 48 48 rfl Tryz.underlying48 bz (oz + 1) m (cz - 1) bx (ox + 1) m (cx - 1) rfl rfl _ ((Cx.drop (ox + 1)).take m) ((hS1.drewN _).drew).arr ((hx.wd.drop _).take _) ?_ ?_ ?_ ?_
        · rw [hT]; simp
        · rw [hT, spl_length (by simp; omega)]; omega
        · intro j hj
          rw [hT] at hj
          rw [nth_dt _ _ _ _ hj]
          exact hxw.cellN (by omega)
        intro w2 hS2
        have hS3 := Sub.tail ((hS1.drewN _).drew) (k := 1) rfl hS2 (by rw [hT]; omega)
        go_wp2
        go_ret
        refine ⟨_, 0, rfl, hS3, by simp; omega, by omega, ?_⟩
        have := val_tail (k := 1) (by rw [hX.out]; omega) rfl hv.out
        rw [dt_drop, Nat.add_sub_cancel] at this
        rw [this]; omega
      · obtain rfl : m = 0 := by omega
        have h1 : (1 : Int) ≤ ((0 : Nat) : Int) + 1 := by omega
        go_wp2
        go_still_tail 4, (by kernel_rfl)
        change wpList _ _ _ _ _ (w1.drewN _).drew
        refine wpList_copy_nothing rfl (.tmp 40) (.tmp 42) 48 48 rfl 112 Tryz.underlying48 infoW _ _ 0 (cz - 1) 0 (cx - 1) rfl rfl rfl ?_
        have hend : val [adds (nth Cx ox) y 0] + WB * 0 = val (List.take 1 (List.drop ox Cx)) + y := by
          have := hv.out
          rw [this, List.take_of_length_le (by rw [hX.out]; omega)]; simp; omega
        replace hend := Lib.hid hend
        go_wp2
        all_goals
          go_ret
          exact ⟨_, 0, rfl, (hS1.drewN _).drew, rfl, by omega, hend.out⟩
    · obtain rfl := hz.inj hx
      have hp := neq_word_ptr_same (w := w1) ⟨bx, ox, none⟩
      go_quiet (fail)
      go_wp2
      go_ret
      have hs := spl_self (C := Cz) (o := ox) (n := m + 1) (R := [adds (nth Cz ox) y 0]) (by omega) (by simp)
      refine ⟨_, 0, rfl, by rw [hs]; exact hS1.drewN _, by simp; omega, by omega, ?_⟩
      have := val_tail (k := 1) (by rw [hX.out]; omega) rfl hv.out
      rw [List.length_singleton, this]; omega
  · have hc1' : addc (nth Cx ox) y 0 = 1 := by
      have h := ‹((addc (nth Cx ox) y 0 : Int) == 0) = false›
      have := hcc.out
      simp at h; omega
    have hS1 := (Sub.refl hz).set (i := oz) _ (adds_lt (nth Cx ox) y 0)
    have hsp : Cz.set oz (adds (nth Cx ox) y 0) = spl Cz oz [adds (nth Cx ox) y 0] := by
      have := spl_next (C := Cz) (o := oz) (R := []) (by simp; omega) (adds (nth Cx ox) y 0)
      rw [spl_nil] at this; simpa using this
    rw [hsp] at hS1
    clear hsp
    replace hc1' := Lib.hid hc1'
    generalize w.setCell ⟨bz, oz, none⟩ _ = w1 at hS1 ⊢
    have hv : val [adds (nth Cx ox) y 0] + WB ^ 1 * 1 = y + val (((Cx.drop ox).take (m + 1)).take 1) := by
      have h1 := hsum.out; have h2 := hx0.out; have h3 := hc1'.out; rw [h3] at h1; rw [h2]; simp [val]; omega
    replace hv := Lib.hid hv

    go_loopw [9] (fun i wr => ∃ k : Nat, k ≤ m ∧ i = .int .i64 (k + 1) ∧ ∃ R : List Nat, R.length = k + 1 ∧ val R + WB ^ (k + 1) * 1 = y + val (((Cx.drop ox).take (m + 1)).take (k + 1)) ∧ Sub w wr bz (spl Cz oz R)) (fun i _ => m + 1 - (intOf i).toNat)
    case atStart => exact ⟨0, by omega, by go_num, _, rfl, hv.out, hS1⟩
    case round =>
      obtain ⟨k, hk, rfl, R, hR1, hR3, hS⟩ := hrel
      by_cases hlt : k < m
      · have hxk := hS.read (p := ox + (k + 1)) hz hx (by omega) (by omega) (by rcases hcase with h | ⟨h1, h2⟩ <;> omega)
        have hwx := hx.wd.nth (ox + (k + 1))
        have hz1 := hS.arr.cellN (i := oz + (k + 1)) (by rw [spl_length (by omega)]; omega)
        have hz2 := hS.arr.frozen (oz + (k + 1))
        replace hR3 := Lib.hid hR3
        replace hR1 := Lib.hid hR1
        go_wp2


        · have hxm : nth Cx (ox + (k + 1)) + 1 < WB := by
            have h := ‹((nth Cx (ox + (k + 1)) : Int) != 18446744073709551615) = true›
            rw [WB_eq] at *
            simp at h; omega
          have hww := wrap_u64_nat _ hxm
          rw [Int.natCast_add] at hww
          rw [show ((1 : Nat) : Int) = 1 from rfl] at hww
          rw [hww]
          have hS1 := hS.next hR1.out (by omega) _ hxm
          have hstep : val (R ++ [nth Cx (ox + (k + 1)) + 1]) = y + val (((Cx.drop ox).take (m + 1)).take (k + 1 + 1)) := by
            have h3 := hR3.out
            rw [val_snoc, hR1.out, val_take_succ (by rw [hX.out]; omega), nth_dt _ _ _ _ (by omega), Nat.mul_add]; omega
          have hl2 : (R ++ [nth Cx (ox + (k + 1)) + 1]).length = k + 1 + 1 := by simp; exact hR1.out
          rw [show ((nth Cx (ox + (k + 1)) : Int) + 1) = ((nth Cx (ox + (k + 1)) + 1 : Nat) : Int) from by simp]
          generalize wr.setCell ⟨bz, oz + (k + 1), none⟩ _ = w3 at hS1 ⊢
          generalize R ++ [nth Cx (ox + (k + 1)) + 1] = R' at hS1 hstep hl2
          replace hstep := Lib.hid hstep
          replace hl2 := Lib.hid hl2
          clear hww
          rcases hcase with hne | ⟨rfl, rfl⟩
          · have hxw := hS1.other hne hx
            have hp := neq_word_ptr (oz := oz) (ox := ox) hS1.arr hxw hne
            go_quiet (fail)
            clear hp
            have i1 : IntKind.i64.wrap ((k : Int) + 1 + 1) = (k : Int) + 1 + 1 := IntWalk.i64_in _ (by omega)
            have i2 : (0 : Int) ≤ (k : Int) + 1 + 1 := by omega
            have i3 : ((k : Int) + 1 + 1).toNat = k + 2 := by omega
            have i4 : (k : Int) + 1 + 1 ≤ (m : Int) + 1 := by omega
            by_cases hm : k + 1 < m
            · have h2 : ¬ cz = k + 2 := by omega
              have h3 : ¬ cx = k + 2 := by omega
              go_wp2
              go_still_tail 8, (by kernel_rfl)
              change wpList _ _ _ _ _ (w3.drewN _).drew
              have hT : ((Cx.drop (ox + (k + 2))).take (m - (k + 1))).length = m - (k + 1) := by simp; omega
              refine wpList_copyW rfl (.tmp 69) (.tmp 73) 48 48 rfl Tryz.underlying48 bz (oz + (k + 2)) (m - (k + 1)) (cz - (k + 2)) bx (ox + (k + 2)) (m - (k + 1)) (cx - (k + 2)) rfl rfl _ ((Cx.drop (ox + (k + 2))).take (m - (k + 1))) ((hS1.drewN _).drew).arr ((hx.wd.drop _).take _) ?_ ?_ ?_ ?_
              · rw [hT]; simp
              · have := hl2.out; rw [hT, spl_length (by omega)]; omega
              · intro j hj
                rw [hT] at hj
                rw [nth_dt _ _ _ _ hj]
                exact hxw.cellN (by omega)
              intro w4 hS4
              have hS5 := Sub.tail ((hS1.drewN _).drew) (k := k + 2) hl2.out hS4 (by rw [hT]; omega)
              go_wp2
              go_ret
              refine ⟨_, 0, rfl, hS5, by rw [List.length_append, hT, hl2.out]; omega, by omega, ?_⟩
              have := val_tail (k := k + 2) (by rw [hX.out]; omega) hl2.out hstep.out
              rw [dt_drop, show m + 1 - (k + 2) = m - (k + 1) by omega] at this
              rw [this]; omega
            · obtain rfl : m = k + 1 := by omega
              go_wp2
              go_still_tail 8, (by kernel_rfl)
              change wpList _ _ _ _ _ (w3.drewN _).drew
              refine wpList_copy_nothing rfl (.tmp 69) (.tmp 73) 48 48 rfl 112 Tryz.underlying48 infoW _ _ _ _ _ _ rfl rfl (by simp) ?_
              have hend : val R' + WB ^ (k + 2) * 0 = val (List.take (k + 2) (List.drop ox Cx)) + y := by
                have := hstep.out
                rw [List.take_of_length_le (by rw [hX.out]; omega)] at this
                rw [Nat.mul_zero, Nat.add_zero, this, Nat.add_comm]
              replace hend := Lib.hid hend
              go_wp2
              all_goals
                go_ret
                exact ⟨_, 0, rfl, (hS1.drewN _).drew, hl2.out, by omega, hend.out⟩
          · obtain rfl := hz.inj hx
            have hp := neq_word_ptr_same (w := w3) ⟨bx, ox, none⟩
            go_quiet (fail)
            go_wp2
            go_ret
            have hs := spl_self (C := Cz) (o := ox) (n := m + 1) (R := R') (by omega) (by rw [hl2.out]; omega)
            refine ⟨_, 0, rfl, by rw [hs]; exact Sub.drewN (by assumption) _, by simp; have := hl2.out; omega, by omega, ?_⟩
            have := val_tail (k := k + 1 + 1) (by rw [hX.out]; omega) hl2.out hstep.out
            rw [hl2.out, this]; omega
        · go_roundw
          case rel =>
            have hxm : nth Cx (ox + (k + 1)) + 1 = WB := by
              have h := ‹((nth Cx (ox + (k + 1)) : Int) != 18446744073709551615) = false›
              rw [WB_eq] at *
              simp at h; omega
            refine ⟨k + 1, by omega, by go_num, R ++ [0], by simp; exact hR1.out, ?_, by exact hS.next hR1.out (by omega) 0 WB_pos⟩
            have h3 := hR3.out
            rw [val_snoc, hR1.out, val_take_succ (by rw [hX.out]; omega), nth_dt _ _ _ _ (by omega)]
            have h4 : WB ^ (k + 1 + 1) = WB ^ (k + 1) * nth Cx (ox + (k + 1)) + WB ^ (k + 1) := by
              rw [Nat.pow_succ WB (k + 1), ← hxm, Nat.mul_add, Nat.mul_one]
            omega
          case measure => simp [intOf]; omega
      · obtain rfl : k = m := by omega
        replace hR3 := Lib.hid hR3
        replace hR1 := Lib.hid hR1
        go_wp2
        go_ret
        refine ⟨R, 1, rfl, hS, hR1.out, by omega, ?_⟩
        have := hR3.out
        rw [List.take_of_length_le (by rw [hX.out]; omega)] at this
        omega
end Go.Proofs.YtonepclpllelfaaGreatDoor

namespace Go.Proofs.YtonepclpllelfaaGreatDoor
open Go Go.RowKit
theorem castmax : ((WB - 1 : Nat) : Int) = 18446744073709551615 := by rw [WB_eq]; omega
theorem store_max {w wr : World} {b o k : Nat} {C R : List Nat} (h : Sub w wr b (spl C o R)) (hk : R.length = k) (hl : o + k < C.length) :
    Sub w (wr.setCell ⟨b, o + k, none⟩ (.int .u64 18446744073709551615)) b (spl C o (R ++ [WB - 1])) := by
  have := h.next hk hl (WB - 1) (by have := WB_pos; omega)
  rwa [castmax] at this
set_option maxRecDepth 100000 in
set_option maxHeartbeats 2000000 in
theorem subVW_c (w : World) (bz oz m cz bx ox cx y : Nat) (Cz Cx : List Nat) (hn : m < 1000000) (hy : y ≤ 1)
    (hz : Arr w bz Cz) (hzl : oz + (m + 1) ≤ Cz.length) (hx : Arr w bx Cx) (hxl : ox + (m + 1) ≤ Cx.length) (hcase : bx ≠ bz ∨ (bx = bz ∧ ox = oz)) (hc0 : m + 1 ≤ cz) (hc1 : m + 1 ≤ cx) :
    Calls Tryz.prog 163 #[.slice (some ⟨bz, oz, none⟩) (m + 1) cz, .slice (some ⟨bx, ox, none⟩) (m + 1) cx, .int .u64 y] w fun e w' =>
      ∃ R c, e = .returned (.int .u64 ((c : Nat) : Int)) ∧ Sub w w' bz (spl Cz oz R) ∧ R.length = m + 1 ∧ c ≤ 1 ∧ val ((Cx.drop ox).take (m + 1)) + WB ^ (m + 1) * c = val R + y := by
  have e1 : ((m : Int) + 1 == 0) = false := by simp; omega
  have hX : ((Cx.drop ox).take (m + 1)).length = m + 1 := by simp; omega
  replace hX := Lib.hid hX
  have hl := hx.cellN (i := ox) (by omega)
  have hwl := hx.wd.nth ox
  have hz1 := hz.cellN (i := oz) (by omega)
  have hz2 := hz.frozen oz
  have hx0 : val (((Cx.drop ox).take (m + 1)).take 1) = nth Cx ox := by
    rw [val_take_succ (by rw [hX.out]; omega), nth_dt _ _ _ _ (by omega)]; simp
  have hyw : y < WB := Nat.lt_of_le_of_lt hy (by rw [WB_eq]; decide)
  have hsum := subs_subc hwl hyw (Nat.zero_le 1)
  have hcc := subc_le (nth Cx ox) y 0
  replace hx0 := Lib.hid hx0
  replace hsum := Lib.hid hsum
  replace hcc := Lib.hid hcc
  go_enter Tryz.func163, Tryz.ntmps163
  go_wp2_with (go_at_call 195; refine (bits_Sub _ _ 0 (by omega) _).mono ?_; rintro e w' ⟨rfl, hw⟩; obtain rfl := hw.symm)
  · have hc0' : subc (nth Cx ox) y 0 = 0 := by simpa using ‹((subc (nth Cx ox) y 0 : Int) == 0) = true›
    have hS1 := (Sub.refl hz).set (i := oz) _ (subs_lt (nth Cx ox) y 0)
    have hsp : Cz.set oz (subs (nth Cx ox) y 0) = spl Cz oz [subs (nth Cx ox) y 0] := by
      have := spl_next (C := Cz) (o := oz) (R := []) (by simp; omega) (subs (nth Cx ox) y 0)
      rw [spl_nil] at this; simpa using this
    rw [hsp] at hS1
    clear hsp
    replace hc0' := Lib.hid hc0'
    generalize w.setCell ⟨bz, oz, none⟩ _ = w1 at hS1 ⊢
    have hv : val [subs (nth Cx ox) y 0] + y = val (((Cx.drop ox).take (m + 1)).take 1) := by
      have h1 := hsum.out; have h2 := hx0.out; have h3 := hc0'.out; rw [h3] at h1; rw [h2]; simp [val]; omega
    replace hv := Lib.hid hv
    rcases hcase with hne | ⟨rfl, rfl⟩
    · have hxw := hS1.other hne hx
      have hp := neq_word_ptr (oz := oz) (ox := ox) hS1.arr hxw hne
      go_quiet (fail)
      clear hp
      by_cases hm : 0 < m
      · have h1 : (1 : Int) ≤ (m : Int) + 1 := by omega
        have h2 : ¬ cz = 1 := by omega
        have h3 : ¬ cx = 1 := by omega
        go_wp2
        go_still_tail 4, (by kernel_rfl)
        change wpList _ _ _ _ _ (w1.drewN _).drew
        have hT : ((Cx.drop (ox + 1)).take m).length = m := by simp; omega
        refine wpList_copyW rfl (.tmp 40) (.tmp 42) 48 48 rfl Tryz.underlying48 bz (oz + 1) m (cz - 1) bx (ox + 1) m (cx - 1) rfl rfl _ ((Cx.drop (ox + 1)).take m) ((hS1.drewN _).drew).arr ((hx.wd.drop _).take _) ?_ ?_ ?_ ?_
        · rw [hT]; simp
        · rw [hT, spl_length (by simp; omega)]; omega
        · intro j hj
          rw [hT] at hj
          rw [nth_dt _ _ _ _ hj]
          exact hxw.cellN (by omega)
        intro w2 hS2
        have hS3 := Sub.tail ((hS1.drewN _).drew) (k := 1) rfl hS2 (by rw [hT]; omega)
        go_wp2
        go_ret
        refine ⟨_, 0, rfl, hS3, by simp; omega, by omega, ?_⟩
        have := val_tail_sub (k := 1) (by rw [hX.out]; omega) rfl hv.out
        rw [dt_drop, Nat.add_sub_cancel] at this
        rw [this]; omega
      · obtain rfl : m = 0 := by omega
        have h1 : (1 : Int) ≤ ((0 : Nat) : Int) + 1 := by omega
        go_wp2
        go_still_tail 4, (by kernel_rfl)
        change wpList _ _ _ _ _ (w1.drewN _).drew
        refine wpList_copy_nothing rfl (.tmp 40) (.tmp 42) 48 48 rfl 112 Tryz.underlying48 infoW _ _ 0 (cz - 1) 0 (cx - 1) rfl rfl rfl ?_
        have hend : val (List.take 1 (List.drop ox Cx)) + WB * 0 = val [subs (nth Cx ox) y 0] + y := by
          have := hv.out
          rw [this, List.take_take]; simp
        replace hend := Lib.hid hend
        go_wp2
        all_goals
          go_ret
          exact ⟨_, 0, rfl, (hS1.drewN _).drew, rfl, by omega, hend.out⟩
    · obtain rfl := hz.inj hx
      have hp := neq_word_ptr_same (w := w1) ⟨bx, ox, none⟩
      go_quiet (fail)
      go_wp2
      go_ret
      have hs := spl_self (C := Cz) (o := ox) (n := m + 1) (R := [subs (nth Cz ox) y 0]) (by omega) (by simp)
      refine ⟨_, 0, rfl, by rw [hs]; exact hS1.drewN _, by simp; omega, by omega, ?_⟩
      have := val_tail_sub (k := 1) (by rw [hX.out]; omega) rfl hv.out
      rw [List.length_singleton, this]; omega
  · have hc1' : subc (nth Cx ox) y 0 = 1 := by
      have h := ‹((subc (nth Cx ox) y 0 : Int) == 0) = false›
      have := hcc.out
      simp at h; omega
    have hS1 := (Sub.refl hz).set (i := oz) _ (subs_lt (nth Cx ox) y 0)
    have hsp : Cz.set oz (subs (nth Cx ox) y 0) = spl Cz oz [subs (nth Cx ox) y 0] := by
      have := spl_next (C := Cz) (o := oz) (R := []) (by simp; omega) (subs (nth Cx ox) y 0)
      rw [spl_nil] at this; simpa using this
    rw [hsp] at hS1
    clear hsp
    replace hc1' := Lib.hid hc1'
    generalize w.setCell ⟨bz, oz, none⟩ _ = w1 at hS1 ⊢
    have hv : val (((Cx.drop ox).take (m + 1)).take 1) + WB ^ 1 * 1 = val [subs (nth Cx ox) y 0] + y := by
      have h1 := hsum.out; have h2 := hx0.out; have h3 := hc1'.out; rw [h3] at h1; rw [h2]; simp [val]; omega
    replace hv := Lib.hid hv

    go_loopw [9] (fun i wr => ∃ k : Nat, k ≤ m ∧ i = .int .i64 (k + 1) ∧ ∃ R : List Nat, R.length = k + 1 ∧ val (((Cx.drop ox).take (m + 1)).take (k + 1)) + WB ^ (k + 1) * 1 = val R + y ∧ Sub w wr bz (spl Cz oz R)) (fun i _ => m + 1 - (intOf i).toNat)
    case atStart => exact ⟨0, by omega, by go_num, _, rfl, hv.out, hS1⟩
    case round =>
      obtain ⟨k, hk, rfl, R, hR1, hR3, hS⟩ := hrel
      by_cases hlt : k < m
      · have hxk := hS.read (p := ox + (k + 1)) hz hx (by omega) (by omega) (by rcases hcase with h | ⟨h1, h2⟩ <;> omega)
        have hwx := hx.wd.nth (ox + (k + 1))
        have hz1 := hS.arr.cellN (i := oz + (k + 1)) (by rw [spl_length (by omega)]; omega)
        have hz2 := hS.arr.frozen (oz + (k + 1))
        replace hR3 := Lib.hid hR3
        replace hR1 := Lib.hid hR1
        go_wp2


        · obtain ⟨x, hxx⟩ : ∃ x, nth Cx (ox + (k + 1)) = x + 1 := by
            have h := ‹((nth Cx (ox + (k + 1)) : Int) != 0) = true›
            simp at h
            exact ⟨nth Cx (ox + (k + 1)) - 1, by omega⟩
          rw [hxx] at hwx
          have hxm : x < WB := by omega
          have hww := wrap_u64_nat _ hxm
          rw [hxx]
          rw [show (((x + 1 : Nat) : Int) - 1) = (x : Int) from by omega]
          try rw [hww]
          have hS1 := hS.next hR1.out (by omega) _ hxm
          have hstep : val (R ++ [x]) + y = val (((Cx.drop ox).take (m + 1)).take (k + 1 + 1)) := by
            have h3 := hR3.out
            rw [val_snoc, hR1.out, val_take_succ (by rw [hX.out]; omega), nth_dt _ _ _ _ (by omega), hxx, Nat.mul_add]; omega
          have hl2 : (R ++ [x]).length = k + 1 + 1 := by simp; exact hR1.out
          generalize wr.setCell ⟨bz, oz + (k + 1), none⟩ _ = w3 at hS1 ⊢
          generalize R ++ [x] = R' at hS1 hstep hl2
          replace hstep := Lib.hid hstep
          replace hl2 := Lib.hid hl2
          clear hww
          rcases hcase with hne | ⟨rfl, rfl⟩
          · have hxw := hS1.other hne hx
            have hp := neq_word_ptr (oz := oz) (ox := ox) hS1.arr hxw hne
            go_quiet (fail)
            clear hp
            have i1 : IntKind.i64.wrap ((k : Int) + 1 + 1) = (k : Int) + 1 + 1 := IntWalk.i64_in _ (by omega)
            have i2 : (0 : Int) ≤ (k : Int) + 1 + 1 := by omega
            have i3 : ((k : Int) + 1 + 1).toNat = k + 2 := by omega
            have i4 : (k : Int) + 1 + 1 ≤ (m : Int) + 1 := by omega
            by_cases hm : k + 1 < m
            · have h2 : ¬ cz = k + 2 := by omega
              have h3 : ¬ cx = k + 2 := by omega
              go_wp2
              go_still_tail 8, (by kernel_rfl)
              change wpList _ _ _ _ _ (w3.drewN _).drew
              have hT : ((Cx.drop (ox + (k + 2))).take (m - (k + 1))).length = m - (k + 1) := by simp; omega
              refine wpList_copyW rfl (.tmp 69) (.tmp 73) 48 48 rfl Tryz.underlying48 bz (oz + (k + 2)) (m - (k + 1)) (cz - (k + 2)) bx (ox + (k + 2)) (m - (k + 1)) (cx - (k + 2)) rfl rfl _ ((Cx.drop (ox + (k + 2))).take (m - (k + 1))) ((hS1.drewN _).drew).arr ((hx.wd.drop _).take _) ?_ ?_ ?_ ?_
              · rw [hT]; simp
              · have := hl2.out; rw [hT, spl_length (by omega)]; omega
              · intro j hj
                rw [hT] at hj
                rw [nth_dt _ _ _ _ hj]
                exact hxw.cellN (by omega)
              intro w4 hS4
              have hS5 := Sub.tail ((hS1.drewN _).drew) (k := k + 2) hl2.out hS4 (by rw [hT]; omega)
              go_wp2
              go_ret
              refine ⟨_, 0, rfl, hS5, by rw [List.length_append, hT, hl2.out]; omega, by omega, ?_⟩
              have := val_tail_sub (k := k + 2) (by rw [hX.out]; omega) hl2.out hstep.out
              rw [dt_drop, show m + 1 - (k + 2) = m - (k + 1) by omega] at this
              rw [this]; omega
            · obtain rfl : m = k + 1 := by omega
              go_wp2
              go_still_tail 8, (by kernel_rfl)
              change wpList _ _ _ _ _ (w3.drewN _).drew
              refine wpList_copy_nothing rfl (.tmp 69) (.tmp 73) 48 48 rfl 112 Tryz.underlying48 infoW _ _ _ _ _ _ rfl rfl (by simp) ?_
              have hend : val (List.take (k + 2) (List.drop ox Cx)) + WB ^ (k + 2) * 0 = val R' + y := by
                have := hstep.out
                rw [List.take_of_length_le (by rw [hX.out]; omega)] at this
                rw [Nat.mul_zero, Nat.add_zero, ← this]
              replace hend := Lib.hid hend
              go_wp2
              all_goals
                go_ret
                exact ⟨_, 0, rfl, (hS1.drewN _).drew, hl2.out, by omega, hend.out⟩
          · obtain rfl := hz.inj hx
            have hp := neq_word_ptr_same (w := w3) ⟨bx, ox, none⟩
            go_quiet (fail)
            go_wp2
            go_ret
            have hs := spl_self (C := Cz) (o := ox) (n := m + 1) (R := R') (by omega) (by rw [hl2.out]; omega)
            refine ⟨_, 0, rfl, by rw [hs]; exact Sub.drewN (by assumption) _, by simp; have := hl2.out; omega, by omega, ?_⟩
            have := val_tail_sub (k := k + 1 + 1) (by rw [hX.out]; omega) hl2.out hstep.out
            rw [hl2.out, this]; omega
        · go_roundw
          case rel =>
            have hx0 : nth Cx (ox + (k + 1)) = 0 := by
              have h := ‹((nth Cx (ox + (k + 1)) : Int) != 0) = false›
              simp at h; omega
            have hB : WB - 1 < WB := by have := WB_pos; omega
            refine ⟨k + 1, by omega, by go_num, R ++ [WB - 1], by simp; exact hR1.out, ?_, ?_⟩
            · have h3 := hR3.out
              rw [val_snoc, hR1.out, val_take_succ (by rw [hX.out]; omega), nth_dt _ _ _ _ (by omega), hx0]
              have h4 : WB ^ (k + 1 + 1) = WB ^ (k + 1) * (WB - 1) + WB ^ (k + 1) := by
                rw [Nat.pow_succ WB (k + 1)]
                have : WB = WB - 1 + 1 := by omega
                rw [this, Nat.mul_add, Nat.mul_one, ← this]
              omega
            · exact store_max hS hR1.out (by omega)
          case measure => simp [intOf]; omega
      · obtain rfl : k = m := by omega
        replace hR3 := Lib.hid hR3
        replace hR1 := Lib.hid hR1
        go_wp2
        go_ret
        refine ⟨R, 1, rfl, hS, hR1.out, by omega, ?_⟩
        have := hR3.out
        rw [List.take_of_length_le (by rw [hX.out]; omega)] at this
        omega
end Go.Proofs.YtonepclpllelfaaGreatDoor

namespace Go.Proofs.YtonepclpllelfaaGreatDoor

/-- The number of a list of digits, the lowest first. -/
def vB (B : Nat) : List Nat → Nat
  | [] => 0
  | x :: xs => x + B * vB B xs
/-- Every digit is below the base. -/
def DgB (B : Nat) (l : List Nat) : Prop := ∀ x, x ∈ l → x < B
theorem DgB.nil {B : Nat} : DgB B [] := fun _ h => by cases h
theorem DgB.cons {B x : Nat} {l : List Nat} (hx : x < B) (h : DgB B l) : DgB B (x :: l) := fun y hy => by
  cases hy with
  | head => exact hx
  | tail _ h' => exact h y h'
theorem DgB.head {B x : Nat} {l : List Nat} (h : DgB B (x :: l)) : x < B := h x (List.mem_cons_self ..)
theorem DgB.tail {B x : Nat} {l : List Nat} (h : DgB B (x :: l)) : DgB B l := fun y hy => h y (List.mem_cons_of_mem _ hy)
theorem DgB.append {B : Nat} {a b : List Nat} (ha : DgB B a) (hb : DgB B b) : DgB B (a ++ b) := fun y hy => by
  rcases List.mem_append.1 hy with h | h
  · exact ha y h
  · exact hb y h
theorem DgB.take {B : Nat} {l : List Nat} (h : DgB B l) (n : Nat) : DgB B (l.take n) := fun y hy => h y (List.mem_of_mem_take hy)
theorem DgB.nth {B : Nat} (hB : 0 < B) {l : List Nat} (h : DgB B l) (i : Nat) : nth l i < B := by
  unfold Go.Proofs.YtonepclpllelfaaGreatDoor.nth
  cases hx : l[i]? with
  | none => exact hB
  | some x => exact h x (List.mem_of_getElem? hx)
@[simp] theorem vB_nil (B : Nat) : vB B [] = 0 := rfl
theorem vB_append (B : Nat) (a b : List Nat) : vB B (a ++ b) = vB B a + B ^ a.length * vB B b := by
  induction a with
  | nil => simp [vB]
  | cons x a ih =>
    simp only [List.cons_append, vB, ih, List.length_cons, Nat.pow_succ, Nat.mul_add]
    rw [Nat.add_assoc, Nat.mul_comm (B ^ a.length) B, Nat.mul_assoc]
theorem vB_snoc (B : Nat) (a : List Nat) (x : Nat) : vB B (a ++ [x]) = vB B a + B ^ a.length * x := by
  rw [vB_append]; simp [vB]
theorem vB_take_succ {B : Nat} {l : List Nat} {k : Nat} (h : k < l.length) : vB B (l.take (k + 1)) = vB B (l.take k) + B ^ k * nth l k := by
  rw [take_nth h, vB_snoc, List.length_take, Nat.min_eq_left (by omega)]
theorem vB_zeros (B n : Nat) : vB B (List.replicate n 0) = 0 := by
  induction n with
  | zero => rfl
  | succ n ih => rw [List.replicate_succ, vB, ih, Nat.mul_zero]
theorem vB_lt {B : Nat} {l : List Nat} (h : DgB B l) : vB B l < B ^ l.length := by
  induction l with
  | nil => simp [vB]
  | cons x l ih =>
    have hx := h.head
    have hi := ih h.tail
    simp only [vB, List.length_cons, Nat.pow_succ]
    have : B * vB B l + B ≤ B * B ^ l.length := by
      have := Nat.mul_le_mul_left B (Nat.succ_le_of_lt hi)
      rw [Nat.mul_succ] at this; exact this
    rw [Nat.mul_comm (B ^ l.length)]; omega

/-- The digits of a number, the last one not 0. -/
def dB (B : Nat) (hB : 2 ≤ B) (n : Nat) : List Nat := if _h : n = 0 then [] else n % B :: dB B hB (n / B)
termination_by n
decreasing_by exact Nat.div_lt_self (Nat.pos_of_ne_zero _h) hB
theorem dB_zero {B : Nat} (hB : 2 ≤ B) : dB B hB 0 = [] := by rw [dB]; simp
theorem dB_pos {B : Nat} (hB : 2 ≤ B) {n : Nat} (h : n ≠ 0) : dB B hB n = n % B :: dB B hB (n / B) := by rw [dB]; simp [h]
theorem vB_dB {B : Nat} (hB : 2 ≤ B) (n : Nat) : vB B (dB B hB n) = n := by
  induction n using Nat.strongRecOn with
  | _ n ih =>
    by_cases h : n = 0
    · subst h; rw [dB_zero]; rfl
    · rw [dB_pos hB h, vB, ih _ (Nat.div_lt_self (Nat.pos_of_ne_zero h) hB)]
      exact Nat.mod_add_div n B
theorem DgB_dB {B : Nat} (hB : 2 ≤ B) (n : Nat) : DgB B (dB B hB n) := by
  induction n using Nat.strongRecOn with
  | _ n ih =>
    by_cases h : n = 0
    · subst h; rw [dB_zero]; exact DgB.nil
    · rw [dB_pos hB h]
      exact DgB.cons (Nat.mod_lt _ (by omega)) (ih _ (Nat.div_lt_self (Nat.pos_of_ne_zero h) hB))
theorem dB_eq_nil {B : Nat} (hB : 2 ≤ B) {n : Nat} : dB B hB n = [] ↔ n = 0 := by
  constructor
  · intro h; have := vB_dB hB n; rw [h] at this; exact this.symm
  · rintro rfl; exact dB_zero hB
theorem vB_inj {B : Nat} {a b : List Nat} (ha : DgB B a) (hb : DgB B b) (hl : a.length = b.length) (h : vB B a = vB B b) : a = b := by
  induction a generalizing b with
  | nil => cases b with
    | nil => rfl
    | cons => simp at hl
  | cons x a ih => cases b with
    | nil => simp at hl
    | cons y b =>
      have hx := ha.head
      have hy := hb.head
      simp only [vB] at h
      have e1 : x = y := by
        have h1 := congrArg (· % B) h
        simp only [Nat.add_mul_mod_self_left, Nat.mod_eq_of_lt hx, Nat.mod_eq_of_lt hy] at h1
        exact h1
      subst e1
      have e2 : vB B a = vB B b := Nat.eq_of_mul_eq_mul_left (by omega) (Nat.add_left_cancel h)
      rw [ih ha.tail hb.tail (by simpa using hl) e2]
theorem dB_len_le {B : Nat} (hB : 2 ≤ B) {n k : Nat} : (dB B hB n).length ≤ k ↔ n < B ^ k := by
  constructor
  · intro h
    have := vB_lt (DgB_dB hB n)
    rw [vB_dB] at this
    exact Nat.lt_of_lt_of_le this (Nat.pow_le_pow_right (by omega) h)
  · intro h
    induction k generalizing n with
    | zero => have : n = 0 := by simpa using h
              subst this; simp [dB_zero]
    | succ k ih =>
      by_cases hn : n = 0
      · subst hn; simp [dB_zero]
      · rw [dB_pos hB hn, List.length_cons]
        have : n / B < B ^ k := by
          rw [Nat.div_lt_iff_lt_mul (by omega), ← Nat.pow_succ]; exact h
        have := ih this
        omega
/-- Digits without noughts at the end are those of their number. -/
theorem dB_of {B : Nat} (hB : 2 ≤ B) {L : List Nat} (h : DgB B L) (hl : L = [] ∨ nth L (L.length - 1) ≠ 0) : dB B hB (vB B L) = L := by
  have h1 : (dB B hB (vB B L)).length ≤ L.length := (dB_len_le hB).2 (vB_lt h)
  have h2 : L.length ≤ (dB B hB (vB B L)).length := by
    rcases hl with h0 | h0
    · subst h0; simp
    · rcases Nat.lt_or_ge (dB B hB (vB B L)).length L.length with hlt | hge
      · exfalso
        have h3 := (dB_len_le hB (n := vB B L) (k := L.length - 1)).1 (by omega)
        have h4 := vB_take_succ (B := B) (l := L) (k := L.length - 1) (by omega)
        rw [show L.length - 1 + 1 = L.length by omega, List.take_length] at h4
        have h5 : B ^ (L.length - 1) * 1 ≤ B ^ (L.length - 1) * nth L (L.length - 1) := Nat.mul_le_mul_left _ (by omega)
        omega
      · exact hge
  exact vB_inj (DgB_dB hB _) h (by omega) (vB_dB hB _)
/-- Noughts at the end are left out. -/
theorem dB_cut {B : Nat} (hB : 2 ≤ B) {L : List Nat} (h : DgB B L) {k : Nat} (hk : k ≤ L.length) (hz : ∀ j, k ≤ j → j < L.length → nth L j = 0) (hl : k = 0 ∨ nth L (k - 1) ≠ 0) : dB B hB (vB B L) = L.take k := by
  have e : L = L.take k ++ List.replicate (L.length - k) 0 := by
    apply List.ext_getElem?
    intro j
    by_cases hj : j < k
    · rw [List.getElem?_append_left (by simp; omega), List.getElem?_take_of_lt hj]
    · rw [List.getElem?_append_right (by simp; omega)]
      by_cases hj2 : j < L.length
      · rw [get_nth hj2, hz j (by omega) hj2, List.getElem?_replicate]
        simp; omega
      · rw [List.getElem?_eq_none (by omega), List.getElem?_replicate]
        simp; omega
  have ev : vB B L = vB B (L.take k) := by
    have := vB_append B (L.take k) (List.replicate (L.length - k) 0)
    rw [← e, vB_zeros, Nat.mul_zero, Nat.add_zero] at this; exact this
  rw [ev]
  apply dB_of hB (h.take k)
  rcases hl with h0 | h0
  · subst h0; exact .inl (by simp)
  · rcases Nat.eq_zero_or_pos k with h1 | h1
    · subst h1; exact .inl (by simp)
    · refine .inr ?_
      rw [List.length_take, Nat.min_eq_left hk, nth_take (by omega)]; exact h0

/-! ### Words of 64 bits and digits of 16 bits -/
theorem two16 : 2 ≤ 65536 := by decide
/-- The digits of a natural number of the reference. -/
abbrev d16 (n : Nat) : List Nat := dB 65536 two16 n
theorem WB_16 : WB = 65536 ^ 4 := by rw [WB_eq]
/-- The four digits of a word. -/
def w4 (x : Nat) : List Nat := [x % 65536, x / 65536 % 65536, x / 4294967296 % 65536, x / 281474976710656]
theorem w4_val (x : Nat) : vB 65536 (w4 x) = x := by simp only [w4, vB]; omega
theorem w4_lt {x : Nat} (h : x < WB) : DgB 65536 (w4 x) := by
  rw [WB_eq] at h
  intro y hy
  simp only [w4, List.mem_cons, List.not_mem_nil, or_false] at hy
  rcases hy with rfl | rfl | rfl | rfl <;> omega
/-- The digits of a list of words. -/
def ws4 : List Nat → List Nat
  | [] => []
  | x :: l => w4 x ++ ws4 l
theorem ws4_len (l : List Nat) : (ws4 l).length = 4 * l.length := by
  induction l with
  | nil => rfl
  | cons x l ih => simp only [ws4, List.length_append, ih, List.length_cons]; simp [w4]; omega
theorem ws4_val (l : List Nat) : vB 65536 (ws4 l) = val l := by
  induction l with
  | nil => rfl
  | cons x l ih =>
    simp only [ws4]
    rw [vB_append, w4_val, ih, val_cons, WB_16]; rfl
theorem ws4_dg {l : List Nat} (h : Wd l) : DgB 65536 (ws4 l) := by
  induction l with
  | nil => exact DgB.nil
  | cons x l ih => exact (w4_lt h.head).append (ih h.tail)
theorem ws4_snoc (l : List Nat) (x : Nat) : ws4 (l ++ [x]) = ws4 l ++ w4 x := by
  induction l with
  | nil => simp [ws4]
  | cons y l ih => simp only [List.cons_append, ws4, ih, List.append_assoc]
/-- Words that are grouped out of the digits of a number are those of the number. -/
theorem digs_of_groups {N : Nat} {W : List Nat} (hW : Wd W) (hv : val W = N) (hl : W.length = ((d16 N).length + 3) / 4) : W = digs N := by
  refine val_inj hW (Wd_digs N) ?_ (by rw [val_digs]; exact hv)
  have h1 : (digs N).length ≤ W.length := digs_len_le.2 (by have := val_lt hW; rwa [hv] at this)
  have h2 : (d16 N).length ≤ 4 * (digs N).length := by
    rw [dB_len_le two16, Nat.pow_mul, ← WB_16]
    exact lt_digs_len N
  omega
end Go.Proofs.YtonepclpllelfaaGreatDoor
