/- Copies of rows of words; a word added to, or taken off, a row. -/
import Derived.Laws.CopyOwn
import Derived.LaidEqlPtr
import Derived.Test.YtlnillnngckegaaGreatDoorM03
namespace Go.Proofs.YtlnillnngckegaaGreatDoor
open Go Go.RowKit

theorem infoW : (Tryz.prog.info? 104).map (·.size) = some 1 := by kernel_rfl

theorem wpList_copyW {ops : Array Oper} {rest : List Oper} {o : Oper} {a : Act} {w : World} {Q : Exit → Act → World → Prop} (hgd : o.guard = none) (d s : Operand) (T sT : TypeId)
    (ho : o.op = .call { callee := .builtin .copy, args := #[d, s], argTypes := #[T, sT] }) (hu : Tryz.prog.underlying T = some (.slice 104))
    (bz oz n cz bx ox ns cs : Nat) (hd : a.eval d = .slice (some ⟨bz, oz, none⟩) n cz) (hs : a.eval s = .slice (some ⟨bx, ox, none⟩) ns cs)
    (Cz X : List Nat) (hz : Arr w bz Cz) (WX : Wd X) (hX : X.length = Nat.min ns n) (hfit : oz + X.length ≤ Cz.length)
    (hsrc : ∀ j, j < X.length → w.cell? ⟨bx, ox + j, none⟩ = some (.int .u64 (nth X j : Int)))
    (h : ∀ w', Sub w w' bz (spl Cz oz X) → wpList Tryz.prog ops Q rest (a.put o.dst (.int .i64 (X.length : Int))) w') : wpList Tryz.prog ops Q (o :: rest) a w := by
  refine wpList_copy_own hgd d s T sT ho 104 hu infoW bz oz n cz ⟨bx, ox, none⟩ ns cs hd hs (Cz.map uw).toArray 104 hz.heap (X.map uw) (by simpa using hX) ?_ (by simpa using hfit) ?_ ?_
  · intro j v hv
    rw [List.getElem?_map] at hv
    cases hj : X[j]? with
    | none => rw [hj] at hv; cases hv
    | some x =>
      rw [hj] at hv
      have hlt : j < X.length := by
        rcases Nat.lt_or_ge j X.length with h' | h'
        · exact h'
        · rw [List.getElem?_eq_none h'] at hj; cases hj
      have := hsrc j hlt
      rw [nth_of hj] at this
      simp only [Option.map_some, Option.some.injEq] at hv
      subst hv
      have e : (⟨bx, ox, none⟩ : Addr).add j = ⟨bx, ox + j, none⟩ := by unfold Addr.add; split <;> simp_all
      rw [e]; exact this
  · intro v hv
    obtain ⟨x, _, rfl⟩ := List.mem_map.1 hv
    rfl
  · have e : (List.take oz (Cz.map uw).toArray.toList ++ (X.map uw ++ List.drop (oz + (X.map uw).length) (Cz.map uw).toArray.toList)).toArray = ((spl Cz oz X).map uw).toArray := by
      unfold spl; simp
    rw [e]
    have hl : (X.map uw).length = X.length := by simp
    rw [hl]
    refine h _ ⟨⟨?_, Wd_spl hz.wd WX⟩, fun k hk => ?_, ?_, rfl, rfl, rfl⟩
    · have := setRow_heap w bz (Cz.map uw).toArray ((spl Cz oz X).map uw).toArray 104 (0, 0) hz.heap
      exact this
    · exact setRow_other w bz k _ hk
    · simp [World.setRow]

theorem run_neq_ptr_other {P : Program} {w : World} {tp te : TypeId} {j : TypeInfo} {a b : Addr} {ca cb : Array Value} {ta tb : TypeId} (hp : P.underlying tp = some (.pointer te)) (hte : P.info? te = some j) (hsz : j.size ≠ 0)
    (hne : a ≠ b) (ha : w.heap[a.block]? = some (.cells ca ta (0, 0))) (hb : w.heap[b.block]? = some (.cells cb tb (0, 0))) :
    (binOp .neq tp (.pointer (some a)) (.pointer (some b))).run P w = .ok (.bool true) w := by
  have h : ∀ d : Nat, (Op.equalIn (d + 1) tp (.pointer (some a)) (.pointer (some b))).run P w = .ok false w := fun d => by
    simp [Op.equalIn, run_underlying hp, sizeOf, typeInfo, hte, hsz, run_sameAddr_other w hne ha hb]
  simp only [binOp]
  simp [Op.equal, Op.maxDepth, h 9999]
theorem run_neq_ptr_same {P : Program} {w : World} {tp te : TypeId} {j : TypeInfo} (a : Addr) (hp : P.underlying tp = some (.pointer te)) (hte : P.info? te = some j) :
    (binOp .neq tp (.pointer (some a)) (.pointer (some a))).run P w = .ok (.bool false) w := by
  have h : ∀ d : Nat, (Op.equalIn (d + 1) tp (.pointer (some a)) (.pointer (some a))).run P w = .ok true w := fun d => by
    simp [Op.equalIn, run_underlying hp, sizeOf, typeInfo, hte, run_sameAddr_same]
  simp only [binOp]
  simp [Op.equal, Op.maxDepth, h 9999]
theorem infoWj : ∃ j, Tryz.prog.info? 104 = some j ∧ j.size ≠ 0 := by
  have h := infoW
  cases hj : Tryz.prog.info? 104 with
  | none => rw [hj] at h; cases h
  | some j => rw [hj] at h; exact ⟨j, rfl, by simp at h; omega⟩
theorem neq_word_ptr {w : World} {bz oz bx ox : Nat} {Cz Cx : List Nat} (hz : Arr w bz Cz) (hx : Arr w bx Cx) (hne : bx ≠ bz) (n : Nat) :
    (binOp .neq 194 (.pointer (some ⟨bz, oz, none⟩)) (.pointer (some ⟨bx, ox, none⟩))).run Tryz.prog (w.drewN n) = .ok (.bool true) (w.drewN n) := by
  obtain ⟨j, hj, hs⟩ := infoWj
  exact run_neq_ptr_other Tryz.underlying194 hj hs (fun e => hne (congrArg Addr.block e).symm) (hz.drewN n).heap (hx.drewN n).heap
theorem neq_word_ptr_same {w : World} (a : Addr) (n : Nat) : (binOp .neq 194 (.pointer (some a)) (.pointer (some a))).run Tryz.prog (w.drewN n) = .ok (.bool false) (w.drewN n) := by
  obtain ⟨j, hj, hs⟩ := infoWj
  exact run_neq_ptr_same a Tryz.underlying194 hj
theorem dt_drop (C : List Nat) (o n k : Nat) : ((C.drop o).take n).drop k = (C.drop (o + k)).take (n - k) := by
  rw [List.drop_take, List.drop_drop]
theorem spl_self {C R : List Nat} {o n : Nat} (h : o + n ≤ C.length) (hR : R.length ≤ n) : spl C o (R ++ ((C.drop o).take n).drop R.length) = spl C o R := by
  apply List.ext_getElem?
  intro j
  have hl : (R ++ ((C.drop o).take n).drop R.length).length = n := by simp; omega
  by_cases h1 : j < o
  · rw [spl_lt (by omega) h1, spl_lt (by omega) h1]
  · by_cases h2 : j < o + R.length
    · obtain ⟨d, rfl⟩ : ∃ d, j = o + d := ⟨j - o, by omega⟩
      rw [spl_mid (by omega) (by omega), spl_mid (by omega) (by omega), List.getElem?_append_left (by omega)]
    · by_cases h3 : j < o + n
      · obtain ⟨d, rfl⟩ : ∃ d, j = o + R.length + d := ⟨j - (o + R.length), by omega⟩
        rw [Nat.add_assoc, spl_mid (by omega) (by omega), ← Nat.add_assoc, spl_ge (by omega) (by omega), List.getElem?_append_right (by omega), List.getElem?_drop, List.getElem?_take_of_lt (by omega), List.getElem?_drop]
        congr 1; omega
      · rw [spl_ge (by omega) (by omega), spl_ge (by omega) (by omega)]
/-- What is behind a prefix stays. -/
theorem val_tail {X R : List Nat} {k v : Nat} (hk : k ≤ X.length) (hR : R.length = k) (h : val R = v + val (X.take k)) : val (R ++ X.drop k) = v + val X := by
  rw [val_append, hR, h, val_take_drop X k hk, Nat.add_assoc]
theorem val_tail_sub {X R : List Nat} {k v : Nat} (hk : k ≤ X.length) (hR : R.length = k) (h : val R + v = val (X.take k)) : val (R ++ X.drop k) + v = val X := by
  rw [val_append, hR, val_take_drop X k hk, ← h]; omega
theorem Sub.tail {w w1 w2 : World} {bz oz : Nat} {Cz R T : List Nat} (h1 : Sub w w1 bz (spl Cz oz R)) {k : Nat} (hk : R.length = k) (h2 : Sub w1 w2 bz (spl (spl Cz oz R) (oz + k) T)) (hl : oz + k + T.length ≤ Cz.length) :
    Sub w w2 bz (spl Cz oz (R ++ T)) := by
  subst hk
  have := h1.trans h2
  rwa [spl_spl_next hl] at this
theorem val_add_lt {L : List Nat} {n y c r : Nat} (h : r + WB ^ n * c = val L + y) (hL : val L < WB ^ n) (hy : y ≤ 1) : c ≤ 1 := by
  rcases Nat.lt_or_ge c 2 with h' | h'
  · omega
  · have := Nat.mul_le_mul_left (WB ^ n) h'
    have hp := WB_pow_pos n
    omega

set_option maxRecDepth 100000 in
set_option maxHeartbeats 2000000 in
theorem addVW_c (w : World) (bz oz m cz bx ox cx y : Nat) (Cz Cx : List Nat) (hn : m < 1000000) (hy : y ≤ 1)
    (hz : Arr w bz Cz) (hzl : oz + (m + 1) ≤ Cz.length) (hx : Arr w bx Cx) (hxl : ox + (m + 1) ≤ Cx.length) (hcase : bx ≠ bz ∨ (bx = bz ∧ ox = oz)) (hc0 : m + 1 ≤ cz) (hc1 : m + 1 ≤ cx) :
    Calls Tryz.prog 170 #[.slice (some ⟨bz, oz, none⟩) (m + 1) cz, .slice (some ⟨bx, ox, none⟩) (m + 1) cx, .int .u64 y] w fun e w' =>
      ∃ R c, e = .returned (.int .u64 ((c : Nat) : Int)) ∧ Sub w w' bz (spl Cz oz R) ∧ R.length = m + 1 ∧ c ≤ 1 ∧ val R + WB ^ (m + 1) * c = val ((Cx.drop ox).take (m + 1)) + y := by
  have e1 : ((m : Int) + 1 == 0) = false := by simp; omega
  have hX : ((Cx.drop ox).take (m + 1)).length = m + 1 := by simp; omega
  replace hX := Lib.hid hX
  have hl := hx.cellN (i := ox) (by omega)
  have hwl := hx.wd.nth ox
  have hz1 := hz.cellN (i := oz) (by omega)
  have hz2 := hz.frozen oz
  have hx0 : val (((Cx.drop ox).take (m + 1)).take 1) = nth Cx ox := by
    rw [val_take_succ (by rw [hX.out]; omega), nth_dt _ _ _ _ (by omega)]; simp
  have hsum := adds_addc (nth Cx ox) y 0
  have hyw : y < WB := Nat.lt_of_le_of_lt hy (by rw [WB_eq]; decide)
  have hcc := addc_le hwl hyw (Nat.zero_le 1)
  replace hx0 := Lib.hid hx0
  replace hsum := Lib.hid hsum
  replace hcc := Lib.hid hcc
  go_enter Tryz.func170, Tryz.ntmps170
  go_wp2_with (go_at_call 194; refine (bits_Add _ _ 0 hwl hyw (by omega) _).mono ?_; rintro e w' ⟨rfl, hw⟩; obtain rfl := hw.symm)
  · have hc0' : addc (nth Cx ox) y 0 = 0 := by simpa using ‹((addc (nth Cx ox) y 0 : Int) == 0) = true›
    have hS1 := (Sub.refl hz).set (i := oz) _ (adds_lt (nth Cx ox) y 0)
    have hsp : Cz.set oz (adds (nth Cx ox) y 0) = spl Cz oz [adds (nth Cx ox) y 0] := by
      have := spl_next (C := Cz) (o := oz) (R := []) (by simp; omega) (adds (nth Cx ox) y 0)
      rw [spl_nil] at this; simpa using this
    rw [hsp] at hS1
    clear hsp
    replace hc0' := Lib.hid hc0'
    generalize w.setCell ⟨bz, oz, none⟩ _ = w1 at hS1 ⊢
    have hv : val [adds (nth Cx ox) y 0] = y + val (((Cx.drop ox).take (m + 1)).take 1) := by
      have h1 := hsum.out; have h2 := hx0.out; have h3 := hc0'.out; rw [h3] at h1; rw [h2]; simp [val]; omega
    replace hv := Lib.hid hv
    rcases hcase with hne | ⟨rfl, rfl⟩
    · have hxw := hS1.other hne hx
      have hp := neq_word_ptr (oz := oz) (ox := ox) hS1.arr hxw hne
      go_quiet (fail)
      clear hp
      by_cases hm : 0 < m
      · have h1 : (1 : Int) ≤ (m : Int) + 1 := by omega
        have h2 : ¬ cz = 1 := by omega
        have h3 : ¬ cx = 1 := by omega
        go_wp2
        go_still_tail 4, (by kernel_rfl)
        change wpList _ _ _ _ _ (w1.drewN _).drew
        have hT : ((Cx.drop (ox + 1)).take m).length = m := by simp; omega
        refine wpList_copyW rfl (.tmp 40) (.tmp 42) 49 49 rfl Tryz.underlying49 bz (oz + 1) m (cz - 1) bx (ox + 1) m (cx - 1) rfl rfl _ ((Cx.drop (ox + 1)).take m) ((hS1.drewN _).drew).arr ((hx.wd.drop _).take _) ?_ ?_ ?_ ?_
        · rw [hT]; simp
        · rw [hT, spl_length (by simp; omega)]; omega
        · intro j hj
          rw [hT] at hj
          rw [nth_dt _ _ _ _ hj]
          exact hxw.cellN (by omega)
        intro w2 hS2
        have hS3 := Sub.tail ((hS1.drewN _).drew) (k := 1) rfl hS2 (by rw [hT]; omega)
        go_wp2
        go_ret
        refine ⟨_, 0, rfl, hS3, by simp; omega, by omega, ?_⟩
        have := val_tail (k := 1) (by rw [hX.out]; omega) rfl hv.out
        rw [dt_drop, Nat.add_sub_cancel] at this
        rw [this]; omega
      · obtain rfl : m = 0 := by omega
        have h1 : (1 : Int) ≤ ((0 : Nat) : Int) + 1 := by omega
        go_wp2
        go_still_tail 4, (by kernel_rfl)
        change wpList _ _ _ _ _ (w1.drewN _).drew
        refine wpList_copy_nothing rfl (.tmp 40) (.tmp 42) 49 49 rfl 104 Tryz.underlying49 infoW _ _ 0 (cz - 1) 0 (cx - 1) rfl rfl rfl ?_
        have hend : val [adds (nth Cx ox) y 0] + WB * 0 = val (List.take 1 (List.drop ox Cx)) + y := by
          have := hv.out
          rw [this, List.take_of_length_le (by rw [hX.out]; omega)]; simp; omega
        replace hend := Lib.hid hend
        go_wp2
        all_goals
          go_ret
          exact ⟨_, 0, rfl, (hS1.drewN _).drew, rfl, by omega, hend.out⟩
    · obtain rfl := hz.inj hx
      have hp := neq_word_ptr_same (w := w1) ⟨bx, ox, none⟩
      go_quiet (fail)
      go_wp2
      go_ret
      have hs := spl_self (C := Cz) (o := ox) (n := m + 1) (R := [adds (nth Cz ox) y 0]) (by omega) (by simp)
      refine ⟨_, 0, rfl, by rw [hs]; exact hS1.drewN _, by simp; omega, by omega, ?_⟩
      have := val_tail (k := 1) (by rw [hX.out]; omega) rfl hv.out
      rw [List.length_singleton, this]; omega
  · have hc1' : addc (nth Cx ox) y 0 = 1 := by
      have h := ‹((addc (nth Cx ox) y 0 : Int) == 0) = false›
      have := hcc.out
      simp at h; omega
    have hS1 := (Sub.refl hz).set (i := oz) _ (adds_lt (nth Cx ox) y 0)
    have hsp : Cz.set oz (adds (nth Cx ox) y 0) = spl Cz oz [adds (nth Cx ox) y 0] := by
      have := spl_next (C := Cz) (o := oz) (R := []) (by simp; omega) (adds (nth Cx ox) y 0)
      rw [spl_nil] at this; simpa using this
    rw [hsp] at hS1
    clear hsp
    replace hc1' := Lib.hid hc1'
    generalize w.setCell ⟨bz, oz, none⟩ _ = w1 at hS1 ⊢
    have hv : val [adds (nth Cx ox) y 0] + WB ^ 1 * 1 = y + val (((Cx.drop ox).take (m + 1)).take 1) := by
      have h1 := hsum.out; have h2 := hx0.out; have h3 := hc1'.out; rw [h3] at h1; rw [h2]; simp [val]; omega
    replace hv := Lib.hid hv

    go_loopw [9] (fun i wr => ∃ k : Nat, k ≤ m ∧ i = .int .i64 (k + 1) ∧ ∃ R : List Nat, R.length = k + 1 ∧ val R + WB ^ (k + 1) * 1 = y + val (((Cx.drop ox).take (m + 1)).take (k + 1)) ∧ Sub w wr bz (spl Cz oz R)) (fun i _ => m + 1 - (intOf i).toNat)
    case atStart => exact ⟨0, by omega, by go_num, _, rfl, hv.out, hS1⟩
    case round =>
      obtain ⟨k, hk, rfl, R, hR1, hR3, hS⟩ := hrel
      by_cases hlt : k < m
      · have hxk := hS.read (p := ox + (k + 1)) hz hx (by omega) (by omega) (by rcases hcase with h | ⟨h1, h2⟩ <;> omega)
        have hwx := hx.wd.nth (ox + (k + 1))
        have hz1 := hS.arr.cellN (i := oz + (k + 1)) (by rw [spl_length (by omega)]; omega)
        have hz2 := hS.arr.frozen (oz + (k + 1))
        replace hR3 := Lib.hid hR3
        replace hR1 := Lib.hid hR1
        go_wp2


        · have hxm : nth Cx (ox + (k + 1)) + 1 < WB := by
            have h := ‹((nth Cx (ox + (k + 1)) : Int) != 18446744073709551615) = true›
            rw [WB_eq] at *
            simp at h; omega
          have hww := wrap_u64_nat _ hxm
          rw [Int.natCast_add] at hww
          rw [show ((1 : Nat) : Int) = 1 from rfl] at hww
          rw [hww]
          have hS1 := hS.next hR1.out (by omega) _ hxm
          have hstep : val (R ++ [nth Cx (ox + (k + 1)) + 1]) = y + val (((Cx.drop ox).take (m + 1)).take (k + 1 + 1)) := by
            have h3 := hR3.out
            rw [val_snoc, hR1.out, val_take_succ (by rw [hX.out]; omega), nth_dt _ _ _ _ (by omega), Nat.mul_add]; omega
          have hl2 : (R ++ [nth Cx (ox + (k + 1)) + 1]).length = k + 1 + 1 := by simp; exact hR1.out
          rw [show ((nth Cx (ox + (k + 1)) : Int) + 1) = ((nth Cx (ox + (k + 1)) + 1 : Nat) : Int) from by simp]
          generalize wr.setCell ⟨bz, oz + (k + 1), none⟩ _ = w3 at hS1 ⊢
          generalize R ++ [nth Cx (ox + (k + 1)) + 1] = R' at hS1 hstep hl2
          replace hstep := Lib.hid hstep
          replace hl2 := Lib.hid hl2
          clear hww
          rcases hcase with hne | ⟨rfl, rfl⟩
          · have hxw := hS1.other hne hx
            have hp := neq_word_ptr (oz := oz) (ox := ox) hS1.arr hxw hne
            go_quiet (fail)
            clear hp
            have i1 : IntKind.i64.wrap ((k : Int) + 1 + 1) = (k : Int) + 1 + 1 := IntWalk.i64_in _ (by omega)
            have i2 : (0 : Int) ≤ (k : Int) + 1 + 1 := by omega
            have i3 : ((k : Int) + 1 + 1).toNat = k + 2 := by omega
            have i4 : (k : Int) + 1 + 1 ≤ (m : Int) + 1 := by omega
            by_cases hm : k + 1 < m
            · have h2 : ¬ cz = k + 2 := by omega
              have h3 : ¬ cx = k + 2 := by omega
              go_wp2
              go_still_tail 8, (by kernel_rfl)
              change wpList _ _ _ _ _ (w3.drewN _).drew
              have hT : ((Cx.drop (ox + (k + 2))).take (m - (k + 1))).length = m - (k + 1) := by simp; omega
              refine wpList_copyW rfl (.tmp 69) (.tmp 73) 49 49 rfl Tryz.underlying49 bz (oz + (k + 2)) (m - (k + 1)) (cz - (k + 2)) bx (ox + (k + 2)) (m - (k + 1)) (cx - (k + 2)) rfl rfl _ ((Cx.drop (ox + (k + 2))).take (m - (k + 1))) ((hS1.drewN _).drew).arr ((hx.wd.drop _).take _) ?_ ?_ ?_ ?_
              · rw [hT]; simp
              · have := hl2.out; rw [hT, spl_length (by omega)]; omega
              · intro j hj
                rw [hT] at hj
                rw [nth_dt _ _ _ _ hj]
                exact hxw.cellN (by omega)
              intro w4 hS4
              have hS5 := Sub.tail ((hS1.drewN _).drew) (k := k + 2) hl2.out hS4 (by rw [hT]; omega)
              go_wp2
              go_ret
              refine ⟨_, 0, rfl, hS5, by rw [List.length_append, hT, hl2.out]; omega, by omega, ?_⟩
              have := val_tail (k := k + 2) (by rw [hX.out]; omega) hl2.out hstep.out
              rw [dt_drop, show m + 1 - (k + 2) = m - (k + 1) by omega] at this
              rw [this]; omega
            · obtain rfl : m = k + 1 := by omega
              go_wp2
              go_still_tail 8, (by kernel_rfl)
              change wpList _ _ _ _ _ (w3.drewN _).drew
              refine wpList_copy_nothing rfl (.tmp 69) (.tmp 73) 49 49 rfl 104 Tryz.underlying49 infoW _ _ _ _ _ _ rfl rfl (by simp) ?_
              have hend : val R' + WB ^ (k + 2) * 0 = val (List.take (k + 2) (List.drop ox Cx)) + y := by
                have := hstep.out
                rw [List.take_of_length_le (by rw [hX.out]; omega)] at this
                rw [Nat.mul_zero, Nat.add_zero, this, Nat.add_comm]
              replace hend := Lib.hid hend
              go_wp2
              all_goals
                go_ret
                exact ⟨_, 0, rfl, (hS1.drewN _).drew, hl2.out, by omega, hend.out⟩
          · obtain rfl := hz.inj hx
            have hp := neq_word_ptr_same (w := w3) ⟨bx, ox, none⟩
            go_quiet (fail)
            go_wp2
            go_ret
            have hs := spl_self (C := Cz) (o := ox) (n := m + 1) (R := R') (by omega) (by rw [hl2.out]; omega)
            refine ⟨_, 0, rfl, by rw [hs]; exact Sub.drewN (by assumption) _, by simp; have := hl2.out; omega, by omega, ?_⟩
            have := val_tail (k := k + 1 + 1) (by rw [hX.out]; omega) hl2.out hstep.out
            rw [hl2.out, this]; omega
        · go_roundw
          case rel =>
            have hxm : nth Cx (ox + (k + 1)) + 1 = WB := by
              have h := ‹((nth Cx (ox + (k + 1)) : Int) != 18446744073709551615) = false›
              rw [WB_eq] at *
              simp at h; omega
            refine ⟨k + 1, by omega, by go_num, R ++ [0], by simp; exact hR1.out, ?_, by exact hS.next hR1.out (by omega) 0 WB_pos⟩
            have h3 := hR3.out
            rw [val_snoc, hR1.out, val_take_succ (by rw [hX.out]; omega), nth_dt _ _ _ _ (by omega)]
            have h4 : WB ^ (k + 1 + 1) = WB ^ (k + 1) * nth Cx (ox + (k + 1)) + WB ^ (k + 1) := by
              rw [Nat.pow_succ WB (k + 1), ← hxm, Nat.mul_add, Nat.mul_one]
            omega
          case measure => simp [intOf]; omega
      · obtain rfl : k = m := by omega
        replace hR3 := Lib.hid hR3
        replace hR1 := Lib.hid hR1
        go_wp2
        go_ret
        refine ⟨R, 1, rfl, hS, hR1.out, by omega, ?_⟩
        have := hR3.out
        rw [List.take_of_length_le (by rw [hX.out]; omega)] at this
        omega
end Go.Proofs.YtlnillnngckegaaGreatDoor
