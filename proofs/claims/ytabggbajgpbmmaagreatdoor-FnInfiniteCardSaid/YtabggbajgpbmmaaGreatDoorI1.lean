/- Decimals with the coefficient of a new one: Set. -/
import Derived.Test.YtabggbajgpbmmaaGreatDoorN7
import Derived.Test.YtabggbajgpbmmaaGreatDoorI0
namespace Go.Proofs.YtabggbajgpbmmaaGreatDoor
open Go Go.RowKit

theorem infoInt : ∃ j, Tryz.prog.info? 54 = some j ∧ j.size ≠ 0 := by
  have h : (Tryz.prog.info? 54).map (fun i => i.size) = some 2 := by kernel_rfl
  cases hi : Tryz.prog.info? 54 with
  | none => rw [hi] at h; cases h
  | some i => rw [hi] at h; simp at h; exact ⟨i, rfl, by omega⟩
theorem infoDec : ∃ j, Tryz.prog.info? 58 = some j ∧ j.size ≠ 0 := by
  have h : (Tryz.prog.info? 58).map (fun i => i.size) = some 6 := by kernel_rfl
  cases hi : Tryz.prog.info? 58 with
  | none => rw [hi] at h; cases h
  | some i => rw [hi] at h; simp at h; exact ⟨i, rfl, by omega⟩
theorem neqInt {w : World} {a b oa ob : Nat} {ca cb : Array Value} {ta tb : TypeId} (hne : (⟨a, oa, none⟩ : Addr) ≠ ⟨b, ob, none⟩) (ha : w.heap[a]? = some (.cells ca ta (0, 0))) (hb : w.heap[b]? = some (.cells cb tb (0, 0))) :
    (binOp .neq 115 (.pointer (some ⟨a, oa, none⟩)) (.pointer (some ⟨b, ob, none⟩))).run Tryz.prog w = .ok (.bool true) w := by
  obtain ⟨j, hj, hs⟩ := infoInt
  exact run_neq_ptr_other Tryz.underlying115 hj hs hne ha hb
theorem eqlDec {w : World} {a b : Nat} {ca cb : Array Value} {ta tb : TypeId} (hne : a ≠ b) (ha : w.heap[a]? = some (.cells ca ta (0, 0))) (hb : w.heap[b]? = some (.cells cb tb (0, 0))) :
    (binOp .eql 48 (.pointer (some ⟨a, 0, none⟩)) (.pointer (some ⟨b, 0, none⟩))).run Tryz.prog w = .ok (.bool false) w := by
  obtain ⟨j, hj, hs⟩ := infoDec
  exact run_eql_ptr_other Tryz.underlying48 hj hs (fun e => hne (congrArg Addr.block e)) ha hb

set_option maxHeartbeats 400000 in
theorem set_nil (w : World) : Calls Tryz.prog 132 #[.slice none 0 0, .slice none 0 0] w fun e w' => e = .returned (.slice none 0 0) ∧ w = w' := by
  have hmk : Calls Tryz.prog 153 #[.slice none 0 0, .int .i64 0] w fun e w' => e = .returned (.slice none 0 0) ∧ w = w' := by
    go_enter Tryz.func153, Tryz.ntmps153
    go_wp2
    go_ret
    exact ⟨rfl, rfl⟩
  go_enter Tryz.func132, Tryz.ntmps132
  go_wp2_with fail
  refine hmk.mono ?_
  rintro e w' ⟨rfl, hw⟩
  obtain rfl := hw
  go_upto_region 2 with (fail)
  refine wp_region_lit ?_
  go_wp2_with (refine wpList_copy_nothing rfl (.tmp 9) (.tmp 10) 52 52 rfl 128 Tryz.underlying52 infoW _ _ _ _ _ _ rfl rfl (by simp) ?_)
  go_ret
  exact ⟨rfl, rfl⟩

set_option maxHeartbeats 400000 in
theorem intSetZ (w : World) (d x : Nat) (f ex f' ex' : Int) (n n' : Bool) (hd : DecZ w d f n ex) (hx : DecZ w x f' n' ex') (hne : d ≠ x) :
    Calls Tryz.prog 103 #[.pointer (some ⟨d, 3, none⟩), .pointer (some ⟨x, 3, none⟩)] w fun e w' => e = .returned (.pointer (some ⟨d, 3, none⟩)) ∧ DecZ w' d f n ex ∧ Chg w w' (fun k => k = d) := by
  have hq := neqInt (oa := 3) (ob := 3) (fun e => hne (congrArg Addr.block e)) hd hx
  have d3 := hd.c3
  have d4 := hd.c4
  have df3 := hd.fz 3
  have df4 := hd.fz 4
  have x3 := hx.c3
  have x4 := hx.c4
  go_enter Tryz.func103, Tryz.ntmps103
  go_wp2
  go_region_with ((go_at_call 132; refine (set_nil _).mono ?_; rintro e w' ⟨rfl, rfl⟩))
  all_goals
    go_wp2
    go_ret
    refine ⟨rfl, setB (i := 3) (v := .bool false) (setB (i := 4) (v := .slice none 0 0) hd), ?_⟩
    exact ((chg_setB w d 4 _).trans ((chg_setB _ d 3 _).mono (fun _ _ h => .inl h))).drew

set_option maxHeartbeats 400000 in
theorem bigSetZ (w : World) (d x : Nat) (f ex f' ex' : Int) (n n' : Bool) (hd : DecZ w d f n ex) (hx : DecZ w x f' n' ex') (hne : d ≠ x) :
    Calls Tryz.prog 48 #[.pointer (some ⟨d, 3, none⟩), .pointer (some ⟨x, 3, none⟩)] w fun e w' => e = .returned (.pointer (some ⟨d, 3, none⟩)) ∧ DecZ w' d f n ex ∧ Chg w w' (fun k => k = d) := by
  have d5 := hd.c5
  have df5 := hd.fz 5
  have x5 := hx.c5
  have hch : Chg w (w.setCell ⟨d, 5, none⟩ (.bool false)) (fun k => k = d) := chg_setB w d 5 _
  have hd' : DecZ (w.setCell ⟨d, 5, none⟩ (.bool false)) d f n ex := setB (i := 5) (v := .bool false) hd
  have hx' : DecZ (w.setCell ⟨d, 5, none⟩ (.bool false)) x f' n' ex' := hx.chg hch (fun e => hne e.symm)
  have key := fun w'' h1 h2 => intSetZ w'' d x f ex f' ex' n n' h1 h2 hne
  replace hch := Lib.hid hch
  replace key := Lib.hid key
  replace hd' := Lib.hid hd'
  replace hx' := Lib.hid hx'
  go_enter Tryz.func48, Tryz.ntmps48
  go_wp2_with fail
  generalize w.setCell ⟨d, 5, none⟩ (.bool false) = w1 at hd' hx' hch ⊢
  go_region_with ((go_at_call 103; refine (key.out _ (by exact hd'.out) (by exact hx'.out)).mono ?_; rintro e w2 ⟨rfl, hd2, hc2⟩))
  all_goals
    go_wp2
    go_ret
    exact ⟨rfl, hd2, hch.out.drew.trans (hc2.mono (fun _ _ h => .inl h))⟩

/-- d is made x: form, sign, exponent. -/
theorem setSlowZ (w : World) (d x : Nat) (f ex f' ex' : Int) (n n' : Bool) (hd : DecZ w d f n ex) (hx : DecZ w x f' n' ex') (hne : d ≠ x) :
    Calls Tryz.prog 78 #[.pointer (some ⟨d, 0, none⟩), .pointer (some ⟨x, 0, none⟩)] w fun e w' => e = .returned (.pointer (some ⟨d, 0, none⟩)) ∧ DecZ w' d f' n' ex' ∧ Chg w w' (fun k => k = d) := by
  have d0 := hd.c0
  have df0 := hd.fz 0
  have d1 := hd.c1
  have df1 := hd.fz 1
  have d2 := hd.c2
  have df2 := hd.fz 2
  have x0 := hx.c0
  have x1 := hx.c1
  have x2 := hx.c2
  have h1 := setB (i := 0) (v := .int .i8 f') hd
  have h2 := setB (i := 1) (v := .bool n') h1
  have h3 : DecZ _ d f' n' ex' := setB (i := 2) (v := .int .i32 ex') h2
  have hch : Chg w _ (fun k => k = d) := ((chg_setB w d 0 (.int .i8 f')).trans ((chg_setB _ d 1 (.bool n')).mono (fun _ _ h => .inl h))).trans ((chg_setB _ d 2 (.int .i32 ex')).mono (fun _ _ h => .inl h))
  have hx3 : DecZ _ x f' n' ex' := hx.chg hch (fun e => hne e.symm)
  have key := fun w'' h1 h2 => bigSetZ w'' d x f' ex' f' ex' n' n' h1 h2 hne
  clear h1 h2
  replace hch := Lib.hid hch
  replace key := Lib.hid key
  replace h3 := Lib.hid h3
  replace hx3 := Lib.hid hx3
  go_enter Tryz.func78, Tryz.ntmps78
  go_wp2_with fail
  generalize ((w.setCell ⟨d, 0, none⟩ (.int .i8 f')).setCell ⟨d, 1, none⟩ (.bool n')).setCell ⟨d, 2, none⟩ (.int .i32 ex') = w1 at h3 hx3 hch ⊢
  go_region_with ((go_at_call 48; refine (key.out _ (by exact h3.out) (by exact hx3.out)).mono ?_; rintro e w2 ⟨rfl, hd2, hc2⟩))
  all_goals
    go_wp2
    go_ret
    exact ⟨rfl, hd2, hch.out.drew.trans (hc2.mono (fun _ _ h => .inl h))⟩

theorem decSetZ (w : World) (d x : Nat) (f ex f' ex' : Int) (n n' : Bool) (hd : DecZ w d f n ex) (hx : DecZ w x f' n' ex') (hne : d ≠ x) :
    Calls Tryz.prog 32 #[.pointer (some ⟨d, 0, none⟩), .pointer (some ⟨x, 0, none⟩)] w fun e w' => e = .returned (.pointer (some ⟨d, 0, none⟩)) ∧ DecZ w' d f' n' ex' ∧ Chg w w' (fun k => k = d) := by
  have hq := eqlDec hne hd hx
  have key := setSlowZ w d x f ex f' ex' n n' hd hx hne
  go_enter Tryz.func32, Tryz.ntmps32
  go_wp2_with fail
  refine key.mono ?_
  rintro e w' ⟨rfl, h1, h2⟩
  go_wp2
  go_ret
  exact ⟨rfl, h1, h2⟩

theorem decNaN_c (w : World) : Calls Tryz.prog 72 #[] w fun e w' => e = .returned (.pointer (some ⟨w.heap.size, 0, none⟩)) ∧ DecZ w' w.heap.size 3 false 0 ∧ Chg w w' (fun _ => False) := by
  go_enter Tryz.func72, Tryz.ntmps72
  go_wp2
  go_ret
  exact ⟨rfl, allocB _ _, (Chg.refl w _).alloc _⟩
theorem decInf_c (w : World) : Calls Tryz.prog 73 #[] w fun e w' => e = .returned (.pointer (some ⟨w.heap.size, 0, none⟩)) ∧ DecZ w' w.heap.size 1 false 0 ∧ Chg w w' (fun _ => False) := by
  go_enter Tryz.func73, Tryz.ntmps73
  go_wp2
  go_ret
  exact ⟨rfl, allocB _ _, (Chg.refl w _).alloc _⟩
end Go.Proofs.YtabggbajgpbmmaaGreatDoor
