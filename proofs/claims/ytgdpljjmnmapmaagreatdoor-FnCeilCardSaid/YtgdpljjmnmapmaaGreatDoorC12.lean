/- Decimals with the coefficient of a new one: Set. Forms that are no number; conditions and their errors. The conditions by the thin package's numbers. impl.conditions. Contexts; what is told of a decimal that is no finite number; one that is made. Signs; sums of infinities. impl.whole: words that come in, as a number. apd.BigInt: Set, SetMathBigInt; impl.whole. Boxes of plain data. impl.whole, impl.made of a finite decimal. impl.made of a finite decimal. -/
import Derived.Outline
import Derived.Laws.BitsAllLaws
import Derived.Deep.RegionHeld3
import Derived.Laws.OwnMore
import Derived.Test.YtgdpljjmnmapmaaGreatDoorC05
import Derived.Test.YtgdpljjmnmapmaaGreatDoorC06
import Derived.Test.YtgdpljjmnmapmaaGreatDoorC09
namespace Go.Proofs.YtgdpljjmnmapmaaGreatDoor
open Go Go.RowKit

theorem infoInt : ∃ j, Tryz.prog.info? 60 = some j ∧ j.size ≠ 0 := by
  have h : (Tryz.prog.info? 60).map (fun i => i.size) = some 2 := by kernel_rfl
  cases hi : Tryz.prog.info? 60 with
  | none => rw [hi] at h; cases h
  | some i => rw [hi] at h; simp at h; exact ⟨i, rfl, by omega⟩
theorem infoDec : ∃ j, Tryz.prog.info? 64 = some j ∧ j.size ≠ 0 := by
  have h : (Tryz.prog.info? 64).map (fun i => i.size) = some 6 := by kernel_rfl
  cases hi : Tryz.prog.info? 64 with
  | none => rw [hi] at h; cases h
  | some i => rw [hi] at h; simp at h; exact ⟨i, rfl, by omega⟩
theorem neqInt {w : World} {a b oa ob : Nat} {ca cb : Array Value} {ta tb : TypeId} (hne : (⟨a, oa, none⟩ : Addr) ≠ ⟨b, ob, none⟩) (ha : w.heap[a]? = some (.cells ca ta (0, 0))) (hb : w.heap[b]? = some (.cells cb tb (0, 0))) :
    (binOp .neq 131 (.pointer (some ⟨a, oa, none⟩)) (.pointer (some ⟨b, ob, none⟩))).run Tryz.prog w = .ok (.bool true) w := by
  obtain ⟨j, hj, hs⟩ := infoInt
  exact run_neq_ptr_other Tryz.underlying131 hj hs hne ha hb
theorem eqlDec {w : World} {a b : Nat} {ca cb : Array Value} {ta tb : TypeId} (hne : a ≠ b) (ha : w.heap[a]? = some (.cells ca ta (0, 0))) (hb : w.heap[b]? = some (.cells cb tb (0, 0))) :
    (binOp .eql 54 (.pointer (some ⟨a, 0, none⟩)) (.pointer (some ⟨b, 0, none⟩))).run Tryz.prog w = .ok (.bool false) w := by
  obtain ⟨j, hj, hs⟩ := infoDec
  exact run_eql_ptr_other Tryz.underlying54 hj hs (fun e => hne (congrArg Addr.block e)) ha hb

set_option maxHeartbeats 400000 in
theorem set_nil (w : World) : Calls Tryz.prog 125 #[.slice none 0 0, .slice none 0 0] w fun e w' => e = .returned (.slice none 0 0) ∧ w = w' := by
  have hmk : Calls Tryz.prog 154 #[.slice none 0 0, .int .i64 0] w fun e w' => e = .returned (.slice none 0 0) ∧ w = w' := by
    go_enter Tryz.func154, Tryz.ntmps154
    go_wp2
    go_ret
    exact ⟨rfl, rfl⟩
  go_enter Tryz.func125, Tryz.ntmps125
  go_wp2_with fail
  refine hmk.mono ?_
  rintro e w' ⟨rfl, hw⟩
  obtain rfl := hw
  go_upto_region 2 with (fail)
  refine wp_region_lit ?_
  go_wp2_with (refine wpList_copy_nothing rfl (.tmp 9) (.tmp 10) 58 58 rfl 133 Tryz.underlying58 infoW _ _ _ _ _ _ rfl rfl (by simp) ?_)
  go_ret
  exact ⟨rfl, rfl⟩

set_option maxHeartbeats 400000 in
theorem intSetZ (w : World) (d x : Nat) (f ex f' ex' : Int) (n n' : Bool) (hd : DecZ w d f n ex) (hx : DecZ w x f' n' ex') (hne : d ≠ x) :
    Calls Tryz.prog 88 #[.pointer (some ⟨d, 3, none⟩), .pointer (some ⟨x, 3, none⟩)] w fun e w' => e = .returned (.pointer (some ⟨d, 3, none⟩)) ∧ DecZ w' d f n ex ∧ Chg w w' (fun k => k = d) := by
  have hq := neqInt (oa := 3) (ob := 3) (fun e => hne (congrArg Addr.block e)) hd hx
  have d3 := hd.c3
  have d4 := hd.c4
  have df3 := hd.fz 3
  have df4 := hd.fz 4
  have x3 := hx.c3
  have x4 := hx.c4
  go_enter Tryz.func88, Tryz.ntmps88
  go_wp2
  go_region_with ((go_at_call 125; refine (set_nil _).mono ?_; rintro e w' ⟨rfl, rfl⟩))
  all_goals
    go_wp2
    go_ret
    refine ⟨rfl, setB (i := 3) (v := .bool false) (setB (i := 4) (v := .slice none 0 0) hd), ?_⟩
    exact ((chg_setB w d 4 _).trans ((chg_setB _ d 3 _).mono (fun _ _ h => .inl h))).drew

set_option maxHeartbeats 400000 in
theorem bigSetZ (w : World) (d x : Nat) (f ex f' ex' : Int) (n n' : Bool) (hd : DecZ w d f n ex) (hx : DecZ w x f' n' ex') (hne : d ≠ x) :
    Calls Tryz.prog 52 #[.pointer (some ⟨d, 3, none⟩), .pointer (some ⟨x, 3, none⟩)] w fun e w' => e = .returned (.pointer (some ⟨d, 3, none⟩)) ∧ DecZ w' d f n ex ∧ Chg w w' (fun k => k = d) := by
  have d5 := hd.c5
  have df5 := hd.fz 5
  have x5 := hx.c5
  have hch : Chg w (w.setCell ⟨d, 5, none⟩ (.bool false)) (fun k => k = d) := chg_setB w d 5 _
  have hd' : DecZ (w.setCell ⟨d, 5, none⟩ (.bool false)) d f n ex := setB (i := 5) (v := .bool false) hd
  have hx' : DecZ (w.setCell ⟨d, 5, none⟩ (.bool false)) x f' n' ex' := hx.chg hch (fun e => hne e.symm)
  have key := fun w'' h1 h2 => intSetZ w'' d x f ex f' ex' n n' h1 h2 hne
  replace hch := Lib.hid hch
  replace key := Lib.hid key
  replace hd' := Lib.hid hd'
  replace hx' := Lib.hid hx'
  go_enter Tryz.func52, Tryz.ntmps52
  go_wp2_with fail
  generalize w.setCell ⟨d, 5, none⟩ (.bool false) = w1 at hd' hx' hch ⊢
  go_region_with ((go_at_call 88; refine (key.out _ (by exact hd'.out) (by exact hx'.out)).mono ?_; rintro e w2 ⟨rfl, hd2, hc2⟩))
  all_goals
    go_wp2
    go_ret
    exact ⟨rfl, hd2, hch.out.drew.trans (hc2.mono (fun _ _ h => .inl h))⟩

/-- d is made x: form, sign, exponent. -/
theorem setSlowZ (w : World) (d x : Nat) (f ex f' ex' : Int) (n n' : Bool) (hd : DecZ w d f n ex) (hx : DecZ w x f' n' ex') (hne : d ≠ x) :
    Calls Tryz.prog 104 #[.pointer (some ⟨d, 0, none⟩), .pointer (some ⟨x, 0, none⟩)] w fun e w' => e = .returned (.pointer (some ⟨d, 0, none⟩)) ∧ DecZ w' d f' n' ex' ∧ Chg w w' (fun k => k = d) := by
  have d0 := hd.c0
  have df0 := hd.fz 0
  have d1 := hd.c1
  have df1 := hd.fz 1
  have d2 := hd.c2
  have df2 := hd.fz 2
  have x0 := hx.c0
  have x1 := hx.c1
  have x2 := hx.c2
  have h1 := setB (i := 0) (v := .int .i8 f') hd
  have h2 := setB (i := 1) (v := .bool n') h1
  have h3 : DecZ _ d f' n' ex' := setB (i := 2) (v := .int .i32 ex') h2
  have hch : Chg w _ (fun k => k = d) := ((chg_setB w d 0 (.int .i8 f')).trans ((chg_setB _ d 1 (.bool n')).mono (fun _ _ h => .inl h))).trans ((chg_setB _ d 2 (.int .i32 ex')).mono (fun _ _ h => .inl h))
  have hx3 : DecZ _ x f' n' ex' := hx.chg hch (fun e => hne e.symm)
  have key := fun w'' h1 h2 => bigSetZ w'' d x f' ex' f' ex' n' n' h1 h2 hne
  clear h1 h2
  replace hch := Lib.hid hch
  replace key := Lib.hid key
  replace h3 := Lib.hid h3
  replace hx3 := Lib.hid hx3
  go_enter Tryz.func104, Tryz.ntmps104
  go_wp2_with fail
  generalize ((w.setCell ⟨d, 0, none⟩ (.int .i8 f')).setCell ⟨d, 1, none⟩ (.bool n')).setCell ⟨d, 2, none⟩ (.int .i32 ex') = w1 at h3 hx3 hch ⊢
  go_region_with ((go_at_call 52; refine (key.out _ (by exact h3.out) (by exact hx3.out)).mono ?_; rintro e w2 ⟨rfl, hd2, hc2⟩))
  all_goals
    go_wp2
    go_ret
    exact ⟨rfl, hd2, hch.out.drew.trans (hc2.mono (fun _ _ h => .inl h))⟩

theorem decSetZ (w : World) (d x : Nat) (f ex f' ex' : Int) (n n' : Bool) (hd : DecZ w d f n ex) (hx : DecZ w x f' n' ex') (hne : d ≠ x) :
    Calls Tryz.prog 70 #[.pointer (some ⟨d, 0, none⟩), .pointer (some ⟨x, 0, none⟩)] w fun e w' => e = .returned (.pointer (some ⟨d, 0, none⟩)) ∧ DecZ w' d f' n' ex' ∧ Chg w w' (fun k => k = d) := by
  have hq := eqlDec hne hd hx
  have key := setSlowZ w d x f ex f' ex' n n' hd hx hne
  go_enter Tryz.func70, Tryz.ntmps70
  go_wp2_with fail
  refine key.mono ?_
  rintro e w' ⟨rfl, h1, h2⟩
  go_wp2
  go_ret
  exact ⟨rfl, h1, h2⟩

theorem decNaN_c (w : World) : Calls Tryz.prog 71 #[] w fun e w' => e = .returned (.pointer (some ⟨w.heap.size, 0, none⟩)) ∧ DecZ w' w.heap.size 3 false 0 ∧ Chg w w' (fun _ => False) := by
  go_enter Tryz.func71, Tryz.ntmps71
  go_wp2
  go_ret
  exact ⟨rfl, allocB _ _, (Chg.refl w _).alloc _⟩
theorem decInf_c (w : World) : Calls Tryz.prog 75 #[] w fun e w' => e = .returned (.pointer (some ⟨w.heap.size, 0, none⟩)) ∧ DecZ w' w.heap.size 1 false 0 ∧ Chg w w' (fun _ => False) := by
  go_enter Tryz.func75, Tryz.ntmps75
  go_wp2
  go_ret
  exact ⟨rfl, allocB _ _, (Chg.refl w _).alloc _⟩
end Go.Proofs.YtgdpljjmnmapmaaGreatDoor

namespace Go.Proofs.YtgdpljjmnmapmaaGreatDoor
open Go Go.RowKit

theorem shouldNaN_c (w : World) (c : Value) (x y : Nat) (fx fy : Int) (hx : w.cell? ⟨x, 0, none⟩ = some (.int .i8 fx)) (hy : w.cell? ⟨y, 0, none⟩ = some (.int .i8 fy)) (bx : 0 ≤ fx ∧ fx ≤ 3) (by_ : 0 ≤ fy ∧ fy ≤ 3) :
    Calls Tryz.prog 60 #[c, .pointer (some ⟨x, 0, none⟩), .pointer (some ⟨y, 0, none⟩)] w fun e w' => e = .returned (.bool (decide (2 ≤ fx ∨ 2 ≤ fy))) ∧ w = w' := by
  have h1 : fx = 0 ∨ fx = 1 ∨ fx = 2 ∨ fx = 3 := by omega
  have h2 : fy = 0 ∨ fy = 1 ∨ fy = 2 ∨ fy = 3 := by omega
  rcases h1 with rfl | rfl | rfl | rfl <;> rcases h2 with rfl | rfl | rfl | rfl <;>
  · clear bx by_
    go_enter Tryz.func60, Tryz.ntmps60
    go_wp2
    go_ret
    exact ⟨rfl, rfl⟩

theorem shouldNaN1_c (w : World) (c : Value) (x : Nat) (fx : Int) (hx : w.cell? ⟨x, 0, none⟩ = some (.int .i8 fx)) (bx : 0 ≤ fx ∧ fx ≤ 3) :
    Calls Tryz.prog 60 #[c, .pointer (some ⟨x, 0, none⟩), .pointer none] w fun e w' => e = .returned (.bool (decide (2 ≤ fx))) ∧ w = w' := by
  have h1 : fx = 0 ∨ fx = 1 ∨ fx = 2 ∨ fx = 3 := by omega
  rcases h1 with rfl | rfl | rfl | rfl <;>
  · clear bx
    go_enter Tryz.func60, Tryz.ntmps60
    go_wp2
    go_ret
    exact ⟨rfl, rfl⟩

/-- Bits of a condition. -/
theorem and3_all : (List.range 4096).all (fun r => decide (bits .and .u32 (r : Int) 3 = ((r % 4 : Nat) : Int)) && decide (bits .and .u32 (r : Int) 0 = 0)) = true := by kernel_rfl
theorem and3 (r : Nat) (h : r < 4096) : bits .and .u32 (r : Int) 3 = ((r % 4 : Nat) : Int) ∧ bits .and .u32 (r : Int) 0 = 0 := by
  have := List.all_eq_true.1 and3_all r (List.mem_range.2 h)
  simp only [Bool.and_eq_true, decide_eq_true_eq] at this
  exact this

/-- Without traps no condition is an error, but those of the system. -/
theorem GoError_c (w : World) (r : Nat) (h : r < 4096) (h4 : r % 4 = 0) :
    Calls Tryz.prog 101 #[.int .u32 (r : Int), .int .u32 0] w fun e w' => e = .returned (.tuple #[.int .u32 (r : Int), .nilIface]) ∧ w = w' := by
  obtain ⟨e1, e2⟩ := and3 r h
  rw [h4] at e1
  have e1' : bits .and .u32 (r : Int) 3 = 0 := e1
  clear e1
  go_enter Tryz.func101, Tryz.ntmps101
  go_wp2
  go_ret2
  exact ⟨rfl, rfl⟩

/-- A context: its block. -/
def Ctx (w : World) (c : Nat) (prec max min : Int) (mode : ByteArray) : Prop :=
  w.heap[c]? = some (.cells #[.int .u32 prec, .int .i32 max, .int .i32 min, .int .u32 0, .string mode] 95 (0, 0))
theorem Ctx.chg {w w' : World} {S : Nat → Prop} {c : Nat} {p a b : Int} {m : ByteArray} (h : Ctx w c p a b m) (hc : Chg w w' S) (hn : ¬ S c) : Ctx w' c p a b m := hc.heapB h hn
theorem Ctx.c0 {w : World} {c : Nat} {p a b : Int} {m : ByteArray} (h : Ctx w c p a b m) : w.cell? ⟨c, 0, none⟩ = some (.int .u32 p) := cellB h rfl
theorem Ctx.c1 {w : World} {c : Nat} {p a b : Int} {m : ByteArray} (h : Ctx w c p a b m) : w.cell? ⟨c, 1, none⟩ = some (.int .i32 a) := cellB h rfl
theorem Ctx.c2 {w : World} {c : Nat} {p a b : Int} {m : ByteArray} (h : Ctx w c p a b m) : w.cell? ⟨c, 2, none⟩ = some (.int .i32 b) := cellB h rfl
theorem Ctx.c3 {w : World} {c : Nat} {p a b : Int} {m : ByteArray} (h : Ctx w c p a b m) : w.cell? ⟨c, 3, none⟩ = some (.int .u32 0) := cellB h rfl
theorem Ctx.c4 {w : World} {c : Nat} {p a b : Int} {m : ByteArray} (h : Ctx w c p a b m) : w.cell? ⟨c, 4, none⟩ = some (.string m) := cellB h rfl

theorem goError_c (w : World) (c r : Nat) (p a b : Int) (m : ByteArray) (hc : Ctx w c p a b m) (h : r < 4096) (h4 : r % 4 = 0) :
    Calls Tryz.prog 64 #[.pointer (some ⟨c, 0, none⟩), .int .u32 (r : Int)] w fun e w' => e = .returned (.tuple #[.int .u32 (r : Int), .nilIface]) ∧ w = w' := by
  have c3 := hc.c3
  by_cases h0 : r = 0
  · subst h0
    go_enter Tryz.func64, Tryz.ntmps64
    go_wp2
    go_ret2
    exact ⟨rfl, rfl⟩
  · have e0 : ((r : Int) == 0) = false := by simp; omega
    have hg := GoError_c w r h h4
    clear h4 h0
    go_enter Tryz.func64, Tryz.ntmps64
    go_wp2_with fail
    refine hg.mono ?_
    rintro e w' ⟨rfl, hw⟩
    obtain rfl := hw
    go_wp2
    go_ret2
    exact ⟨rfl, rfl⟩

end Go.Proofs.YtgdpljjmnmapmaaGreatDoor

namespace Go.Proofs.YtgdpljjmnmapmaaGreatDoor
open Go Go.RowKit

/-- A condition by the thin package's numbers. -/
def condN (r : Nat) : Nat := r / 4 + r % 4 * 1024
/-- What the first k of them give. -/
def condP (k r : Nat) : Nat := if k ≤ 10 then r / 4 % 2 ^ k else r / 4 % 1024 + (if k = 11 then r % 2 else r % 4) * 1024
def condC (k : Nat) : Nat := if k < 10 then 4 * 2 ^ k else 2 ^ (k - 10)
theorem cond_all : (List.range 12).all (fun k => (List.range 4096).all fun r =>
    decide ((if bits .and .u32 (r : Int) (condC k : Int) != 0 then bits .or .i64 (condP k r : Int) ((2 ^ k : Nat) : Int) else (condP k r : Int)) = (condP (k + 1) r : Int))) = true := by kernel_rfl
theorem cond_step (k r : Nat) (hk : k < 12) (hr : r < 4096) :
    (if bits .and .u32 (r : Int) (condC k : Int) != 0 then bits .or .i64 (condP k r : Int) ((2 ^ k : Nat) : Int) else (condP k r : Int)) = (condP (k + 1) r : Int) := by
  have := List.all_eq_true.1 (List.all_eq_true.1 cond_all k (List.mem_range.2 hk)) r (List.mem_range.2 hr)
  exact of_decide_eq_true this

theorem index_cond (k : Nat) (hk : k < 12) (w : World) : (Instr.index 103 (.agg #[.int .u32 4, .int .u32 8, .int .u32 16, .int .u32 32, .int .u32 64, .int .u32 128, .int .u32 256, .int .u32 512, .int .u32 1024, .int .u32 2048, .int .u32 1, .int .u32 2]) (.int .i64 (k : Int))).run Tryz.prog w = .ok (.int .u32 (condC k : Int)) w := by
  have h : k = 0 ∨ k = 1 ∨ k = 2 ∨ k = 3 ∨ k = 4 ∨ k = 5 ∨ k = 6 ∨ k = 7 ∨ k = 8 ∨ k = 9 ∨ k = 10 ∨ k = 11 := by omega
  rcases h with rfl | rfl | rfl | rfl | rfl | rfl | rfl | rfl | rfl | rfl | rfl | rfl
  all_goals (show _ = _; kernel_rfl)
end Go.Proofs.YtgdpljjmnmapmaaGreatDoor

namespace Go.Proofs.YtgdpljjmnmapmaaGreatDoor
open Go Go.RowKit

theorem wrap_pow (k : Nat) (h : k < 12) : wrap64 (2 ^ k) = ((2 ^ k : Nat) : Int) := by
  have h : k = 0 ∨ k = 1 ∨ k = 2 ∨ k = 3 ∨ k = 4 ∨ k = 5 ∨ k = 6 ∨ k = 7 ∨ k = 8 ∨ k = 9 ∨ k = 10 ∨ k = 11 := by omega
  rcases h with rfl | rfl | rfl | rfl | rfl | rfl | rfl | rfl | rfl | rfl | rfl | rfl <;> (show _ = _; kernel_rfl)

set_option maxHeartbeats 1000000 in
theorem conditions_c (w : World) (r : Nat) (hr : r < 4096) :
    Calls Tryz.prog 31 #[.int .u32 (r : Int)] w fun e w' => e = .returned (.int .i64 (condN r : Int)) ∧ w = w' := by
  go_enter Tryz.func31, Tryz.ntmps31
  go_wp2
  go_loop [3, 7] (fun out i => ∃ k : Nat, k ≤ 12 ∧ i = .int .i64 k ∧ out = .int .i64 (condP k r : Int)) (fun _ i => 12 - (intOf i).toNat)
  case atStart => exact ⟨0, Nat.zero_le _, rfl, by unfold condP; simp⟩
  case round =>
    obtain ⟨k, hk, rfl, rfl⟩ := hrel
    by_cases hlt : k < 12
    · have ix := fun w => index_cond k hlt w
      have st := cond_step k r hlt hr
      replace st := Lib.hid st
      cases hb : (bits .and .u32 (r : Int) (condC k : Int) != 0)
      · go_wp2
        have st := st.out
        rw [hb, if_neg (by decide)] at st
        exact ⟨⟨k + 1, by omega, by go_num, by rw [st]⟩, by simp [intOf]; omega⟩
      · go_wp2
        have st := st.out
        rw [hb, if_pos rfl] at st
        rw [wrap_pow k hlt, st]
        exact ⟨⟨k + 1, by omega, by go_num, rfl⟩, by simp [intOf]; omega⟩
    · obtain rfl : k = 12 := by omega
      go_wp2
      go_ret
      have hfin : condP 12 r = condN r := by unfold condP condN; simp; omega
      exact ⟨(by show Ending.returned (.int .i64 (condP 12 r : Int)) = _; rw [hfin]), rfl⟩
end Go.Proofs.YtgdpljjmnmapmaaGreatDoor

namespace Go.Proofs.YtgdpljjmnmapmaaGreatDoor
open Go Go.RowKit

/-- How a number of a mode rounds. -/
def modeS (m : Nat) : ByteArray := match m with
  | 0 => "down".toByteArray
  | 2 => "half_even".toByteArray
  | 3 => "ceiling".toByteArray
  | 4 => "floor".toByteArray
  | 5 => "half_down".toByteArray
  | 6 => "up".toByteArray
  | 7 => "05up".toByteArray
  | _ => "half_up".toByteArray

theorem rounder_c (w : World) (m : Nat) (hm : m < 8) : Calls Tryz.prog 48 #[.int .i64 (m : Int)] w fun e w' => e = .returned (.string (modeS m)) ∧ w = w' := by
  have h : m = 0 ∨ m = 1 ∨ m = 2 ∨ m = 3 ∨ m = 4 ∨ m = 5 ∨ m = 6 ∨ m = 7 := by omega
  rcases h with rfl | rfl | rfl | rfl | rfl | rfl | rfl | rfl <;>
  · go_enter Tryz.func48, Tryz.ntmps48
    go_wp2
    go_ret
    exact ⟨by kernel_rfl, rfl⟩

/-- A context out of plain data: a precision that fits, exponents that fit. -/
theorem context_c (w : World) (p a b : Int) (m : Nat) (hm : m < 8) (hp : 0 ≤ p ∧ p ≤ 4294967295) (ha : -2147483648 ≤ a ∧ a ≤ 2147483647) (hb : -2147483648 ≤ b ∧ b ≤ 2147483647) :
    Calls Tryz.prog 27 #[.agg #[.int .u64 p, .int .i64 a, .int .i64 b, .int .i64 (m : Int)]] w fun e w' => ∃ c, e = .returned (.pointer (some ⟨c, 0, none⟩)) ∧ w.heap.size ≤ c ∧ Ctx w' c p a b (modeS m) ∧ Chg w w' (fun _ => False) := by
  have hr := fun w => rounder_c w m hm
  obtain ⟨hp1, hp2⟩ := hp
  obtain ⟨ha1, ha2⟩ := ha
  obtain ⟨hb1, hb2⟩ := hb
  go_enter Tryz.func27, Tryz.ntmps27
  go_wp2
  go_region_held3 (fun w' => w'.cell? ⟨w.heap.size, 0, none⟩ = some (.int .u64 p) ∧ w'.cell? ⟨w.heap.size, 1, none⟩ = some (.int .i64 a) ∧ w'.cell? ⟨w.heap.size, 2, none⟩ = some (.int .i64 b) ∧ w'.cell? ⟨w.heap.size, 3, none⟩ = some (.int .i64 (m : Int))) (go_keep) (first
    | (go_at_call 48; refine (hr _).mono ?_; rintro e w' ⟨rfl, hw⟩; obtain rfl := hw))
  go_wp2
  go_ret
  rw [IntWalk.u32_in _ (by omega), IntWalk.i32_in _ (by omega), IntWalk.i32_in _ (by omega)]
  refine ⟨w.heap.size + 1, rfl, by omega, ?_, (((Chg.refl w _).alloc _).alloc _).drew⟩
  have h := allocB (w.alloc (.cells #[.int .u64 p, .int .i64 a, .int .i64 b, .int .i64 (m : Int)] 34 (0, 0))) (.cells #[.int .u32 p, .int .i32 a, .int .i32 b, .int .u32 0, .string (modeS m)] 95 (0, 0))
  rw [World.size_alloc] at h
  exact h

/-- A special form is told by its form and its sign. -/
theorem toldZ_c (w : World) (d : Nat) (f ex : Int) (n : Bool) (hd : DecZ w d f n ex) (hf : f = 1 ∨ f = 2 ∨ f = 3) :
    Calls Tryz.prog 30 #[.pointer (some ⟨d, 0, none⟩)] w fun e w' => e = .returned (.agg #[.int .i64 f, .bool n, .slice none 0 0, .int .i64 0]) ∧ Chg w w' (fun _ => False) := by
  have d0 := hd.c0
  have d1 := hd.c1
  have hlt := ltB hd
  rcases hf with rfl | rfl | rfl
  · go_enter Tryz.func30, Tryz.ntmps30
    go_wp2
    exact bodyPost_ret (v := .agg #[.int .i64 1, .bool n, .slice none 0 0, .int .i64 0]) (by simp [results, Tryz.results30, go_sem]) rfl ⟨rfl, ((Chg.refl w _).alloc _).alloc _⟩
  · go_enter Tryz.func30, Tryz.ntmps30
    go_wp2
    exact bodyPost_ret (v := .agg #[.int .i64 2, .bool n, .slice none 0 0, .int .i64 0]) (by simp [results, Tryz.results30, go_sem]) rfl ⟨rfl, ((Chg.refl w _).alloc _).alloc _⟩
  · go_enter Tryz.func30, Tryz.ntmps30
    go_wp2
    exact bodyPost_ret (v := .agg #[.int .i64 3, .bool n, .slice none 0 0, .int .i64 0]) (by simp [results, Tryz.results30, go_sem]) rfl ⟨rfl, ((Chg.refl w _).alloc _).alloc _⟩

/-- A special form is made. -/
theorem madeZ_c (w : World) (f : Int) (n : Bool) (hf : f = 1 ∨ f = 2 ∨ f = 3) (A : Option Addr) (l c : Nat) (ex : Int) :
    Calls Tryz.prog 29 #[.agg #[.int .i64 f, .bool n, .slice A l c, .int .i64 ex]] w fun e w' => ∃ d, e = .returned (.pointer (some ⟨d, 0, none⟩)) ∧ w.heap.size ≤ d ∧ DecZ w' d f n 0 ∧ Chg w w' (fun _ => False) := by
  have fin : ∀ o o', o' = .cells #[.int .i8 f, .bool n, .int .i32 0, .bool false, .slice none 0 0, .bool false] 64 (0, 0) → DecZ ((w.alloc o).alloc o') (w.heap.size + 1) f n 0 := by
    rintro o o' rfl
    have h := allocB (w.alloc o) (.cells #[.int .i8 f, .bool n, .int .i32 0, .bool false, .slice none 0 0, .bool false] 64 (0, 0))
    rw [World.size_alloc] at h
    exact h
  rcases hf with rfl | rfl | rfl <;>
  · replace fin := Lib.hid fin
    go_enter Tryz.func29, Tryz.ntmps29
    go_wp2
    go_ret
    exact ⟨w.heap.size + 1, rfl, by omega, fin.out _ _ rfl, ((Chg.refl w _).alloc _).alloc _⟩

/-- The signaling form is a condition. -/
def nanR (f : Int) : Nat := if f = 2 then 1024 else 0
/-- The signaling form, or the quiet one, among the operands: the first one. -/
theorem setNaNx_c (w : World) (c d x y : Nat) (p a b : Int) (m : ByteArray) (fd fx fy ed ex : Int) (nd nx : Bool) (hc : Ctx w c p a b m) (hd : DecZ w d fd nd ed) (hx : DecZ w x fx nx ex) (hy : w.cell? ⟨y, 0, none⟩ = some (.int .i8 fy))
    (hfx : fx = 2 ∨ fx = 3) (hfy : fy = 0 ∨ fy = 1) (hdx : d ≠ x) (hdc : d ≠ c) :
    Calls Tryz.prog 61 #[.pointer (some ⟨c, 0, none⟩), .pointer (some ⟨d, 0, none⟩), .pointer (some ⟨x, 0, none⟩), .pointer (some ⟨y, 0, none⟩)] w fun e w' =>
      e = .returned (.tuple #[.int .u32 (nanR fx : Int), .nilIface]) ∧ DecZ w' d 3 nx ex ∧ Chg w w' (fun k => k = d) := by
  have x0 := hx.c0
  have key := decSetZ w d x fd ed fx ex nd nx hd hx hdx
  have ge0 := fun w h => goError_c w c 0 p a b m h (by decide) (by decide)
  have ge1 := fun w h => goError_c w c 1024 p a b m h (by decide) (by decide)
  replace ge0 := Lib.hid ge0
  replace ge1 := Lib.hid ge1
  rcases hfx with rfl | rfl
  · rcases hfy with rfl | rfl <;>
    · replace hc := Lib.hid hc
      go_enter Tryz.func61, Tryz.ntmps61
      go_wp2_with fail
      refine key.mono ?_
      rintro e w1 ⟨rfl, hd1, hch⟩
      have hx1 := (hx.chg hch (fun e => hdx e.symm)).c0
      have d0 := hd1.c0
      have df0 := hd1.fz 0
      have h2 : DecZ _ d 3 nx ex := setB (i := 0) (v := .int .i8 3) hd1
      have hch2 := hch.trans ((chg_setB w1 d 0 (.int .i8 3)).mono (fun _ _ h => .inl h))
      have hc2 := hc.out.chg hch2 (fun e => hdc e.symm)
      replace hc2 := Lib.hid hc2
      replace h2 := Lib.hid h2
      replace hch2 := Lib.hid hch2
      go_wp2_with fail
      refine (ge1.out _ hc2.out).mono ?_
      rintro e w2 ⟨rfl, hw⟩
      obtain rfl := hw
      go_wp2
      go_ret2
      exact ⟨by kernel_rfl, h2.out, hch2.out⟩
  · rcases hfy with rfl | rfl <;>
    · replace hc := Lib.hid hc
      go_enter Tryz.func61, Tryz.ntmps61
      go_wp2_with fail
      refine key.mono ?_
      rintro e w1 ⟨rfl, hd1, hch⟩
      have hx1 := (hx.chg hch (fun e => hdx e.symm)).c0
      have hc2 := hc.out.chg hch (fun e => hdc e.symm)
      replace hc2 := Lib.hid hc2
      go_wp2_with fail
      refine (ge0.out _ hc2.out).mono ?_
      rintro e w2 ⟨rfl, hw⟩
      obtain rfl := hw
      go_wp2
      go_ret2
      exact ⟨by kernel_rfl, hd1, hch⟩

/-- The second one. -/
theorem setNaNy_c (w : World) (c d x y : Nat) (p a b : Int) (m : ByteArray) (fd fx fy ed ey : Int) (nd ny : Bool) (hc : Ctx w c p a b m) (hd : DecZ w d fd nd ed) (hy : DecZ w y fy ny ey) (hx : w.cell? ⟨x, 0, none⟩ = some (.int .i8 fx))
    (hfy : fy = 2 ∨ fy = 3) (hfx : fx = 0 ∨ fx = 1) (hdy : d ≠ y) (hdc : d ≠ c) :
    Calls Tryz.prog 61 #[.pointer (some ⟨c, 0, none⟩), .pointer (some ⟨d, 0, none⟩), .pointer (some ⟨x, 0, none⟩), .pointer (some ⟨y, 0, none⟩)] w fun e w' =>
      e = .returned (.tuple #[.int .u32 (nanR fy : Int), .nilIface]) ∧ DecZ w' d 3 ny ey ∧ Chg w w' (fun k => k = d) := by
  have y0 := hy.c0
  have key := decSetZ w d y fd ed fy ey nd ny hd hy hdy
  have ge0 := fun w h => goError_c w c 0 p a b m h (by decide) (by decide)
  have ge1 := fun w h => goError_c w c 1024 p a b m h (by decide) (by decide)
  replace ge0 := Lib.hid ge0
  replace ge1 := Lib.hid ge1
  rcases hfy with rfl | rfl
  · rcases hfx with rfl | rfl <;>
    · replace hc := Lib.hid hc
      go_enter Tryz.func61, Tryz.ntmps61
      go_wp2_with fail
      refine key.mono ?_
      rintro e w1 ⟨rfl, hd1, hch⟩
      have hy1 := (hy.chg hch (fun e => hdy e.symm)).c0
      have d0 := hd1.c0
      have df0 := hd1.fz 0
      have h2 : DecZ _ d 3 ny ey := setB (i := 0) (v := .int .i8 3) hd1
      have hch2 := hch.trans ((chg_setB w1 d 0 (.int .i8 3)).mono (fun _ _ h => .inl h))
      have hc2 := hc.out.chg hch2 (fun e => hdc e.symm)
      replace hc2 := Lib.hid hc2
      replace h2 := Lib.hid h2
      replace hch2 := Lib.hid hch2
      go_wp2_with fail
      refine (ge1.out _ hc2.out).mono ?_
      rintro e w2 ⟨rfl, hw⟩
      obtain rfl := hw
      go_wp2
      go_ret2
      exact ⟨by kernel_rfl, h2.out, hch2.out⟩
  · rcases hfx with rfl | rfl <;>
    · replace hc := Lib.hid hc
      go_enter Tryz.func61, Tryz.ntmps61
      go_wp2_with fail
      refine key.mono ?_
      rintro e w1 ⟨rfl, hd1, hch⟩
      have hy1 := (hy.chg hch (fun e => hdy e.symm)).c0
      have hc2 := hc.out.chg hch (fun e => hdc e.symm)
      replace hc2 := Lib.hid hc2
      go_wp2_with fail
      refine (ge0.out _ hc2.out).mono ?_
      rintro e w2 ⟨rfl, hw⟩
      obtain rfl := hw
      go_wp2
      go_ret2
      exact ⟨by kernel_rfl, hd1, hch⟩
end Go.Proofs.YtgdpljjmnmapmaaGreatDoor

namespace Go.Proofs.YtgdpljjmnmapmaaGreatDoor
open Go Go.RowKit

/-- A decimal in memory: form, sign, exponent, coefficient (in a place of its own). -/
def DecA (w : World) (b : Nat) (form : Int) (neg : Bool) (exp : Int) (N : Nat) (o : Option Nat) : Prop :=
  ∃ v, w.heap[b]? = some (.cells #[.int .i8 form, .bool neg, .int .i32 exp, .bool false, v, .bool false] 64 (0, 0)) ∧ IsNat w v N o
theorem DecZ.toA {w : World} {b : Nat} {f e : Int} {n : Bool} (h : DecZ w b f n e) : DecA w b f n e 0 none := ⟨_, h, IsNat.zero w⟩
theorem DecA.chg {w w' : World} {S : Nat → Prop} {b : Nat} {f e : Int} {n : Bool} {N : Nat} {o : Option Nat} (h : DecA w b f n e N o) (hc : Chg w w' S) (hn : ¬ S b) (ho : ∀ k, o = some k → ¬ S k) : DecA w' b f n e N o := by
  obtain ⟨v, h1, h2⟩ := h
  exact ⟨v, hc.heapB h1 hn, h2.chg hc ho⟩
theorem DecA.drewN {w : World} {b : Nat} {f e : Int} {n : Bool} {N : Nat} {o : Option Nat} (h : DecA w b f n e N o) (k : Nat) : DecA (w.drewN k) b f n e N o := h.chg (S := fun _ => False) ((Chg.refl w _).drewN k) (fun h => h) (fun _ _ h => h)
theorem DecA.c0 {w : World} {b : Nat} {f e : Int} {n : Bool} {N : Nat} {o : Option Nat} (h : DecA w b f n e N o) : w.cell? ⟨b, 0, none⟩ = some (.int .i8 f) := by obtain ⟨v, h, _⟩ := h; exact cellB h rfl
theorem DecA.c1 {w : World} {b : Nat} {f e : Int} {n : Bool} {N : Nat} {o : Option Nat} (h : DecA w b f n e N o) : w.cell? ⟨b, 1, none⟩ = some (.bool n) := by obtain ⟨v, h, _⟩ := h; exact cellB h rfl
theorem DecA.c2 {w : World} {b : Nat} {f e : Int} {n : Bool} {N : Nat} {o : Option Nat} (h : DecA w b f n e N o) : w.cell? ⟨b, 2, none⟩ = some (.int .i32 e) := by obtain ⟨v, h, _⟩ := h; exact cellB h rfl
theorem DecA.c3 {w : World} {b : Nat} {f e : Int} {n : Bool} {N : Nat} {o : Option Nat} (h : DecA w b f n e N o) : w.cell? ⟨b, 3, none⟩ = some (.bool false) := by obtain ⟨v, h, _⟩ := h; exact cellB h rfl
theorem DecA.c4 {w : World} {b : Nat} {f e : Int} {n : Bool} {N : Nat} {o : Option Nat} (h : DecA w b f n e N o) : ∃ v, w.cell? ⟨b, 4, none⟩ = some v ∧ IsNat w v N o := by obtain ⟨v, h, h2⟩ := h; exact ⟨v, cellB h rfl, h2⟩
theorem DecA.c5 {w : World} {b : Nat} {f e : Int} {n : Bool} {N : Nat} {o : Option Nat} (h : DecA w b f n e N o) : w.cell? ⟨b, 5, none⟩ = some (.bool false) := by obtain ⟨v, h, _⟩ := h; exact cellB h rfl
theorem DecA.lt {w : World} {b : Nat} {f e : Int} {n : Bool} {N : Nat} {o : Option Nat} (h : DecA w b f n e N o) : b < w.heap.size := by obtain ⟨v, h, _⟩ := h; exact ltB h

/-- -1, 0 or 1. -/
def sgN (n : Bool) (N : Nat) : Int := if N = 0 then 0 else if n then -1 else 1

theorem intSign_c (w : World) (b o : Nat) (n : Bool) (N : Nat) (v : Value) (ob : Option Nat) (h0 : w.cell? ⟨b, o, none⟩ = some (.bool n)) (h1 : w.cell? ⟨b, o + 1, none⟩ = some v) (hv : IsNat w v N ob) :
    Calls Tryz.prog 123 #[.pointer (some ⟨b, o, none⟩)] w fun e w' => e = .returned (.int .i64 (sgN n N)) ∧ w = w' := by
  obtain ⟨p, c, rfl, hl, hc⟩ := hv.shape
  clear hv
  by_cases hN : N = 0
  · subst hN
    have hs : sgN n 0 = 0 := by simp [sgN]
    rw [digs_zero] at h1 hl
    replace hs := Lib.hid hs
    go_enter Tryz.func123, Tryz.ntmps123
    go_wp2
    go_ret
    exact ⟨by rw [hs.out]; rfl, rfl⟩
  · have e0 := int_eq0 (digs_len_pos hN)
    have hs : sgN n N = if n then -1 else 1 := by simp [sgN, hN]
    replace hs := Lib.hid hs
    generalize (digs N).length = L at *
    cases n
    · go_enter Tryz.func123, Tryz.ntmps123
      go_wp2
      go_ret
      exact ⟨by rw [hs.out]; rfl, rfl⟩
    · go_enter Tryz.func123, Tryz.ntmps123
      go_wp2
      go_ret
      exact ⟨by rw [hs.out]; rfl, rfl⟩

theorem bigSign_c (w : World) (b o : Nat) (n : Bool) (N : Nat) (v : Value) (ob : Option Nat) (h0 : w.cell? ⟨b, o, none⟩ = some (.bool n)) (h1 : w.cell? ⟨b, o + 1, none⟩ = some v) (h2 : w.cell? ⟨b, o + 2, none⟩ = some (.bool false)) (hv : IsNat w v N ob) :
    Calls Tryz.prog 86 #[.pointer (some ⟨b, o, none⟩)] w fun e w' => e = .returned (.int .i64 (sgN n N)) ∧ w = w' := by
  have key := intSign_c w b o n N v ob h0 h1 hv
  clear hv h0 h1
  go_enter Tryz.func86, Tryz.ntmps86
  go_wp2_with fail
  refine key.mono ?_
  rintro e w' ⟨rfl, hw⟩
  obtain rfl := hw
  go_wp2
  go_ret
  exact ⟨rfl, rfl⟩

/-- The sign of a decimal: of a finite one by its coefficient. -/
def sgD (f : Int) (n : Bool) (N : Nat) : Int := if f = 0 ∧ N = 0 then 0 else if n then -1 else 1
theorem decSign_c (w : World) (b : Nat) (f e : Int) (n : Bool) (N : Nat) (o : Option Nat) (h : DecA w b f n e N o) (hf : 0 ≤ f ∧ f ≤ 3) :
    Calls Tryz.prog 50 #[.pointer (some ⟨b, 0, none⟩)] w fun e w' => e = .returned (.int .i64 (sgD f n N)) ∧ w = w' := by
  have h0 := h.c0
  have h1 := h.c1
  by_cases hf0 : f = 0
  · subst hf0
    obtain ⟨v, h4, hv⟩ := h.c4
    have key := bigSign_c w b 3 false N v o h.c3 h4 h.c5 hv
    by_cases hN : N = 0
    · subst hN
      have hs : sgD 0 n 0 = 0 := by simp [sgD]
      have hz : sgN false 0 = 0 := by simp [sgN]
      rw [hz] at key
      replace hs := Lib.hid hs
      clear h h4 hv hf
      go_enter Tryz.func50, Tryz.ntmps50
      go_wp2_with fail
      refine key.mono ?_
      rintro e w' ⟨rfl, hw⟩
      obtain rfl := hw
      go_wp2
      go_ret
      exact ⟨by rw [hs.out]; rfl, rfl⟩
    · have hs : sgD 0 n N = if n then -1 else 1 := by simp [sgD, hN]
      have hz : sgN false N = 1 := by simp [sgN, hN]
      rw [hz] at key
      replace hs := Lib.hid hs
      replace hN := Lib.hid hN
      clear h h4 hv hf
      cases n
      all_goals
        go_enter Tryz.func50, Tryz.ntmps50
        go_wp2_with fail
        refine key.mono ?_
        rintro e w' ⟨rfl, hw⟩
        obtain rfl := hw
        go_wp2
        go_ret
        exact ⟨by rw [hs.out]; rfl, rfl⟩
  · have hs : sgD f n N = if n then -1 else 1 := by simp [sgD, hf0]
    have e0 : (f == 0) = false := by simp [hf0]
    replace hs := Lib.hid hs
    clear h
    cases n
    all_goals
      go_enter Tryz.func50, Tryz.ntmps50
      go_wp2
      go_ret
      exact ⟨by rw [hs.out]; rfl, rfl⟩

theorem isZero_c (w : World) (b : Nat) (f e : Int) (n : Bool) (N : Nat) (o : Option Nat) (h : DecA w b f n e N o) (hf : 0 ≤ f ∧ f ≤ 3) :
    Calls Tryz.prog 72 #[.pointer (some ⟨b, 0, none⟩)] w fun e w' => e = .returned (.bool (decide (f = 0 ∧ N = 0))) ∧ w = w' := by
  have key := decSign_c w b f e n N o h hf
  by_cases hz : f = 0 ∧ N = 0
  · have hs : sgD f n N = 0 := by simp [sgD, hz]
    rw [hs] at key
    have hd : decide (f = 0 ∧ N = 0) = true := by simp [hz]
    rw [hd]
    clear h hz hs hd
    go_enter Tryz.func72, Tryz.ntmps72
    go_wp2_with fail
    refine key.mono ?_
    rintro e w' ⟨rfl, hw⟩
    obtain rfl := hw
    go_wp2
    go_ret
    exact ⟨rfl, rfl⟩
  · have hs : sgD f n N = if n then -1 else 1 := by simp only [sgD]; rw [if_neg hz]
    rw [hs] at key
    have hd : decide (f = 0 ∧ N = 0) = false := by simp [hz]
    rw [hd]
    clear h hz hs hd
    cases n
    all_goals
      go_enter Tryz.func72, Tryz.ntmps72
      go_wp2_with fail
      refine key.mono ?_
      rintro e w' ⟨rfl, hw⟩
      obtain rfl := hw
      go_wp2
      go_ret
      exact ⟨rfl, rfl⟩
end Go.Proofs.YtgdpljjmnmapmaaGreatDoor

namespace Go.Proofs.YtgdpljjmnmapmaaGreatDoor
open Go Go.RowKit

/-- Words that are read at the head of a block. -/
def RdN (w : World) (b : Nat) (L : List Nat) : Prop := ∀ j, j < L.length → w.cell? ⟨b, j, none⟩ = some (.int .u64 (nth L j : Int))

set_option maxHeartbeats 400000 in
theorem norm_rd (w : World) (b cap : Nat) (L : List Nat) (hb : RdN w b L) (hW : Wd L) (hlc : L.length ≤ cap) (hn : L.length ≤ 1000000) (_hc : cap ≤ 9223372036854775807) :
    Calls Tryz.prog 126 #[.slice (some ⟨b, 0, none⟩) L.length cap] w fun e w' => e = .returned (.slice (some ⟨b, 0, none⟩) (digs (val L)).length cap) ∧ w = w' := by
  replace hb := Lib.hid hb
  obtain ⟨l, hl⟩ : ∃ l, L.length = l := ⟨_, rfl⟩
  rw [hl] at hlc hn ⊢
  replace hl := Lib.hid hl
  go_enter Tryz.func126, Tryz.ntmps126
  go_wp2
  go_loop [3] (fun i => ∃ k : Nat, k ≤ l ∧ i = .int .i64 k ∧ ∀ j, k ≤ j → j < l → nth L j = 0) (fun i => (intOf i).toNat)
  case atStart => exact ⟨l, Nat.le_refl _, rfl, fun j h1 h2 => by omega⟩
  case round =>
    obtain ⟨k, hk, rfl, hz⟩ := hrel
    replace hz := Lib.hid hz
    by_cases hk0 : k = 0
    · subst hk0
      go_wp2
      go_ret
      have := digs_val_cut hW (k := 0) (Nat.zero_le _) (fun j h1 h2 => hz.out j h1 (by rw [hl.out] at h2; exact h2)) (.inl rfl)
      exact ⟨by rw [this]; rfl, rfl⟩
    · obtain ⟨j, rfl⟩ : ∃ j, k = j + 1 := ⟨k - 1, by omega⟩
      have hcell := hb.out j (by rw [hl.out]; omega)
      by_cases h0 : nth L j = 0
      · rw [h0] at hcell
        replace h0 := Lib.hid h0
        go_wp2
        go_round
        case rel =>
          refine ⟨j, by omega, rfl, fun i h1 h2 => ?_⟩
          by_cases e : i = j
          · subst e; exact h0.out
          · exact hz.out i (by omega) h2
        case measure => simp [intOf]
      · have e0 : ((nth L j : Int) == 0) = false := by simp; omega
        replace h0 := Lib.hid h0
        go_wp2
        go_ret
        have := digs_val_cut hW (k := j + 1) (by rw [hl.out]; omega) (fun i h1 h2 => hz.out i h1 (by rw [hl.out] at h2; exact h2)) (.inr (by rw [Nat.add_sub_cancel]; exact h0.out))
        exact ⟨by rw [this]; rfl, rfl⟩

/-- The words of a number that are read, set into nothing. -/
theorem set_rd (w : World) (b cap N : Nat) (hb : RdN w b (digs N)) (h0 : N ≠ 0) (hn : (digs N).length ≤ 1000) :
    Calls Tryz.prog 125 #[.slice none 0 0, .slice (some ⟨b, 0, none⟩) (digs N).length cap] w fun e w' => ∃ r, e = .returned r ∧ NatRes w w' none r N := by
  have hpx := digs_len_pos h0
  have hmk := make_c w (.slice none 0 0) none (stor_none w) (digs N).length hpx hn
  replace hb := Lib.hid hb
  go_enter Tryz.func125, Tryz.ntmps125
  go_wp2_with fail
  refine hmk.mono ?_
  rintro e w1 ⟨r, rfl, bz, capz, C, rfl, ha, hC, hnc, hcap, hbz, hchg⟩
  have hwd := Wd_digs N
  have hsrc : ∀ j, j < (digs N).length → w1.cell? ⟨b, 0 + j, none⟩ = some (.int .u64 (nth (digs N) j : Int)) := by
    intro j hj
    rw [Nat.zero_add]
    exact hchg.cell (hb.out j hj) (fun h => h)
  have hmin : (digs N).length = Nat.min (digs N).length (digs N).length := by simp
  replace hsrc := Lib.hid hsrc
  replace hmin := Lib.hid hmin
  go_upto_region 2 with (fail)
  refine wp_region_lit ?_
  go_wp2_with (refine wpList_copyW rfl (.tmp 9) (.tmp 10) 58 58 rfl Tryz.underlying58 bz 0 _ capz b 0 _ cap rfl rfl C (digs N) ha hwd hmin.out (by omega) hsrc.out ?_)
  intro w2 hS
  go_wp2
  go_ret
  have h1 : (spl C 0 (digs N)).length = capz := by rw [spl_length (by omega), hC]
  have := natRes_of hbz hchg hS h1 hnc hcap
  rw [spl_zero_take (by omega), val_digs] at this
  exact ⟨_, rfl, this⟩

/-- An Int in a block of its own. -/
def IntBlk (w : World) (b : Nat) (n : Bool) (v : Value) : Prop := w.heap[b]? = some (.cells #[.bool n, v] 60 (0, 0))
def BigBlk (w : World) (b : Nat) (n : Bool) (v : Value) (m : Bool) : Prop := w.heap[b]? = some (.cells #[.bool n, v, .bool m] 62 (0, 0))

theorem setBits_c (w : World) (z : Nat) (n : Bool) (u : Value) (p p' : Option Addr) (l l' c c' : Nat) (hz : IntBlk w z n u)
    (hn : Calls Tryz.prog 126 #[.slice p l c] w fun e w' => e = .returned (.slice p' l' c') ∧ w = w') :
    Calls Tryz.prog 90 #[.pointer (some ⟨z, 0, none⟩), .slice p l c] w fun e w' => e = .returned (.pointer (some ⟨z, 0, none⟩)) ∧ IntBlk w' z false (.slice p' l' c') ∧ Chg w w' (fun k => k = z) := by
  have z0 : w.cell? ⟨z, 0, none⟩ = some (.bool n) := cellB hz rfl
  have z1 : w.cell? ⟨z, 1, none⟩ = some u := cellB hz rfl
  have f0 := frozenB hz 0
  have f1 := frozenB hz 1
  replace hn := Lib.hid hn
  replace hz := Lib.hid hz
  go_enter Tryz.func90, Tryz.ntmps90
  go_wp2_with fail
  with_reducible refine hn.out.mono ?_
  rintro e w' ⟨rfl, hw⟩
  obtain rfl := hw
  go_wp2
  go_ret
  exact ⟨rfl, setB (i := 0) (v := .bool false) (setB (i := 1) (v := .slice p' l' c') hz.out), (chg_setB w z 1 _).trans ((chg_setB _ z 0 _).mono (fun _ _ h => .inl h))⟩

/-- What an Int is after a number is set: its cells, its words. -/
def IntRes (w w' : World) (pz oz : Nat) (cs : Array Value) (T : TypeId) (o : Option Nat) (n : Bool) (N : Nat) : Prop :=
  ∃ v' o', w'.heap[pz]? = some (.cells ((cs.setIfInBounds (oz + 1) v').setIfInBounds oz (.bool n)) T (0, 0)) ∧ IsNat w' v' N o' ∧ (o' = o ∨ o' = none ∨ ∃ b, o' = some b ∧ w.heap.size ≤ b) ∧ Chg w w' (fun k => k = pz ∨ some k = o)

theorem IsNat.setCell {w : World} {v : Value} {N : Nat} {o : Option Nat} (h : IsNat w v N o) (b i : Nat) (u : Value) (hb : o ≠ some b) : IsNat (w.setCell ⟨b, i, none⟩ u) v N o :=
  h.chg (chg_setB w b i u) (fun k hk e => hb (by rw [hk, e]))

theorem Arr.ne2 {w : World} {b t : Nat} {C : List Nat} {cs : Array Value} {T : TypeId} (ha : Arr w b C) (ht : w.heap[t]? = some (.cells cs T (0, 0))) (hT : T ≠ 133) : b ≠ t := by
  rintro rfl
  have := ha.heap
  rw [ht] at this
  simp only [Option.some.injEq, Obj.cells.injEq] at this
  exact hT this.2.1
theorem Stor.ne2 {w : World} {v : Value} {b t : Nat} {cs : Array Value} {T : TypeId} (h : Stor w v (some b)) (ht : w.heap[t]? = some (.cells cs T (0, 0))) (hT : T ≠ 133) : b ≠ t := by
  rcases h with ⟨_, h⟩ | ⟨b', l, cap, C, h, _, _, ha, _⟩
  · cases h
  · cases h; exact ha.ne2 ht hT
theorem set_size {α : Type} {a : Array α} {i : Nat} {v : α} (h : a[i]? = some v) : i < a.size := by
  rcases Nat.lt_or_ge i a.size with h' | h'
  · exact h'
  · rw [Array.getElem?_eq_none h'] at h; cases h

set_option maxHeartbeats 400000 in
/-- Set, of another block's Int. -/
theorem intSet_c (w : World) (pz oz px ox : Nat) (cs cx : Array Value) (T Tx : TypeId) (o : Option Nat) (nz n : Bool) (u v : Value) (N : Nat) (hz : w.heap[pz]? = some (.cells cs T (0, 0))) (hT : T ≠ 133) (hz0 : cs[oz]? = some (.bool nz)) (hz1 : cs[oz + 1]? = some u)
    (hx : w.heap[px]? = some (.cells cx Tx (0, 0))) (hTx : Tx ≠ 133) (hx0 : cx[ox]? = some (.bool n)) (hx1 : cx[ox + 1]? = some v) (hne : pz ≠ px) (hu : Stor w u o) (hvs : ∃ p l c, v = .slice p l c)
    (hs : ∀ w2 k, w2 = w.drewN k → Calls Tryz.prog 125 #[u, v] w2 fun e w' => ∃ r, e = .returned r ∧ NatRes w2 w' o r N) :
    Calls Tryz.prog 88 #[.pointer (some ⟨pz, oz, none⟩), .pointer (some ⟨px, ox, none⟩)] w fun e w' => e = .returned (.pointer (some ⟨pz, oz, none⟩)) ∧ IntRes w w' pz oz cs T o n N := by
  have hq := neqInt (oa := oz) (ob := ox) (fun e => hne (congrArg Addr.block e)) hz hx
  have z0 := cellB hz hz0
  have z1 := cellB hz hz1
  have f0 := frozenB hz oz
  have f1 := frozenB hz (oz + 1)
  have x0 := cellB hx hx0
  have x1 := cellB hx hx1
  have hpo : ∀ b, o = some b → b ≠ pz := fun b e => by subst e; exact hu.ne2 hz hT
  have hxo : ∀ b, o = some b → b ≠ px := fun b e => by subst e; exact hu.ne2 hx hTx
  obtain ⟨p, l, c, rfl⟩ := hvs
  obtain ⟨pu, lu, cu, rfl⟩ := stor_slice hu
  replace hs := Lib.hid hs
  replace hz := Lib.hid hz
  replace hx := Lib.hid hx
  replace hpo := Lib.hid hpo
  replace hxo := Lib.hid hxo
  have hz0i := Lib.hid hz0
  have hz1i := Lib.hid hz1
  have hx0i := Lib.hid hx0
  clear hu hz0 hz1 hx0 hx1 hT hTx
  go_enter Tryz.func88, Tryz.ntmps88
  go_wp2
  go_region_with ((go_at_call 125; refine (hs.out _ 1 (by rfl)).mono ?_; rintro e w1 ⟨r, rfl, o', hr, ho', hch⟩; obtain ⟨pr, cr, rfl, hr1, hr2⟩ := hr.shape; have hz1 := hch.heapB (show w.drew.heap[pz]? = _ from hz.out) (fun e => hpo.out _ e.symm rfl); have hx1 := hch.heapB (show w.drew.heap[px]? = _ from hx.out) (fun e => hxo.out _ e.symm rfl); have y1 := cellB hz1 hz1i.out; have y0 := cellB hz1 hz0i.out; have g0 := frozenB hz1 oz; have g1 := frozenB hz1 (oz + 1); have k0 := cellB hx1 hx0i.out; replace hz1 := Lib.hid hz1; replace hch := Lib.hid hch; replace hr := Lib.hid hr; replace ho' := Lib.hid ho'; clear hx1 hr1 hr2))
  all_goals
    go_wp2
    go_ret
    have hb1 : o' ≠ some pz := by
      intro e
      rcases ho'.out with h | h | ⟨b, hb, hlt⟩
      · exact hpo.out _ (h ▸ e) rfl
      · rw [h] at e; cases e
      · rw [hb] at e
        cases e
        have := ltB hz.out
        have h2 : w.drew.heap.size = w.heap.size := rfl
        omega
    refine ⟨rfl, _, o', setB (i := oz) (v := .bool n) (setB (i := oz + 1) hz1.out), (hr.out.setCell pz (oz + 1) _ hb1).setCell pz oz _ hb1, ho'.out, ?_⟩
    exact (((Chg.refl w (fun k => k = pz ∨ some k = o)).drew.trans (hch.out.mono (fun _ _ h => .inl (.inr h)))).trans ((chg_setB w1 pz (oz + 1) _).mono (fun _ _ h => .inl (.inl h)))).trans ((chg_setB _ pz oz _).mono (fun _ _ h => .inl (.inl h)))
end Go.Proofs.YtgdpljjmnmapmaaGreatDoor

namespace Go.Proofs.YtgdpljjmnmapmaaGreatDoor
open Go Go.RowKit

theorem setMath_c (w : World) (z x : Nat) (n : Bool) (p : Option Addr) (l c N : Nat) (hz : BigBlk w z false (.slice none 0 0) false) (hx : IntBlk w x n (.slice p l c)) (hne : z ≠ x)
    (hs : ∀ w2, Chg w w2 (fun k => k = z) → Calls Tryz.prog 125 #[.slice none 0 0, .slice p l c] w2 fun e w' => ∃ r, e = .returned r ∧ NatRes w2 w' none r N) :
    Calls Tryz.prog 89 #[.pointer (some ⟨z, 0, none⟩), .pointer (some ⟨x, 0, none⟩)] w fun e w' =>
      e = .returned (.pointer (some ⟨z, 0, none⟩)) ∧ ∃ v' o', BigBlk w' z n v' false ∧ IsNat w' v' N o' ∧ (o' = none ∨ ∃ b, o' = some b ∧ w.heap.size ≤ b) ∧ Chg w w' (fun k => k = z) := by
  have z2 : w.cell? ⟨z, 2, none⟩ = some (.bool false) := cellB hz rfl
  have f2 := frozenB hz 2
  have hch : Chg w (w.setCell ⟨z, 2, none⟩ (.bool false)) (fun k => k = z) := chg_setB w z 2 _
  have hz1 : BigBlk (w.setCell ⟨z, 2, none⟩ (.bool false)) z false (.slice none 0 0) false := setB (i := 2) (v := .bool false) hz
  have hx1 : IntBlk (w.setCell ⟨z, 2, none⟩ (.bool false)) x n (.slice p l c) := hch.heapB hx (fun e => hne e.symm)
  have key := intSet_c (w.setCell ⟨z, 2, none⟩ (.bool false)) z 0 x 0 _ _ _ _ none false n (.slice none 0 0) (.slice p l c) N hz1 (by decide) rfl rfl hx1 (by decide) rfl rfl hne (stor_none _) ⟨p, l, c, rfl⟩ (fun w2 k e => by subst e; exact hs _ (hch.drewN k))
  replace key := Lib.hid key
  replace hch := Lib.hid hch
  clear hz1 hx1
  go_enter Tryz.func89, Tryz.ntmps89
  go_wp2_with fail
  with_reducible refine key.out.mono ?_
  rintro e w' ⟨rfl, v', o', h1, h2, h3, h4⟩
  go_wp2
  go_ret
  refine ⟨rfl, v', o', h1, h2, ?_, hch.out.trans (h4.mono (fun _ _ h => .inl (h.elim id (fun h => by cases h))))⟩
  rcases h3 with h | h | ⟨b, hb, hlt⟩
  · exact .inl h
  · exact .inl h
  · exact .inr ⟨b, hb, by rw [World.size_setCell] at hlt; exact hlt⟩

set_option maxHeartbeats 400000 in
/-- Set, of another block's number. -/
theorem bigSet_c (w : World) (pz oz px ox : Nat) (cs cx : Array Value) (T Tx : TypeId) (o : Option Nat) (nz n mz mx : Bool) (u v : Value) (N : Nat) (hz : w.heap[pz]? = some (.cells cs T (0, 0))) (hT : T ≠ 133) (hz0 : cs[oz]? = some (.bool nz)) (hz1 : cs[oz + 1]? = some u) (hz2 : cs[oz + 2]? = some (.bool mz))
    (hx : w.heap[px]? = some (.cells cx Tx (0, 0))) (hTx : Tx ≠ 133) (hx0 : cx[ox]? = some (.bool n)) (hx1 : cx[ox + 1]? = some v) (hx2 : cx[ox + 2]? = some (.bool mx)) (hne : pz ≠ px) (hu : Stor w u o) (hvs : ∃ p l c, v = .slice p l c)
    (hs : ∀ w2, Chg w w2 (fun k => k = pz) → Calls Tryz.prog 125 #[u, v] w2 fun e w' => ∃ r, e = .returned r ∧ NatRes w2 w' o r N) :
    Calls Tryz.prog 52 #[.pointer (some ⟨pz, oz, none⟩), .pointer (some ⟨px, ox, none⟩)] w fun e w' => e = .returned (.pointer (some ⟨pz, oz, none⟩)) ∧ IntRes w w' pz oz (cs.setIfInBounds (oz + 2) (.bool mx)) T o n N := by
  have z2 := cellB hz hz2
  have f2 := frozenB hz (oz + 2)
  have x2 := cellB hx hx2
  have hch : Chg w (w.setCell ⟨pz, oz + 2, none⟩ (.bool mx)) (fun k => k = pz) := chg_setB w pz (oz + 2) _
  have h1 := setB (i := oz + 2) (v := .bool mx) hz
  have h2 := hch.heapB hx (fun e => hne e.symm)
  have hpo : ∀ b, o = some b → b ≠ pz := fun b e => by subst e; exact hu.ne2 hz hT
  have hu1 := hu.chg hch (fun b e => hpo b e)
  have e0 : (cs.setIfInBounds (oz + 2) (.bool mx))[oz]? = some (.bool nz) := by rw [Array.getElem?_setIfInBounds_ne (by omega)]; exact hz0
  have e1 : (cs.setIfInBounds (oz + 2) (.bool mx))[oz + 1]? = some u := by rw [Array.getElem?_setIfInBounds_ne (by omega)]; exact hz1
  have key := fun k => intSet_c ((w.setCell ⟨pz, oz + 2, none⟩ (.bool mx)).drewN k) pz oz px ox _ _ _ _ o nz n u v N h1 hT e0 e1 h2 hTx hx0 hx1 hne (hu1.chg ((Chg.refl _ (fun _ => False)).drewN k) (fun _ _ h => h)) hvs (fun w2 k2 e => by subst e; exact hs _ ((hch.drewN k).drewN k2))
  replace key := Lib.hid key
  replace hch := Lib.hid hch
  clear h1 h2 hu1 e0 e1 hz hx hz0 hz1 hz2 hx0 hx1 hx2 hu
  go_enter Tryz.func52, Tryz.ntmps52
  go_wp2_with fail
  generalize w.setCell ⟨pz, oz + 2, none⟩ (.bool mx) = w0 at key hch ⊢
  go_region_with ((go_at_call 88; refine (key.out 1).mono ?_; rintro e w2 ⟨rfl, hr⟩; replace hr := Lib.hid hr))
  all_goals
    go_wp2
    go_ret
    obtain ⟨v', o', h1, h2, h3, h4⟩ := hr.out
    refine ⟨rfl, v', o', h1, h2, ?_, (hch.out.mono (fun _ _ h => .inl h)).trans (((Chg.refl _ (fun _ => False)).drewN 1).mono (fun _ _ h => h.elim) |>.trans (h4.mono (fun _ _ h => .inl (.inl h))))⟩
    rcases h3 with h | h | ⟨b, hb, hlt⟩
    · exact .inl h
    · exact .inr (.inl h)
    · exact .inr (.inr ⟨b, hb, Nat.le_trans hch.out.size hlt⟩)
end Go.Proofs.YtgdpljjmnmapmaaGreatDoor

namespace Go.Proofs.YtgdpljjmnmapmaaGreatDoor
open Go Go.RowKit

def Anyp (_ : World) : Prop := True
theorem anyp (w : World) : Anyp w := trivial
/-- The boxes of a context and of two decimals as plain data. -/
def Bx3 (s : Nat) (p a b : Int) (m : Nat) (fx ex fy ey : Int) (nx ny : Bool) (Ax Ay : Option Addr) (lx cx ly cy : Nat) (w : World) : Prop :=
  w.heap[s]? = some (.cells #[.int .u64 p, .int .i64 a, .int .i64 b, .int .i64 (m : Int)] 34 (0, 0)) ∧ w.heap[s + 1]? = some (.cells #[.int .i64 fx, .bool nx, .slice Ax lx cx, .int .i64 ex] 24 (0, 0)) ∧ w.heap[s + 2]? = some (.cells #[.int .i64 fy, .bool ny, .slice Ay ly cy, .int .i64 ey] 24 (0, 0))
theorem Bx3.chg {s : Nat} {p a b : Int} {m : Nat} {fx ex fy ey : Int} {nx ny : Bool} {Ax Ay : Option Addr} {lx cx ly cy : Nat} {w w' : World} (h : Bx3 s p a b m fx ex fy ey nx ny Ax Ay lx cx ly cy w) (hc : Chg w w' (fun _ => False)) : Bx3 s p a b m fx ex fy ey nx ny Ax Ay lx cx ly cy w' :=
  ⟨hc.heapB h.1 (fun h => h), hc.heapB h.2.1 (fun h => h), hc.heapB h.2.2 (fun h => h)⟩
theorem Bx3.chgS {s : Nat} {p a b : Int} {m : Nat} {fx ex fy ey : Int} {nx ny : Bool} {Ax Ay : Option Addr} {lx cx ly cy : Nat} {w w' : World} {S : Nat → Prop} (h : Bx3 s p a b m fx ex fy ey nx ny Ax Ay lx cx ly cy w) (hc : Chg w w' S) (h0 : ¬ S s) (h1 : ¬ S (s + 1)) (h2 : ¬ S (s + 2)) : Bx3 s p a b m fx ex fy ey nx ny Ax Ay lx cx ly cy w' :=
  ⟨hc.heapB h.1 h0, hc.heapB h.2.1 h1, hc.heapB h.2.2 h2⟩
theorem Bx3.cells {s : Nat} {p a b : Int} {m : Nat} {fx ex fy ey : Int} {nx ny : Bool} {Ax Ay : Option Addr} {lx cx ly cy : Nat} {w : World} (h : Bx3 s p a b m fx ex fy ey nx ny Ax Ay lx cx ly cy w) :
    w.cell? ⟨s, 0, none⟩ = some (.int .u64 p) ∧ w.cell? ⟨s, 1, none⟩ = some (.int .i64 a) ∧ w.cell? ⟨s, 2, none⟩ = some (.int .i64 b) ∧ w.cell? ⟨s, 3, none⟩ = some (.int .i64 (m : Int)) ∧
    w.cell? ⟨s + 1, 0, none⟩ = some (.int .i64 fx) ∧ w.cell? ⟨s + 1, 1, none⟩ = some (.bool nx) ∧ w.cell? ⟨s + 1, 2, none⟩ = some (.slice Ax lx cx) ∧ w.cell? ⟨s + 1, 3, none⟩ = some (.int .i64 ex) ∧
    w.cell? ⟨s + 2, 0, none⟩ = some (.int .i64 fy) ∧ w.cell? ⟨s + 2, 1, none⟩ = some (.bool ny) ∧ w.cell? ⟨s + 2, 2, none⟩ = some (.slice Ay ly cy) ∧ w.cell? ⟨s + 2, 3, none⟩ = some (.int .i64 ey) :=
  ⟨cellB h.1 rfl, cellB h.1 rfl, cellB h.1 rfl, cellB h.1 rfl, cellB h.2.1 rfl, cellB h.2.1 rfl, cellB h.2.1 rfl, cellB h.2.1 rfl, cellB h.2.2 rfl, cellB h.2.2 rfl, cellB h.2.2 rfl, cellB h.2.2 rfl⟩
theorem allocB_at (w : World) (o : Obj) {k : Nat} (h : k = w.heap.size) : (w.alloc o).heap[k]? = some o := by subst h; exact allocB w o
theorem allocB_lt (w : World) (o : Obj) {k : Nat} (h : k < w.heap.size) : (w.alloc o).heap[k]? = w.heap[k]? := Below.heap_alloc _ _ _ h
end Go.Proofs.YtgdpljjmnmapmaaGreatDoor

namespace Go.Proofs.YtgdpljjmnmapmaaGreatDoor
open Go Go.RowKit

theorem below_drewN2 {B : Nat} {w W : World} (h : Below B w W) (n : Nat) : Below B w (W.drewN n) := ⟨h.os, h.tape, h.output, h.size, h.block⟩
theorem Below.chg {w w' : World} (h : Below w.heap.size w w') : Chg w w' (fun _ => False) := ⟨h.os, h.tape, h.output, h.size, fun k hk _ => h.block k hk⟩

theorem norm_nil (w : World) : Calls Tryz.prog 126 #[.slice none 0 0] w fun e w' => e = .returned (.slice none 0 0) ∧ w = w' := by
  go_enter Tryz.func126, Tryz.ntmps126
  go_wp2
  go_loop [3] (fun i => i = .int .i64 0) (fun i => (intOf i).toNat)
  case atStart => rfl
  case round =>
    obtain rfl := hrel
    go_wp2
    go_ret
    exact ⟨rfl, rfl⟩

theorem set0_c (w : World) (p : Option Addr) (c : Nat) : Calls Tryz.prog 125 #[.slice none 0 0, .slice p 0 c] w fun e w' => ∃ r, e = .returned r ∧ NatRes w w' none r 0 := by
  have hmk : Calls Tryz.prog 154 #[.slice none 0 0, .int .i64 0] w fun e w' => e = .returned (.slice none 0 0) ∧ w = w' := by
    go_enter Tryz.func154, Tryz.ntmps154
    go_wp2
    go_ret
    exact ⟨rfl, rfl⟩
  go_enter Tryz.func125, Tryz.ntmps125
  go_wp2_with fail
  refine hmk.mono ?_
  rintro e w' ⟨rfl, hw⟩
  obtain rfl := hw
  go_upto_region 2 with (fail)
  refine wp_region_lit ?_
  go_wp2_with (refine wpList_copy_nothing rfl (.tmp 9) (.tmp 10) 58 58 rfl 133 Tryz.underlying58 infoW _ _ _ _ _ _ rfl rfl (by simp) ?_)
  go_ret
  exact ⟨_, rfl, none, IsNat.zero _, .inl rfl, Chg.refl _ _⟩
theorem own_slice2 {w : World} {base n : Nat} {e : TypeId} {size : Nat} {v : Value} {xs : List Value} (h : w.ownsRow base e size v n xs) : ∃ A c, v = .slice A n c := by
  rcases h.2 with ⟨rfl, rfl⟩ | ⟨g, cap, cur, rfl, _⟩
  · exact ⟨none, 0, rfl⟩
  · exact ⟨_, cap, rfl⟩

/-- What whole gives: a number in new memory. -/
def NewBig (w w' : World) (e : Ending) (N : Nat) : Prop :=
  ∃ k v o, e = .returned (.pointer (some ⟨k, 0, none⟩)) ∧ w.heap.size ≤ k ∧ BigBlk w' k false v false ∧ IsNat w' v N o ∧ (∀ b, o = some b → w.heap.size ≤ b) ∧ Chg w w' (fun _ => False)

/-- Behind whole's loop. -/
theorem tail_c (w w1 : World) (p : Option Addr) (l c : Nat) (X : List Nat) (hb : Below w.heap.size w w1) (hown : w1.ownsRow w.heap.size 133 1 (.slice p l c) l (X.map uw)) (hX : X.length = l) (hW : Wd X) (hl : l ≤ 900) :
    ∀ z i, BigBlk w1 z false (.slice none 0 0) false → IntBlk w1 i false (.slice none 0 0) → z ≠ i → w.heap.size ≤ z → w.heap.size ≤ i →
      Calls Tryz.prog 90 #[.pointer (some ⟨i, 0, none⟩), .slice p l c] w1 fun e w2 => e = .returned (.pointer (some ⟨i, 0, none⟩)) ∧
        Calls Tryz.prog 89 #[.pointer (some ⟨z, 0, none⟩), .pointer (some ⟨i, 0, none⟩)] w2 fun e w3 => e = .returned (.pointer (some ⟨z, 0, none⟩)) ∧
          ∃ v o, BigBlk w3 z false v false ∧ IsNat w3 v (val X) o ∧ (∀ b, o = some b → w.heap.size ≤ b) ∧ Chg w w3 (fun _ => False) := by
  intro z i hz hi hne hzl hil
  have hc1 : Chg w w1 (fun _ => False) := Below.chg hb
  rcases hown.2 with ⟨h1, h2⟩ | ⟨g, cap, cur, h1, hg, hgg, hn, hm, hcs, htake⟩
  · injection h1 with h1 h3 h4
    subst h1 h2 h4
    obtain rfl : X = [] := List.length_eq_zero_iff.1 hX
    refine (setBits_c w1 i _ _ none none 0 0 0 0 hi (norm_nil w1)).mono ?_
    rintro e w2 ⟨rfl, hi2, hch2⟩
    have hz2 : BigBlk w2 z false (.slice none 0 0) false := hch2.heapB hz hne
    refine ⟨rfl, (setMath_c w2 z i false none 0 0 0 hz2 hi2 hne (fun w3 _ => (set_nil w3).mono ?_)).mono ?_⟩
    · rintro e w' ⟨rfl, hw⟩
      subst hw
      exact ⟨_, rfl, none, IsNat.zero _, .inl rfl, Chg.refl _ _⟩
    · rintro e w3 ⟨rfl, v', o', h1, h2, h3, h4⟩
      refine ⟨rfl, v', o', h1, h2, ?_, (hc1.trans (hch2.mono (fun k _ h => .inr (by omega)))).trans (h4.mono (fun k _ h => .inr (by omega)))⟩
      intro b hb'
      have s1 := hc1.size
      have s2 := hch2.size
      rcases h3 with h | ⟨b2, hb2, hlt⟩
      · rw [h] at hb'; cases hb'
      · rw [hb2] at hb'; cases hb'; omega
  · injection h1 with h1 h3 h4
    subst h1 h4
    have hrd : RdN w1 g X := by
      intro j hj
      have := hown.cells (g := g) rfl j (uw (nth X j)) (by rw [List.getElem?_map, get_nth hj]; rfl)
      have e : (⟨g, 0, none⟩ : Addr).add j = ⟨g, j, none⟩ := by unfold Addr.add; split <;> simp_all
      rw [e] at this
      exact this
    have hcap : c ≤ 9223372036854775807 := by unfold maxLen at hm; omega
    have hdl : (digs (val X)).length ≤ X.length := digs_len_le.2 (val_lt hW)
    have hpre : ∀ w2 S, Chg w1 w2 S → ¬ S g → RdN w2 g (digs (val X)) := by
      intro w2 S hch hS j hj
      have h1 := hch.cell (hrd j (by omega)) hS
      have h2 : nth X j = nth (digs (val X)) j := by
        have h3 := val_digs (val X)
        have h4 : X = digs (val X) ++ List.replicate (X.length - (digs (val X)).length) 0 := by
          refine val_inj hW ((Wd_digs _).append (Wd.zeros _)) (by simp; omega) ?_
          rw [val_append_zeros, h3]
        conv => lhs; rw [h4]
        rw [nth_append_left hj]
      rw [← h2]; exact h1
    have hn0 := norm_rd w1 g c X hrd hW (by omega) (by omega) hcap
    rw [hX] at hn0
    refine (setBits_c w1 i _ _ _ _ _ _ _ _ hi hn0).mono ?_
    rintro e w2 ⟨rfl, hi2, hch2⟩
    have hz2 : BigBlk w2 z false (.slice none 0 0) false := hch2.heapB hz hne
    have hgi : g ≠ i := by
      rintro rfl
      have h5 : w1.heap[g]? = some (.cells #[.bool false, .slice none 0 0] 60 (0, 0)) := hi
      rw [hgg] at h5
      simp at h5
    have hgz : g ≠ z := by
      rintro rfl
      have h5 : w1.heap[g]? = some (.cells #[.bool false, .slice none 0 0, .bool false] 62 (0, 0)) := hz
      rw [hgg] at h5
      simp at h5
    refine ⟨rfl, (setMath_c w2 z i false _ _ _ (val X) hz2 hi2 hne (fun w3 hch3 => ?_)).mono ?_⟩
    · by_cases h0 : val X = 0
      · rw [h0, digs_zero]
        exact set0_c w3 _ _
      · exact set_rd w3 g c (val X) (hpre w3 _ ((hch2.mono (fun k _ h => (show k = i ∨ k = z from .inl h))).trans (hch3.mono (fun k _ h => .inl (.inr h)))) (by omega)) h0 (by omega)
    · rintro e w3 ⟨rfl, v', o', h1, h2, h3, h4⟩
      refine ⟨rfl, v', o', h1, h2, ?_, (hc1.trans (hch2.mono (fun k _ h => .inr (by omega)))).trans (h4.mono (fun k _ h => .inr (by omega)))⟩
      intro b hb'
      have s1 := hc1.size
      have s2 := hch2.size
      rcases h3 with h | ⟨b2, hb2, hlt⟩
      · rw [h] at hb'; cases hb'
      · rw [hb2] at hb'; cases hb'; omega

set_option maxHeartbeats 2000000 in
theorem whole_c (w : World) (A : Option Addr) (l c : Nat) (X : List Nat) (hX : RdW w A l c X) (hl : l ≤ 900) :
    Calls Tryz.prog 53 #[.slice A l c] w fun e w' => NewBig w w' e (val X) := by
  obtain ⟨i0, hi, hz0, hz1, hz2⟩ := info_parts makeZ
  have hlen := hX.len
  replace hX := Lib.hid hX
  replace hlen := Lib.hid hlen
  go_enter Tryz.func53, Tryz.ntmps53
  go_wp2
  go_loopw [3, 8] (fun v i wr => ∃ (k : Nat) (p : Option Addr) (cc : Nat), k ≤ l ∧ i = .int .i64 k ∧ v = .slice p k cc ∧ Below w.heap.size w wr ∧ wr.ownsRow w.heap.size 133 1 (.slice p k cc) k ((X.take k).map uw)) (fun _ i _ => l - (intOf i).toNat)
  case atStart => exact ⟨0, none, 0, Nat.zero_le _, rfl, rfl, Below.refl _ _, World.ownsRow_nil _ _ _ _⟩
  case round =>
    obtain ⟨k, p, cc, hk, rfl, rfl, hb, hown⟩ := hrel
    by_cases hlt : k < l
    · obtain ⟨ad, rfl, hcs⟩ := hX.out.cells (by omega)
      have hcell := hb.cell (World.block_lt_of_cell? w _ (hcs k hlt)) |>.trans (hcs k hlt)
      have hbs := hb.size
      have htk : X.take (k + 1) = X.take k ++ [nth X k] := take_nth (by rw [hlen.out]; exact hlt)
      replace htk := Lib.hid htk
      replace hown := Lib.hid hown
      replace hb := Lib.hid hb
      clear hcs
      go_wp2_with (at_builtin; refine wpList_append_own _ rfl _ _ 57 rfl w.heap.size 133 i0 (.int .u64 0) 1 8 Tryz.underlying57 hi hz0 hz1 hz2 rfl (by decide) _ _ _ rfl (hown.out.alloc _) ⟨wr.heap.size, 0, none⟩ 1 1 [.int .u64 (nth X k : Int)] rfl rfl ?c1 ?c2 ?c3 ?c4 ?c5 ?_)
      case c1 => exact cell_one_new _ _ _
      case c2 => intro u hu; simp only [List.mem_cons, List.not_mem_nil, or_false] at hu; subst hu; rfl
      case c3 => unfold maxLen; omega
      case c4 => omega
      case c5 => simp; omega
      intro v' w1 hown' hgrow _
      obtain ⟨p', cc', rfl⟩ := own_slice2 hown'
      replace hown' := Lib.hid hown'
      replace hgrow := Lib.hid hgrow
      go_wp2
      go_roundw
      case rel =>
        refine ⟨k + 1, p', cc', by omega, by go_num, rfl, ?_, ?_⟩
        · exact (hb.out.alloc hbs _).grown hgrow.out (by simp; omega) (fun g hg => (hown.out.lt g hg).1)
        · have h := hown'.out
          rw [htk.out, List.map_append]
          rw [← List.map_take] at h
          exact h
      case measure => simp [intOf]; omega
    · obtain rfl : k = l := by omega
      have htl : X.take k = X := List.take_of_length_le (by rw [hlen.out]; exact Nat.le_refl _)
      rw [htl] at hown
      have hbs := hb.size
      have hb2 : Below w.heap.size w ((wr.alloc (.cells #[.bool false, .slice none 0 0, .bool false] 62 (0, 0))).alloc (.cells #[.bool false, .slice none 0 0] 60 (0, 0))) := (hb.alloc hbs _).alloc (by simp; omega) _
      have key := tail_c w _ p k cc X hb2 ((hown.alloc _).alloc _) hlen.out hX.out.wd hl wr.heap.size (wr.heap.size + 1) (allocB_old (allocB _ _)) (allocB_at _ _ (by simp)) (by omega) hbs (by omega)
      replace key := Lib.hid key
      clear hb2 hb hown htl
      go_wp2_with fail
      with_reducible refine key.out.mono ?_
      rintro e w2 ⟨rfl, k2⟩
      replace k2 := Lib.hid k2
      go_wp2_with fail
      with_reducible refine k2.out.mono ?_
      rintro e w3 ⟨rfl, v, o, h1, h2, h3, h4⟩
      go_wp2
      go_ret
      exact ⟨wr.heap.size, v, o, rfl, hbs, h1, h2, h3, h4⟩
end Go.Proofs.YtgdpljjmnmapmaaGreatDoor

namespace Go.Proofs.YtgdpljjmnmapmaaGreatDoor
open Go Go.RowKit

/-- A finite decimal is made, of words that fit. -/
def MadeF (w w' : World) (e : Ending) (n : Bool) (ex : Int) (N : Nat) : Prop :=
  ∃ k o, e = .returned (.pointer (some ⟨k, 0, none⟩)) ∧ w.heap.size ≤ k ∧ k < w'.heap.size ∧ DecA w' k 0 n ex N o ∧ (∀ b, o = some b → w.heap.size ≤ b ∧ b < w'.heap.size ∧ b ≠ k) ∧ Chg w w' (fun _ => False)

set_option maxHeartbeats 2000000 in
theorem madeF_c (w : World) (n : Bool) (A : Option Addr) (l c : Nat) (X : List Nat) (ex : Int) (hX : RdW w A l c X) (hl : l ≤ 900) (he : -2147483648 ≤ ex ∧ ex ≤ 2147483647) :
    Calls Tryz.prog 29 #[.agg #[.int .i64 0, .bool n, .slice A l c, .int .i64 ex]] w fun e w' => MadeF w w' e n ex (val X) := by
  have iw : IntKind.i32.wrap ex = ex := IntWalk.i32_in _ he
  obtain ⟨he1, he2⟩ := he
  have hw := fun w2 (hb : Below w.heap.size w w2) => whole_c w2 A l c X (hX.below hb) hl
  replace hw := Lib.hid hw
  have hLd : (digs (val X)).length ≤ 1000 := Nat.le_trans (digs_len_le.2 (by have := val_lt hX.wd; rwa [hX.len] at this)) (by omega : l ≤ 1000)
  clear hX
  go_enter Tryz.func29, Tryz.ntmps29
  go_wp2
  generalize hW : (w.alloc (.cells #[.int .i64 0, .bool n, .slice A l c, .int .i64 ex] 24 (0, 0))).alloc (.cells #[.int .i8 0, .bool false, .int .i32 ex, .bool false, .slice none 0 0, .bool false] 64 (0, 0)) = W
  have hB0 : Below w.heap.size w W := by rw [← hW]; exact ((Below.refl _ _).alloc (Nat.le_refl _) _).alloc (by simp) _
  have hBx : W.heap[w.heap.size]? = some (.cells #[.int .i64 0, .bool n, .slice A l c, .int .i64 ex] 24 (0, 0)) := by rw [← hW]; exact allocB_old (allocB _ _)
  have hD : DecZ W (w.heap.size + 1) 0 false ex := by rw [← hW]; exact allocB_at _ _ (by simp)
  have hsz : W.heap.size = w.heap.size + 2 := by rw [← hW]; simp
  clear hW iw
  have hS0 : W.drew.cell? ⟨w.heap.size, 2, none⟩ = some (.slice A l c) := cellB (w := W.drew) hBx rfl
  replace hB0 := Lib.hid hB0
  replace hBx := Lib.hid hBx
  replace hD := Lib.hid hD
  replace hsz := Lib.hid hsz
  go_region_held3 (fun w' => w'.cell? ⟨w.heap.size, 2, none⟩ = some (.slice A l c)) (with_reducible (first | exact hS0 | exact hS1 | exact hS2)) (first
    | (go_at_call 53
       refine (hw.out W.drew ⟨hB0.out.os, hB0.out.tape, hB0.out.output, hB0.out.size, hB0.out.block⟩).mono ?_
       rintro e w1 ⟨k, v, o, rfl, hk, hbk, hN, ho, hch1⟩
       have hX1 := hch1.heapB (show W.drew.heap[w.heap.size]? = _ from hBx.out) (fun h => h)
       have hS1 : w1.cell? ⟨w.heap.size, 2, none⟩ = some (.slice A l c) := cellB hX1 rfl
       have hD1 : DecZ w1 (w.heap.size + 1) 0 false ex := DecZ.chg (w := W.drew) hD.out hch1 (fun h => h)
       replace hX1 := Lib.hid hX1
       replace hD1 := Lib.hid hD1
       replace hbk := Lib.hid hbk
       replace hN := Lib.hid hN
       replace ho := Lib.hid ho
       replace hch1 := Lib.hid hch1
       replace hk := Lib.hid hk)
    | (go_at_call 52
       have hz := hsz.out
       have hkk := hk.out
       have hz2 : W.drew.heap.size = W.heap.size := rfl
       obtain ⟨pv, cv, rfl, _, _⟩ := hN.out.shape
       have hset := fun w2 (hc : Chg w1 w2 (fun j => j = w.heap.size + 1)) => set_c w2 (.slice none 0 0) _ (val X) none o (stor_none w2) (hN.out.chg hc (fun b hb e => by have := ho.out b hb; omega)) hLd
       refine (bigSet_c w1 (w.heap.size + 1) 3 k 0 _ _ _ _ none false false false false (.slice none 0 0) _ (val X) hD1.out (by decide) rfl rfl rfl hbk.out (by decide) rfl rfl rfl (by omega) (stor_none _) ⟨_, _, _, rfl⟩ hset).mono ?_
       rintro e w2 ⟨rfl, v', o', h1, h2, h3, h4⟩
       have hX2 := h4.heapB hX1.out (by rintro (h | h); omega; cases h)
       have hS2 : w2.cell? ⟨w.heap.size, 2, none⟩ = some (.slice A l c) := cellB hX2 rfl
       replace hX2 := Lib.hid hX2
       replace h1 := Lib.hid h1
       replace h2 := Lib.hid h2
       replace h3 := Lib.hid h3
       replace h4 := Lib.hid h4))
  have hz := hsz.out
  have hz2 : W.drew.heap.size = W.heap.size := rfl
  have hkk := hk.out
  have hs1 := hch1.out.size
  have b1 : w2.cell? ⟨w.heap.size, 1, none⟩ = some (.bool n) := cellB hX2.out rfl
  have h1a : w2.heap[w.heap.size + 1]? = some (.cells #[.int .i8 0, .bool false, .int .i32 ex, .bool false, v', .bool false] 64 (0, 0)) := h1.out
  have d1 := cellB (i := 1) h1a rfl
  have df1 := frozenB h1a 1
  replace h1a := Lib.hid h1a
  clear hS0 hS1 hS2
  go_wp2
  go_ret
  have hfin := setB (i := 1) (v := .bool n) h1a.out
  have hb' : ∀ b, o' = some b → W.heap.size ≤ b := by
    intro b hb
    rcases h3.out with h | h | ⟨b2, hb2, hlt⟩
    · rw [h] at hb; cases hb
    · rw [h] at hb; cases hb
    · rw [hb2] at hb; cases hb; omega
  have hlt2 : w.heap.size + 1 < w2.heap.size := ltB h1a.out
  refine ⟨w.heap.size + 1, o', rfl, by omega, by rw [World.size_setCell]; exact hlt2, ⟨v', hfin, h2.out.setCell _ _ _ (fun e => by have := hb' _ e; omega)⟩, fun b hb => ⟨by have := hb' b hb; omega, by rw [World.size_setCell]; subst hb; exact h2.out.lt, by have := hb' b hb; omega⟩, ?_⟩
  have hc : Chg w W (fun _ => False) := Below.chg hB0.out
  exact ((hc.drew.trans (hch1.out.mono (fun _ _ h => h.elim))).trans (h4.out.mono (fun k _ h => .inr (h.elim (fun h => by omega) (fun h => by cases h))))).trans ((chg_setB w2 (w.heap.size + 1) 1 _).mono (fun k _ h => .inr (by omega)))
end Go.Proofs.YtgdpljjmnmapmaaGreatDoor
