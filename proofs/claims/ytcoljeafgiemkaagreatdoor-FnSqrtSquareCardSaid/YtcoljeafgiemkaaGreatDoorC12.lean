/- Blocks of several cells, and decimals that are no finite number. Decimals with the coefficient of a new one: Set. Forms that are no number; conditions and their errors. The conditions by the thin package's numbers. impl.conditions. Contexts; what is told of a decimal that is no finite number; one that is made. Signs; sums of infinities. Boxes of plain data. Closed facts that every row shares. -/
import Derived.Outline
import Derived.Laws.BitsAllLaws
import Derived.Deep.RegionHeld3
import Derived.Test.YtcoljeafgiemkaaGreatDoorC08
import Derived.Test.YtcoljeafgiemkaaGreatDoorC10
namespace Go.Proofs.YtcoljeafgiemkaaGreatDoor
open Go Go.RowKit

theorem cellB {w : World} {b i : Nat} {cs : Array Value} {T : TypeId} {v : Value} (h : w.heap[b]? = some (.cells cs T (0, 0))) (hi : cs[i]? = some v) : w.cell? ⟨b, i, none⟩ = some v := by
  unfold World.cell?; simp [h, hi]
theorem frozenB {w : World} {b : Nat} {cs : Array Value} {T : TypeId} (h : w.heap[b]? = some (.cells cs T (0, 0))) (i : Nat) : w.frozen? ⟨b, i, none⟩ = false := by
  unfold World.frozen?; rw [h]; simp
theorem setB {w : World} {b i : Nat} {cs : Array Value} {T : TypeId} {v : Value} (h : w.heap[b]? = some (.cells cs T (0, 0))) : (w.setCell ⟨b, i, none⟩ v).heap[b]? = some (.cells (cs.setIfInBounds i v) T (0, 0)) := by
  simp only [World.setCell, Array.getElem?_modify, if_true, h, Option.map_some]
  simp
theorem chg_setB (w : World) (b i : Nat) (v : Value) : Chg w (w.setCell ⟨b, i, none⟩ v) (fun k => k = b) :=
  ⟨rfl, rfl, rfl, by rw [World.size_setCell]; exact Nat.le_refl _, fun k _ hn => Below.heap_setCell _ _ _ _ hn⟩
theorem ltB {w : World} {b : Nat} {o : Obj} (h : w.heap[b]? = some o) : b < w.heap.size := by
  rcases Nat.lt_or_ge b w.heap.size with h' | h'
  · exact h'
  · rw [Array.getElem?_eq_none h'] at h; cases h
theorem Chg.heapB {w w' : World} {S : Nat → Prop} (h : Chg w w' S) {b : Nat} {o : Obj} (hb : w.heap[b]? = some o) (hn : ¬ S b) : w'.heap[b]? = some o := by
  rw [h.block b (ltB hb) hn]; exact hb
theorem allocB (w : World) (o : Obj) : (w.alloc o).heap[w.heap.size]? = some o := by
  show (w.heap.push _)[w.heap.size]? = _
  rw [Array.getElem?_push, if_pos rfl]
theorem allocB_old {w : World} {b : Nat} {o o' : Obj} (h : w.heap[b]? = some o) : (w.alloc o').heap[b]? = some o := by
  rw [Below.heap_alloc _ _ _ (ltB h)]; exact h

/-- A decimal with the coefficient of a new one: its form, its sign, its exponent. -/
def DecZ (w : World) (b : Nat) (form : Int) (neg : Bool) (exp : Int) : Prop :=
  w.heap[b]? = some (.cells #[.int .i8 form, .bool neg, .int .i32 exp, .bool false, .slice none 0 0, .bool false] 75 (0, 0))
theorem DecZ.chg {w w' : World} {S : Nat → Prop} {b : Nat} {f e : Int} {n : Bool} (h : DecZ w b f n e) (hc : Chg w w' S) (hn : ¬ S b) : DecZ w' b f n e := hc.heapB h hn
theorem DecZ.c0 {w : World} {b : Nat} {f e : Int} {n : Bool} (h : DecZ w b f n e) : w.cell? ⟨b, 0, none⟩ = some (.int .i8 f) := cellB h rfl
theorem DecZ.c1 {w : World} {b : Nat} {f e : Int} {n : Bool} (h : DecZ w b f n e) : w.cell? ⟨b, 1, none⟩ = some (.bool n) := cellB h rfl
theorem DecZ.c2 {w : World} {b : Nat} {f e : Int} {n : Bool} (h : DecZ w b f n e) : w.cell? ⟨b, 2, none⟩ = some (.int .i32 e) := cellB h rfl
theorem DecZ.c3 {w : World} {b : Nat} {f e : Int} {n : Bool} (h : DecZ w b f n e) : w.cell? ⟨b, 3, none⟩ = some (.bool false) := cellB h rfl
theorem DecZ.c4 {w : World} {b : Nat} {f e : Int} {n : Bool} (h : DecZ w b f n e) : w.cell? ⟨b, 4, none⟩ = some (.slice none 0 0) := cellB h rfl
theorem DecZ.c5 {w : World} {b : Nat} {f e : Int} {n : Bool} (h : DecZ w b f n e) : w.cell? ⟨b, 5, none⟩ = some (.bool false) := cellB h rfl
theorem DecZ.fz {w : World} {b : Nat} {f e : Int} {n : Bool} (h : DecZ w b f n e) (i : Nat) : w.frozen? ⟨b, i, none⟩ = false := frozenB h i
end Go.Proofs.YtcoljeafgiemkaaGreatDoor

namespace Go.Proofs.YtcoljeafgiemkaaGreatDoor
open Go Go.RowKit

theorem infoInt : ∃ j, Tryz.prog.info? 71 = some j ∧ j.size ≠ 0 := by
  have h : (Tryz.prog.info? 71).map (fun i => i.size) = some 2 := by kernel_rfl
  cases hi : Tryz.prog.info? 71 with
  | none => rw [hi] at h; cases h
  | some i => rw [hi] at h; simp at h; exact ⟨i, rfl, by omega⟩
theorem infoDec : ∃ j, Tryz.prog.info? 75 = some j ∧ j.size ≠ 0 := by
  have h : (Tryz.prog.info? 75).map (fun i => i.size) = some 6 := by kernel_rfl
  cases hi : Tryz.prog.info? 75 with
  | none => rw [hi] at h; cases h
  | some i => rw [hi] at h; simp at h; exact ⟨i, rfl, by omega⟩
theorem neqInt {w : World} {a b oa ob : Nat} {ca cb : Array Value} {ta tb : TypeId} (hne : (⟨a, oa, none⟩ : Addr) ≠ ⟨b, ob, none⟩) (ha : w.heap[a]? = some (.cells ca ta (0, 0))) (hb : w.heap[b]? = some (.cells cb tb (0, 0))) :
    (binOp .neq 152 (.pointer (some ⟨a, oa, none⟩)) (.pointer (some ⟨b, ob, none⟩))).run Tryz.prog w = .ok (.bool true) w := by
  obtain ⟨j, hj, hs⟩ := infoInt
  exact run_neq_ptr_other Tryz.underlying152 hj hs hne ha hb
theorem eqlDec {w : World} {a b : Nat} {ca cb : Array Value} {ta tb : TypeId} (hne : a ≠ b) (ha : w.heap[a]? = some (.cells ca ta (0, 0))) (hb : w.heap[b]? = some (.cells cb tb (0, 0))) :
    (binOp .eql 66 (.pointer (some ⟨a, 0, none⟩)) (.pointer (some ⟨b, 0, none⟩))).run Tryz.prog w = .ok (.bool false) w := by
  obtain ⟨j, hj, hs⟩ := infoDec
  exact run_eql_ptr_other Tryz.underlying66 hj hs (fun e => hne (congrArg Addr.block e)) ha hb

set_option maxHeartbeats 400000 in
theorem set_nil (w : World) : Calls Tryz.prog 171 #[.slice none 0 0, .slice none 0 0] w fun e w' => e = .returned (.slice none 0 0) ∧ w = w' := by
  have hmk : Calls Tryz.prog 192 #[.slice none 0 0, .int .i64 0] w fun e w' => e = .returned (.slice none 0 0) ∧ w = w' := by
    go_enter Tryz.func192, Tryz.ntmps192
    go_wp2
    go_ret
    exact ⟨rfl, rfl⟩
  go_enter Tryz.func171, Tryz.ntmps171
  go_wp2_with fail
  refine hmk.mono ?_
  rintro e w' ⟨rfl, hw⟩
  obtain rfl := hw
  go_upto_region 2 with (fail)
  refine wp_region_lit ?_
  go_wp2_with (refine wpList_copy_nothing rfl (.tmp 9) (.tmp 10) 69 69 rfl 154 Tryz.underlying69 infoW _ _ _ _ _ _ rfl rfl (by simp) ?_)
  go_ret
  exact ⟨rfl, rfl⟩

end Go.Proofs.YtcoljeafgiemkaaGreatDoor

namespace Go.Proofs.YtcoljeafgiemkaaGreatDoor
open Go Go.RowKit

theorem shouldNaN_c (w : World) (c : Value) (x y : Nat) (fx fy : Int) (hx : w.cell? ⟨x, 0, none⟩ = some (.int .i8 fx)) (hy : w.cell? ⟨y, 0, none⟩ = some (.int .i8 fy)) (bx : 0 ≤ fx ∧ fx ≤ 3) (by_ : 0 ≤ fy ∧ fy ≤ 3) :
    Calls Tryz.prog 73 #[c, .pointer (some ⟨x, 0, none⟩), .pointer (some ⟨y, 0, none⟩)] w fun e w' => e = .returned (.bool (decide (2 ≤ fx ∨ 2 ≤ fy))) ∧ w = w' := by
  have h1 : fx = 0 ∨ fx = 1 ∨ fx = 2 ∨ fx = 3 := by omega
  have h2 : fy = 0 ∨ fy = 1 ∨ fy = 2 ∨ fy = 3 := by omega
  rcases h1 with rfl | rfl | rfl | rfl <;> rcases h2 with rfl | rfl | rfl | rfl <;>
  · clear bx by_
    go_enter Tryz.func73, Tryz.ntmps73
    go_wp2
    go_ret
    exact ⟨rfl, rfl⟩

theorem shouldNaN1_c (w : World) (c : Value) (x : Nat) (fx : Int) (hx : w.cell? ⟨x, 0, none⟩ = some (.int .i8 fx)) (bx : 0 ≤ fx ∧ fx ≤ 3) :
    Calls Tryz.prog 73 #[c, .pointer (some ⟨x, 0, none⟩), .pointer none] w fun e w' => e = .returned (.bool (decide (2 ≤ fx))) ∧ w = w' := by
  have h1 : fx = 0 ∨ fx = 1 ∨ fx = 2 ∨ fx = 3 := by omega
  rcases h1 with rfl | rfl | rfl | rfl <;>
  · clear bx
    go_enter Tryz.func73, Tryz.ntmps73
    go_wp2
    go_ret
    exact ⟨rfl, rfl⟩

/-- Bits of a condition. -/
theorem and3_all : (List.range 4096).all (fun r => decide (bits .and .u32 (r : Int) 3 = ((r % 4 : Nat) : Int)) && decide (bits .and .u32 (r : Int) 0 = 0)) = true := by kernel_rfl
theorem and3 (r : Nat) (h : r < 4096) : bits .and .u32 (r : Int) 3 = ((r % 4 : Nat) : Int) ∧ bits .and .u32 (r : Int) 0 = 0 := by
  have := List.all_eq_true.1 and3_all r (List.mem_range.2 h)
  simp only [Bool.and_eq_true, decide_eq_true_eq] at this
  exact this

/-- Without traps no condition is an error, but those of the system. -/
theorem GoError_c (w : World) (r : Nat) (h : r < 4096) (h4 : r % 4 = 0) :
    Calls Tryz.prog 126 #[.int .u32 (r : Int), .int .u32 0] w fun e w' => e = .returned (.tuple #[.int .u32 (r : Int), .nilIface]) ∧ w = w' := by
  obtain ⟨e1, e2⟩ := and3 r h
  rw [h4] at e1
  have e1' : bits .and .u32 (r : Int) 3 = 0 := e1
  clear e1
  go_enter Tryz.func126, Tryz.ntmps126
  go_wp2
  go_ret2
  exact ⟨rfl, rfl⟩

/-- A context: its block. -/
def Ctx (w : World) (c : Nat) (prec max min : Int) (mode : ByteArray) : Prop :=
  w.heap[c]? = some (.cells #[.int .u32 prec, .int .i32 max, .int .i32 min, .int .u32 0, .string mode] 105 (0, 0))
theorem Ctx.chg {w w' : World} {S : Nat → Prop} {c : Nat} {p a b : Int} {m : ByteArray} (h : Ctx w c p a b m) (hc : Chg w w' S) (hn : ¬ S c) : Ctx w' c p a b m := hc.heapB h hn
theorem Ctx.c0 {w : World} {c : Nat} {p a b : Int} {m : ByteArray} (h : Ctx w c p a b m) : w.cell? ⟨c, 0, none⟩ = some (.int .u32 p) := cellB h rfl
theorem Ctx.c1 {w : World} {c : Nat} {p a b : Int} {m : ByteArray} (h : Ctx w c p a b m) : w.cell? ⟨c, 1, none⟩ = some (.int .i32 a) := cellB h rfl
theorem Ctx.c2 {w : World} {c : Nat} {p a b : Int} {m : ByteArray} (h : Ctx w c p a b m) : w.cell? ⟨c, 2, none⟩ = some (.int .i32 b) := cellB h rfl
theorem Ctx.c3 {w : World} {c : Nat} {p a b : Int} {m : ByteArray} (h : Ctx w c p a b m) : w.cell? ⟨c, 3, none⟩ = some (.int .u32 0) := cellB h rfl
theorem Ctx.c4 {w : World} {c : Nat} {p a b : Int} {m : ByteArray} (h : Ctx w c p a b m) : w.cell? ⟨c, 4, none⟩ = some (.string m) := cellB h rfl

theorem goError_c (w : World) (c r : Nat) (p a b : Int) (m : ByteArray) (hc : Ctx w c p a b m) (h : r < 4096) (h4 : r % 4 = 0) :
    Calls Tryz.prog 78 #[.pointer (some ⟨c, 0, none⟩), .int .u32 (r : Int)] w fun e w' => e = .returned (.tuple #[.int .u32 (r : Int), .nilIface]) ∧ w = w' := by
  have c3 := hc.c3
  by_cases h0 : r = 0
  · subst h0
    go_enter Tryz.func78, Tryz.ntmps78
    go_wp2
    go_ret2
    exact ⟨rfl, rfl⟩
  · have e0 : ((r : Int) == 0) = false := by simp; omega
    have hg := GoError_c w r h h4
    clear h4 h0
    go_enter Tryz.func78, Tryz.ntmps78
    go_wp2_with fail
    refine hg.mono ?_
    rintro e w' ⟨rfl, hw⟩
    obtain rfl := hw
    go_wp2
    go_ret2
    exact ⟨rfl, rfl⟩

end Go.Proofs.YtcoljeafgiemkaaGreatDoor

namespace Go.Proofs.YtcoljeafgiemkaaGreatDoor
open Go Go.RowKit

/-- A condition by the thin package's numbers. -/
def condN (r : Nat) : Nat := r / 4 + r % 4 * 1024
/-- What the first k of them give. -/
def condP (k r : Nat) : Nat := if k ≤ 10 then r / 4 % 2 ^ k else r / 4 % 1024 + (if k = 11 then r % 2 else r % 4) * 1024
def condC (k : Nat) : Nat := if k < 10 then 4 * 2 ^ k else 2 ^ (k - 10)
theorem cond_all : (List.range 12).all (fun k => (List.range 4096).all fun r =>
    decide ((if bits .and .u32 (r : Int) (condC k : Int) != 0 then bits .or .i64 (condP k r : Int) ((2 ^ k : Nat) : Int) else (condP k r : Int)) = (condP (k + 1) r : Int))) = true := by kernel_rfl
theorem cond_step (k r : Nat) (hk : k < 12) (hr : r < 4096) :
    (if bits .and .u32 (r : Int) (condC k : Int) != 0 then bits .or .i64 (condP k r : Int) ((2 ^ k : Nat) : Int) else (condP k r : Int)) = (condP (k + 1) r : Int) := by
  have := List.all_eq_true.1 (List.all_eq_true.1 cond_all k (List.mem_range.2 hk)) r (List.mem_range.2 hr)
  exact of_decide_eq_true this

theorem index_cond (k : Nat) (hk : k < 12) (w : World) : (Instr.index 119 (.agg #[.int .u32 4, .int .u32 8, .int .u32 16, .int .u32 32, .int .u32 64, .int .u32 128, .int .u32 256, .int .u32 512, .int .u32 1024, .int .u32 2048, .int .u32 1, .int .u32 2]) (.int .i64 (k : Int))).run Tryz.prog w = .ok (.int .u32 (condC k : Int)) w := by
  have h : k = 0 ∨ k = 1 ∨ k = 2 ∨ k = 3 ∨ k = 4 ∨ k = 5 ∨ k = 6 ∨ k = 7 ∨ k = 8 ∨ k = 9 ∨ k = 10 ∨ k = 11 := by omega
  rcases h with rfl | rfl | rfl | rfl | rfl | rfl | rfl | rfl | rfl | rfl | rfl | rfl
  all_goals (show _ = _; kernel_rfl)
end Go.Proofs.YtcoljeafgiemkaaGreatDoor

namespace Go.Proofs.YtcoljeafgiemkaaGreatDoor
open Go Go.RowKit

theorem wrap_pow (k : Nat) (h : k < 12) : wrap64 (2 ^ k) = ((2 ^ k : Nat) : Int) := by
  have h : k = 0 ∨ k = 1 ∨ k = 2 ∨ k = 3 ∨ k = 4 ∨ k = 5 ∨ k = 6 ∨ k = 7 ∨ k = 8 ∨ k = 9 ∨ k = 10 ∨ k = 11 := by omega
  rcases h with rfl | rfl | rfl | rfl | rfl | rfl | rfl | rfl | rfl | rfl | rfl | rfl <;> (show _ = _; kernel_rfl)

set_option maxHeartbeats 1000000 in
theorem conditions_c (w : World) (r : Nat) (hr : r < 4096) :
    Calls Tryz.prog 44 #[.int .u32 (r : Int)] w fun e w' => e = .returned (.int .i64 (condN r : Int)) ∧ w = w' := by
  go_enter Tryz.func44, Tryz.ntmps44
  go_wp2
  go_loop [3, 7] (fun out i => ∃ k : Nat, k ≤ 12 ∧ i = .int .i64 k ∧ out = .int .i64 (condP k r : Int)) (fun _ i => 12 - (intOf i).toNat)
  case atStart => exact ⟨0, Nat.zero_le _, rfl, by unfold condP; simp⟩
  case round =>
    obtain ⟨k, hk, rfl, rfl⟩ := hrel
    by_cases hlt : k < 12
    · have ix := fun w => index_cond k hlt w
      have st := cond_step k r hlt hr
      replace st := Lib.hid st
      cases hb : (bits .and .u32 (r : Int) (condC k : Int) != 0)
      · go_wp2
        have st := st.out
        rw [hb, if_neg (by decide)] at st
        exact ⟨⟨k + 1, by omega, by go_num, by rw [st]⟩, by simp [intOf]; omega⟩
      · go_wp2
        have st := st.out
        rw [hb, if_pos rfl] at st
        rw [wrap_pow k hlt, st]
        exact ⟨⟨k + 1, by omega, by go_num, rfl⟩, by simp [intOf]; omega⟩
    · obtain rfl : k = 12 := by omega
      go_wp2
      go_ret
      have hfin : condP 12 r = condN r := by unfold condP condN; simp; omega
      exact ⟨(by show Ending.returned (.int .i64 (condP 12 r : Int)) = _; rw [hfin]), rfl⟩
end Go.Proofs.YtcoljeafgiemkaaGreatDoor

namespace Go.Proofs.YtcoljeafgiemkaaGreatDoor
open Go Go.RowKit

/-- How a number of a mode rounds. -/
def modeS (m : Nat) : ByteArray := match m with
  | 0 => "down".toByteArray
  | 2 => "half_even".toByteArray
  | 3 => "ceiling".toByteArray
  | 4 => "floor".toByteArray
  | 5 => "half_down".toByteArray
  | 6 => "up".toByteArray
  | 7 => "05up".toByteArray
  | _ => "half_up".toByteArray

theorem rounder_c (w : World) (m : Nat) (hm : m < 8) : Calls Tryz.prog 72 #[.int .i64 (m : Int)] w fun e w' => e = .returned (.string (modeS m)) ∧ w = w' := by
  have h : m = 0 ∨ m = 1 ∨ m = 2 ∨ m = 3 ∨ m = 4 ∨ m = 5 ∨ m = 6 ∨ m = 7 := by omega
  rcases h with rfl | rfl | rfl | rfl | rfl | rfl | rfl | rfl <;>
  · go_enter Tryz.func72, Tryz.ntmps72
    go_wp2
    go_ret
    exact ⟨by kernel_rfl, rfl⟩

/-- A context out of plain data: a precision that fits, exponents that fit. -/
theorem context_c (w : World) (p a b : Int) (m : Nat) (hm : m < 8) (hp : 0 ≤ p ∧ p ≤ 4294967295) (ha : -2147483648 ≤ a ∧ a ≤ 2147483647) (hb : -2147483648 ≤ b ∧ b ≤ 2147483647) :
    Calls Tryz.prog 40 #[.agg #[.int .u64 p, .int .i64 a, .int .i64 b, .int .i64 (m : Int)]] w fun e w' => ∃ c, e = .returned (.pointer (some ⟨c, 0, none⟩)) ∧ w.heap.size ≤ c ∧ Ctx w' c p a b (modeS m) ∧ Chg w w' (fun _ => False) := by
  have hr := fun w => rounder_c w m hm
  obtain ⟨hp1, hp2⟩ := hp
  obtain ⟨ha1, ha2⟩ := ha
  obtain ⟨hb1, hb2⟩ := hb
  go_enter Tryz.func40, Tryz.ntmps40
  go_wp2
  go_region_held3 (fun w' => w'.cell? ⟨w.heap.size, 0, none⟩ = some (.int .u64 p) ∧ w'.cell? ⟨w.heap.size, 1, none⟩ = some (.int .i64 a) ∧ w'.cell? ⟨w.heap.size, 2, none⟩ = some (.int .i64 b) ∧ w'.cell? ⟨w.heap.size, 3, none⟩ = some (.int .i64 (m : Int))) (go_keep) (first
    | (go_at_call 72; refine (hr _).mono ?_; rintro e w' ⟨rfl, hw⟩; obtain rfl := hw))
  go_wp2
  go_ret
  rw [IntWalk.u32_in _ (by omega), IntWalk.i32_in _ (by omega), IntWalk.i32_in _ (by omega)]
  refine ⟨w.heap.size + 1, rfl, by omega, ?_, (((Chg.refl w _).alloc _).alloc _).drew⟩
  have h := allocB (w.alloc (.cells #[.int .u64 p, .int .i64 a, .int .i64 b, .int .i64 (m : Int)] 35 (0, 0))) (.cells #[.int .u32 p, .int .i32 a, .int .i32 b, .int .u32 0, .string (modeS m)] 105 (0, 0))
  rw [World.size_alloc] at h
  exact h

/-- The signaling form is a condition. -/
def nanR (f : Int) : Nat := if f = 2 then 1024 else 0
end Go.Proofs.YtcoljeafgiemkaaGreatDoor

namespace Go.Proofs.YtcoljeafgiemkaaGreatDoor
open Go Go.RowKit

/-- A decimal in memory: form, sign, exponent, coefficient (in a place of its own). -/
def DecA (w : World) (b : Nat) (form : Int) (neg : Bool) (exp : Int) (N : Nat) (o : Option Nat) : Prop :=
  ∃ v, w.heap[b]? = some (.cells #[.int .i8 form, .bool neg, .int .i32 exp, .bool false, v, .bool false] 75 (0, 0)) ∧ IsNat w v N o
theorem DecZ.toA {w : World} {b : Nat} {f e : Int} {n : Bool} (h : DecZ w b f n e) : DecA w b f n e 0 none := ⟨_, h, IsNat.zero w⟩
theorem DecA.chg {w w' : World} {S : Nat → Prop} {b : Nat} {f e : Int} {n : Bool} {N : Nat} {o : Option Nat} (h : DecA w b f n e N o) (hc : Chg w w' S) (hn : ¬ S b) (ho : ∀ k, o = some k → ¬ S k) : DecA w' b f n e N o := by
  obtain ⟨v, h1, h2⟩ := h
  exact ⟨v, hc.heapB h1 hn, h2.chg hc ho⟩
theorem DecA.drewN {w : World} {b : Nat} {f e : Int} {n : Bool} {N : Nat} {o : Option Nat} (h : DecA w b f n e N o) (k : Nat) : DecA (w.drewN k) b f n e N o := h.chg (S := fun _ => False) ((Chg.refl w _).drewN k) (fun h => h) (fun _ _ h => h)
theorem DecA.c0 {w : World} {b : Nat} {f e : Int} {n : Bool} {N : Nat} {o : Option Nat} (h : DecA w b f n e N o) : w.cell? ⟨b, 0, none⟩ = some (.int .i8 f) := by obtain ⟨v, h, _⟩ := h; exact cellB h rfl
theorem DecA.c1 {w : World} {b : Nat} {f e : Int} {n : Bool} {N : Nat} {o : Option Nat} (h : DecA w b f n e N o) : w.cell? ⟨b, 1, none⟩ = some (.bool n) := by obtain ⟨v, h, _⟩ := h; exact cellB h rfl
theorem DecA.c2 {w : World} {b : Nat} {f e : Int} {n : Bool} {N : Nat} {o : Option Nat} (h : DecA w b f n e N o) : w.cell? ⟨b, 2, none⟩ = some (.int .i32 e) := by obtain ⟨v, h, _⟩ := h; exact cellB h rfl
theorem DecA.c3 {w : World} {b : Nat} {f e : Int} {n : Bool} {N : Nat} {o : Option Nat} (h : DecA w b f n e N o) : w.cell? ⟨b, 3, none⟩ = some (.bool false) := by obtain ⟨v, h, _⟩ := h; exact cellB h rfl
theorem DecA.c4 {w : World} {b : Nat} {f e : Int} {n : Bool} {N : Nat} {o : Option Nat} (h : DecA w b f n e N o) : ∃ v, w.cell? ⟨b, 4, none⟩ = some v ∧ IsNat w v N o := by obtain ⟨v, h, h2⟩ := h; exact ⟨v, cellB h rfl, h2⟩
theorem DecA.c5 {w : World} {b : Nat} {f e : Int} {n : Bool} {N : Nat} {o : Option Nat} (h : DecA w b f n e N o) : w.cell? ⟨b, 5, none⟩ = some (.bool false) := by obtain ⟨v, h, _⟩ := h; exact cellB h rfl
theorem DecA.lt {w : World} {b : Nat} {f e : Int} {n : Bool} {N : Nat} {o : Option Nat} (h : DecA w b f n e N o) : b < w.heap.size := by obtain ⟨v, h, _⟩ := h; exact ltB h

/-- -1, 0 or 1. -/
def sgN (n : Bool) (N : Nat) : Int := if N = 0 then 0 else if n then -1 else 1

theorem intSign_c (w : World) (b o : Nat) (n : Bool) (N : Nat) (v : Value) (ob : Option Nat) (h0 : w.cell? ⟨b, o, none⟩ = some (.bool n)) (h1 : w.cell? ⟨b, o + 1, none⟩ = some v) (hv : IsNat w v N ob) :
    Calls Tryz.prog 152 #[.pointer (some ⟨b, o, none⟩)] w fun e w' => e = .returned (.int .i64 (sgN n N)) ∧ w = w' := by
  obtain ⟨p, c, rfl, hl, hc⟩ := hv.shape
  clear hv
  by_cases hN : N = 0
  · subst hN
    have hs : sgN n 0 = 0 := by simp [sgN]
    rw [digs_zero] at h1 hl
    replace hs := Lib.hid hs
    go_enter Tryz.func152, Tryz.ntmps152
    go_wp2
    go_ret
    exact ⟨by rw [hs.out]; rfl, rfl⟩
  · have e0 := int_eq0 (digs_len_pos hN)
    have hs : sgN n N = if n then -1 else 1 := by simp [sgN, hN]
    replace hs := Lib.hid hs
    generalize (digs N).length = L at *
    cases n
    · go_enter Tryz.func152, Tryz.ntmps152
      go_wp2
      go_ret
      exact ⟨by rw [hs.out]; rfl, rfl⟩
    · go_enter Tryz.func152, Tryz.ntmps152
      go_wp2
      go_ret
      exact ⟨by rw [hs.out]; rfl, rfl⟩

theorem bigSign_c (w : World) (b o : Nat) (n : Bool) (N : Nat) (v : Value) (ob : Option Nat) (h0 : w.cell? ⟨b, o, none⟩ = some (.bool n)) (h1 : w.cell? ⟨b, o + 1, none⟩ = some v) (h2 : w.cell? ⟨b, o + 2, none⟩ = some (.bool false)) (hv : IsNat w v N ob) :
    Calls Tryz.prog 107 #[.pointer (some ⟨b, o, none⟩)] w fun e w' => e = .returned (.int .i64 (sgN n N)) ∧ w = w' := by
  have key := intSign_c w b o n N v ob h0 h1 hv
  clear hv h0 h1
  go_enter Tryz.func107, Tryz.ntmps107
  go_wp2_with fail
  refine key.mono ?_
  rintro e w' ⟨rfl, hw⟩
  obtain rfl := hw
  go_wp2
  go_ret
  exact ⟨rfl, rfl⟩

/-- The sign of a decimal: of a finite one by its coefficient. -/
def sgD (f : Int) (n : Bool) (N : Nat) : Int := if f = 0 ∧ N = 0 then 0 else if n then -1 else 1
theorem decSign_c (w : World) (b : Nat) (f e : Int) (n : Bool) (N : Nat) (o : Option Nat) (h : DecA w b f n e N o) (hf : 0 ≤ f ∧ f ≤ 3) :
    Calls Tryz.prog 134 #[.pointer (some ⟨b, 0, none⟩)] w fun e w' => e = .returned (.int .i64 (sgD f n N)) ∧ w = w' := by
  have h0 := h.c0
  have h1 := h.c1
  by_cases hf0 : f = 0
  · subst hf0
    obtain ⟨v, h4, hv⟩ := h.c4
    have key := bigSign_c w b 3 false N v o h.c3 h4 h.c5 hv
    by_cases hN : N = 0
    · subst hN
      have hs : sgD 0 n 0 = 0 := by simp [sgD]
      have hz : sgN false 0 = 0 := by simp [sgN]
      rw [hz] at key
      replace hs := Lib.hid hs
      clear h h4 hv hf
      go_enter Tryz.func134, Tryz.ntmps134
      go_wp2_with fail
      refine key.mono ?_
      rintro e w' ⟨rfl, hw⟩
      obtain rfl := hw
      go_wp2
      go_ret
      exact ⟨by rw [hs.out]; rfl, rfl⟩
    · have hs : sgD 0 n N = if n then -1 else 1 := by simp [sgD, hN]
      have hz : sgN false N = 1 := by simp [sgN, hN]
      rw [hz] at key
      replace hs := Lib.hid hs
      replace hN := Lib.hid hN
      clear h h4 hv hf
      cases n
      all_goals
        go_enter Tryz.func134, Tryz.ntmps134
        go_wp2_with fail
        refine key.mono ?_
        rintro e w' ⟨rfl, hw⟩
        obtain rfl := hw
        go_wp2
        go_ret
        exact ⟨by rw [hs.out]; rfl, rfl⟩
  · have hs : sgD f n N = if n then -1 else 1 := by simp [sgD, hf0]
    have e0 : (f == 0) = false := by simp [hf0]
    replace hs := Lib.hid hs
    clear h
    cases n
    all_goals
      go_enter Tryz.func134, Tryz.ntmps134
      go_wp2
      go_ret
      exact ⟨by rw [hs.out]; rfl, rfl⟩

theorem isZero_c (w : World) (b : Nat) (f e : Int) (n : Bool) (N : Nat) (o : Option Nat) (h : DecA w b f n e N o) (hf : 0 ≤ f ∧ f ≤ 3) :
    Calls Tryz.prog 95 #[.pointer (some ⟨b, 0, none⟩)] w fun e w' => e = .returned (.bool (decide (f = 0 ∧ N = 0))) ∧ w = w' := by
  have key := decSign_c w b f e n N o h hf
  by_cases hz : f = 0 ∧ N = 0
  · have hs : sgD f n N = 0 := by simp [sgD, hz]
    rw [hs] at key
    have hd : decide (f = 0 ∧ N = 0) = true := by simp [hz]
    rw [hd]
    clear h hz hs hd
    go_enter Tryz.func95, Tryz.ntmps95
    go_wp2_with fail
    refine key.mono ?_
    rintro e w' ⟨rfl, hw⟩
    obtain rfl := hw
    go_wp2
    go_ret
    exact ⟨rfl, rfl⟩
  · have hs : sgD f n N = if n then -1 else 1 := by simp only [sgD]; rw [if_neg hz]
    rw [hs] at key
    have hd : decide (f = 0 ∧ N = 0) = false := by simp [hz]
    rw [hd]
    clear h hz hs hd
    cases n
    all_goals
      go_enter Tryz.func95, Tryz.ntmps95
      go_wp2_with fail
      refine key.mono ?_
      rintro e w' ⟨rfl, hw⟩
      obtain rfl := hw
      go_wp2
      go_ret
      exact ⟨rfl, rfl⟩
end Go.Proofs.YtcoljeafgiemkaaGreatDoor

namespace Go.Proofs.YtcoljeafgiemkaaGreatDoor
open Go Go.RowKit

def Anyp (_ : World) : Prop := True
theorem anyp (w : World) : Anyp w := trivial
/-- The boxes of a context and of two decimals as plain data. -/
def Bx3 (s : Nat) (p a b : Int) (m : Nat) (fx ex fy ey : Int) (nx ny : Bool) (Ax Ay : Option Addr) (lx cx ly cy : Nat) (w : World) : Prop :=
  w.heap[s]? = some (.cells #[.int .u64 p, .int .i64 a, .int .i64 b, .int .i64 (m : Int)] 35 (0, 0)) ∧ w.heap[s + 1]? = some (.cells #[.int .i64 fx, .bool nx, .slice Ax lx cx, .int .i64 ex] 24 (0, 0)) ∧ w.heap[s + 2]? = some (.cells #[.int .i64 fy, .bool ny, .slice Ay ly cy, .int .i64 ey] 24 (0, 0))
theorem Bx3.chg {s : Nat} {p a b : Int} {m : Nat} {fx ex fy ey : Int} {nx ny : Bool} {Ax Ay : Option Addr} {lx cx ly cy : Nat} {w w' : World} (h : Bx3 s p a b m fx ex fy ey nx ny Ax Ay lx cx ly cy w) (hc : Chg w w' (fun _ => False)) : Bx3 s p a b m fx ex fy ey nx ny Ax Ay lx cx ly cy w' :=
  ⟨hc.heapB h.1 (fun h => h), hc.heapB h.2.1 (fun h => h), hc.heapB h.2.2 (fun h => h)⟩
theorem Bx3.chgS {s : Nat} {p a b : Int} {m : Nat} {fx ex fy ey : Int} {nx ny : Bool} {Ax Ay : Option Addr} {lx cx ly cy : Nat} {w w' : World} {S : Nat → Prop} (h : Bx3 s p a b m fx ex fy ey nx ny Ax Ay lx cx ly cy w) (hc : Chg w w' S) (h0 : ¬ S s) (h1 : ¬ S (s + 1)) (h2 : ¬ S (s + 2)) : Bx3 s p a b m fx ex fy ey nx ny Ax Ay lx cx ly cy w' :=
  ⟨hc.heapB h.1 h0, hc.heapB h.2.1 h1, hc.heapB h.2.2 h2⟩
theorem Bx3.cells {s : Nat} {p a b : Int} {m : Nat} {fx ex fy ey : Int} {nx ny : Bool} {Ax Ay : Option Addr} {lx cx ly cy : Nat} {w : World} (h : Bx3 s p a b m fx ex fy ey nx ny Ax Ay lx cx ly cy w) :
    w.cell? ⟨s, 0, none⟩ = some (.int .u64 p) ∧ w.cell? ⟨s, 1, none⟩ = some (.int .i64 a) ∧ w.cell? ⟨s, 2, none⟩ = some (.int .i64 b) ∧ w.cell? ⟨s, 3, none⟩ = some (.int .i64 (m : Int)) ∧
    w.cell? ⟨s + 1, 0, none⟩ = some (.int .i64 fx) ∧ w.cell? ⟨s + 1, 1, none⟩ = some (.bool nx) ∧ w.cell? ⟨s + 1, 2, none⟩ = some (.slice Ax lx cx) ∧ w.cell? ⟨s + 1, 3, none⟩ = some (.int .i64 ex) ∧
    w.cell? ⟨s + 2, 0, none⟩ = some (.int .i64 fy) ∧ w.cell? ⟨s + 2, 1, none⟩ = some (.bool ny) ∧ w.cell? ⟨s + 2, 2, none⟩ = some (.slice Ay ly cy) ∧ w.cell? ⟨s + 2, 3, none⟩ = some (.int .i64 ey) :=
  ⟨cellB h.1 rfl, cellB h.1 rfl, cellB h.1 rfl, cellB h.1 rfl, cellB h.2.1 rfl, cellB h.2.1 rfl, cellB h.2.1 rfl, cellB h.2.1 rfl, cellB h.2.2 rfl, cellB h.2.2 rfl, cellB h.2.2 rfl, cellB h.2.2 rfl⟩
theorem allocB_at (w : World) (o : Obj) {k : Nat} (h : k = w.heap.size) : (w.alloc o).heap[k]? = some o := by subst h; exact allocB w o
theorem allocB_lt (w : World) (o : Obj) {k : Nat} (h : k < w.heap.size) : (w.alloc o).heap[k]? = w.heap[k]? := Below.heap_alloc _ _ _ h
end Go.Proofs.YtcoljeafgiemkaaGreatDoor

namespace Go.Proofs.YtcoljeafgiemkaaGreatDoor
open Go.ChangeShapes Go.WideShapes Go.ChangeAt Go.RowKit Go.Joins
open Go
theorem fact2 : (mapsRowed Tryz.prog) = true := by kernel_rfl
theorem fact6 : ((Tryz.prog.stops == [])) = true := by kernel_rfl
theorem fact8 : ((Tryz.prog.stopKnobs == [])) = true := by kernel_rfl
theorem fact22 : ((Rows.fnQuantizeRow.plainKeys == Tryz.prog.plainKeys)) = true := by kernel_rfl
theorem fact24 : (Tryz.prog.stopsHeard) = true := by kernel_rfl
theorem fact25 : (Tryz.prog.mayEnter) = true := by kernel_rfl
theorem fact26 : ((Rows.fnQuantizeRow.lifted == Tryz.prog.liftsFinal)) = true := by kernel_rfl
theorem fact27 : ((Tryz.prog.make == some Rows.fnQuantizeRow.make)) = true := by kernel_rfl
theorem band {a b : Bool} (ha : a = true) (hb : b = true) : (a && b) = true := by rw [ha, hb]; rfl
end Go.Proofs.YtcoljeafgiemkaaGreatDoor
