/- Blocks of several cells, and decimals that are no finite number. Decimals with the coefficient of a new one: Set. Forms that are no number; conditions and their errors. The conditions by the thin package's numbers. impl.conditions. Contexts; what is told of a decimal that is no finite number; one that is made. Signs; sums of infinities. Boxes of plain data. The digits of a long division: plain arithmetic. The digits of a long division, of lists of words. Long division: plain facts of the lists. Words that lie at a place and stay while others are written. The stack's places, uniformly: for divBasic and divLarge. The stack given back: restore and free, whatever its state. Plain: words that are shifted up until the top bit is set. -/
import Derived.Outline
import Derived.Laws.BitsAllLaws
import Derived.Deep.RegionHeld3
import Derived.Test.YtonepclpllelfaaGreatDoorC08
import Derived.Test.YtonepclpllelfaaGreatDoorC10
namespace Go.Proofs.YtonepclpllelfaaGreatDoor
open Go Go.RowKit

theorem cellB {w : World} {b i : Nat} {cs : Array Value} {T : TypeId} {v : Value} (h : w.heap[b]? = some (.cells cs T (0, 0))) (hi : cs[i]? = some v) : w.cell? ⟨b, i, none⟩ = some v := by
  unfold World.cell?; simp [h, hi]
theorem frozenB {w : World} {b : Nat} {cs : Array Value} {T : TypeId} (h : w.heap[b]? = some (.cells cs T (0, 0))) (i : Nat) : w.frozen? ⟨b, i, none⟩ = false := by
  unfold World.frozen?; rw [h]; simp
theorem setB {w : World} {b i : Nat} {cs : Array Value} {T : TypeId} {v : Value} (h : w.heap[b]? = some (.cells cs T (0, 0))) : (w.setCell ⟨b, i, none⟩ v).heap[b]? = some (.cells (cs.setIfInBounds i v) T (0, 0)) := by
  simp only [World.setCell, Array.getElem?_modify, if_true, h, Option.map_some]
  simp
theorem chg_setB (w : World) (b i : Nat) (v : Value) : Chg w (w.setCell ⟨b, i, none⟩ v) (fun k => k = b) :=
  ⟨rfl, rfl, rfl, by rw [World.size_setCell]; exact Nat.le_refl _, fun k _ hn => Below.heap_setCell _ _ _ _ hn⟩
theorem ltB {w : World} {b : Nat} {o : Obj} (h : w.heap[b]? = some o) : b < w.heap.size := by
  rcases Nat.lt_or_ge b w.heap.size with h' | h'
  · exact h'
  · rw [Array.getElem?_eq_none h'] at h; cases h
theorem Chg.heapB {w w' : World} {S : Nat → Prop} (h : Chg w w' S) {b : Nat} {o : Obj} (hb : w.heap[b]? = some o) (hn : ¬ S b) : w'.heap[b]? = some o := by
  rw [h.block b (ltB hb) hn]; exact hb
theorem allocB (w : World) (o : Obj) : (w.alloc o).heap[w.heap.size]? = some o := by
  show (w.heap.push _)[w.heap.size]? = _
  rw [Array.getElem?_push, if_pos rfl]
theorem allocB_old {w : World} {b : Nat} {o o' : Obj} (h : w.heap[b]? = some o) : (w.alloc o').heap[b]? = some o := by
  rw [Below.heap_alloc _ _ _ (ltB h)]; exact h

/-- A decimal with the coefficient of a new one: its form, its sign, its exponent. -/
def DecZ (w : World) (b : Nat) (form : Int) (neg : Bool) (exp : Int) : Prop :=
  w.heap[b]? = some (.cells #[.int .i8 form, .bool neg, .int .i32 exp, .bool false, .slice none 0 0, .bool false] 55 (0, 0))
theorem DecZ.chg {w w' : World} {S : Nat → Prop} {b : Nat} {f e : Int} {n : Bool} (h : DecZ w b f n e) (hc : Chg w w' S) (hn : ¬ S b) : DecZ w' b f n e := hc.heapB h hn
theorem DecZ.c0 {w : World} {b : Nat} {f e : Int} {n : Bool} (h : DecZ w b f n e) : w.cell? ⟨b, 0, none⟩ = some (.int .i8 f) := cellB h rfl
theorem DecZ.c1 {w : World} {b : Nat} {f e : Int} {n : Bool} (h : DecZ w b f n e) : w.cell? ⟨b, 1, none⟩ = some (.bool n) := cellB h rfl
theorem DecZ.c2 {w : World} {b : Nat} {f e : Int} {n : Bool} (h : DecZ w b f n e) : w.cell? ⟨b, 2, none⟩ = some (.int .i32 e) := cellB h rfl
theorem DecZ.c3 {w : World} {b : Nat} {f e : Int} {n : Bool} (h : DecZ w b f n e) : w.cell? ⟨b, 3, none⟩ = some (.bool false) := cellB h rfl
theorem DecZ.c4 {w : World} {b : Nat} {f e : Int} {n : Bool} (h : DecZ w b f n e) : w.cell? ⟨b, 4, none⟩ = some (.slice none 0 0) := cellB h rfl
theorem DecZ.c5 {w : World} {b : Nat} {f e : Int} {n : Bool} (h : DecZ w b f n e) : w.cell? ⟨b, 5, none⟩ = some (.bool false) := cellB h rfl
theorem DecZ.fz {w : World} {b : Nat} {f e : Int} {n : Bool} (h : DecZ w b f n e) (i : Nat) : w.frozen? ⟨b, i, none⟩ = false := frozenB h i
end Go.Proofs.YtonepclpllelfaaGreatDoor

namespace Go.Proofs.YtonepclpllelfaaGreatDoor
open Go Go.RowKit

theorem infoInt : ∃ j, Tryz.prog.info? 51 = some j ∧ j.size ≠ 0 := by
  have h : (Tryz.prog.info? 51).map (fun i => i.size) = some 2 := by kernel_rfl
  cases hi : Tryz.prog.info? 51 with
  | none => rw [hi] at h; cases h
  | some i => rw [hi] at h; simp at h; exact ⟨i, rfl, by omega⟩
theorem infoDec : ∃ j, Tryz.prog.info? 55 = some j ∧ j.size ≠ 0 := by
  have h : (Tryz.prog.info? 55).map (fun i => i.size) = some 6 := by kernel_rfl
  cases hi : Tryz.prog.info? 55 with
  | none => rw [hi] at h; cases h
  | some i => rw [hi] at h; simp at h; exact ⟨i, rfl, by omega⟩
theorem neqInt {w : World} {a b oa ob : Nat} {ca cb : Array Value} {ta tb : TypeId} (hne : (⟨a, oa, none⟩ : Addr) ≠ ⟨b, ob, none⟩) (ha : w.heap[a]? = some (.cells ca ta (0, 0))) (hb : w.heap[b]? = some (.cells cb tb (0, 0))) :
    (binOp .neq 110 (.pointer (some ⟨a, oa, none⟩)) (.pointer (some ⟨b, ob, none⟩))).run Tryz.prog w = .ok (.bool true) w := by
  obtain ⟨j, hj, hs⟩ := infoInt
  exact run_neq_ptr_other Tryz.underlying110 hj hs hne ha hb
theorem eqlDec {w : World} {a b : Nat} {ca cb : Array Value} {ta tb : TypeId} (hne : a ≠ b) (ha : w.heap[a]? = some (.cells ca ta (0, 0))) (hb : w.heap[b]? = some (.cells cb tb (0, 0))) :
    (binOp .eql 45 (.pointer (some ⟨a, 0, none⟩)) (.pointer (some ⟨b, 0, none⟩))).run Tryz.prog w = .ok (.bool false) w := by
  obtain ⟨j, hj, hs⟩ := infoDec
  exact run_eql_ptr_other Tryz.underlying45 hj hs (fun e => hne (congrArg Addr.block e)) ha hb

set_option maxHeartbeats 400000 in
theorem set_nil (w : World) : Calls Tryz.prog 93 #[.slice none 0 0, .slice none 0 0] w fun e w' => e = .returned (.slice none 0 0) ∧ w = w' := by
  have hmk : Calls Tryz.prog 127 #[.slice none 0 0, .int .i64 0] w fun e w' => e = .returned (.slice none 0 0) ∧ w = w' := by
    go_enter Tryz.func127, Tryz.ntmps127
    go_wp2
    go_ret
    exact ⟨rfl, rfl⟩
  go_enter Tryz.func93, Tryz.ntmps93
  go_wp2_with fail
  refine hmk.mono ?_
  rintro e w' ⟨rfl, hw⟩
  obtain rfl := hw
  go_upto_region 2 with (fail)
  refine wp_region_lit ?_
  go_wp2_with (refine wpList_copy_nothing rfl (.tmp 9) (.tmp 10) 49 49 rfl 112 Tryz.underlying49 infoW _ _ _ _ _ _ rfl rfl (by simp) ?_)
  go_ret
  exact ⟨rfl, rfl⟩

end Go.Proofs.YtonepclpllelfaaGreatDoor

namespace Go.Proofs.YtonepclpllelfaaGreatDoor
open Go Go.RowKit

theorem shouldNaN_c (w : World) (c : Value) (x y : Nat) (fx fy : Int) (hx : w.cell? ⟨x, 0, none⟩ = some (.int .i8 fx)) (hy : w.cell? ⟨y, 0, none⟩ = some (.int .i8 fy)) (bx : 0 ≤ fx ∧ fx ≤ 3) (by_ : 0 ≤ fy ∧ fy ≤ 3) :
    Calls Tryz.prog 51 #[c, .pointer (some ⟨x, 0, none⟩), .pointer (some ⟨y, 0, none⟩)] w fun e w' => e = .returned (.bool (decide (2 ≤ fx ∨ 2 ≤ fy))) ∧ w = w' := by
  have h1 : fx = 0 ∨ fx = 1 ∨ fx = 2 ∨ fx = 3 := by omega
  have h2 : fy = 0 ∨ fy = 1 ∨ fy = 2 ∨ fy = 3 := by omega
  rcases h1 with rfl | rfl | rfl | rfl <;> rcases h2 with rfl | rfl | rfl | rfl <;>
  · clear bx by_
    go_enter Tryz.func51, Tryz.ntmps51
    go_wp2
    go_ret
    exact ⟨rfl, rfl⟩

theorem shouldNaN1_c (w : World) (c : Value) (x : Nat) (fx : Int) (hx : w.cell? ⟨x, 0, none⟩ = some (.int .i8 fx)) (bx : 0 ≤ fx ∧ fx ≤ 3) :
    Calls Tryz.prog 51 #[c, .pointer (some ⟨x, 0, none⟩), .pointer none] w fun e w' => e = .returned (.bool (decide (2 ≤ fx))) ∧ w = w' := by
  have h1 : fx = 0 ∨ fx = 1 ∨ fx = 2 ∨ fx = 3 := by omega
  rcases h1 with rfl | rfl | rfl | rfl <;>
  · clear bx
    go_enter Tryz.func51, Tryz.ntmps51
    go_wp2
    go_ret
    exact ⟨rfl, rfl⟩

/-- Bits of a condition. -/
theorem and3_all : (List.range 4096).all (fun r => decide (bits .and .u32 (r : Int) 3 = ((r % 4 : Nat) : Int)) && decide (bits .and .u32 (r : Int) 0 = 0)) = true := by kernel_rfl
theorem and3 (r : Nat) (h : r < 4096) : bits .and .u32 (r : Int) 3 = ((r % 4 : Nat) : Int) ∧ bits .and .u32 (r : Int) 0 = 0 := by
  have := List.all_eq_true.1 and3_all r (List.mem_range.2 h)
  simp only [Bool.and_eq_true, decide_eq_true_eq] at this
  exact this

/-- Without traps no condition is an error, but those of the system. -/
theorem GoError_c (w : World) (r : Nat) (h : r < 4096) (h4 : r % 4 = 0) :
    Calls Tryz.prog 64 #[.int .u32 (r : Int), .int .u32 0] w fun e w' => e = .returned (.tuple #[.int .u32 (r : Int), .nilIface]) ∧ w = w' := by
  obtain ⟨e1, e2⟩ := and3 r h
  rw [h4] at e1
  have e1' : bits .and .u32 (r : Int) 3 = 0 := e1
  clear e1
  go_enter Tryz.func64, Tryz.ntmps64
  go_wp2
  go_ret2
  exact ⟨rfl, rfl⟩

/-- A context: its block. -/
def Ctx (w : World) (c : Nat) (prec max min : Int) (mode : ByteArray) : Prop :=
  w.heap[c]? = some (.cells #[.int .u32 prec, .int .i32 max, .int .i32 min, .int .u32 0, .string mode] 76 (0, 0))
theorem Ctx.chg {w w' : World} {S : Nat → Prop} {c : Nat} {p a b : Int} {m : ByteArray} (h : Ctx w c p a b m) (hc : Chg w w' S) (hn : ¬ S c) : Ctx w' c p a b m := hc.heapB h hn
theorem Ctx.c0 {w : World} {c : Nat} {p a b : Int} {m : ByteArray} (h : Ctx w c p a b m) : w.cell? ⟨c, 0, none⟩ = some (.int .u32 p) := cellB h rfl
theorem Ctx.c1 {w : World} {c : Nat} {p a b : Int} {m : ByteArray} (h : Ctx w c p a b m) : w.cell? ⟨c, 1, none⟩ = some (.int .i32 a) := cellB h rfl
theorem Ctx.c2 {w : World} {c : Nat} {p a b : Int} {m : ByteArray} (h : Ctx w c p a b m) : w.cell? ⟨c, 2, none⟩ = some (.int .i32 b) := cellB h rfl
theorem Ctx.c3 {w : World} {c : Nat} {p a b : Int} {m : ByteArray} (h : Ctx w c p a b m) : w.cell? ⟨c, 3, none⟩ = some (.int .u32 0) := cellB h rfl
theorem Ctx.c4 {w : World} {c : Nat} {p a b : Int} {m : ByteArray} (h : Ctx w c p a b m) : w.cell? ⟨c, 4, none⟩ = some (.string m) := cellB h rfl

theorem goError_c (w : World) (c r : Nat) (p a b : Int) (m : ByteArray) (hc : Ctx w c p a b m) (h : r < 4096) (h4 : r % 4 = 0) :
    Calls Tryz.prog 43 #[.pointer (some ⟨c, 0, none⟩), .int .u32 (r : Int)] w fun e w' => e = .returned (.tuple #[.int .u32 (r : Int), .nilIface]) ∧ w = w' := by
  have c3 := hc.c3
  by_cases h0 : r = 0
  · subst h0
    go_enter Tryz.func43, Tryz.ntmps43
    go_wp2
    go_ret2
    exact ⟨rfl, rfl⟩
  · have e0 : ((r : Int) == 0) = false := by simp; omega
    have hg := GoError_c w r h h4
    clear h4 h0
    go_enter Tryz.func43, Tryz.ntmps43
    go_wp2_with fail
    refine hg.mono ?_
    rintro e w' ⟨rfl, hw⟩
    obtain rfl := hw
    go_wp2
    go_ret2
    exact ⟨rfl, rfl⟩

end Go.Proofs.YtonepclpllelfaaGreatDoor

namespace Go.Proofs.YtonepclpllelfaaGreatDoor
open Go Go.RowKit

/-- A condition by the thin package's numbers. -/
def condN (r : Nat) : Nat := r / 4 + r % 4 * 1024
/-- What the first k of them give. -/
def condP (k r : Nat) : Nat := if k ≤ 10 then r / 4 % 2 ^ k else r / 4 % 1024 + (if k = 11 then r % 2 else r % 4) * 1024
def condC (k : Nat) : Nat := if k < 10 then 4 * 2 ^ k else 2 ^ (k - 10)
theorem cond_all : (List.range 12).all (fun k => (List.range 4096).all fun r =>
    decide ((if bits .and .u32 (r : Int) (condC k : Int) != 0 then bits .or .i64 (condP k r : Int) ((2 ^ k : Nat) : Int) else (condP k r : Int)) = (condP (k + 1) r : Int))) = true := by kernel_rfl
theorem cond_step (k r : Nat) (hk : k < 12) (hr : r < 4096) :
    (if bits .and .u32 (r : Int) (condC k : Int) != 0 then bits .or .i64 (condP k r : Int) ((2 ^ k : Nat) : Int) else (condP k r : Int)) = (condP (k + 1) r : Int) := by
  have := List.all_eq_true.1 (List.all_eq_true.1 cond_all k (List.mem_range.2 hk)) r (List.mem_range.2 hr)
  exact of_decide_eq_true this

theorem index_cond (k : Nat) (hk : k < 12) (w : World) : (Instr.index 95 (.agg #[.int .u32 4, .int .u32 8, .int .u32 16, .int .u32 32, .int .u32 64, .int .u32 128, .int .u32 256, .int .u32 512, .int .u32 1024, .int .u32 2048, .int .u32 1, .int .u32 2]) (.int .i64 (k : Int))).run Tryz.prog w = .ok (.int .u32 (condC k : Int)) w := by
  have h : k = 0 ∨ k = 1 ∨ k = 2 ∨ k = 3 ∨ k = 4 ∨ k = 5 ∨ k = 6 ∨ k = 7 ∨ k = 8 ∨ k = 9 ∨ k = 10 ∨ k = 11 := by omega
  rcases h with rfl | rfl | rfl | rfl | rfl | rfl | rfl | rfl | rfl | rfl | rfl | rfl
  all_goals (show _ = _; kernel_rfl)
end Go.Proofs.YtonepclpllelfaaGreatDoor

namespace Go.Proofs.YtonepclpllelfaaGreatDoor
open Go Go.RowKit

theorem wrap_pow (k : Nat) (h : k < 12) : wrap64 (2 ^ k) = ((2 ^ k : Nat) : Int) := by
  have h : k = 0 ∨ k = 1 ∨ k = 2 ∨ k = 3 ∨ k = 4 ∨ k = 5 ∨ k = 6 ∨ k = 7 ∨ k = 8 ∨ k = 9 ∨ k = 10 ∨ k = 11 := by omega
  rcases h with rfl | rfl | rfl | rfl | rfl | rfl | rfl | rfl | rfl | rfl | rfl | rfl <;> (show _ = _; kernel_rfl)

set_option maxHeartbeats 1000000 in
theorem conditions_c (w : World) (r : Nat) (hr : r < 4096) :
    Calls Tryz.prog 20 #[.int .u32 (r : Int)] w fun e w' => e = .returned (.int .i64 (condN r : Int)) ∧ w = w' := by
  go_enter Tryz.func20, Tryz.ntmps20
  go_wp2
  go_loop [3, 7] (fun out i => ∃ k : Nat, k ≤ 12 ∧ i = .int .i64 k ∧ out = .int .i64 (condP k r : Int)) (fun _ i => 12 - (intOf i).toNat)
  case atStart => exact ⟨0, Nat.zero_le _, rfl, by unfold condP; simp⟩
  case round =>
    obtain ⟨k, hk, rfl, rfl⟩ := hrel
    by_cases hlt : k < 12
    · have ix := fun w => index_cond k hlt w
      have st := cond_step k r hlt hr
      replace st := Lib.hid st
      cases hb : (bits .and .u32 (r : Int) (condC k : Int) != 0)
      · go_wp2
        have st := st.out
        rw [hb, if_neg (by decide)] at st
        exact ⟨⟨k + 1, by omega, by go_num, by rw [st]⟩, by simp [intOf]; omega⟩
      · go_wp2
        have st := st.out
        rw [hb, if_pos rfl] at st
        rw [wrap_pow k hlt, st]
        exact ⟨⟨k + 1, by omega, by go_num, rfl⟩, by simp [intOf]; omega⟩
    · obtain rfl : k = 12 := by omega
      go_wp2
      go_ret
      have hfin : condP 12 r = condN r := by unfold condP condN; simp; omega
      exact ⟨(by show Ending.returned (.int .i64 (condP 12 r : Int)) = _; rw [hfin]), rfl⟩
end Go.Proofs.YtonepclpllelfaaGreatDoor

namespace Go.Proofs.YtonepclpllelfaaGreatDoor
open Go Go.RowKit

/-- How a number of a mode rounds. -/
def modeS (m : Nat) : ByteArray := match m with
  | 0 => "down".toByteArray
  | 2 => "half_even".toByteArray
  | 3 => "ceiling".toByteArray
  | 4 => "floor".toByteArray
  | 5 => "half_down".toByteArray
  | 6 => "up".toByteArray
  | 7 => "05up".toByteArray
  | _ => "half_up".toByteArray

theorem rounder_c (w : World) (m : Nat) (hm : m < 8) : Calls Tryz.prog 29 #[.int .i64 (m : Int)] w fun e w' => e = .returned (.string (modeS m)) ∧ w = w' := by
  have h : m = 0 ∨ m = 1 ∨ m = 2 ∨ m = 3 ∨ m = 4 ∨ m = 5 ∨ m = 6 ∨ m = 7 := by omega
  rcases h with rfl | rfl | rfl | rfl | rfl | rfl | rfl | rfl <;>
  · go_enter Tryz.func29, Tryz.ntmps29
    go_wp2
    go_ret
    exact ⟨by kernel_rfl, rfl⟩

/-- A context out of plain data: a precision that fits, exponents that fit. -/
theorem context_c (w : World) (p a b : Int) (m : Nat) (hm : m < 8) (hp : 0 ≤ p ∧ p ≤ 4294967295) (ha : -2147483648 ≤ a ∧ a ≤ 2147483647) (hb : -2147483648 ≤ b ∧ b ≤ 2147483647) :
    Calls Tryz.prog 16 #[.agg #[.int .u64 p, .int .i64 a, .int .i64 b, .int .i64 (m : Int)]] w fun e w' => ∃ c, e = .returned (.pointer (some ⟨c, 0, none⟩)) ∧ w.heap.size ≤ c ∧ Ctx w' c p a b (modeS m) ∧ Chg w w' (fun _ => False) := by
  have hr := fun w => rounder_c w m hm
  obtain ⟨hp1, hp2⟩ := hp
  obtain ⟨ha1, ha2⟩ := ha
  obtain ⟨hb1, hb2⟩ := hb
  go_enter Tryz.func16, Tryz.ntmps16
  go_wp2
  go_region_held3 (fun w' => w'.cell? ⟨w.heap.size, 0, none⟩ = some (.int .u64 p) ∧ w'.cell? ⟨w.heap.size, 1, none⟩ = some (.int .i64 a) ∧ w'.cell? ⟨w.heap.size, 2, none⟩ = some (.int .i64 b) ∧ w'.cell? ⟨w.heap.size, 3, none⟩ = some (.int .i64 (m : Int))) (go_keep) (first
    | (go_at_call 29; refine (hr _).mono ?_; rintro e w' ⟨rfl, hw⟩; obtain rfl := hw))
  go_wp2
  go_ret
  rw [IntWalk.u32_in _ (by omega), IntWalk.i32_in _ (by omega), IntWalk.i32_in _ (by omega)]
  refine ⟨w.heap.size + 1, rfl, by omega, ?_, (((Chg.refl w _).alloc _).alloc _).drew⟩
  have h := allocB (w.alloc (.cells #[.int .u64 p, .int .i64 a, .int .i64 b, .int .i64 (m : Int)] 35 (0, 0))) (.cells #[.int .u32 p, .int .i32 a, .int .i32 b, .int .u32 0, .string (modeS m)] 76 (0, 0))
  rw [World.size_alloc] at h
  exact h

/-- The signaling form is a condition. -/
def nanR (f : Int) : Nat := if f = 2 then 1024 else 0
end Go.Proofs.YtonepclpllelfaaGreatDoor

namespace Go.Proofs.YtonepclpllelfaaGreatDoor
open Go Go.RowKit

/-- A decimal in memory: form, sign, exponent, coefficient (in a place of its own). -/
def DecA (w : World) (b : Nat) (form : Int) (neg : Bool) (exp : Int) (N : Nat) (o : Option Nat) : Prop :=
  ∃ v, w.heap[b]? = some (.cells #[.int .i8 form, .bool neg, .int .i32 exp, .bool false, v, .bool false] 55 (0, 0)) ∧ IsNat w v N o
theorem DecA.chg {w w' : World} {S : Nat → Prop} {b : Nat} {f e : Int} {n : Bool} {N : Nat} {o : Option Nat} (h : DecA w b f n e N o) (hc : Chg w w' S) (hn : ¬ S b) (ho : ∀ k, o = some k → ¬ S k) : DecA w' b f n e N o := by
  obtain ⟨v, h1, h2⟩ := h
  exact ⟨v, hc.heapB h1 hn, h2.chg hc ho⟩
theorem DecA.drewN {w : World} {b : Nat} {f e : Int} {n : Bool} {N : Nat} {o : Option Nat} (h : DecA w b f n e N o) (k : Nat) : DecA (w.drewN k) b f n e N o := h.chg (S := fun _ => False) ((Chg.refl w _).drewN k) (fun h => h) (fun _ _ h => h)
theorem DecA.c0 {w : World} {b : Nat} {f e : Int} {n : Bool} {N : Nat} {o : Option Nat} (h : DecA w b f n e N o) : w.cell? ⟨b, 0, none⟩ = some (.int .i8 f) := by obtain ⟨v, h, _⟩ := h; exact cellB h rfl
theorem DecA.c1 {w : World} {b : Nat} {f e : Int} {n : Bool} {N : Nat} {o : Option Nat} (h : DecA w b f n e N o) : w.cell? ⟨b, 1, none⟩ = some (.bool n) := by obtain ⟨v, h, _⟩ := h; exact cellB h rfl
theorem DecA.c2 {w : World} {b : Nat} {f e : Int} {n : Bool} {N : Nat} {o : Option Nat} (h : DecA w b f n e N o) : w.cell? ⟨b, 2, none⟩ = some (.int .i32 e) := by obtain ⟨v, h, _⟩ := h; exact cellB h rfl
theorem DecA.c3 {w : World} {b : Nat} {f e : Int} {n : Bool} {N : Nat} {o : Option Nat} (h : DecA w b f n e N o) : w.cell? ⟨b, 3, none⟩ = some (.bool false) := by obtain ⟨v, h, _⟩ := h; exact cellB h rfl
theorem DecA.c4 {w : World} {b : Nat} {f e : Int} {n : Bool} {N : Nat} {o : Option Nat} (h : DecA w b f n e N o) : ∃ v, w.cell? ⟨b, 4, none⟩ = some v ∧ IsNat w v N o := by obtain ⟨v, h, h2⟩ := h; exact ⟨v, cellB h rfl, h2⟩
theorem DecA.c5 {w : World} {b : Nat} {f e : Int} {n : Bool} {N : Nat} {o : Option Nat} (h : DecA w b f n e N o) : w.cell? ⟨b, 5, none⟩ = some (.bool false) := by obtain ⟨v, h, _⟩ := h; exact cellB h rfl
theorem DecA.lt {w : World} {b : Nat} {f e : Int} {n : Bool} {N : Nat} {o : Option Nat} (h : DecA w b f n e N o) : b < w.heap.size := by obtain ⟨v, h, _⟩ := h; exact ltB h

/-- -1, 0 or 1. -/
def sgN (n : Bool) (N : Nat) : Int := if N = 0 then 0 else if n then -1 else 1

theorem intSign_c (w : World) (b o : Nat) (n : Bool) (N : Nat) (v : Value) (ob : Option Nat) (h0 : w.cell? ⟨b, o, none⟩ = some (.bool n)) (h1 : w.cell? ⟨b, o + 1, none⟩ = some v) (hv : IsNat w v N ob) :
    Calls Tryz.prog 95 #[.pointer (some ⟨b, o, none⟩)] w fun e w' => e = .returned (.int .i64 (sgN n N)) ∧ w = w' := by
  obtain ⟨p, c, rfl, hl, hc⟩ := hv.shape
  clear hv
  by_cases hN : N = 0
  · subst hN
    have hs : sgN n 0 = 0 := by simp [sgN]
    rw [digs_zero] at h1 hl
    replace hs := Lib.hid hs
    go_enter Tryz.func95, Tryz.ntmps95
    go_wp2
    go_ret
    exact ⟨by rw [hs.out]; rfl, rfl⟩
  · have e0 := int_eq0 (digs_len_pos hN)
    have hs : sgN n N = if n then -1 else 1 := by simp [sgN, hN]
    replace hs := Lib.hid hs
    generalize (digs N).length = L at *
    cases n
    · go_enter Tryz.func95, Tryz.ntmps95
      go_wp2
      go_ret
      exact ⟨by rw [hs.out]; rfl, rfl⟩
    · go_enter Tryz.func95, Tryz.ntmps95
      go_wp2
      go_ret
      exact ⟨by rw [hs.out]; rfl, rfl⟩

theorem bigSign_c (w : World) (b o : Nat) (n : Bool) (N : Nat) (v : Value) (ob : Option Nat) (h0 : w.cell? ⟨b, o, none⟩ = some (.bool n)) (h1 : w.cell? ⟨b, o + 1, none⟩ = some v) (h2 : w.cell? ⟨b, o + 2, none⟩ = some (.bool false)) (hv : IsNat w v N ob) :
    Calls Tryz.prog 71 #[.pointer (some ⟨b, o, none⟩)] w fun e w' => e = .returned (.int .i64 (sgN n N)) ∧ w = w' := by
  have key := intSign_c w b o n N v ob h0 h1 hv
  clear hv h0 h1
  go_enter Tryz.func71, Tryz.ntmps71
  go_wp2_with fail
  refine key.mono ?_
  rintro e w' ⟨rfl, hw⟩
  obtain rfl := hw
  go_wp2
  go_ret
  exact ⟨rfl, rfl⟩

/-- The sign of a decimal: of a finite one by its coefficient. -/
def sgD (f : Int) (n : Bool) (N : Nat) : Int := if f = 0 ∧ N = 0 then 0 else if n then -1 else 1
theorem decSign_c (w : World) (b : Nat) (f e : Int) (n : Bool) (N : Nat) (o : Option Nat) (h : DecA w b f n e N o) (hf : 0 ≤ f ∧ f ≤ 3) :
    Calls Tryz.prog 55 #[.pointer (some ⟨b, 0, none⟩)] w fun e w' => e = .returned (.int .i64 (sgD f n N)) ∧ w = w' := by
  have h0 := h.c0
  have h1 := h.c1
  by_cases hf0 : f = 0
  · subst hf0
    obtain ⟨v, h4, hv⟩ := h.c4
    have key := bigSign_c w b 3 false N v o h.c3 h4 h.c5 hv
    by_cases hN : N = 0
    · subst hN
      have hs : sgD 0 n 0 = 0 := by simp [sgD]
      have hz : sgN false 0 = 0 := by simp [sgN]
      rw [hz] at key
      replace hs := Lib.hid hs
      clear h h4 hv hf
      go_enter Tryz.func55, Tryz.ntmps55
      go_wp2_with fail
      refine key.mono ?_
      rintro e w' ⟨rfl, hw⟩
      obtain rfl := hw
      go_wp2
      go_ret
      exact ⟨by rw [hs.out]; rfl, rfl⟩
    · have hs : sgD 0 n N = if n then -1 else 1 := by simp [sgD, hN]
      have hz : sgN false N = 1 := by simp [sgN, hN]
      rw [hz] at key
      replace hs := Lib.hid hs
      replace hN := Lib.hid hN
      clear h h4 hv hf
      cases n
      all_goals
        go_enter Tryz.func55, Tryz.ntmps55
        go_wp2_with fail
        refine key.mono ?_
        rintro e w' ⟨rfl, hw⟩
        obtain rfl := hw
        go_wp2
        go_ret
        exact ⟨by rw [hs.out]; rfl, rfl⟩
  · have hs : sgD f n N = if n then -1 else 1 := by simp [sgD, hf0]
    have e0 : (f == 0) = false := by simp [hf0]
    replace hs := Lib.hid hs
    clear h
    cases n
    all_goals
      go_enter Tryz.func55, Tryz.ntmps55
      go_wp2
      go_ret
      exact ⟨by rw [hs.out]; rfl, rfl⟩

theorem isZero_c (w : World) (b : Nat) (f e : Int) (n : Bool) (N : Nat) (o : Option Nat) (h : DecA w b f n e N o) (hf : 0 ≤ f ∧ f ≤ 3) :
    Calls Tryz.prog 78 #[.pointer (some ⟨b, 0, none⟩)] w fun e w' => e = .returned (.bool (decide (f = 0 ∧ N = 0))) ∧ w = w' := by
  have key := decSign_c w b f e n N o h hf
  by_cases hz : f = 0 ∧ N = 0
  · have hs : sgD f n N = 0 := by simp [sgD, hz]
    rw [hs] at key
    have hd : decide (f = 0 ∧ N = 0) = true := by simp [hz]
    rw [hd]
    clear h hz hs hd
    go_enter Tryz.func78, Tryz.ntmps78
    go_wp2_with fail
    refine key.mono ?_
    rintro e w' ⟨rfl, hw⟩
    obtain rfl := hw
    go_wp2
    go_ret
    exact ⟨rfl, rfl⟩
  · have hs : sgD f n N = if n then -1 else 1 := by simp only [sgD]; rw [if_neg hz]
    rw [hs] at key
    have hd : decide (f = 0 ∧ N = 0) = false := by simp [hz]
    rw [hd]
    clear h hz hs hd
    cases n
    all_goals
      go_enter Tryz.func78, Tryz.ntmps78
      go_wp2_with fail
      refine key.mono ?_
      rintro e w' ⟨rfl, hw⟩
      obtain rfl := hw
      go_wp2
      go_ret
      exact ⟨rfl, rfl⟩
end Go.Proofs.YtonepclpllelfaaGreatDoor

namespace Go.Proofs.YtonepclpllelfaaGreatDoor
open Go Go.RowKit

def Anyp (_ : World) : Prop := True
theorem anyp (w : World) : Anyp w := trivial
/-- The boxes of a context and of two decimals as plain data. -/
def Bx3 (s : Nat) (p a b : Int) (m : Nat) (fx ex fy ey : Int) (nx ny : Bool) (Ax Ay : Option Addr) (lx cx ly cy : Nat) (w : World) : Prop :=
  w.heap[s]? = some (.cells #[.int .u64 p, .int .i64 a, .int .i64 b, .int .i64 (m : Int)] 35 (0, 0)) ∧ w.heap[s + 1]? = some (.cells #[.int .i64 fx, .bool nx, .slice Ax lx cx, .int .i64 ex] 24 (0, 0)) ∧ w.heap[s + 2]? = some (.cells #[.int .i64 fy, .bool ny, .slice Ay ly cy, .int .i64 ey] 24 (0, 0))
theorem Bx3.chg {s : Nat} {p a b : Int} {m : Nat} {fx ex fy ey : Int} {nx ny : Bool} {Ax Ay : Option Addr} {lx cx ly cy : Nat} {w w' : World} (h : Bx3 s p a b m fx ex fy ey nx ny Ax Ay lx cx ly cy w) (hc : Chg w w' (fun _ => False)) : Bx3 s p a b m fx ex fy ey nx ny Ax Ay lx cx ly cy w' :=
  ⟨hc.heapB h.1 (fun h => h), hc.heapB h.2.1 (fun h => h), hc.heapB h.2.2 (fun h => h)⟩
theorem Bx3.chgS {s : Nat} {p a b : Int} {m : Nat} {fx ex fy ey : Int} {nx ny : Bool} {Ax Ay : Option Addr} {lx cx ly cy : Nat} {w w' : World} {S : Nat → Prop} (h : Bx3 s p a b m fx ex fy ey nx ny Ax Ay lx cx ly cy w) (hc : Chg w w' S) (h0 : ¬ S s) (h1 : ¬ S (s + 1)) (h2 : ¬ S (s + 2)) : Bx3 s p a b m fx ex fy ey nx ny Ax Ay lx cx ly cy w' :=
  ⟨hc.heapB h.1 h0, hc.heapB h.2.1 h1, hc.heapB h.2.2 h2⟩
theorem Bx3.cells {s : Nat} {p a b : Int} {m : Nat} {fx ex fy ey : Int} {nx ny : Bool} {Ax Ay : Option Addr} {lx cx ly cy : Nat} {w : World} (h : Bx3 s p a b m fx ex fy ey nx ny Ax Ay lx cx ly cy w) :
    w.cell? ⟨s, 0, none⟩ = some (.int .u64 p) ∧ w.cell? ⟨s, 1, none⟩ = some (.int .i64 a) ∧ w.cell? ⟨s, 2, none⟩ = some (.int .i64 b) ∧ w.cell? ⟨s, 3, none⟩ = some (.int .i64 (m : Int)) ∧
    w.cell? ⟨s + 1, 0, none⟩ = some (.int .i64 fx) ∧ w.cell? ⟨s + 1, 1, none⟩ = some (.bool nx) ∧ w.cell? ⟨s + 1, 2, none⟩ = some (.slice Ax lx cx) ∧ w.cell? ⟨s + 1, 3, none⟩ = some (.int .i64 ex) ∧
    w.cell? ⟨s + 2, 0, none⟩ = some (.int .i64 fy) ∧ w.cell? ⟨s + 2, 1, none⟩ = some (.bool ny) ∧ w.cell? ⟨s + 2, 2, none⟩ = some (.slice Ay ly cy) ∧ w.cell? ⟨s + 2, 3, none⟩ = some (.int .i64 ey) :=
  ⟨cellB h.1 rfl, cellB h.1 rfl, cellB h.1 rfl, cellB h.1 rfl, cellB h.2.1 rfl, cellB h.2.1 rfl, cellB h.2.1 rfl, cellB h.2.1 rfl, cellB h.2.2 rfl, cellB h.2.2 rfl, cellB h.2.2 rfl, cellB h.2.2 rfl⟩
theorem allocB_at (w : World) (o : Obj) {k : Nat} (h : k = w.heap.size) : (w.alloc o).heap[k]? = some o := by subst h; exact allocB w o
end Go.Proofs.YtonepclpllelfaaGreatDoor

namespace Go.Proofs.YtonepclpllelfaaGreatDoor

/-- The true digit is at most the guess. -/
theorem guess_ge {P vl V2 tl U2 qh : Nat} (_hP : 0 < P) (hv : 0 < vl + P * V2) (htl : tl < P) (h : U2 < (qh + 1) * V2) : (tl + P * U2) / (vl + P * V2) ≤ qh := by
  rw [Nat.div_le_iff_le_mul_add_pred hv]
  have h1 : P * (U2 + 1) ≤ P * ((qh + 1) * V2) := Nat.mul_le_mul_left _ h
  have e1 : P * (U2 + 1) = P * U2 + P := Nat.mul_succ _ _
  have e2 : P * ((qh + 1) * V2) = qh * (P * V2) + P * V2 := by
    rw [Nat.add_mul, Nat.one_mul, Nat.mul_add, Nat.mul_left_comm]
  have e3 : (vl + P * V2) * qh = qh * vl + qh * (P * V2) := by rw [Nat.mul_comm, Nat.mul_add]
  omega
/-- The guess is at most one more than the true digit. -/
theorem guess_le {P vl V2 tl U2 qh : Nat} (hv : 0 < vl + P * V2) (hvl : vl < P) (h : qh * V2 ≤ U2) (hq : qh ≤ V2) : qh ≤ (tl + P * U2) / (vl + P * V2) + 1 := by
  rcases Nat.eq_zero_or_pos qh with h0 | h0
  · rw [h0]; exact Nat.zero_le _
  obtain ⟨k, rfl⟩ : ∃ k, qh = k + 1 := ⟨qh - 1, by omega⟩
  have : k ≤ (tl + P * U2) / (vl + P * V2) := by
    rw [Nat.le_div_iff_mul_le hv]
    have e1 : k * (vl + P * V2) = k * vl + P * (k * V2) := by rw [Nat.mul_add, Nat.mul_left_comm]
    have e2 : (k + 1) * V2 = k * V2 + V2 := Nat.succ_mul _ _
    have h1 : k * vl ≤ P * V2 := by
      calc k * vl ≤ k * P := Nat.mul_le_mul_left _ (Nat.le_of_lt hvl)
        _ ≤ V2 * P := Nat.mul_le_mul_right _ (by omega)
        _ = P * V2 := Nat.mul_comm _ _
    have h2 : P * (k * V2 + V2) ≤ P * U2 := Nat.mul_le_mul_left _ (by omega)
    rw [Nat.mul_add] at h2
    omega
  exact Nat.succ_le_succ this
/-- Where the first digits agree the greatest digit serves. -/
theorem guess_max {B P vl v1 v2 tl t1 t2 : Nat} (hB : 2 ≤ B) (hvl : vl < P) (hv2 : v2 < B) (hv1 : B ≤ 2 * v1) (hlt : tl + P * (t2 + B * t1 + B * B * v1) < B * (vl + P * (v2 + B * v1))) :
    (tl + P * (t2 + B * t1 + B * B * v1)) / (vl + P * (v2 + B * v1)) ≤ B - 1 ∧ B - 1 ≤ (tl + P * (t2 + B * t1 + B * B * v1)) / (vl + P * (v2 + B * v1)) + 1 := by
  have hv : 0 < vl + P * (v2 + B * v1) := by
    have : 0 < P * (v2 + B * v1) := Nat.mul_pos (by omega) (by have := Nat.mul_pos (show 0 < B by omega) (show 0 < v1 by omega); omega)
    omega
  constructor
  · have := (Nat.div_lt_iff_lt_mul hv).2 hlt
    omega
  · have : B - 2 ≤ (tl + P * (t2 + B * t1 + B * B * v1)) / (vl + P * (v2 + B * v1)) := by
      rw [Nat.le_div_iff_mul_le hv]
      obtain ⟨c, rfl⟩ : ∃ c, B = c + 2 := ⟨B - 2, by omega⟩
      rw [Nat.add_sub_cancel]
      have h1 : vl + P * (v2 + (c + 2) * v1) ≤ P * ((c + 2) * (v1 + 1)) := by
        have h3 : v2 + 1 + (c + 2) * v1 ≤ (c + 2) * (v1 + 1) := by rw [Nat.mul_succ]; omega
        have h4 := Nat.mul_le_mul_left P h3
        have e4 : P * (v2 + 1 + (c + 2) * v1) = P * (v2 + (c + 2) * v1) + P := by rw [show v2 + 1 + (c + 2) * v1 = (v2 + (c + 2) * v1) + 1 by omega, Nat.mul_succ]
        omega
      have h2 : c * (P * ((c + 2) * (v1 + 1))) ≤ P * ((c + 2) * (c + 2) * v1) := by
        have h5 : c * (v1 + 1) ≤ (c + 2) * v1 := by rw [Nat.mul_succ, Nat.add_mul]; omega
        have h6 := Nat.mul_le_mul_left (P * (c + 2)) h5
        have e6 : c * (P * ((c + 2) * (v1 + 1))) = P * (c + 2) * (c * (v1 + 1)) := by
          rw [Nat.mul_left_comm c P, Nat.mul_left_comm c (c + 2), Nat.mul_assoc]
        have e7 : P * ((c + 2) * (c + 2) * v1) = P * (c + 2) * ((c + 2) * v1) := by
          rw [Nat.mul_assoc (c + 2), ← Nat.mul_assoc P]
        rw [e6, e7]; exact h6
      calc c * (vl + P * (v2 + (c + 2) * v1)) ≤ c * (P * ((c + 2) * (v1 + 1))) := Nat.mul_le_mul_left _ h1
        _ ≤ P * ((c + 2) * (c + 2) * v1) := h2
        _ ≤ tl + P * (t2 + (c + 2) * t1 + (c + 2) * (c + 2) * v1) := by
          rw [Nat.mul_add P (t2 + (c + 2) * t1)]; omega
    omega
/-- The first digit is at most the divisor's. -/
theorem first_le {B P vl v1 v2 tl t0 t1 t2 : Nat} (_hB : 0 < B) (hvl : vl < P) (hv2 : v2 < B) (hlt : tl + P * (t2 + B * t1 + B * B * t0) < B * (vl + P * (v2 + B * v1))) : t0 ≤ v1 := by
  have h1 : vl + P * (v2 + B * v1) < P * (B * (v1 + 1)) + 1 := by
    have h3 : v2 + 1 + B * v1 ≤ B * (v1 + 1) := by rw [Nat.mul_succ]; omega
    have h4 := Nat.mul_le_mul_left P h3
    have e4 : P * (v2 + 1 + B * v1) = P * (v2 + B * v1) + P := by rw [show v2 + 1 + B * v1 = (v2 + B * v1) + 1 by omega, Nat.mul_succ]
    omega
  have h2 : P * (B * B * t0) < B * (P * (B * (v1 + 1))) := by
    have h5 : B * (vl + P * (v2 + B * v1)) ≤ B * (P * (B * (v1 + 1))) := Nat.mul_le_mul_left _ (by omega)
    have h6 : P * (B * B * t0) ≤ P * (t2 + B * t1 + B * B * t0) := Nat.mul_le_mul_left _ (by omega)
    omega
  have e : B * (P * (B * (v1 + 1))) = P * (B * B * (v1 + 1)) := by rw [Nat.mul_left_comm, Nat.mul_assoc B B]
  rw [e] at h2
  have h7 := Nat.lt_of_mul_lt_mul_left h2
  have h8 := Nat.lt_of_mul_lt_mul_left h7
  omega

/-- A list of words, cut at its last two. -/
theorem val_top2 {L : List Nat} {k : Nat} (h : L.length = k + 2) : val L = val (L.take k) + WB ^ k * (nth L k + WB * nth L (k + 1)) := by
  have h1 : L.take (k + 1 + 1) = L := List.take_of_length_le (by omega)
  have h2 := val_take_succ (l := L) (k := k + 1) (by omega)
  rw [h1, val_take_succ (k := k) (by omega), Nat.pow_succ] at h2
  rw [h2, Nat.mul_add, Nat.mul_assoc, Nat.add_assoc]
theorem val_top3 {L : List Nat} {k : Nat} (h : L.length = k + 3) : val L = val (L.take k) + WB ^ k * (nth L k + WB * nth L (k + 1) + WB * WB * nth L (k + 2)) := by
  have h1 : L.take (k + 2 + 1) = L := List.take_of_length_le (by omega)
  have h2 := val_take_succ (l := L) (k := k + 2) (by omega)
  have h3 := val_take_succ (l := L) (k := k + 1) (by omega)
  rw [h1] at h2
  rw [show k + 1 + 1 = k + 2 from rfl, val_take_succ (k := k) (by omega)] at h3
  have e1 : WB ^ (k + 2) * nth L (k + 2) = WB ^ k * (WB * WB * nth L (k + 2)) := by
    rw [show k + 2 = k + 1 + 1 from rfl, Nat.pow_succ, Nat.pow_succ, Nat.mul_assoc (WB ^ k), Nat.mul_assoc (WB ^ k)]
  have e2 : WB ^ (k + 1) * nth L (k + 1) = WB ^ k * (WB * nth L (k + 1)) := by rw [Nat.pow_succ, Nat.mul_assoc]
  rw [h2, h3, e1, e2, Nat.mul_add, Nat.mul_add]
  omega
end Go.Proofs.YtonepclpllelfaaGreatDoor

namespace Go.Proofs.YtonepclpllelfaaGreatDoor
open Go Go.RowKit

theorem digit_bounds {V T : List Nat} {k : Nat} (hV : V.length = k + 2) (hT : T.length = k + 3) (WV : Wd V) (WT : Wd T) (hn : WB ≤ 2 * nth V (k + 1)) (hlt : val T < WB * val V) :
    nth T (k + 2) ≤ nth V (k + 1) ∧ (nth T (k + 2) = nth V (k + 1) → val T / val V ≤ WB - 1 ∧ WB - 1 ≤ val T / val V + 1) ∧
    ∀ qh, qh < WB → qh * (nth V k + WB * nth V (k + 1)) ≤ nth T k + WB * nth T (k + 1) + WB * WB * nth T (k + 2) →
      nth T k + WB * nth T (k + 1) + WB * WB * nth T (k + 2) < (qh + 1) * (nth V k + WB * nth V (k + 1)) → val T / val V ≤ qh ∧ qh ≤ val T / val V + 1 := by
  have hvl := val_lt (WV.take k)
  rw [List.length_take, Nat.min_eq_left (by omega)] at hvl
  have htl := val_lt (WT.take k)
  rw [List.length_take, Nat.min_eq_left (by omega)] at htl
  rw [val_top2 hV, val_top3 hT] at *
  have hv1 := WB_two
  have h2 := WV.nth k
  have hpos : 0 < val (V.take k) + WB ^ k * (nth V k + WB * nth V (k + 1)) := by
    have h3 : 0 < WB * nth V (k + 1) := Nat.mul_pos WB_pos (by omega)
    have := Nat.mul_pos (WB_pow_pos k) (show 0 < nth V k + WB * nth V (k + 1) by omega)
    omega
  refine ⟨first_le WB_pos hvl h2 hlt, fun e => ?_, fun qh hq h3 h4 => ⟨guess_ge (WB_pow_pos k) hpos htl h4, guess_le hpos hvl h3 ?_⟩⟩
  · rw [e] at hlt ⊢
    exact guess_max WB_two hvl h2 hn hlt
  · have : WB * 1 ≤ WB * nth V (k + 1) := Nat.mul_le_mul_left _ (by omega)
    omega

/-- The first guess is not too small. -/
theorem guess_start {t0 t1 t2 v1 v2 : Nat} (hv1 : 0 < v1) (ht2 : t2 < WB) : t2 + WB * t1 + WB * WB * t0 < ((t0 * WB + t1) / v1 + 1) * (v2 + WB * v1) := by
  generalize hq : (t0 * WB + t1) / v1 = q
  have h1 : t0 * WB + t1 < (q + 1) * v1 := by
    rw [← hq, Nat.mul_comm (_ + 1)]
    exact Nat.lt_mul_div_succ _ hv1
  have h2 : WB * (t0 * WB + t1 + 1) ≤ WB * ((q + 1) * v1) := Nat.mul_le_mul_left _ h1
  have e1 : WB * (t0 * WB + t1 + 1) = WB * WB * t0 + WB * t1 + WB := by
    rw [Nat.mul_add, Nat.mul_add, Nat.mul_one, Nat.mul_comm t0, Nat.mul_assoc]
  have e2 : (q + 1) * (v2 + WB * v1) = (q + 1) * v2 + WB * ((q + 1) * v1) := by rw [Nat.mul_add, Nat.mul_left_comm]
  rw [e2]; omega
/-- A guess that passes the test is small enough. -/
theorem guess_pass {t0 t1 t2 v1 v2 q r x : Nat} (hr : q * v1 + r = t0 * WB + t1) (hx : x = q * v2) (h : x ≤ r * WB + t2) : q * (v2 + WB * v1) ≤ t2 + WB * t1 + WB * WB * t0 := by
  have e1 : q * (v2 + WB * v1) = q * v2 + WB * (q * v1) := by rw [Nat.mul_add, Nat.mul_left_comm]
  have e2 : WB * (q * v1 + r) = WB * (t0 * WB + t1) := by rw [hr]
  rw [Nat.mul_add, Nat.mul_add] at e2
  have e3 : WB * (t0 * WB) = WB * WB * t0 := by rw [Nat.mul_comm t0, Nat.mul_assoc]
  have e4 : r * WB = WB * r := Nat.mul_comm _ _
  omega
/-- One that does not is not the greatest. -/
theorem guess_fail {t0 t1 t2 v1 v2 q r x : Nat} (hr : q * v1 + r = t0 * WB + t1) (hx : x = q * v2) (h : r * WB + t2 < x) : t2 + WB * t1 + WB * WB * t0 < q * (v2 + WB * v1) := by
  have e1 : q * (v2 + WB * v1) = q * v2 + WB * (q * v1) := by rw [Nat.mul_add, Nat.mul_left_comm]
  have e2 : WB * (q * v1 + r) = WB * (t0 * WB + t1) := by rw [hr]
  rw [Nat.mul_add, Nat.mul_add] at e2
  have e3 : WB * (t0 * WB) = WB * WB * t0 := by rw [Nat.mul_comm t0, Nat.mul_assoc]
  have e4 : r * WB = WB * r := Nat.mul_comm _ _
  omega
/-- Two words in order. -/
theorem two_words {x1 x2 y1 y2 : Nat} (hx2 : x2 < WB) (hy2 : y2 < WB) : (y1 < x1 ∨ x1 = y1 ∧ y2 < x2) ↔ y1 * WB + y2 < x1 * WB + x2 := by
  constructor
  · rintro (h | ⟨rfl, h⟩)
    · have := Nat.mul_le_mul_right WB (Nat.succ_le_of_lt h)
      rw [Nat.succ_mul] at this
      omega
    · omega
  · intro h
    rcases Nat.lt_trichotomy y1 x1 with h1 | h1 | h1
    · exact .inl h1
    · subst h1; exact .inr ⟨rfl, by omega⟩
    · have := Nat.mul_le_mul_right WB (Nat.succ_le_of_lt h1)
      rw [Nat.succ_mul] at this
      omega
/-- The product of the guess and the second digit, one guess less. -/
theorem less_guess {q v2 x1 x2 : Nat} (hx : x1 * WB + x2 = q * v2) (hq : 0 < q) (hv2 : v2 < WB) (hx1 : x1 < WB) (hx2 : x2 < WB) :
    (if x2 < v2 then wsub x1 1 else x1) * WB + wsub x2 v2 = (q - 1) * v2 ∧ (if x2 < v2 then wsub x1 1 else x1) < WB := by
  obtain ⟨k, rfl⟩ : ∃ k, q = k + 1 := ⟨q - 1, by omega⟩
  rw [Nat.add_sub_cancel]
  have e : (k + 1) * v2 = k * v2 + v2 := Nat.succ_mul _ _
  have hW := WB_two
  split
  · rename_i h
    have h1 : 1 ≤ x1 := by
      rcases Nat.eq_zero_or_pos x1 with h0 | h0
      · subst h0; omega
      · exact h0
    rw [wsub_borrow h hv2, wsub_of h1 hx1]
    obtain ⟨c, rfl⟩ : ∃ c, x1 = c + 1 := ⟨x1 - 1, by omega⟩
    rw [Nat.succ_mul] at hx
    rw [Nat.add_sub_cancel]
    exact ⟨by omega, by omega⟩
  · rename_i h
    rw [wsub_of (by omega) hx2]
    exact ⟨by omega, hx1⟩
/-- The remainder runs over: the guess is small enough. -/
theorem guess_over {t0 t1 t2 v1 v2 q r : Nat} (hr : q * v1 + r = t0 * WB + t1) (hq : q < WB) (hv2 : v2 < WB) (h : WB ≤ r) : q * (v2 + WB * v1) ≤ t2 + WB * t1 + WB * WB * t0 := by
  refine guess_pass hr rfl ?_
  have h1 : q * v2 ≤ WB * WB := Nat.mul_le_mul (Nat.le_of_lt hq) (Nat.le_of_lt hv2)
  have h2 : WB * WB ≤ r * WB := Nat.mul_le_mul_right _ h
  omega
end Go.Proofs.YtonepclpllelfaaGreatDoor

namespace Go.Proofs.YtonepclpllelfaaGreatDoor
open Go Go.RowKit

theorem spl_fix {U R2 R3 : List Nat} {j k x : Nat} (h : j + (k + 3) ≤ U.length) (hR2 : R2.length = k + 3) (hR3 : R3.length = k + 2) : (spl (spl U j R2) j R3).set (j + (k + 2)) x = spl U j (R3 ++ [x]) := by
  have l1 : (spl U j R2).length = U.length := spl_length (by omega)
  have l2 : (spl (spl U j R2) j R3).length = U.length := by rw [spl_length (by omega), l1]
  have l3 : (R3 ++ [x]).length = k + 3 := by rw [List.length_append, hR3]; rfl
  apply List.ext_getElem?
  intro i
  rw [List.getElem?_set]
  split
  · rename_i e; subst e
    rw [if_pos (by omega), spl_mid (C := U) (o := j) (R := R3 ++ [x]) (by omega) (by omega), List.getElem?_append_right (by omega)]
    simp [hR3]
  · rename_i e
    by_cases h1 : i < j
    · rw [spl_lt (C := spl U j R2) (o := j) (R := R3) (by omega) h1, spl_lt (C := U) (o := j) (R := R2) (by omega) h1, spl_lt (C := U) (o := j) (R := R3 ++ [x]) (by omega) h1]
    · by_cases h2 : i < j + (k + 2)
      · obtain ⟨d, rfl⟩ : ∃ d, i = j + d := ⟨i - j, by omega⟩
        rw [spl_mid (C := spl U j R2) (o := j) (R := R3) (by omega) (by omega), spl_mid (C := U) (o := j) (R := R3 ++ [x]) (by omega) (by omega), List.getElem?_append_left (by omega)]
      · rw [spl_ge (C := spl U j R2) (o := j) (R := R3) (by omega) (by omega), spl_ge (C := U) (o := j) (R := R2) (by omega) (by omega), spl_ge (C := U) (o := j) (R := R3 ++ [x]) (by omega) (by omega)]

/-- What is added back runs over the top. -/
theorem back_val {R2 R3 : List Nat} {v r c3 k : Nat} (hR2 : R2.length = k + 3) (hR3 : R3.length = k + 2) (WR3 : Wd R3) (h7 : val R3 + WB ^ (k + 2) * c3 = val (R2.take (k + 2)) + v)
    (h2 : val R2 + v = r + WB ^ (k + 3)) (hr : r < WB ^ (k + 2)) : val (R3 ++ [wadd (nth R2 (k + 2)) c3]) = r := by
  have h3 := val_take_succ (l := R2) (k := k + 2) (by omega)
  rw [List.take_of_length_le (by omega)] at h3
  have h4 := val_lt WR3
  rw [hR3] at h4
  have h5 : val R3 + WB ^ (k + 2) * (nth R2 (k + 2) + c3) = r + WB ^ (k + 2) * WB := by
    rw [Nat.mul_add, show WB ^ (k + 2) * WB = WB ^ (k + 3) from (Nat.pow_succ _ _).symm]
    omega
  have h6 : (val R3 + WB ^ (k + 2) * (nth R2 (k + 2) + c3)) / WB ^ (k + 2) = nth R2 (k + 2) + c3 := by
    rw [Nat.add_mul_div_left _ _ (WB_pow_pos _), Nat.div_eq_of_lt h4, Nat.zero_add]
  have h8 : (r + WB ^ (k + 2) * WB) / WB ^ (k + 2) = WB := by
    rw [Nat.add_mul_div_left _ _ (WB_pow_pos _), Nat.div_eq_of_lt hr, Nat.zero_add]
  rw [h5, h8] at h6
  have h9 : wadd (nth R2 (k + 2)) c3 = 0 := by unfold wadd; rw [← h6, Nat.mod_self]
  rw [← h6] at h5
  rw [h9, val_snoc, Nat.mul_zero, Nat.add_zero]
  omega

/-- A digit of the quotient is known: the state goes down by one place. -/
theorem div_step {U0v N M k j : Nat} {U' Q' R5 V T : List Nat} (hN : N = M + (k + 2)) (hj : j < M) (hUl : N ≤ U'.length) (hQl : M ≤ Q'.length) (hT : ((U'.take N).drop j).take (k + 3) = T)
    (hTv : val ((U'.take N).drop j) = val T) (hR5 : R5.length = k + 3) (hv : val R5 = val T % val V) (hV : 0 < val V)
    (heq : U0v = val (U'.take N) + val V * (WB ^ (j + 1) * val ((Q'.take M).drop (j + 1)))) :
    U0v = val ((spl U' j R5).take N) + val V * (WB ^ j * val (((Q'.set j (val T / val V)).take M).drop j)) ∧ val (((spl U' j R5).take N).drop j) < val V := by
  have hLl : (U'.take N).length = N := by rw [List.length_take]; omega
  have e1 : (spl U' j R5).take N = (U'.take N).take j ++ (R5 ++ ((U'.take N).drop j).drop (k + 3)) := by
    apply List.ext_getElem?
    intro i
    by_cases hi : i < N
    · rw [List.getElem?_take_of_lt hi]
      by_cases h1 : i < j
      · rw [spl_lt (C := U') (o := j) (R := R5) (by omega) h1, List.getElem?_append_left (by simp; omega), List.getElem?_take_of_lt h1, List.getElem?_take_of_lt hi]
      · by_cases h2 : i < j + (k + 3)
        · obtain ⟨d, rfl⟩ : ∃ d, i = j + d := ⟨i - j, by omega⟩
          rw [spl_mid (C := U') (o := j) (R := R5) (by omega) (by omega), List.getElem?_append_right (by simp; omega), List.getElem?_append_left (by simp; omega)]
          congr 1; simp; omega
        · rw [spl_ge (C := U') (o := j) (R := R5) (by omega) (by omega), List.getElem?_append_right (by simp; omega), List.getElem?_append_right (by simp; omega), List.getElem?_drop, List.getElem?_drop, List.getElem?_take_of_lt (by simp; omega)]
          congr 1; simp; omega
    · rw [List.getElem?_eq_none (by simp; omega), List.getElem?_eq_none (by simp; omega)]
  have hz : WB ^ (k + 3) * val (((U'.take N).drop j).drop (k + 3)) = 0 := by
    have h1 := val_take_drop ((U'.take N).drop j) (k + 3) (by rw [List.length_drop, hLl]; omega)
    rw [hT, hTv] at h1
    omega
  have hd : val (R5 ++ ((U'.take N).drop j).drop (k + 3)) = val R5 := by rw [val_append, hR5, hz, Nat.add_zero]
  have htl : ((U'.take N).take j).length = j := by rw [List.length_take, hLl]; omega
  have hL1 : val ((spl U' j R5).take N) = val ((U'.take N).take j) + WB ^ j * val R5 := by rw [e1, val_append, htl, hd]
  have hL0 : val (U'.take N) = val ((U'.take N).take j) + WB ^ j * val T := by
    have h1 := val_take_drop (U'.take N) j (by omega)
    rw [hTv] at h1
    exact h1
  have hQ : ((Q'.set j (val T / val V)).take M).drop j = (val T / val V) :: (Q'.take M).drop (j + 1) := by
    apply List.ext_getElem?
    intro i
    rw [List.getElem?_drop]
    cases i with
    | zero => rw [Nat.add_zero, List.getElem?_take_of_lt hj, List.getElem?_set_self (by omega)]; rfl
    | succ i =>
      rw [List.getElem?_cons_succ, List.getElem?_drop, show j + 1 + i = j + (i + 1) by omega]
      by_cases h1 : j + (i + 1) < M
      · rw [List.getElem?_take_of_lt h1, List.getElem?_take_of_lt h1, List.getElem?_set_ne (by omega)]
      · rw [List.getElem?_eq_none (by simp; omega), List.getElem?_eq_none (by simp; omega)]
  have hdm : val T / val V * val V + val T % val V = val T := by rw [Nat.mul_comm]; exact Nat.div_add_mod _ _
  refine ⟨?_, ?_⟩
  · rw [heq, hL0, hL1, hQ, val_cons, hv]
    have h1 : WB ^ j * val T = WB ^ j * (val T / val V * val V) + WB ^ j * (val T % val V) := by rw [← Nat.mul_add, hdm]
    have h2 : val V * (WB ^ j * (val T / val V + WB * val ((Q'.take M).drop (j + 1)))) = WB ^ j * (val T / val V * val V) + val V * (WB ^ (j + 1) * val ((Q'.take M).drop (j + 1))) := by
      rw [Nat.mul_add, Nat.mul_add, Nat.pow_succ, Nat.mul_assoc (WB ^ j)]
      congr 1
      rw [Nat.mul_left_comm, Nat.mul_comm (val V)]
    omega
  · have h3 : ((spl U' j R5).take N).drop j = R5 ++ ((U'.take N).drop j).drop (k + 3) := by
      rw [e1, List.drop_append_of_le_length (by omega), List.drop_of_length_le (by omega), List.nil_append]
    rw [h3, hd, hv]
    exact Nat.mod_lt _ hV
end Go.Proofs.YtonepclpllelfaaGreatDoor

namespace Go.Proofs.YtonepclpllelfaaGreatDoor
open Go Go.RowKit

/-- The words V lie at a place. -/
def At (w : World) (b o : Nat) (V : List Nat) : Prop := ∀ i, i < V.length → w.cell? ⟨b, o + i, none⟩ = some (.int .u64 (nth V i : Int))
theorem At.chg {w w' : World} {S : Nat → Prop} {b o : Nat} {V : List Nat} (h : At w b o V) (hc : Chg w w' S) (hn : ¬ S b) : At w' b o V := fun i hi => hc.cell (h i hi) hn
/-- They are read while others are written that lie elsewhere, or behind them. -/
theorem At.sub {w wr : World} {b o bz oz : Nat} {V C R : List Nat} (h : At w b o V) (ha : Arr w bz C) (hS : Sub w wr bz (spl C oz R)) (hfit : oz + R.length ≤ C.length) (hs : b ≠ bz ∨ o + V.length ≤ oz) : At wr b o V := by
  intro i hi
  by_cases e : b = bz
  · subst e
    have hle : o + V.length ≤ oz := by
      rcases hs with h | h
      · exact absurd rfl h
      · exact h
    have h1 := h i hi
    have hlt : o + i < C.length := by omega
    rw [ha.cellN hlt] at h1
    rw [hS.arr.cellN (by rw [spl_length hfit]; exact hlt), nth_spl_lt hfit (by omega)]
    exact h1
  · exact hS.chg.cell (h i hi) e
theorem At.rd {w : World} {b o bz oz n : Nat} {V C : List Nat} (h : At w b o V) (ha : Arr w bz C) (hn : V.length = n) (hfit : oz + n ≤ C.length) (hs : b ≠ bz ∨ o + V.length ≤ oz) : Rd w bz oz n C b o V := by
  intro wr R hS hR
  exact (h.sub ha hS (by omega) hs) R.length (by omega)

end Go.Proofs.YtonepclpllelfaaGreatDoor

namespace Go.Proofs.YtonepclpllelfaaGreatDoor
open Go Go.RowKit

/-- The blocks that belong to the stack. -/
def StkBlk (s : Nat) : Option (Nat × Nat × Nat) → Nat → Prop
  | none, k => k = s
  | some (t, b, _), k => k = t ∨ k = b

theorem StkS.ne {w : World} {s t b l : Nat} (h : StkS w s (some (t, b, l))) : s ≠ t ∧ b ≠ s ∧ b ≠ t := by
  obtain ⟨c, C, h1⟩ := h
  refine ⟨?_, h1.hb.ne h1.hs (by decide), h1.hb.ne h1.ht (by decide)⟩
  rintro rfl
  have := h1.ht
  rw [h1.hs] at this
  simp at this

theorem StkS.save {w : World} {s : Nat} {st : Option (Nat × Nat × Nat)} (h : StkS w s st) :
    Calls Tryz.prog 181 #[.pointer (some ⟨s, 0, none⟩)] w fun e w' => e = .returned (.int .i64 ((match st with | none => 0 | some (_, _, l) => l : Nat) : Int)) ∧ w = w' := by
  match st, h with
  | none, h => exact save0 w s h
  | some (t, b, l), ⟨c, C, h⟩ => exact save1 w s t b l c C h

/-- A place for n words, where V lies safe at the head of block bv. -/
theorem stkNat (w : World) (s n bv : Nat) (st : Option (Nat × Nat × Nat)) (V : List Nat) (h : StkS w s st) (hn0 : 0 < n) (hn : n ≤ 800) (hV : At w bv 0 V) (hVa : ∃ C, Arr w bv C ∧ V.length ≤ C.length)
    (hst : st = none ∨ ∃ t l, st = some (t, bv, l) ∧ V.length ≤ l ∧ l ≤ 800) :
    Calls Tryz.prog 182 #[.pointer (some ⟨s, 0, none⟩), .int .i64 n] w fun e w1 => ∃ bh oh G H st', e = .returned (.slice (some ⟨bh, oh, none⟩) n G) ∧ Arr w1 bh H ∧ oh + n ≤ H.length ∧ n ≤ G ∧
      (w.heap.size ≤ bh ∨ bh = bv) ∧ At w1 bv 0 V ∧ (bv ≠ bh ∨ 0 + V.length ≤ oh) ∧ StkS w1 s st' ∧ Chg w w1 (StkBlk s st) ∧
      (st = none → st' = none ∨ ∃ t b l, st' = some (t, b, l) ∧ w.heap.size ≤ t ∧ w.heap.size ≤ b) ∧ (∀ t b l, st = some (t, b, l) → ∃ l', st' = some (t, bh, l') ∧ l ≤ oh) := by
  obtain ⟨Cv, hCv, hlv⟩ := hVa
  rcases hst with rfl | ⟨t, l, rfl, hl, hl8⟩
  · refine (stkNat0 w s n h hn0 hn).mono ?_
    rintro e w1 ⟨b, G, C, st', rfl, hb, ha, hC, hG, hchg, hS, hst'⟩
    have hbvs : ¬ bv = s := hCv.ne (show w.heap[s]? = some (.cells #[.pointer none] 206 (0, 0)) from h) (by decide)
    have hlt := hCv.lt
    refine ⟨b, 0, G, C, st', rfl, ha, by omega, hG, .inl hb, hV.chg hchg hbvs, .inl (by omega), hS, hchg, fun _ => ?_, fun t b l e => by cases e⟩
    rcases hst' with rfl | ⟨t, l, rfl, ht, _, _⟩
    · exact .inl rfl
    · exact .inr ⟨t, b, l, rfl, ht, hb⟩
  · have hne := StkS.ne h
    refine (stkNat1 w s t bv l n h hl8 hn0 hn hne.1).mono ?_
    rintro e w1 ⟨b', C', rfl, hb', ha, hC, hchg, ⟨l', hS⟩, hsame⟩
    obtain ⟨Cb, hCb, hCl, hCs⟩ := hsame Cv hCv
    refine ⟨b', l, n, C', some (t, b', l'), rfl, ha, hC, Nat.le_refl _, hb'.symm, ?_, ?_, hS, hchg, (fun e => by cases e), ?_⟩
    · intro i hi
      have h1 := hV i hi
      rw [Nat.zero_add] at h1 ⊢
      rw [hCv.cellN (by omega)] at h1
      rw [hCb.cellN (by omega), hCs i (by omega)]
      exact h1
    · exact .inr (by omega)
    · rintro t' b l0 e
      simp only [Option.some.injEq, Prod.mk.injEq] at e
      obtain ⟨rfl, rfl, rfl⟩ := e
      exact ⟨l', rfl, Nat.le_refl _⟩
end Go.Proofs.YtonepclpllelfaaGreatDoor

namespace Go.Proofs.YtonepclpllelfaaGreatDoor
open Go Go.RowKit

/-- A stack whose row could be cut to n words; its inner block is not below B. -/
def StkW (w : World) (s B n : Nat) : Prop :=
  Stk0 w s ∨ ∃ t b l c, B ≤ t ∧ w.heap[s]? = some (.cells #[.pointer (some ⟨t, 0, none⟩)] 206 (0, 0)) ∧ w.heap[t]? = some (.cells #[.slice (some ⟨b, 0, none⟩) l c] 231 (0, 0)) ∧ n ≤ c ∧ c ≤ 9223372036854775807
/-- The inner blocks of stacks, from B on. -/
def Inner (w : World) (B : Nat) (k : Nat) : Prop := B ≤ k ∧ ∃ cs, w.heap[k]? = some (.cells cs 231 (0, 0))
theorem Inner.arr {w : World} {B b : Nat} {C : List Nat} (h : Arr w b C) : ¬ Inner w B b := by
  rintro ⟨_, cs, h2⟩
  exact h.ne h2 (by decide) rfl
theorem StkW.mono {w : World} {s B m n : Nat} (h : StkW w s B n) (hm : m ≤ n) : StkW w s B m := by
  rcases h with h | ⟨t, b, l, c, h1, h2, h3, h4, h5⟩
  · exact .inl h
  · exact .inr ⟨t, b, l, c, h1, h2, h3, by omega, h5⟩
theorem StkW.chg {w w' : World} {s B n : Nat} {S : Nat → Prop} (h : StkW w s B n) (hc : Chg w w' S) (hs : ¬ S s) (ht : ∀ t cs, w.heap[t]? = some (.cells cs 231 (0, 0)) → ¬ S t) : StkW w' s B n := by
  rcases h with h | ⟨t, b, l, c, h1, h2, h3, h4, h5⟩
  · exact .inl (hc.heap h hs)
  · exact .inr ⟨t, b, l, c, h1, hc.heap h2 hs, hc.heap h3 (ht _ _ h3), h4, h5⟩
theorem StkS.weak {w : World} {s B n : Nat} {st : Option (Nat × Nat × Nat)} (h : StkS w s st) (hB : ∀ t b l, st = some (t, b, l) → B ≤ t) (hn : ∀ t b l, st = some (t, b, l) → n ≤ l) : StkW w s B n := by
  match st, h with
  | none, h => exact .inl h
  | some (t, b, l), ⟨c, C, h1⟩ => exact .inr ⟨t, b, l, c, hB _ _ _ rfl, h1.hs, h1.ht, Nat.le_trans (hn _ _ _ rfl) h1.hl, h1.hc⟩

theorem restoreW (w : World) (s B n : Nat) (u : FrameMode) (h : StkW w s B n) :
    CallsD Tryz.prog 180 #[.pointer (some ⟨s, 0, none⟩), .int .i64 n] u w fun e u' w' => u' = u ∧ e = .returned (.tuple #[]) ∧ StkW w' s B 0 ∧ Chg w w' (Inner w B) := by
  rcases h with h | ⟨t, b, l, c, hB, hs, ht, hn, hcc⟩
  · refine (restore0 w s n u h).mono ?_
    rintro e u' w' ⟨rfl, rfl, rfl⟩
    exact ⟨rfl, rfl, .inl h, Chg.refl _ _⟩
  · have hc := cell1 hs
    have hc2 := cell1 ht
    have hf2 := frozen1 ht 0
    have hi : Calls Tryz.prog 215 #[.pointer (some ⟨t, 0, none⟩), .int .i64 n] w fun e w' => e = .returned (.tuple #[]) ∧ w' = w.setCell ⟨t, 0, none⟩ (.slice (some ⟨b, 0, none⟩) n c) := by
      clear hs ht
      go_enter Tryz.func215, Tryz.ntmps215
      go_wp2
      exact bodyPost_end (results_none rfl _ _ _) rfl ⟨rfl, rfl⟩
    have hst : s ≠ t := by
      rintro rfl
      rw [hs] at ht
      simp at ht
    have hfin : StkW (w.setCell ⟨t, 0, none⟩ (.slice (some ⟨b, 0, none⟩) n c)) s B 0 := .inr ⟨t, b, n, c, hB, (chg_set w t 0 _).heap hs hst, set1 ht, Nat.zero_le _, hcc⟩
    have hch : Chg w (w.setCell ⟨t, 0, none⟩ (.slice (some ⟨b, 0, none⟩) n c)) (Inner w B) := (chg_set w t 0 _).mono (by rintro k _ rfl; exact ⟨hB, _, ht⟩)
    clear hc2 hf2 hs ht
    go_enter_d Tryz.func180, Tryz.ntmps180
    go_wp2_with fail
    refine hi.mono ?_
    rintro e w' ⟨rfl, rfl⟩
    go_wp2
    exact bodyPost_end (results_none rfl _ _ _) rfl ⟨rfl, hfin, hch⟩
theorem freeW (w : World) (s B : Nat) (u : FrameMode) (h : StkW w s B 0) :
    CallsD Tryz.prog 156 #[.pointer (some ⟨s, 0, none⟩)] u w fun e u' w' => u' = u ∧ e = .returned (.tuple #[]) ∧ Chg w w' (Inner w B) := by
  rcases h with h | ⟨t, b, l, c, hB, hs, ht, hn, hcc⟩
  · refine (free0 w s u h).mono ?_
    rintro e u' w' ⟨rfl, rfl, rfl⟩
    exact ⟨rfl, rfl, Chg.refl _ _⟩
  · have hc := cell1 hs
    have hc2 := cell1 ht
    have hf2 := frozen1 ht 0
    have hi : Calls Tryz.prog 185 #[.pointer (some ⟨t, 0, none⟩)] w fun e w' => e = .returned (.tuple #[]) ∧ w' = w.setCell ⟨t, 0, none⟩ (.slice (some ⟨b, 0, none⟩) 0 c) := by
      clear hs ht
      go_enter Tryz.func185, Tryz.ntmps185
      go_wp2
      exact bodyPost_end (results_none rfl _ _ _) rfl ⟨rfl, rfl⟩
    have hch : Chg w (w.setCell ⟨t, 0, none⟩ (.slice (some ⟨b, 0, none⟩) 0 c)) (Inner w B) := (chg_set w t 0 _).mono (by rintro k _ rfl; exact ⟨hB, _, ht⟩)
    clear hc2 hf2 hs ht
    go_enter_d Tryz.func156, Tryz.ntmps156
    go_wp2_with fail
    refine hi.mono ?_
    rintro e w' ⟨rfl, rfl⟩
    go_wp2
    exact bodyPost_end (results_none rfl _ _ _) rfl ⟨rfl, hch⟩
end Go.Proofs.YtonepclpllelfaaGreatDoor


namespace Go.Proofs.YtonepclpllelfaaGreatDoor

theorem val_top {L : List Nat} {k : Nat} (hl : L.length = k + 1) : val L = val (L.take k) + WB ^ k * nth L k := by
  have h := take_nth (l := L) (k := k) (by omega)
  rw [List.take_of_length_le (by omega)] at h
  have h2 := val_append (L.take k) [nth L k]
  rw [← h, List.length_take, Nat.min_eq_left (by omega)] at h2
  rw [h2]; simp [val]
theorem val_top_lt {L : List Nat} {k : Nat} (hw : Wd L) (hl : L.length = k + 1) : val (L.take k) < WB ^ k := by
  have h := val_lt (hw.take k)
  rw [List.length_take, Nat.min_eq_left (by omega)] at h
  exact h
theorem two_sh {sh : Nat} (h : sh < 64) : WB = 2 ^ sh * 2 ^ (64 - sh) := by
  rw [← Nat.pow_add, show sh + (64 - sh) = 64 by omega, WB_eq]
theorem top_shift {VL R : List Nat} {k sh c : Nat} (hs : sh < 64) (hw : Wd VL) (hl : VL.length = k + 1) (hR : R.length = k + 1) (hwR : Wd R) (hv : val R + WB ^ (k + 1) * c = val VL * 2 ^ sh)
    (hn : nth VL k * 2 ^ sh < WB ∧ WB ≤ 2 * (nth VL k * 2 ^ sh)) : val R = val VL * 2 ^ sh ∧ nth VL k * 2 ^ sh ≤ nth R k := by
  have h1 := val_top hl
  have h2 := val_top_lt hw hl
  have h3 := val_top hR
  have h4 := val_top_lt hwR hR
  have hp : 0 < 2 ^ sh := Nat.pow_pos (by omega)
  have hW := two_sh hs
  have h5 : (nth VL k + 1) * 2 ^ sh ≤ WB := by
    rw [hW, Nat.mul_comm]
    refine Nat.mul_le_mul_left _ ?_
    have := hn.1
    rw [hW, Nat.mul_comm] at this
    exact Nat.lt_of_mul_lt_mul_left this
  have h6 : val VL * 2 ^ sh < WB ^ (k + 1) := by
    have h7 : val VL < WB ^ k * (nth VL k + 1) := by rw [h1, Nat.mul_add, Nat.mul_one]; omega
    have h8 : val VL * 2 ^ sh < WB ^ k * (nth VL k + 1) * 2 ^ sh := Nat.mul_lt_mul_of_pos_right h7 hp
    have h9 : WB ^ k * (nth VL k + 1) * 2 ^ sh ≤ WB ^ k * WB := by rw [Nat.mul_assoc]; exact Nat.mul_le_mul_left _ h5
    rw [Nat.pow_succ]; omega
  have hc : c = 0 := by
    rcases Nat.eq_zero_or_pos c with h | h
    · exact h
    · exfalso
      have : WB ^ (k + 1) * 1 ≤ WB ^ (k + 1) * c := Nat.mul_le_mul_left _ h
      omega
  subst hc
  have hv' : val R = val VL * 2 ^ sh := by rw [← hv]; simp
  refine ⟨hv', ?_⟩
  have h10 : WB ^ k * (nth VL k * 2 ^ sh) ≤ val R := by
    rw [hv', h1, Nat.add_mul, Nat.mul_assoc]; omega
  have h11 : val R < WB ^ k * (nth R k + 1) := by rw [h3, Nat.mul_add, Nat.mul_one]; omega
  have h12 := Nat.lt_of_mul_lt_mul_left (Nat.lt_of_le_of_lt h10 h11)
  omega
/-- What is shifted out is below the shift. -/
theorem carry_lt {UL R : List Nat} {m sh c : Nat} (hw : Wd UL) (hl : UL.length = m) (hv : val R + WB ^ m * c = val UL * 2 ^ sh) : c < 2 ^ sh := by
  have h1 := val_lt hw
  rw [hl] at h1
  have hp : 0 < 2 ^ sh := Nat.pow_pos (by omega)
  have h2 : val UL * 2 ^ sh < WB ^ m * 2 ^ sh := Nat.mul_lt_mul_of_pos_right h1 hp
  exact Nat.lt_of_mul_lt_mul_left (a := WB ^ m) (by omega)

open Go Go.RowKit
/-- A stack stays where the words of its row alone are turned. -/
theorem StkS.upd {w w' : World} {s : Nat} {st : Option (Nat × Nat × Nat)} {S : Nat → Prop} (h : StkS w s st) (hc : Chg w w' S) (hs : ¬ S s) (ht : ∀ t b l, st = some (t, b, l) → ¬ S t) (hb : ∀ t b l C, st = some (t, b, l) → Arr w b C → ∃ C', Arr w' b C' ∧ C'.length = C.length) : StkS w' s st := by
  match st, h with
  | none, h => exact hc.heap h hs
  | some (t, b, l), ⟨c, C, h1⟩ =>
    obtain ⟨C', h2, h3⟩ := hb t b l C rfl h1.hb
    exact ⟨c, C', hc.heap h1.hs hs, hc.heap h1.ht (ht t b l rfl), h2, h1.hl, h3.trans h1.hC, h1.hc⟩
theorem Arr.uniq {w : World} {b : Nat} {C D : List Nat} (h : Arr w b C) (h' : Arr w b D) : C = D := by
  have h1 := h.heap
  rw [h'.heap] at h1
  have h2 : (D.map uw) = (C.map uw) := by simpa using h1
  have inj : ∀ {x y : Nat}, uw x = uw y → x = y := by intro x y e; unfold uw at e; simp at e; omega
  exact (List.map_inj_right (fun _ _ e => inj e)).1 h2.symm
end Go.Proofs.YtonepclpllelfaaGreatDoor
