/- Blocks of several cells, and decimals that are no finite number. Decimals with the coefficient of a new one: Set. Forms that are no number; conditions and their errors. The conditions by the thin package's numbers. impl.conditions. Contexts; what is told of a decimal that is no finite number; one that is made. -/
import Derived.Outline
import Derived.Laws.BitsAllLaws
import Derived.Deep.RegionHeld3
import Derived.Test.YtlnillnngckegaaGreatDoorM08
import Derived.Test.YtlnillnngckegaaGreatDoorM10
namespace Go.Proofs.YtlnillnngckegaaGreatDoor
open Go Go.RowKit

theorem cellB {w : World} {b i : Nat} {cs : Array Value} {T : TypeId} {v : Value} (h : w.heap[b]? = some (.cells cs T (0, 0))) (hi : cs[i]? = some v) : w.cell? ⟨b, i, none⟩ = some v := by
  unfold World.cell?; simp [h, hi]
theorem frozenB {w : World} {b : Nat} {cs : Array Value} {T : TypeId} (h : w.heap[b]? = some (.cells cs T (0, 0))) (i : Nat) : w.frozen? ⟨b, i, none⟩ = false := by
  unfold World.frozen?; rw [h]; simp
theorem setB {w : World} {b i : Nat} {cs : Array Value} {T : TypeId} {v : Value} (h : w.heap[b]? = some (.cells cs T (0, 0))) : (w.setCell ⟨b, i, none⟩ v).heap[b]? = some (.cells (cs.setIfInBounds i v) T (0, 0)) := by
  simp only [World.setCell, Array.getElem?_modify, if_true, h, Option.map_some]
  simp
theorem chg_setB (w : World) (b i : Nat) (v : Value) : Chg w (w.setCell ⟨b, i, none⟩ v) (fun k => k = b) :=
  ⟨rfl, rfl, rfl, by rw [World.size_setCell]; exact Nat.le_refl _, fun k _ hn => Below.heap_setCell _ _ _ _ hn⟩
theorem ltB {w : World} {b : Nat} {o : Obj} (h : w.heap[b]? = some o) : b < w.heap.size := by
  rcases Nat.lt_or_ge b w.heap.size with h' | h'
  · exact h'
  · rw [Array.getElem?_eq_none h'] at h; cases h
theorem Chg.heapB {w w' : World} {S : Nat → Prop} (h : Chg w w' S) {b : Nat} {o : Obj} (hb : w.heap[b]? = some o) (hn : ¬ S b) : w'.heap[b]? = some o := by
  rw [h.block b (ltB hb) hn]; exact hb
theorem allocB (w : World) (o : Obj) : (w.alloc o).heap[w.heap.size]? = some o := by
  show (w.heap.push _)[w.heap.size]? = _
  rw [Array.getElem?_push, if_pos rfl]
theorem allocB_old {w : World} {b : Nat} {o o' : Obj} (h : w.heap[b]? = some o) : (w.alloc o').heap[b]? = some o := by
  rw [Below.heap_alloc _ _ _ (ltB h)]; exact h

/-- A decimal with the coefficient of a new one: its form, its sign, its exponent. -/
def DecZ (w : World) (b : Nat) (form : Int) (neg : Bool) (exp : Int) : Prop :=
  w.heap[b]? = some (.cells #[.int .i8 form, .bool neg, .int .i32 exp, .bool false, .slice none 0 0, .bool false] 56 (0, 0))
theorem DecZ.chg {w w' : World} {S : Nat → Prop} {b : Nat} {f e : Int} {n : Bool} (h : DecZ w b f n e) (hc : Chg w w' S) (hn : ¬ S b) : DecZ w' b f n e := hc.heapB h hn
theorem DecZ.c0 {w : World} {b : Nat} {f e : Int} {n : Bool} (h : DecZ w b f n e) : w.cell? ⟨b, 0, none⟩ = some (.int .i8 f) := cellB h rfl
theorem DecZ.c1 {w : World} {b : Nat} {f e : Int} {n : Bool} (h : DecZ w b f n e) : w.cell? ⟨b, 1, none⟩ = some (.bool n) := cellB h rfl
theorem DecZ.c2 {w : World} {b : Nat} {f e : Int} {n : Bool} (h : DecZ w b f n e) : w.cell? ⟨b, 2, none⟩ = some (.int .i32 e) := cellB h rfl
theorem DecZ.c3 {w : World} {b : Nat} {f e : Int} {n : Bool} (h : DecZ w b f n e) : w.cell? ⟨b, 3, none⟩ = some (.bool false) := cellB h rfl
theorem DecZ.c4 {w : World} {b : Nat} {f e : Int} {n : Bool} (h : DecZ w b f n e) : w.cell? ⟨b, 4, none⟩ = some (.slice none 0 0) := cellB h rfl
theorem DecZ.c5 {w : World} {b : Nat} {f e : Int} {n : Bool} (h : DecZ w b f n e) : w.cell? ⟨b, 5, none⟩ = some (.bool false) := cellB h rfl
theorem DecZ.fz {w : World} {b : Nat} {f e : Int} {n : Bool} (h : DecZ w b f n e) (i : Nat) : w.frozen? ⟨b, i, none⟩ = false := frozenB h i
end Go.Proofs.YtlnillnngckegaaGreatDoor

namespace Go.Proofs.YtlnillnngckegaaGreatDoor
open Go Go.RowKit

theorem infoInt : ∃ j, Tryz.prog.info? 52 = some j ∧ j.size ≠ 0 := by
  have h : (Tryz.prog.info? 52).map (fun i => i.size) = some 2 := by kernel_rfl
  cases hi : Tryz.prog.info? 52 with
  | none => rw [hi] at h; cases h
  | some i => rw [hi] at h; simp at h; exact ⟨i, rfl, by omega⟩
theorem infoDec : ∃ j, Tryz.prog.info? 56 = some j ∧ j.size ≠ 0 := by
  have h : (Tryz.prog.info? 56).map (fun i => i.size) = some 6 := by kernel_rfl
  cases hi : Tryz.prog.info? 56 with
  | none => rw [hi] at h; cases h
  | some i => rw [hi] at h; simp at h; exact ⟨i, rfl, by omega⟩
theorem neqInt {w : World} {a b oa ob : Nat} {ca cb : Array Value} {ta tb : TypeId} (hne : (⟨a, oa, none⟩ : Addr) ≠ ⟨b, ob, none⟩) (ha : w.heap[a]? = some (.cells ca ta (0, 0))) (hb : w.heap[b]? = some (.cells cb tb (0, 0))) :
    (binOp .neq 102 (.pointer (some ⟨a, oa, none⟩)) (.pointer (some ⟨b, ob, none⟩))).run Tryz.prog w = .ok (.bool true) w := by
  obtain ⟨j, hj, hs⟩ := infoInt
  exact run_neq_ptr_other Tryz.underlying102 hj hs hne ha hb
theorem eqlDec {w : World} {a b : Nat} {ca cb : Array Value} {ta tb : TypeId} (hne : a ≠ b) (ha : w.heap[a]? = some (.cells ca ta (0, 0))) (hb : w.heap[b]? = some (.cells cb tb (0, 0))) :
    (binOp .eql 46 (.pointer (some ⟨a, 0, none⟩)) (.pointer (some ⟨b, 0, none⟩))).run Tryz.prog w = .ok (.bool false) w := by
  obtain ⟨j, hj, hs⟩ := infoDec
  exact run_eql_ptr_other Tryz.underlying46 hj hs (fun e => hne (congrArg Addr.block e)) ha hb

set_option maxHeartbeats 400000 in
theorem set_nil (w : World) : Calls Tryz.prog 99 #[.slice none 0 0, .slice none 0 0] w fun e w' => e = .returned (.slice none 0 0) ∧ w = w' := by
  have hmk : Calls Tryz.prog 127 #[.slice none 0 0, .int .i64 0] w fun e w' => e = .returned (.slice none 0 0) ∧ w = w' := by
    go_enter Tryz.func127, Tryz.ntmps127
    go_wp2
    go_ret
    exact ⟨rfl, rfl⟩
  go_enter Tryz.func99, Tryz.ntmps99
  go_wp2_with fail
  refine hmk.mono ?_
  rintro e w' ⟨rfl, hw⟩
  obtain rfl := hw
  go_upto_region 2 with (fail)
  refine wp_region_lit ?_
  go_wp2_with (refine wpList_copy_nothing rfl (.tmp 9) (.tmp 10) 50 50 rfl 104 Tryz.underlying50 infoW _ _ _ _ _ _ rfl rfl (by simp) ?_)
  go_ret
  exact ⟨rfl, rfl⟩

set_option maxHeartbeats 400000 in
theorem intSetZ (w : World) (d x : Nat) (f ex f' ex' : Int) (n n' : Bool) (hd : DecZ w d f n ex) (hx : DecZ w x f' n' ex') (hne : d ≠ x) :
    Calls Tryz.prog 68 #[.pointer (some ⟨d, 3, none⟩), .pointer (some ⟨x, 3, none⟩)] w fun e w' => e = .returned (.pointer (some ⟨d, 3, none⟩)) ∧ DecZ w' d f n ex ∧ Chg w w' (fun k => k = d) := by
  have hq := neqInt (oa := 3) (ob := 3) (fun e => hne (congrArg Addr.block e)) hd hx
  have d3 := hd.c3
  have d4 := hd.c4
  have df3 := hd.fz 3
  have df4 := hd.fz 4
  have x3 := hx.c3
  have x4 := hx.c4
  go_enter Tryz.func68, Tryz.ntmps68
  go_wp2
  go_region_with ((go_at_call 99; refine (set_nil _).mono ?_; rintro e w' ⟨rfl, rfl⟩))
  all_goals
    go_wp2
    go_ret
    refine ⟨rfl, setB (i := 3) (v := .bool false) (setB (i := 4) (v := .slice none 0 0) hd), ?_⟩
    exact ((chg_setB w d 4 _).trans ((chg_setB _ d 3 _).mono (fun _ _ h => .inl h))).drew

set_option maxHeartbeats 400000 in
theorem bigSetZ (w : World) (d x : Nat) (f ex f' ex' : Int) (n n' : Bool) (hd : DecZ w d f n ex) (hx : DecZ w x f' n' ex') (hne : d ≠ x) :
    Calls Tryz.prog 47 #[.pointer (some ⟨d, 3, none⟩), .pointer (some ⟨x, 3, none⟩)] w fun e w' => e = .returned (.pointer (some ⟨d, 3, none⟩)) ∧ DecZ w' d f n ex ∧ Chg w w' (fun k => k = d) := by
  have d5 := hd.c5
  have df5 := hd.fz 5
  have x5 := hx.c5
  have hch : Chg w (w.setCell ⟨d, 5, none⟩ (.bool false)) (fun k => k = d) := chg_setB w d 5 _
  have hd' : DecZ (w.setCell ⟨d, 5, none⟩ (.bool false)) d f n ex := setB (i := 5) (v := .bool false) hd
  have hx' : DecZ (w.setCell ⟨d, 5, none⟩ (.bool false)) x f' n' ex' := hx.chg hch (fun e => hne e.symm)
  have key := fun w'' h1 h2 => intSetZ w'' d x f ex f' ex' n n' h1 h2 hne
  replace hch := Lib.hid hch
  replace key := Lib.hid key
  replace hd' := Lib.hid hd'
  replace hx' := Lib.hid hx'
  go_enter Tryz.func47, Tryz.ntmps47
  go_wp2_with fail
  generalize w.setCell ⟨d, 5, none⟩ (.bool false) = w1 at hd' hx' hch ⊢
  go_region_with ((go_at_call 68; refine (key.out _ (by exact hd'.out) (by exact hx'.out)).mono ?_; rintro e w2 ⟨rfl, hd2, hc2⟩))
  all_goals
    go_wp2
    go_ret
    exact ⟨rfl, hd2, hch.out.drew.trans (hc2.mono (fun _ _ h => .inl h))⟩

/-- d is made x: form, sign, exponent. -/
theorem setSlowZ (w : World) (d x : Nat) (f ex f' ex' : Int) (n n' : Bool) (hd : DecZ w d f n ex) (hx : DecZ w x f' n' ex') (hne : d ≠ x) :
    Calls Tryz.prog 80 #[.pointer (some ⟨d, 0, none⟩), .pointer (some ⟨x, 0, none⟩)] w fun e w' => e = .returned (.pointer (some ⟨d, 0, none⟩)) ∧ DecZ w' d f' n' ex' ∧ Chg w w' (fun k => k = d) := by
  have d0 := hd.c0
  have df0 := hd.fz 0
  have d1 := hd.c1
  have df1 := hd.fz 1
  have d2 := hd.c2
  have df2 := hd.fz 2
  have x0 := hx.c0
  have x1 := hx.c1
  have x2 := hx.c2
  have h1 := setB (i := 0) (v := .int .i8 f') hd
  have h2 := setB (i := 1) (v := .bool n') h1
  have h3 : DecZ _ d f' n' ex' := setB (i := 2) (v := .int .i32 ex') h2
  have hch : Chg w _ (fun k => k = d) := ((chg_setB w d 0 (.int .i8 f')).trans ((chg_setB _ d 1 (.bool n')).mono (fun _ _ h => .inl h))).trans ((chg_setB _ d 2 (.int .i32 ex')).mono (fun _ _ h => .inl h))
  have hx3 : DecZ _ x f' n' ex' := hx.chg hch (fun e => hne e.symm)
  have key := fun w'' h1 h2 => bigSetZ w'' d x f' ex' f' ex' n' n' h1 h2 hne
  clear h1 h2
  replace hch := Lib.hid hch
  replace key := Lib.hid key
  replace h3 := Lib.hid h3
  replace hx3 := Lib.hid hx3
  go_enter Tryz.func80, Tryz.ntmps80
  go_wp2_with fail
  generalize ((w.setCell ⟨d, 0, none⟩ (.int .i8 f')).setCell ⟨d, 1, none⟩ (.bool n')).setCell ⟨d, 2, none⟩ (.int .i32 ex') = w1 at h3 hx3 hch ⊢
  go_region_with ((go_at_call 47; refine (key.out _ (by exact h3.out) (by exact hx3.out)).mono ?_; rintro e w2 ⟨rfl, hd2, hc2⟩))
  all_goals
    go_wp2
    go_ret
    exact ⟨rfl, hd2, hch.out.drew.trans (hc2.mono (fun _ _ h => .inl h))⟩

theorem decSetZ (w : World) (d x : Nat) (f ex f' ex' : Int) (n n' : Bool) (hd : DecZ w d f n ex) (hx : DecZ w x f' n' ex') (hne : d ≠ x) :
    Calls Tryz.prog 57 #[.pointer (some ⟨d, 0, none⟩), .pointer (some ⟨x, 0, none⟩)] w fun e w' => e = .returned (.pointer (some ⟨d, 0, none⟩)) ∧ DecZ w' d f' n' ex' ∧ Chg w w' (fun k => k = d) := by
  have hq := eqlDec hne hd hx
  have key := setSlowZ w d x f ex f' ex' n n' hd hx hne
  go_enter Tryz.func57, Tryz.ntmps57
  go_wp2_with fail
  refine key.mono ?_
  rintro e w' ⟨rfl, h1, h2⟩
  go_wp2
  go_ret
  exact ⟨rfl, h1, h2⟩

theorem decNaN_c (w : World) : Calls Tryz.prog 58 #[] w fun e w' => e = .returned (.pointer (some ⟨w.heap.size, 0, none⟩)) ∧ DecZ w' w.heap.size 3 false 0 ∧ Chg w w' (fun _ => False) := by
  go_enter Tryz.func58, Tryz.ntmps58
  go_wp2
  go_ret
  exact ⟨rfl, allocB _ _, (Chg.refl w _).alloc _⟩
theorem decInf_c (w : World) : Calls Tryz.prog 59 #[] w fun e w' => e = .returned (.pointer (some ⟨w.heap.size, 0, none⟩)) ∧ DecZ w' w.heap.size 1 false 0 ∧ Chg w w' (fun _ => False) := by
  go_enter Tryz.func59, Tryz.ntmps59
  go_wp2
  go_ret
  exact ⟨rfl, allocB _ _, (Chg.refl w _).alloc _⟩
end Go.Proofs.YtlnillnngckegaaGreatDoor

namespace Go.Proofs.YtlnillnngckegaaGreatDoor
open Go Go.RowKit

theorem shouldNaN_c (w : World) (c : Value) (x y : Nat) (fx fy : Int) (hx : w.cell? ⟨x, 0, none⟩ = some (.int .i8 fx)) (hy : w.cell? ⟨y, 0, none⟩ = some (.int .i8 fy)) (bx : 0 ≤ fx ∧ fx ≤ 3) (by_ : 0 ≤ fy ∧ fy ≤ 3) :
    Calls Tryz.prog 52 #[c, .pointer (some ⟨x, 0, none⟩), .pointer (some ⟨y, 0, none⟩)] w fun e w' => e = .returned (.bool (decide (2 ≤ fx ∨ 2 ≤ fy))) ∧ w = w' := by
  have h1 : fx = 0 ∨ fx = 1 ∨ fx = 2 ∨ fx = 3 := by omega
  have h2 : fy = 0 ∨ fy = 1 ∨ fy = 2 ∨ fy = 3 := by omega
  rcases h1 with rfl | rfl | rfl | rfl <;> rcases h2 with rfl | rfl | rfl | rfl <;>
  · clear bx by_
    go_enter Tryz.func52, Tryz.ntmps52
    go_wp2
    go_ret
    exact ⟨rfl, rfl⟩

theorem shouldNaN1_c (w : World) (c : Value) (x : Nat) (fx : Int) (hx : w.cell? ⟨x, 0, none⟩ = some (.int .i8 fx)) (bx : 0 ≤ fx ∧ fx ≤ 3) :
    Calls Tryz.prog 52 #[c, .pointer (some ⟨x, 0, none⟩), .pointer none] w fun e w' => e = .returned (.bool (decide (2 ≤ fx))) ∧ w = w' := by
  have h1 : fx = 0 ∨ fx = 1 ∨ fx = 2 ∨ fx = 3 := by omega
  rcases h1 with rfl | rfl | rfl | rfl <;>
  · clear bx
    go_enter Tryz.func52, Tryz.ntmps52
    go_wp2
    go_ret
    exact ⟨rfl, rfl⟩

/-- Bits of a condition. -/
theorem and3_all : (List.range 4096).all (fun r => decide (bits .and .u32 (r : Int) 3 = ((r % 4 : Nat) : Int)) && decide (bits .and .u32 (r : Int) 0 = 0)) = true := by kernel_rfl
theorem and3 (r : Nat) (h : r < 4096) : bits .and .u32 (r : Int) 3 = ((r % 4 : Nat) : Int) ∧ bits .and .u32 (r : Int) 0 = 0 := by
  have := List.all_eq_true.1 and3_all r (List.mem_range.2 h)
  simp only [Bool.and_eq_true, decide_eq_true_eq] at this
  exact this

/-- Without traps no condition is an error, but those of the system. -/
theorem GoError_c (w : World) (r : Nat) (h : r < 4096) (h4 : r % 4 = 0) :
    Calls Tryz.prog 66 #[.int .u32 (r : Int), .int .u32 0] w fun e w' => e = .returned (.tuple #[.int .u32 (r : Int), .nilIface]) ∧ w = w' := by
  obtain ⟨e1, e2⟩ := and3 r h
  rw [h4] at e1
  have e1' : bits .and .u32 (r : Int) 3 = 0 := e1
  clear e1
  go_enter Tryz.func66, Tryz.ntmps66
  go_wp2
  go_ret2
  exact ⟨rfl, rfl⟩

/-- A context: its block. -/
def Ctx (w : World) (c : Nat) (prec max min : Int) (mode : ByteArray) : Prop :=
  w.heap[c]? = some (.cells #[.int .u32 prec, .int .i32 max, .int .i32 min, .int .u32 0, .string mode] 81 (0, 0))
theorem Ctx.chg {w w' : World} {S : Nat → Prop} {c : Nat} {p a b : Int} {m : ByteArray} (h : Ctx w c p a b m) (hc : Chg w w' S) (hn : ¬ S c) : Ctx w' c p a b m := hc.heapB h hn
theorem Ctx.c0 {w : World} {c : Nat} {p a b : Int} {m : ByteArray} (h : Ctx w c p a b m) : w.cell? ⟨c, 0, none⟩ = some (.int .u32 p) := cellB h rfl
theorem Ctx.c1 {w : World} {c : Nat} {p a b : Int} {m : ByteArray} (h : Ctx w c p a b m) : w.cell? ⟨c, 1, none⟩ = some (.int .i32 a) := cellB h rfl
theorem Ctx.c2 {w : World} {c : Nat} {p a b : Int} {m : ByteArray} (h : Ctx w c p a b m) : w.cell? ⟨c, 2, none⟩ = some (.int .i32 b) := cellB h rfl
theorem Ctx.c3 {w : World} {c : Nat} {p a b : Int} {m : ByteArray} (h : Ctx w c p a b m) : w.cell? ⟨c, 3, none⟩ = some (.int .u32 0) := cellB h rfl
theorem Ctx.c4 {w : World} {c : Nat} {p a b : Int} {m : ByteArray} (h : Ctx w c p a b m) : w.cell? ⟨c, 4, none⟩ = some (.string m) := cellB h rfl

theorem goError_c (w : World) (c r : Nat) (p a b : Int) (m : ByteArray) (hc : Ctx w c p a b m) (h : r < 4096) (h4 : r % 4 = 0) :
    Calls Tryz.prog 45 #[.pointer (some ⟨c, 0, none⟩), .int .u32 (r : Int)] w fun e w' => e = .returned (.tuple #[.int .u32 (r : Int), .nilIface]) ∧ w = w' := by
  have c3 := hc.c3
  by_cases h0 : r = 0
  · subst h0
    go_enter Tryz.func45, Tryz.ntmps45
    go_wp2
    go_ret2
    exact ⟨rfl, rfl⟩
  · have e0 : ((r : Int) == 0) = false := by simp; omega
    have hg := GoError_c w r h h4
    clear h4 h0
    go_enter Tryz.func45, Tryz.ntmps45
    go_wp2_with fail
    refine hg.mono ?_
    rintro e w' ⟨rfl, hw⟩
    obtain rfl := hw
    go_wp2
    go_ret2
    exact ⟨rfl, rfl⟩

end Go.Proofs.YtlnillnngckegaaGreatDoor

namespace Go.Proofs.YtlnillnngckegaaGreatDoor
open Go Go.RowKit

/-- A condition by the thin package's numbers. -/
def condN (r : Nat) : Nat := r / 4 + r % 4 * 1024
/-- What the first k of them give. -/
def condP (k r : Nat) : Nat := if k ≤ 10 then r / 4 % 2 ^ k else r / 4 % 1024 + (if k = 11 then r % 2 else r % 4) * 1024
def condC (k : Nat) : Nat := if k < 10 then 4 * 2 ^ k else 2 ^ (k - 10)
theorem cond_all : (List.range 12).all (fun k => (List.range 4096).all fun r =>
    decide ((if bits .and .u32 (r : Int) (condC k : Int) != 0 then bits .or .i64 (condP k r : Int) ((2 ^ k : Nat) : Int) else (condP k r : Int)) = (condP (k + 1) r : Int))) = true := by kernel_rfl
theorem cond_step (k r : Nat) (hk : k < 12) (hr : r < 4096) :
    (if bits .and .u32 (r : Int) (condC k : Int) != 0 then bits .or .i64 (condP k r : Int) ((2 ^ k : Nat) : Int) else (condP k r : Int)) = (condP (k + 1) r : Int) := by
  have := List.all_eq_true.1 (List.all_eq_true.1 cond_all k (List.mem_range.2 hk)) r (List.mem_range.2 hr)
  exact of_decide_eq_true this

theorem index_cond (k : Nat) (hk : k < 12) (w : World) : (Instr.index 88 (.agg #[.int .u32 4, .int .u32 8, .int .u32 16, .int .u32 32, .int .u32 64, .int .u32 128, .int .u32 256, .int .u32 512, .int .u32 1024, .int .u32 2048, .int .u32 1, .int .u32 2]) (.int .i64 (k : Int))).run Tryz.prog w = .ok (.int .u32 (condC k : Int)) w := by
  have h : k = 0 ∨ k = 1 ∨ k = 2 ∨ k = 3 ∨ k = 4 ∨ k = 5 ∨ k = 6 ∨ k = 7 ∨ k = 8 ∨ k = 9 ∨ k = 10 ∨ k = 11 := by omega
  rcases h with rfl | rfl | rfl | rfl | rfl | rfl | rfl | rfl | rfl | rfl | rfl | rfl
  all_goals (show _ = _; kernel_rfl)
end Go.Proofs.YtlnillnngckegaaGreatDoor

namespace Go.Proofs.YtlnillnngckegaaGreatDoor
open Go Go.RowKit

theorem wrap_pow (k : Nat) (h : k < 12) : wrap64 (2 ^ k) = ((2 ^ k : Nat) : Int) := by
  have h : k = 0 ∨ k = 1 ∨ k = 2 ∨ k = 3 ∨ k = 4 ∨ k = 5 ∨ k = 6 ∨ k = 7 ∨ k = 8 ∨ k = 9 ∨ k = 10 ∨ k = 11 := by omega
  rcases h with rfl | rfl | rfl | rfl | rfl | rfl | rfl | rfl | rfl | rfl | rfl | rfl <;> (show _ = _; kernel_rfl)

set_option maxHeartbeats 1000000 in
theorem conditions_c (w : World) (r : Nat) (hr : r < 4096) :
    Calls Tryz.prog 28 #[.int .u32 (r : Int)] w fun e w' => e = .returned (.int .i64 (condN r : Int)) ∧ w = w' := by
  go_enter Tryz.func28, Tryz.ntmps28
  go_wp2
  go_loop [3, 7] (fun out i => ∃ k : Nat, k ≤ 12 ∧ i = .int .i64 k ∧ out = .int .i64 (condP k r : Int)) (fun _ i => 12 - (intOf i).toNat)
  case atStart => exact ⟨0, Nat.zero_le _, rfl, by unfold condP; simp⟩
  case round =>
    obtain ⟨k, hk, rfl, rfl⟩ := hrel
    by_cases hlt : k < 12
    · have ix := fun w => index_cond k hlt w
      have st := cond_step k r hlt hr
      replace st := Lib.hid st
      cases hb : (bits .and .u32 (r : Int) (condC k : Int) != 0)
      · go_wp2
        have st := st.out
        rw [hb, if_neg (by decide)] at st
        exact ⟨⟨k + 1, by omega, by go_num, by rw [st]⟩, by simp [intOf]; omega⟩
      · go_wp2
        have st := st.out
        rw [hb, if_pos rfl] at st
        rw [wrap_pow k hlt, st]
        exact ⟨⟨k + 1, by omega, by go_num, rfl⟩, by simp [intOf]; omega⟩
    · obtain rfl : k = 12 := by omega
      go_wp2
      go_ret
      have hfin : condP 12 r = condN r := by unfold condP condN; simp; omega
      exact ⟨(by show Ending.returned (.int .i64 (condP 12 r : Int)) = _; rw [hfin]), rfl⟩
end Go.Proofs.YtlnillnngckegaaGreatDoor

namespace Go.Proofs.YtlnillnngckegaaGreatDoor
open Go Go.RowKit

/-- How a number of a mode rounds. -/
def modeS (m : Nat) : ByteArray := match m with
  | 0 => "down".toByteArray
  | 2 => "half_even".toByteArray
  | 3 => "ceiling".toByteArray
  | 4 => "floor".toByteArray
  | 5 => "half_down".toByteArray
  | 6 => "up".toByteArray
  | 7 => "05up".toByteArray
  | _ => "half_up".toByteArray

theorem rounder_c (w : World) (m : Nat) (hm : m < 8) : Calls Tryz.prog 44 #[.int .i64 (m : Int)] w fun e w' => e = .returned (.string (modeS m)) ∧ w = w' := by
  have h : m = 0 ∨ m = 1 ∨ m = 2 ∨ m = 3 ∨ m = 4 ∨ m = 5 ∨ m = 6 ∨ m = 7 := by omega
  rcases h with rfl | rfl | rfl | rfl | rfl | rfl | rfl | rfl <;>
  · go_enter Tryz.func44, Tryz.ntmps44
    go_wp2
    go_ret
    exact ⟨by kernel_rfl, rfl⟩

/-- A context out of plain data: a precision that fits, exponents that fit. -/
theorem context_c (w : World) (p a b : Int) (m : Nat) (hm : m < 8) (hp : 0 ≤ p ∧ p ≤ 4294967295) (ha : -2147483648 ≤ a ∧ a ≤ 2147483647) (hb : -2147483648 ≤ b ∧ b ≤ 2147483647) :
    Calls Tryz.prog 24 #[.agg #[.int .u64 p, .int .i64 a, .int .i64 b, .int .i64 (m : Int)]] w fun e w' => ∃ c, e = .returned (.pointer (some ⟨c, 0, none⟩)) ∧ w.heap.size ≤ c ∧ Ctx w' c p a b (modeS m) ∧ Chg w w' (fun _ => False) := by
  have hr := fun w => rounder_c w m hm
  obtain ⟨hp1, hp2⟩ := hp
  obtain ⟨ha1, ha2⟩ := ha
  obtain ⟨hb1, hb2⟩ := hb
  go_enter Tryz.func24, Tryz.ntmps24
  go_wp2
  go_region_held3 (fun w' => w'.cell? ⟨w.heap.size, 0, none⟩ = some (.int .u64 p) ∧ w'.cell? ⟨w.heap.size, 1, none⟩ = some (.int .i64 a) ∧ w'.cell? ⟨w.heap.size, 2, none⟩ = some (.int .i64 b) ∧ w'.cell? ⟨w.heap.size, 3, none⟩ = some (.int .i64 (m : Int))) (go_keep) (first
    | (go_at_call 44; refine (hr _).mono ?_; rintro e w' ⟨rfl, hw⟩; obtain rfl := hw))
  go_wp2
  go_ret
  rw [IntWalk.u32_in _ (by omega), IntWalk.i32_in _ (by omega), IntWalk.i32_in _ (by omega)]
  refine ⟨w.heap.size + 1, rfl, by omega, ?_, (((Chg.refl w _).alloc _).alloc _).drew⟩
  have h := allocB (w.alloc (.cells #[.int .u64 p, .int .i64 a, .int .i64 b, .int .i64 (m : Int)] 34 (0, 0))) (.cells #[.int .u32 p, .int .i32 a, .int .i32 b, .int .u32 0, .string (modeS m)] 81 (0, 0))
  rw [World.size_alloc] at h
  exact h

/-- A special form is told by its form and its sign. -/
theorem toldZ_c (w : World) (d : Nat) (f ex : Int) (n : Bool) (hd : DecZ w d f n ex) (hf : f = 1 ∨ f = 2 ∨ f = 3) :
    Calls Tryz.prog 27 #[.pointer (some ⟨d, 0, none⟩)] w fun e w' => e = .returned (.agg #[.int .i64 f, .bool n, .slice none 0 0, .int .i64 0]) ∧ Chg w w' (fun _ => False) := by
  have d0 := hd.c0
  have d1 := hd.c1
  have hlt := ltB hd
  rcases hf with rfl | rfl | rfl
  · go_enter Tryz.func27, Tryz.ntmps27
    go_wp2
    exact bodyPost_ret (v := .agg #[.int .i64 1, .bool n, .slice none 0 0, .int .i64 0]) (by simp [results, Tryz.results27, go_sem]) rfl ⟨rfl, ((Chg.refl w _).alloc _).alloc _⟩
  · go_enter Tryz.func27, Tryz.ntmps27
    go_wp2
    exact bodyPost_ret (v := .agg #[.int .i64 2, .bool n, .slice none 0 0, .int .i64 0]) (by simp [results, Tryz.results27, go_sem]) rfl ⟨rfl, ((Chg.refl w _).alloc _).alloc _⟩
  · go_enter Tryz.func27, Tryz.ntmps27
    go_wp2
    exact bodyPost_ret (v := .agg #[.int .i64 3, .bool n, .slice none 0 0, .int .i64 0]) (by simp [results, Tryz.results27, go_sem]) rfl ⟨rfl, ((Chg.refl w _).alloc _).alloc _⟩

/-- A special form is made. -/
theorem madeZ_c (w : World) (f : Int) (n : Bool) (hf : f = 1 ∨ f = 2 ∨ f = 3) (A : Option Addr) (l c : Nat) (ex : Int) :
    Calls Tryz.prog 26 #[.agg #[.int .i64 f, .bool n, .slice A l c, .int .i64 ex]] w fun e w' => ∃ d, e = .returned (.pointer (some ⟨d, 0, none⟩)) ∧ w.heap.size ≤ d ∧ DecZ w' d f n 0 ∧ Chg w w' (fun _ => False) := by
  have fin : ∀ o o', o' = .cells #[.int .i8 f, .bool n, .int .i32 0, .bool false, .slice none 0 0, .bool false] 56 (0, 0) → DecZ ((w.alloc o).alloc o') (w.heap.size + 1) f n 0 := by
    rintro o o' rfl
    have h := allocB (w.alloc o) (.cells #[.int .i8 f, .bool n, .int .i32 0, .bool false, .slice none 0 0, .bool false] 56 (0, 0))
    rw [World.size_alloc] at h
    exact h
  rcases hf with rfl | rfl | rfl <;>
  · replace fin := Lib.hid fin
    go_enter Tryz.func26, Tryz.ntmps26
    go_wp2
    go_ret
    exact ⟨w.heap.size + 1, rfl, by omega, fin.out _ _ rfl, ((Chg.refl w _).alloc _).alloc _⟩

/-- The signaling form is a condition. -/
def nanR (f : Int) : Nat := if f = 2 then 1024 else 0
/-- The signaling form, or the quiet one, among the operands: the first one. -/
theorem setNaNx_c (w : World) (c d x y : Nat) (p a b : Int) (m : ByteArray) (fd fx fy ed ex : Int) (nd nx : Bool) (hc : Ctx w c p a b m) (hd : DecZ w d fd nd ed) (hx : DecZ w x fx nx ex) (hy : w.cell? ⟨y, 0, none⟩ = some (.int .i8 fy))
    (hfx : fx = 2 ∨ fx = 3) (hfy : fy = 0 ∨ fy = 1) (hdx : d ≠ x) (hdc : d ≠ c) :
    Calls Tryz.prog 53 #[.pointer (some ⟨c, 0, none⟩), .pointer (some ⟨d, 0, none⟩), .pointer (some ⟨x, 0, none⟩), .pointer (some ⟨y, 0, none⟩)] w fun e w' =>
      e = .returned (.tuple #[.int .u32 (nanR fx : Int), .nilIface]) ∧ DecZ w' d 3 nx ex ∧ Chg w w' (fun k => k = d) := by
  have x0 := hx.c0
  have key := decSetZ w d x fd ed fx ex nd nx hd hx hdx
  have ge0 := fun w h => goError_c w c 0 p a b m h (by decide) (by decide)
  have ge1 := fun w h => goError_c w c 1024 p a b m h (by decide) (by decide)
  replace ge0 := Lib.hid ge0
  replace ge1 := Lib.hid ge1
  rcases hfx with rfl | rfl
  · rcases hfy with rfl | rfl <;>
    · replace hc := Lib.hid hc
      go_enter Tryz.func53, Tryz.ntmps53
      go_wp2_with fail
      refine key.mono ?_
      rintro e w1 ⟨rfl, hd1, hch⟩
      have hx1 := (hx.chg hch (fun e => hdx e.symm)).c0
      have d0 := hd1.c0
      have df0 := hd1.fz 0
      have h2 : DecZ _ d 3 nx ex := setB (i := 0) (v := .int .i8 3) hd1
      have hch2 := hch.trans ((chg_setB w1 d 0 (.int .i8 3)).mono (fun _ _ h => .inl h))
      have hc2 := hc.out.chg hch2 (fun e => hdc e.symm)
      replace hc2 := Lib.hid hc2
      replace h2 := Lib.hid h2
      replace hch2 := Lib.hid hch2
      go_wp2_with fail
      refine (ge1.out _ hc2.out).mono ?_
      rintro e w2 ⟨rfl, hw⟩
      obtain rfl := hw
      go_wp2
      go_ret2
      exact ⟨by kernel_rfl, h2.out, hch2.out⟩
  · rcases hfy with rfl | rfl <;>
    · replace hc := Lib.hid hc
      go_enter Tryz.func53, Tryz.ntmps53
      go_wp2_with fail
      refine key.mono ?_
      rintro e w1 ⟨rfl, hd1, hch⟩
      have hx1 := (hx.chg hch (fun e => hdx e.symm)).c0
      have hc2 := hc.out.chg hch (fun e => hdc e.symm)
      replace hc2 := Lib.hid hc2
      go_wp2_with fail
      refine (ge0.out _ hc2.out).mono ?_
      rintro e w2 ⟨rfl, hw⟩
      obtain rfl := hw
      go_wp2
      go_ret2
      exact ⟨by kernel_rfl, hd1, hch⟩

/-- The second one. -/
theorem setNaNy_c (w : World) (c d x y : Nat) (p a b : Int) (m : ByteArray) (fd fx fy ed ey : Int) (nd ny : Bool) (hc : Ctx w c p a b m) (hd : DecZ w d fd nd ed) (hy : DecZ w y fy ny ey) (hx : w.cell? ⟨x, 0, none⟩ = some (.int .i8 fx))
    (hfy : fy = 2 ∨ fy = 3) (hfx : fx = 0 ∨ fx = 1) (hdy : d ≠ y) (hdc : d ≠ c) :
    Calls Tryz.prog 53 #[.pointer (some ⟨c, 0, none⟩), .pointer (some ⟨d, 0, none⟩), .pointer (some ⟨x, 0, none⟩), .pointer (some ⟨y, 0, none⟩)] w fun e w' =>
      e = .returned (.tuple #[.int .u32 (nanR fy : Int), .nilIface]) ∧ DecZ w' d 3 ny ey ∧ Chg w w' (fun k => k = d) := by
  have y0 := hy.c0
  have key := decSetZ w d y fd ed fy ey nd ny hd hy hdy
  have ge0 := fun w h => goError_c w c 0 p a b m h (by decide) (by decide)
  have ge1 := fun w h => goError_c w c 1024 p a b m h (by decide) (by decide)
  replace ge0 := Lib.hid ge0
  replace ge1 := Lib.hid ge1
  rcases hfy with rfl | rfl
  · rcases hfx with rfl | rfl <;>
    · replace hc := Lib.hid hc
      go_enter Tryz.func53, Tryz.ntmps53
      go_wp2_with fail
      refine key.mono ?_
      rintro e w1 ⟨rfl, hd1, hch⟩
      have hy1 := (hy.chg hch (fun e => hdy e.symm)).c0
      have d0 := hd1.c0
      have df0 := hd1.fz 0
      have h2 : DecZ _ d 3 ny ey := setB (i := 0) (v := .int .i8 3) hd1
      have hch2 := hch.trans ((chg_setB w1 d 0 (.int .i8 3)).mono (fun _ _ h => .inl h))
      have hc2 := hc.out.chg hch2 (fun e => hdc e.symm)
      replace hc2 := Lib.hid hc2
      replace h2 := Lib.hid h2
      replace hch2 := Lib.hid hch2
      go_wp2_with fail
      refine (ge1.out _ hc2.out).mono ?_
      rintro e w2 ⟨rfl, hw⟩
      obtain rfl := hw
      go_wp2
      go_ret2
      exact ⟨by kernel_rfl, h2.out, hch2.out⟩
  · rcases hfx with rfl | rfl <;>
    · replace hc := Lib.hid hc
      go_enter Tryz.func53, Tryz.ntmps53
      go_wp2_with fail
      refine key.mono ?_
      rintro e w1 ⟨rfl, hd1, hch⟩
      have hy1 := (hy.chg hch (fun e => hdy e.symm)).c0
      have hc2 := hc.out.chg hch (fun e => hdc e.symm)
      replace hc2 := Lib.hid hc2
      go_wp2_with fail
      refine (ge0.out _ hc2.out).mono ?_
      rintro e w2 ⟨rfl, hw⟩
      obtain rfl := hw
      go_wp2
      go_ret2
      exact ⟨by kernel_rfl, hd1, hch⟩
end Go.Proofs.YtlnillnngckegaaGreatDoor
