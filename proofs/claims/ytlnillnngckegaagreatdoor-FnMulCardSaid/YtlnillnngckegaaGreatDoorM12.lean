/- slices.Grow of words (both instances). The stack of places for words: getStack, save, restore, free, nat. Greater places from the stack. The stack's nat, both states. -/
import Derived.Defers
import Derived.Lib.AppendZerosOnto
import Derived.Test.YtlnillnngckegaaGreatDoorM11
namespace Go.Proofs.YtlnillnngckegaaGreatDoor
open Go Go.RowKit

theorem infoWall : ∃ i, Tryz.prog.info? 104 = some i ∧ i.zero = some (.int .u64 0) ∧ i.size = 1 ∧ i.bytes = 8 := by
  have h := makeZ
  cases hi : Tryz.prog.info? 104 with
  | none => rw [hi] at h; cases h
  | some i =>
    rw [hi] at h
    simp only [Option.map_some, Option.some.injEq, Prod.mk.injEq] at h
    exact ⟨i, rfl, h⟩
theorem zeroCellsW (n : Nat) : Builtin.zeroCells (Value.int .u64 0).cells n = ((List.replicate n 0).map uw).toArray := by
  unfold Builtin.zeroCells
  apply Array.ext
  · simp [Value.cells]
  · intro j h1 h2
    simp [Value.cells, uw, Nat.mod_one]
/-- k noughts are added to a row that has no room for them: a new row. -/
theorem run_growW (w : World) (T ty : TypeId) (hT : Tryz.prog.underlying T = some (.slice 104)) (h3 : Tryz.prog.underlying 3 = some (.int .i64)) (base : Option Addr) (l c k : Nat) (L : List Nat)
    (hold : (base = none ∧ l = 0 ∧ L = []) ∨ ∃ b, base = some ⟨b, 0, none⟩ ∧ Arr w b L) (hl : l = L.length) (hk : 0 < k) (hg : c < l + k) (hsm : l + k ≤ 1000000) :
    (Builtin.append_ #[T, 3] ty #[.slice base l c, .int .i64 (k : Int)]).run Tryz.prog w =
      .ok (.slice (some ⟨w.heap.size, 0, none⟩) (l + k) (grownCap w (l + k) c 104)) (w.drew.alloc (.cells ((L ++ List.replicate (grownCap w (l + k) c 104 - l) 0).map uw).toArray 104 (0, 0))) := by
  obtain ⟨i, hi, hz, hs, hb⟩ := infoWall
  have hfc : (Builtin.firstCells i.size l (.slice base l c)).run Tryz.prog w.drew = .ok (L.map uw).toArray w.drew := by
    rcases hold with ⟨rfl, rfl, rfl⟩ | ⟨b, rfl, ha⟩
    · exact run_firstCells_none _ _ _ _ _
    · rw [hs]
      refine run_firstCells_some w.drew 1 l ⟨b, 0, none⟩ l c (L.map uw) (by simp; omega) ?_
      intro j v hv
      rw [List.getElem?_map] at hv
      have hj : j < L.length := by
        rcases Nat.lt_or_ge j L.length with h | h
        · exact h
        · rw [List.getElem?_eq_none h] at hv; cases hv
      rw [get_nth hj] at hv
      simp only [Option.map_some, Option.some.injEq] at hv
      subst hv
      have e : (⟨b, 0, none⟩ : Addr).add j = ⟨b, 0 + j, none⟩ := by unfold Addr.add; split <;> simp_all
      rw [e, Nat.zero_add]
      exact ha.cellN hj
  have hge := grownCap_ge w (l + k) c 104
  have h := Lib.run_append_grow_zeros w T 3 ty 104 i _ .i64 .i64 hT h3 hi hz base l c (L.map uw) hfc k hk (by omega) hg (by omega) (by rw [hb]; omega) (by
    rw [hb]; exact growslice_fits hg (by omega))
  rw [h, zeroCellsW, zeroCellsW]
  have e2 : (L.map uw).toArray ++ ((List.replicate k 0).map uw).toArray ++ ((List.replicate (grownCap w (l + k) c 104 - (l + k)) 0).map uw).toArray = ((L ++ List.replicate (grownCap w (l + k) c 104 - l) 0).map uw).toArray := by
    generalize grownCap w (l + k) c 104 = G at hge ⊢
    have e : List.replicate (G - l) 0 = List.replicate k 0 ++ List.replicate (G - (l + k)) 0 := by
      have e0 : G - l = k + (G - (l + k)) := by omega
      rw [List.replicate_append_replicate, e0]
    rw [e]
    simp
  rw [e2]

theorem arr_alloc {w : World} {C : List Nat} {a : Array Value} (hC : Wd C) (h : a = (C.map uw).toArray) : Arr (w.alloc (.cells a 104 (0, 0))) w.heap.size C := by
  subst h
  refine ⟨?_, hC⟩
  show (w.heap.push _)[w.heap.size]? = _
  rw [Array.getElem?_push, if_pos rfl]

set_option maxHeartbeats 1000000 in
theorem grow287_c (w : World) (n : Nat) (hn0 : 0 < n) (hn : n ≤ 1000) :
    Calls Tryz.prog 186 #[.slice none 0 0, .int .i64 n] w fun e w' => ∃ G, n ≤ G ∧ e = .returned (.slice (some ⟨w.heap.size, 0, none⟩) 0 G) ∧ Chg w w' (fun _ => False) ∧ Arr w' w.heap.size (List.replicate G 0) ∧ w'.heap.size = w.heap.size + 1 := by
  have hr := fun ty => run_growW w 50 ty Tryz.underlying50 Tryz.underlying3 none 0 0 n [] (.inl ⟨rfl, rfl, rfl⟩) rfl hn0 (by omega) (by omega)
  have hG := grownCap_ge w (0 + n) 0 104
  obtain ⟨G, hGe⟩ : ∃ G, G = grownCap w (0 + n) 0 104 := ⟨_, rfl⟩
  have hG63 : G ≤ 9223372036854775807 := by
    have := grownCap_le_maxLen w (0 + n) 0 104 (by unfold maxLen; omega)
    rw [← hGe] at this
    unfold maxLen at this
    omega
  rw [← hGe] at hr hG
  simp only [Nat.zero_add, List.nil_append, Nat.sub_zero] at hr hG
  replace hGe := Lib.hid hGe
  have e1 : (0 : Int) < (n : Int) := by omega
  go_enter Tryz.func186, Tryz.ntmps186
  go_wp2_with (at_builtin; refine Lib.wpList_append_run _ rfl _ _ _ _ rfl _ _ rfl rfl _ _ (hr _) ?_)
  all_goals
    go_ret
    refine ⟨G, hG, rfl, ((Chg.refl w _).alloc _).drew, ?_, by simp⟩
    have := arr_alloc (w := w) (C := List.replicate G 0) (a := Array.replicate G (uw 0)) (Wd.zeros G) (by simp)
    exact ⟨this.heap, this.wd⟩

set_option maxHeartbeats 1000000 in
/-- slices.Grow where there is room. -/
theorem grow313_room (w : World) (b l c n : Nat) (hlc : l ≤ c) (hc : c ≤ 9223372036854775807) (hn : n ≤ 1000) (hr : l + n ≤ c) :
    Calls Tryz.prog 210 #[.slice (some ⟨b, 0, none⟩) l c, .int .i64 n] w fun e w' => e = .returned (.slice (some ⟨b, 0, none⟩) l c) ∧ w = w' := by
  have h2 : IntKind.i64.wrap ((c : Int) - (l : Int)) = (c : Int) - (l : Int) := IntWalk.i64_in _ (by omega)
  have h3 : IntKind.i64.wrap ((n : Int) - ((c : Int) - (l : Int))) = (n : Int) - ((c : Int) - (l : Int)) := IntWalk.i64_in _ (by omega)
  have h4 : ¬ (0 : Int) < ((n : Int) - ((c : Int) - (l : Int))) := by omega
  go_enter Tryz.func210, Tryz.ntmps210
  go_wp2
  go_ret
  exact ⟨rfl, rfl⟩
set_option maxHeartbeats 1000000 in
theorem grow313_nil (w : World) (n : Nat) (hn0 : 0 < n) (hn : n ≤ 1000) :
    Calls Tryz.prog 210 #[.slice none 0 0, .int .i64 n] w fun e w' => ∃ G, n ≤ G ∧ G ≤ 9223372036854775807 ∧ e = .returned (.slice (some ⟨w.heap.size, 0, none⟩) 0 G) ∧ Chg w w' (fun _ => False) ∧ Arr w' w.heap.size (List.replicate G 0) ∧ w'.heap.size = w.heap.size + 1 := by
  have hr := fun ty => run_growW w 49 ty Tryz.underlying49 Tryz.underlying3 none 0 0 n [] (.inl ⟨rfl, rfl, rfl⟩) rfl hn0 (by omega) (by omega)
  have hG := grownCap_ge w (0 + n) 0 104
  obtain ⟨G, hGe⟩ : ∃ G, G = grownCap w (0 + n) 0 104 := ⟨_, rfl⟩
  have hG63 : G ≤ 9223372036854775807 := by
    have := grownCap_le_maxLen w (0 + n) 0 104 (by unfold maxLen; omega)
    rw [← hGe] at this
    unfold maxLen at this
    omega
  rw [← hGe] at hr hG
  simp only [Nat.zero_add, List.nil_append, Nat.sub_zero] at hr hG
  replace hGe := Lib.hid hGe
  have e1 : (0 : Int) < (n : Int) := by omega
  go_enter Tryz.func210, Tryz.ntmps210
  go_wp2_with (at_builtin; refine Lib.wpList_append_run _ rfl _ _ _ _ rfl _ _ rfl rfl _ _ (hr _) ?_)
  all_goals
    go_ret
    refine ⟨G, hG, hG63, rfl, ((Chg.refl w _).alloc _).drew, ?_, by simp⟩
    have := arr_alloc (w := w) (C := List.replicate G 0) (a := Array.replicate G (uw 0)) (Wd.zeros G) (by simp)
    exact ⟨this.heap, this.wd⟩
set_option maxHeartbeats 1000000 in
/-- slices.Grow where there is none: a new row with the old words at its head. -/
theorem grow313_new (w : World) (b l c n : Nat) (C : List Nat) (ha : Arr w b C) (hC : C.length = c) (hlc : l ≤ c) (hc : c ≤ 900000) (hn : n ≤ 1000) (hr : c < l + n) :
    Calls Tryz.prog 210 #[.slice (some ⟨b, 0, none⟩) l c, .int .i64 n] w fun e w' => ∃ G, l + n ≤ G ∧ G ≤ 9223372036854775807 ∧ e = .returned (.slice (some ⟨w.heap.size, 0, none⟩) l G) ∧ Chg w w' (fun _ => False) ∧ Arr w' w.heap.size (C ++ List.replicate (G - c) 0) ∧ w'.heap.size = w.heap.size + 1 := by
  have hrn := fun ty => run_growW w 49 ty Tryz.underlying49 Tryz.underlying3 (some ⟨b, 0, none⟩) c c (l + n - c) C (.inr ⟨b, rfl, ha⟩) hC.symm (by omega) (by omega) (by omega)
  rw [show c + (l + n - c) = l + n by omega] at hrn
  have hG := grownCap_ge w (l + n) c 104
  obtain ⟨G, hGe⟩ : ∃ G, G = grownCap w (l + n) c 104 := ⟨_, rfl⟩
  have hG63 : G ≤ 9223372036854775807 := by
    have := grownCap_le_maxLen w (l + n) c 104 (by unfold maxLen; omega)
    rw [← hGe] at this
    unfold maxLen at this
    omega
  rw [← hGe] at hrn hG
  replace hGe := Lib.hid hGe
  have hk : ((l + n - c : Nat) : Int) = (n : Int) - ((c : Int) - (l : Int)) := by omega
  rw [hk] at hrn
  have h2 : IntKind.i64.wrap ((c : Int) - (l : Int)) = (c : Int) - (l : Int) := IntWalk.i64_in _ (by omega)
  have h3 : IntKind.i64.wrap ((n : Int) - ((c : Int) - (l : Int))) = (n : Int) - ((c : Int) - (l : Int)) := IntWalk.i64_in _ (by omega)
  have h4 : (0 : Int) < ((n : Int) - ((c : Int) - (l : Int))) := by omega
  have hlG : l ≤ G := by omega
  go_enter Tryz.func210, Tryz.ntmps210
  go_wp2_with (at_builtin; refine Lib.wpList_append_run _ rfl _ _ _ _ rfl _ _ rfl rfl _ _ (hrn _) ?_)
  all_goals
    go_ret
    refine ⟨G, hG, hG63, rfl, ((Chg.refl w _).alloc _).drew, ?_, by simp⟩
    have := arr_alloc (w := w) (C := C ++ List.replicate (G - c) 0) (a := (C.map uw ++ List.replicate (G - c) (uw 0)).toArray) (ha.wd.append (Wd.zeros _)) (by simp)
    exact ⟨this.heap, this.wd⟩
end Go.Proofs.YtlnillnngckegaaGreatDoor

namespace Go.Proofs.YtlnillnngckegaaGreatDoor
open Go Go.RowKit

def r4 (n : Nat) : Nat := (n + 3) / 4 * 4
theorem r4_ge (n : Nat) : n ≤ r4 n := by unfold r4; omega
theorem r4_le (n : Nat) : r4 n ≤ n + 3 := by unfold r4; omega
theorem andNot_all : (List.range 901).all (fun n => decide (bits .andNot .i64 ((n : Int) + 3) 3 = ((r4 n : Nat) : Int))) = true := by kernel_rfl
@[go_sem ↓ high] theorem bits_andNot3 (n : Nat) (h : n ≤ 900) : bits .andNot .i64 ((n : Int) + 3) 3 = (r4 n : Int) := by
  have := List.all_eq_true.1 andNot_all n (List.mem_range.2 (by omega))
  exact of_decide_eq_true this

theorem cell1 {w : World} {b : Nat} {v : Value} {T : TypeId} (h : w.heap[b]? = some (.cells #[v] T (0, 0))) : w.cell? ⟨b, 0, none⟩ = some v := by
  unfold World.cell?; simp [h]
theorem frozen1 {w : World} {b : Nat} {v : Array Value} {T : TypeId} (h : w.heap[b]? = some (.cells v T (0, 0))) (i : Nat) : w.frozen? ⟨b, i, none⟩ = false := by
  unfold World.frozen?; rw [h]; simp
theorem set1 {w : World} {b : Nat} {v v' : Value} {T : TypeId} (h : w.heap[b]? = some (.cells #[v] T (0, 0))) : (w.setCell ⟨b, 0, none⟩ v').heap[b]? = some (.cells #[v'] T (0, 0)) := by
  simp only [World.setCell, Array.getElem?_modify, if_true, h, Option.map_some]
  simp
theorem chg_set (w : World) (b i : Nat) (v : Value) : Chg w (w.setCell ⟨b, i, none⟩ v) (fun k => k = b) :=
  ⟨rfl, rfl, rfl, by rw [World.size_setCell]; exact Nat.le_refl _, fun k _ hn => Below.heap_setCell _ _ _ _ hn⟩
theorem lt_of_heap {w : World} {b : Nat} {o : Obj} (h : w.heap[b]? = some o) : b < w.heap.size := by
  rcases Nat.lt_or_ge b w.heap.size with h' | h'
  · exact h'
  · rw [Array.getElem?_eq_none h'] at h; cases h
theorem Chg.heap {w w' : World} {S : Nat → Prop} (h : Chg w w' S) {b : Nat} {o : Obj} (hb : w.heap[b]? = some o) (hn : ¬ S b) : w'.heap[b]? = some o := by
  rw [h.block b (lt_of_heap hb) hn]; exact hb
theorem Arr.ne {w : World} {b t : Nat} {C : List Nat} {cs : Array Value} {T : TypeId} (ha : Arr w b C) (ht : w.heap[t]? = some (.cells cs T (0, 0))) (hT : T ≠ 104) : b ≠ t := by
  rintro rfl
  have := ha.heap
  rw [ht] at this
  simp only [Option.some.injEq, Obj.cells.injEq] at this
  exact hT this.2.1

/-- A stack that holds nothing. -/
def Stk0 (w : World) (s : Nat) : Prop := w.heap[s]? = some (.cells #[.pointer none] 198 (0, 0))
/-- A stack (block s) with its row of words (block b, in use up to l) behind block t. -/
structure Stk1 (w : World) (s t b l c : Nat) (C : List Nat) : Prop where
  hs : w.heap[s]? = some (.cells #[.pointer (some ⟨t, 0, none⟩)] 198 (0, 0))
  ht : w.heap[t]? = some (.cells #[.slice (some ⟨b, 0, none⟩) l c] 203 (0, 0))
  hb : Arr w b C
  hl : l ≤ c
  hC : C.length = c
  hc : c ≤ 9223372036854775807

theorem getStack_c (w : World) : Calls Tryz.prog 151 #[] w fun e w' => e = .returned (.pointer (some ⟨w.heap.size, 0, none⟩)) ∧ Stk0 w' w.heap.size ∧ Chg w w' (fun _ => False) := by
  go_enter Tryz.func151, Tryz.ntmps151
  go_wp2
  go_ret
  refine ⟨rfl, ?_, (Chg.refl w _).alloc _⟩
  show (w.heap.push _)[w.heap.size]? = _
  rw [Array.getElem?_push, if_pos rfl]
theorem save0 (w : World) (s : Nat) (h : Stk0 w s) : Calls Tryz.prog 158 #[.pointer (some ⟨s, 0, none⟩)] w fun e w' => e = .returned (.int .i64 0) ∧ w = w' := by
  have hc := cell1 h
  go_enter Tryz.func158, Tryz.ntmps158
  go_wp2
  go_ret
  exact ⟨rfl, rfl⟩
theorem save1 (w : World) (s t b l c : Nat) (C : List Nat) (h : Stk1 w s t b l c C) : Calls Tryz.prog 158 #[.pointer (some ⟨s, 0, none⟩)] w fun e w' => e = .returned (.int .i64 l) ∧ w = w' := by
  have hc := cell1 h.hs
  have hc2 := cell1 h.ht
  have hi : Calls Tryz.prog 185 #[.pointer (some ⟨t, 0, none⟩)] w fun e w' => e = .returned (.int .i64 l) ∧ w = w' := by
    go_enter Tryz.func185, Tryz.ntmps185
    go_wp2
    go_ret
    exact ⟨rfl, rfl⟩
  clear hc2
  go_enter Tryz.func158, Tryz.ntmps158
  go_wp2_with fail
  refine hi.mono ?_
  rintro e w' ⟨rfl, hw⟩
  obtain rfl := hw
  go_wp2
  go_ret
  exact ⟨rfl, rfl⟩
theorem restore0 (w : World) (s n : Nat) (u : FrameMode) (h : Stk0 w s) : CallsD Tryz.prog 157 #[.pointer (some ⟨s, 0, none⟩), .int .i64 n] u w fun e u' w' => u' = u ∧ e = .returned (.tuple #[]) ∧ w = w' := by
  have hc := cell1 h
  go_enter_d Tryz.func157, Tryz.ntmps157
  go_wp2
  exact bodyPost_ret (results_none rfl _ _ _) rfl ⟨rfl, rfl⟩
theorem restore1 (w : World) (s t b l c n : Nat) (C : List Nat) (u : FrameMode) (h : Stk1 w s t b l c C) (hn : n ≤ c) :
    CallsD Tryz.prog 157 #[.pointer (some ⟨s, 0, none⟩), .int .i64 n] u w fun e u' w' => u' = u ∧ e = .returned (.tuple #[]) ∧ w' = w.setCell ⟨t, 0, none⟩ (.slice (some ⟨b, 0, none⟩) n c) := by
  have hc := cell1 h.hs
  have hc2 := cell1 h.ht
  have hf2 := frozen1 h.ht 0
  have hcc := h.hc
  have hi : Calls Tryz.prog 184 #[.pointer (some ⟨t, 0, none⟩), .int .i64 n] w fun e w' => e = .returned (.tuple #[]) ∧ w' = w.setCell ⟨t, 0, none⟩ (.slice (some ⟨b, 0, none⟩) n c) := by
    go_enter Tryz.func184, Tryz.ntmps184
    go_wp2
    exact bodyPost_end (results_none rfl _ _ _) rfl ⟨rfl, rfl⟩
  clear hc2 hf2 hcc
  go_enter_d Tryz.func157, Tryz.ntmps157
  go_wp2_with fail
  refine hi.mono ?_
  rintro e w' ⟨rfl, rfl⟩
  go_wp2
  exact bodyPost_end (results_none rfl _ _ _) rfl ⟨rfl, rfl⟩
theorem free0 (w : World) (s : Nat) (u : FrameMode) (h : Stk0 w s) : CallsD Tryz.prog 152 #[.pointer (some ⟨s, 0, none⟩)] u w fun e u' w' => u' = u ∧ e = .returned (.tuple #[]) ∧ w = w' := by
  have hc := cell1 h
  go_enter_d Tryz.func152, Tryz.ntmps152
  go_wp2
  exact bodyPost_end (results_none rfl _ _ _) rfl ⟨rfl, rfl⟩
theorem free1 (w : World) (s t b l c : Nat) (C : List Nat) (u : FrameMode) (h : Stk1 w s t b l c C) :
    CallsD Tryz.prog 152 #[.pointer (some ⟨s, 0, none⟩)] u w fun e u' w' => u' = u ∧ e = .returned (.tuple #[]) ∧ w' = w.setCell ⟨t, 0, none⟩ (.slice (some ⟨b, 0, none⟩) 0 c) := by
  have hc := cell1 h.hs
  have hc2 := cell1 h.ht
  have hf2 := frozen1 h.ht 0
  have hcc := h.hc
  have hi : Calls Tryz.prog 181 #[.pointer (some ⟨t, 0, none⟩)] w fun e w' => e = .returned (.tuple #[]) ∧ w' = w.setCell ⟨t, 0, none⟩ (.slice (some ⟨b, 0, none⟩) 0 c) := by
    go_enter Tryz.func181, Tryz.ntmps181
    go_wp2
    exact bodyPost_end (results_none rfl _ _ _) rfl ⟨rfl, rfl⟩
  clear hc2 hf2 hcc
  go_enter_d Tryz.func152, Tryz.ntmps152
  go_wp2_with fail
  refine hi.mono ?_
  rintro e w' ⟨rfl, rfl⟩
  go_wp2
  exact bodyPost_end (results_none rfl _ _ _) rfl ⟨rfl, rfl⟩

/-- A place of at most four words from a stack that holds nothing. -/
theorem stkSmall (w : World) (s n : Nat) (h : Stk0 w s) (hn0 : 0 < n) (hn : n ≤ 4) :
    Calls Tryz.prog 159 #[.pointer (some ⟨s, 0, none⟩), .int .i64 n] w fun e w' => ∃ b G C, e = .returned (.slice (some ⟨b, 0, none⟩) n G) ∧ w.heap.size ≤ b ∧ Arr w' b C ∧ n ≤ C.length ∧ n ≤ G ∧ Chg w w' (fun _ => False) := by
  have hc := cell1 h
  have hg := grow287_c w n hn0 (by omega)
  have e1 : (0 : Int) < (n : Int) := by omega
  clear h
  go_enter Tryz.func159, Tryz.ntmps159
  go_wp2_with fail
  refine hg.mono ?_
  rintro e w1 ⟨G, hG, rfl, hchg, ha, _⟩
  have hz1 := ha.cellN (i := 0) (by simp; omega)
  have hz2 := ha.frozen 0
  go_wp2
  go_ret
  have hx : (11259375 : Nat) < WB := by rw [WB_eq]; decide
  have hS := (Sub.refl ha).set (i := 0) 11259375 hx
  refine ⟨w.heap.size, G, _, rfl, Nat.le_refl _, hS.arr, by simp; omega, hG, hchg.trans (hS.chg.mono ?_)⟩
  rintro k _ rfl
  exact .inr (Nat.le_refl _)
end Go.Proofs.YtlnillnngckegaaGreatDoor

namespace Go.Proofs.YtlnillnngckegaaGreatDoor
open Go Go.RowKit

set_option maxHeartbeats 1000000 in
/-- A place from an empty row. -/
theorem innerNil (w : World) (t n : Nat) (ht : w.heap[t]? = some (.cells #[.slice none 0 0] 203 (0, 0))) (hn0 : 0 < n) (hn : n ≤ 800) :
    Calls Tryz.prog 187 #[.pointer (some ⟨t, 0, none⟩), .int .i64 n] w fun e w' => ∃ b c C, e = .returned (.slice (some ⟨b, 0, none⟩) n n) ∧ w.heap.size ≤ b ∧
      w'.heap[t]? = some (.cells #[.slice (some ⟨b, 0, none⟩) (r4 n) c] 203 (0, 0)) ∧ Arr w' b C ∧ r4 n ≤ c ∧ C.length = c ∧ c ≤ 9223372036854775807 ∧ Chg w w' (fun k => k = t) := by
  have h4 := r4_ge n
  have h5 := r4_le n
  have hc := cell1 ht
  have hg := grow313_nil w (r4 n) (by omega) (by omega)
  have e1 : (0 : Int) < (n : Int) := by omega
  have hn9 : n ≤ 900 := by omega
  go_enter Tryz.func187, Tryz.ntmps187
  go_wp2_with fail
  refine hg.mono ?_
  rintro e w1 ⟨G, hG, hG2, rfl, hchg, ha, hsz⟩
  have ht1 := hchg.heap ht (fun h => h)
  have hc1 := cell1 ht1
  have hf1 := frozen1 ht1 0
  have hlt := lt_of_heap ht
  have hne : w.heap.size ≠ t := by omega
  have hz1 := ha.cellN (i := 0) (by simp; omega)
  have hz2 := ha.frozen 0
  go_wp2
  go_ret
  have ht2 := set1 (v' := .slice (some ⟨w.heap.size, 0, none⟩) 0 G) ht1
  have ht3 := set1 (v' := .slice (some ⟨w.heap.size, 0, none⟩) (r4 n) G) ht2
  have hx : (1043915 : Nat) < WB := by rw [WB_eq]; decide
  have ha2 := (chg_set _ t 0 (.slice (some ⟨w.heap.size, 0, none⟩) (r4 n) G)).arr ((chg_set w1 t 0 (.slice (some ⟨w.heap.size, 0, none⟩) 0 G)).arr ha hne) hne
  have hS := (Sub.refl ha2).set (i := 0) 1043915 hx
  have hch : Chg w _ (fun k => k = t) := (((hchg.mono (fun _ _ h => h.elim)).trans ((chg_set w1 t 0 (.slice (some ⟨w.heap.size, 0, none⟩) 0 G)).mono (fun _ _ h => .inl h))).trans ((chg_set _ t 0 (.slice (some ⟨w.heap.size, 0, none⟩) (r4 n) G)).mono (fun _ _ h => .inl h))).trans (hS.chg.mono (fun k _ h => .inr (by rw [h]; exact Nat.le_refl _)))
  exact ⟨w.heap.size, G, _, rfl, Nat.le_refl _, hS.chg.heap ht3 (fun h => hne h.symm), hS.arr, hG, by simp, hG2, hch⟩

set_option maxHeartbeats 1000000 in
/-- A place from a row in use. -/
theorem innerMore (w : World) (t b l c n : Nat) (C : List Nat) (ht : w.heap[t]? = some (.cells #[.slice (some ⟨b, 0, none⟩) l c] 203 (0, 0))) (ha : Arr w b C) (hC : C.length = c) (hlc : l ≤ c) (hc63 : c ≤ 9223372036854775807) (hl : l ≤ 800) (hn0 : 0 < n) (hn : n ≤ 800) :
    Calls Tryz.prog 187 #[.pointer (some ⟨t, 0, none⟩), .int .i64 n] w fun e w' => ∃ b' c' C', e = .returned (.slice (some ⟨b', l, none⟩) n n) ∧ (b' = b ∨ w.heap.size ≤ b') ∧
      w'.heap[t]? = some (.cells #[.slice (some ⟨b', 0, none⟩) (l + r4 n) c'] 203 (0, 0)) ∧ Arr w' b' C' ∧ l + r4 n ≤ c' ∧ C'.length = c' ∧ c' ≤ 9223372036854775807 ∧ Chg w w' (fun k => k = t ∨ k = b) ∧
      ∃ Cb, Arr w' b Cb ∧ Cb.length = c ∧ ∀ j, j < l → nth Cb j = nth C j := by
  have h4 := r4_ge n
  have h5 := r4_le n
  have hc := cell1 ht
  have hf := frozen1 ht 0
  have hbt : b ≠ t := ha.ne ht (by decide)
  have hn9 : n ≤ 900 := by omega
  have hx : (1043915 : Nat) < WB := by rw [WB_eq]; decide
  have i1 : IntKind.i64.wrap ((l : Int) + (r4 n : Int)) = (l : Int) + (r4 n : Int) := IntWalk.i64_in _ (by omega)
  have i2 : ((l : Int) + (r4 n : Int)).toNat = l + r4 n := by omega
  have i3 : (0 : Int) ≤ (l : Int) + (r4 n : Int) := by omega
  have j1 : IntKind.i64.wrap ((l : Int) + (n : Int)) = (l : Int) + (n : Int) := IntWalk.i64_in _ (by omega)
  have j2 : ((l : Int) + (n : Int)).toNat = l + n := by omega
  have j3 : (0 : Int) ≤ (l : Int) + (n : Int) := by omega
  have j4 : (l : Int) ≤ (l : Int) + (n : Int) := by omega
  by_cases hr : l + r4 n ≤ c
  · have hg := grow313_room w b l c (r4 n) hlc hc63 (by omega) hr
    have k1 : (l : Int) + (r4 n : Int) ≤ (c : Int) := by omega
    have k2 : (l : Int) + (n : Int) ≤ (c : Int) := by omega
    have k3 : l + r4 n ≤ c := hr
    have hz1 := ha.cellN (i := l) (by omega)
    have hz2 := ha.frozen l
    go_enter Tryz.func187, Tryz.ntmps187
    go_wp2_with fail
    refine hg.mono ?_
    rintro e w1 ⟨rfl, hw⟩
    obtain rfl := hw
    go_wp2
    go_ret
    have ht2 := set1 (v' := .slice (some ⟨b, 0, none⟩) l c) ht
    have ht3 := set1 (v' := .slice (some ⟨b, 0, none⟩) (l + r4 n) c) ht2
    have ha2 := (chg_set _ t 0 (.slice (some ⟨b, 0, none⟩) (l + r4 n) c)).arr ((chg_set w t 0 (.slice (some ⟨b, 0, none⟩) l c)).arr ha hbt) hbt
    have hS := (Sub.refl ha2).set (i := l) 1043915 hx
    have hch : Chg w _ (fun k => k = t ∨ k = b) := (((chg_set w t 0 (.slice (some ⟨b, 0, none⟩) l c)).mono (fun _ _ h => .inl h)).trans ((chg_set _ t 0 (.slice (some ⟨b, 0, none⟩) (l + r4 n) c)).mono (fun _ _ h => .inl (.inl h)))).trans (hS.chg.mono (fun k _ h => .inl (.inr h)))
    refine ⟨b, c, _, rfl, .inl rfl, hS.chg.heap ht3 (fun h => hbt h.symm), hS.arr, hr, by simpa using hC, hc63, hch, _, hS.arr, by simpa using hC, ?_⟩
    intro j hj
    unfold nth
    rw [List.getElem?_set_ne (by omega)]
  · have hg := grow313_new w b l c (r4 n) C ha hC hlc (by omega) (by omega) (by omega)
    go_enter Tryz.func187, Tryz.ntmps187
    go_wp2_with fail
    refine hg.mono ?_
    rintro e w1 ⟨G, hG, hG2, rfl, hchg, ha1, hsz⟩
    have ht1 := hchg.heap ht (fun h => h)
    have hc1 := cell1 ht1
    have hf1 := frozen1 ht1 0
    have hlt := lt_of_heap ht
    have hne : w.heap.size ≠ t := by omega
    have hne2 : b ≠ w.heap.size := by have := ha.lt; omega
    have k1 : (l : Int) + (r4 n : Int) ≤ (G : Int) := by omega
    have k2 : (l : Int) + (n : Int) ≤ (G : Int) := by omega
    have hz1 := ha1.cellN (i := l) (by simp; omega)
    have hz2 := ha1.frozen l
    have hab1 := hchg.arr ha (fun h => h)
    clear hg hc hf
    go_wp2
    go_ret
    have ht2 := set1 (v' := .slice (some ⟨w.heap.size, 0, none⟩) l G) ht1
    have ht3 := set1 (v' := .slice (some ⟨w.heap.size, 0, none⟩) (l + r4 n) G) ht2
    have ha2 := (chg_set _ t 0 (.slice (some ⟨w.heap.size, 0, none⟩) (l + r4 n) G)).arr ((chg_set w1 t 0 (.slice (some ⟨w.heap.size, 0, none⟩) l G)).arr ha1 hne) hne
    have hab2 := (chg_set _ t 0 (.slice (some ⟨w.heap.size, 0, none⟩) (l + r4 n) G)).arr ((chg_set w1 t 0 (.slice (some ⟨w.heap.size, 0, none⟩) l G)).arr hab1 hbt) hbt
    have hS := (Sub.refl ha2).set (i := l) 1043915 hx
    have hch : Chg w _ (fun k => k = t ∨ k = b) := (((hchg.mono (fun _ _ h => h.elim)).trans ((chg_set w1 t 0 (.slice (some ⟨w.heap.size, 0, none⟩) l G)).mono (fun _ _ h => .inl (.inl h)))).trans ((chg_set _ t 0 (.slice (some ⟨w.heap.size, 0, none⟩) (l + r4 n) G)).mono (fun _ _ h => .inl (.inl h)))).trans (hS.chg.mono (fun k _ h => .inr (by rw [h]; exact Nat.le_refl _)))
    refine ⟨w.heap.size, G, _, rfl, .inr (Nat.le_refl _), hS.chg.heap ht3 (fun h => hne h.symm), hS.arr, hG, by simp; omega, hG2, hch, C, hS.other hne2 hab2, hC, fun j _ => rfl⟩
end Go.Proofs.YtlnillnngckegaaGreatDoor

namespace Go.Proofs.YtlnillnngckegaaGreatDoor
open Go Go.RowKit

/-- The stack's state: empty, or its two blocks and how much is in use. -/
def StkS (w : World) (s : Nat) : Option (Nat × Nat × Nat) → Prop
  | none => Stk0 w s
  | some (t, b, l) => ∃ c C, Stk1 w s t b l c C

set_option maxHeartbeats 1000000 in
theorem stkNat0 (w : World) (s n : Nat) (h : Stk0 w s) (hn0 : 0 < n) (hn : n ≤ 800) :
    Calls Tryz.prog 159 #[.pointer (some ⟨s, 0, none⟩), .int .i64 n] w fun e w' => ∃ b G C st, e = .returned (.slice (some ⟨b, 0, none⟩) n G) ∧ w.heap.size ≤ b ∧ Arr w' b C ∧ n ≤ C.length ∧ n ≤ G ∧ Chg w w' (fun k => k = s) ∧
      StkS w' s st ∧ (st = none ∨ ∃ t l, st = some (t, b, l) ∧ w.heap.size ≤ t ∧ n ≤ l ∧ l ≤ n + 3) := by
  by_cases h4 : n ≤ 4
  · refine (stkSmall w s n h hn0 h4).mono ?_
    rintro e w' ⟨b, G, C, rfl, hb, ha, hC, hG, hchg⟩
    exact ⟨b, G, C, none, rfl, hb, ha, hC, hG, hchg.mono (fun _ _ h => h.elim), hchg.heap h (fun h => h), .inl rfl⟩
  · have hc := cell1 h
    have hf := frozen1 h 0
    have hlt := lt_of_heap h
    have hi := fun w' ht => innerNil w' w.heap.size n ht hn0 hn
    go_enter Tryz.func159, Tryz.ntmps159
    go_wp2_with fail
    have hs2 := set1 (v' := .pointer (some ⟨w.heap.size, 0, none⟩)) h
    have hch1 := chg_set w s 0 (.pointer (some ⟨w.heap.size, 0, none⟩))
    have hsz : (w.setCell ⟨s, 0, none⟩ (.pointer (some ⟨w.heap.size, 0, none⟩))).heap.size = w.heap.size := World.size_setCell _ _ _
    generalize w.setCell ⟨s, 0, none⟩ (.pointer (some ⟨w.heap.size, 0, none⟩)) = w1 at hs2 hch1 hsz ⊢
    have ht1 : ((w1.alloc (.cells #[.slice none 0 0] 203 (0, 0))).heap)[w.heap.size]? = some (.cells #[.slice none 0 0] 203 (0, 0)) := by
      rw [← hsz]
      show (w1.heap.push _)[w1.heap.size]? = _
      rw [Array.getElem?_push, if_pos rfl]
    have hs3 : ((w1.alloc (.cells #[.slice none 0 0] 203 (0, 0))).heap)[s]? = some (.cells #[.pointer (some ⟨w.heap.size, 0, none⟩)] 198 (0, 0)) := by
      rw [Below.heap_alloc _ _ _ (by omega)]; exact hs2
    have hch2 : Chg w (w1.alloc (.cells #[.slice none 0 0] 203 (0, 0))) (fun k => k = s) := hch1.alloc _
    have hsz2 : (w1.alloc (.cells #[.slice none 0 0] 203 (0, 0))).heap.size = w.heap.size + 1 := by rw [World.size_alloc, hsz]
    generalize w1.alloc (.cells #[.slice none 0 0] 203 (0, 0)) = w2 at ht1 hs3 hch2 hsz2 ⊢
    refine (hi w2 ht1).mono ?_
    rintro e w3 ⟨b, c, C, rfl, hb, ht3, ha, hlc, hC, hc63, hchg⟩
    have h4' := r4_ge n
    have h5' := r4_le n
    clear hc hf
    go_wp2
    go_ret
    refine ⟨b, n, C, some (w.heap.size, b, r4 n), rfl, by omega, ha, by omega, Nat.le_refl _, hch2.trans (hchg.mono (fun k _ h => .inr (by omega))), ?_, .inr ⟨_, _, rfl, Nat.le_refl _, h4', h5'⟩⟩
    exact ⟨c, C, hchg.heap hs3 (by omega), ht3, ha, hlc, hC, hc63⟩

set_option maxHeartbeats 1000000 in
theorem stkNat1 (w : World) (s t b l n : Nat) (h : StkS w s (some (t, b, l))) (hl : l ≤ 800) (hn0 : 0 < n) (hn : n ≤ 800) (hsb : s ≠ t) :
    Calls Tryz.prog 159 #[.pointer (some ⟨s, 0, none⟩), .int .i64 n] w fun e w' => ∃ b' C', e = .returned (.slice (some ⟨b', l, none⟩) n n) ∧ (b' = b ∨ w.heap.size ≤ b') ∧ Arr w' b' C' ∧ l + n ≤ C'.length ∧
      Chg w w' (fun k => k = t ∨ k = b) ∧ (∃ l', StkS w' s (some (t, b', l'))) ∧ ∀ Cv, Arr w b Cv → ∃ Cb, Arr w' b Cb ∧ Cb.length = Cv.length ∧ ∀ j, j < l → nth Cb j = nth Cv j := by
  obtain ⟨c, C, h1⟩ := h
  have hc := cell1 h1.hs
  have hi := innerMore w t b l c n C h1.ht h1.hb h1.hC h1.hl h1.hc hl hn0 hn
  have h4 := r4_ge n
  go_enter Tryz.func159, Tryz.ntmps159
  go_wp2_with fail
  refine hi.mono ?_
  rintro e w3 ⟨b', c', C', rfl, hb, ht3, ha, hlc, hC, hc63, hchg, Cb, hCb, hCbl, hsame⟩
  go_wp2
  go_ret
  refine ⟨b', C', rfl, hb, ha, by omega, hchg, ⟨l + r4 n, c', C', ?_, ht3, ha, hlc, hC, hc63⟩, ?_⟩
  · refine hchg.heap h1.hs ?_
    rintro (e | e)
    · exact hsb e
    · exact (h1.hb.ne h1.hs (by decide)) e.symm
  · intro Cv hCv
    obtain rfl := h1.hb.inj hCv
    exact ⟨Cb, hCb, by rw [hCbl, h1.hC], hsame⟩
end Go.Proofs.YtlnillnngckegaaGreatDoor
