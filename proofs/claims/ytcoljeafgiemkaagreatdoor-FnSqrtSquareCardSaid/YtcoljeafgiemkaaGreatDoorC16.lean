/- A decimal as plain data that comes in. impl.whole: words that come in, as a number. Rows of bytes; figures of a number, one by one. apd.BigInt: Set, SetMathBigInt; impl.whole. impl.whole, impl.made of a finite decimal. impl.made of a finite decimal. What is held in memory: decimals and numbers, each in places of its own. -/
import Derived.Laws.OwnMore
import Derived.Laws.BytesArg
import Derived.Test.YtcoljeafgiemkaaGreatDoorC01
import Derived.Test.YtcoljeafgiemkaaGreatDoorC02
import Derived.Test.YtcoljeafgiemkaaGreatDoorC10
import Derived.Test.YtcoljeafgiemkaaGreatDoorC11
import Derived.Test.YtcoljeafgiemkaaGreatDoorC12
namespace Go.Proofs.YtcoljeafgiemkaaGreatDoor
open Go.ChangeShapes Go.WideShapes Go.ChangeAt Go.RowKit Go.Joins

/-- A row of words that is read. -/
structure RdW (w : World) (A : Option Addr) (l c : Nat) (X : List Nat) : Prop where
  len : X.length = l
  cap : l ≤ c
  max : c ≤ 9223372036854775807
  wd : Wd X
  cells : 0 < l → ∃ ad, A = some ad ∧ ∀ j, j < l → w.cell? (ad.add j) = some (.int .u64 (nth X j : Int))
theorem RdW.below {w w' : World} {A : Option Addr} {l c : Nat} {X : List Nat} (h : RdW w A l c X) (hb : Below w.heap.size w w') : RdW w' A l c X :=
  ⟨h.len, h.cap, h.max, h.wd, fun hl => by
    obtain ⟨ad, e, hc⟩ := h.cells hl
    exact ⟨ad, e, fun j hj => (hb.cell (World.block_lt_of_cell? w _ (hc j hj))).trans (hc j hj)⟩⟩

/-- A decimal as plain data that comes in: form, sign, words, exponent. -/
structure DecIn (w : World) (f : Int) (A : Option Addr) (l c : Nat) (X : List Nat) (e : Int) : Prop where
  rd : RdW w A l c X
  form : -9223372036854775808 ≤ f ∧ f ≤ 9223372036854775807
  exp : -9223372036854775808 ≤ e ∧ e ≤ 9223372036854775807
theorem DecIn.below {w w' : World} {f e : Int} {A : Option Addr} {l c : Nat} {X : List Nat} (h : DecIn w f A l c X e) (hb : Below w.heap.size w w') : DecIn w' f A l c X e := ⟨h.rd.below hb, h.form, h.exp⟩

theorem cellsDec : Tryz.prog.cellsOf 24 = 4 := by kernel_rfl
theorem cellsUint : Tryz.prog.cellsOf 33 = 1 := by kernel_rfl
set_option maxRecDepth 100000 in
theorem open_dec {H : Type} {enc : TypeId × Value → H} {w : World} {base b0 : Nat} {spare : Nat → Bool} {held : Bool} {r : Reach} {v : Value} {d : DataW H} {p : List MemPlace}
    (hv : Value.okWide Tryz.prog w r b0 24 v) (h : DataW.Trod enc Tryz.prog w base spare held 24 v d p) :
    ∃ (f : Int) (n : Bool) (A : Option Addr) (l c : Nat) (X : List Nat) (e : Int), v = .agg #[.int .i64 f, .bool n, .slice A l c, .int .i64 e] ∧ DecIn w f A l c X e := by
  obtain ⟨v0, v1, v2, v3, y0, y1, y2, y3, m, rfl, rfl, rfl, h0, h1, h2, h3⟩ := open_agg4 Tryz.underlying24 (by kernel_rfl) cellsDec hv h
  obtain ⟨f, e0, _, wf⟩ := DataW.trod_int Tryz.underlying3 h0
  obtain ⟨n, e1, _⟩ := DataW.trod_bool Tryz.underlying4 h1
  obtain ⟨e, e3, _, we⟩ := DataW.trod_int Tryz.underlying3 h3
  have bf := bounds_i64 wf
  have be := bounds_i64 we
  simp only [List.cons.injEq, and_true] at e0 e1 e3
  subst e0 e1 e3
  rcases open_ints Tryz.underlying22 Tryz.underlying33 cellsUint h2 with ⟨e2, _⟩ | ⟨a, len, cap, zs, e2, _, hl, hm, hz, _, hc, hw⟩
  · simp only [List.cons.injEq, and_true] at e2
    subst e2
    exact ⟨f, n, none, 0, 0, [], e, rfl, ⟨rfl, Nat.le_refl _, Nat.zero_le _, Wd.nil, fun h => by omega⟩, bf, be⟩
  · simp only [List.cons.injEq, and_true] at e2
    subst e2
    have hlen : len ≤ zs.length := by rw [hz]; split <;> omega
    have hr : ∀ x ∈ zs, 0 ≤ x ∧ x ≤ 18446744073709551615 := fun x hx => bounds_u64 (hw x hx)
    refine ⟨f, n, some a, len, cap, (zs.take len).map Int.toNat, e, rfl, ⟨by simp; omega, hl, by unfold maxLen at hm; omega, ?_, fun _ => ⟨a, rfl, fun j hj => ?_⟩⟩, bf, be⟩
    · intro x hx
      obtain ⟨y, hy, rfl⟩ := List.mem_map.1 hx
      have := hr y (List.mem_of_mem_take hy)
      rw [WB_eq]; omega
    · rw [hc j (by omega)]
      have h1 : zs[j]? = some (zs[j]'(by omega)) := List.getElem?_eq_getElem (by omega)
      have h2 := hr _ (List.mem_of_getElem? h1)
      unfold nth
      rw [List.getElem?_map, List.getElem?_take_of_lt hj, h1, List.getD_eq_getElem?_getD, h1]
      simp
      omega
end Go.Proofs.YtcoljeafgiemkaaGreatDoor

namespace Go.Proofs.YtcoljeafgiemkaaGreatDoor
open Go Go.RowKit

/-- Words that are read at the head of a block. -/
def RdN (w : World) (b : Nat) (L : List Nat) : Prop := ∀ j, j < L.length → w.cell? ⟨b, j, none⟩ = some (.int .u64 (nth L j : Int))

set_option maxHeartbeats 400000 in
theorem norm_rd (w : World) (b cap : Nat) (L : List Nat) (hb : RdN w b L) (hW : Wd L) (hlc : L.length ≤ cap) (hn : L.length ≤ 1000000) (_hc : cap ≤ 9223372036854775807) :
    Calls Tryz.prog 172 #[.slice (some ⟨b, 0, none⟩) L.length cap] w fun e w' => e = .returned (.slice (some ⟨b, 0, none⟩) (digs (val L)).length cap) ∧ w = w' := by
  replace hb := Lib.hid hb
  obtain ⟨l, hl⟩ : ∃ l, L.length = l := ⟨_, rfl⟩
  rw [hl] at hlc hn ⊢
  replace hl := Lib.hid hl
  go_enter Tryz.func172, Tryz.ntmps172
  go_wp2
  go_loop [3] (fun i => ∃ k : Nat, k ≤ l ∧ i = .int .i64 k ∧ ∀ j, k ≤ j → j < l → nth L j = 0) (fun i => (intOf i).toNat)
  case atStart => exact ⟨l, Nat.le_refl _, rfl, fun j h1 h2 => by omega⟩
  case round =>
    obtain ⟨k, hk, rfl, hz⟩ := hrel
    replace hz := Lib.hid hz
    by_cases hk0 : k = 0
    · subst hk0
      go_wp2
      go_ret
      have := digs_val_cut hW (k := 0) (Nat.zero_le _) (fun j h1 h2 => hz.out j h1 (by rw [hl.out] at h2; exact h2)) (.inl rfl)
      exact ⟨by rw [this]; rfl, rfl⟩
    · obtain ⟨j, rfl⟩ : ∃ j, k = j + 1 := ⟨k - 1, by omega⟩
      have hcell := hb.out j (by rw [hl.out]; omega)
      by_cases h0 : nth L j = 0
      · rw [h0] at hcell
        replace h0 := Lib.hid h0
        go_wp2
        go_round
        case rel =>
          refine ⟨j, by omega, rfl, fun i h1 h2 => ?_⟩
          by_cases e : i = j
          · subst e; exact h0.out
          · exact hz.out i (by omega) h2
        case measure => simp [intOf]
      · have e0 : ((nth L j : Int) == 0) = false := by simp; omega
        replace h0 := Lib.hid h0
        go_wp2
        go_ret
        have := digs_val_cut hW (k := j + 1) (by rw [hl.out]; omega) (fun i h1 h2 => hz.out i h1 (by rw [hl.out] at h2; exact h2)) (.inr (by rw [Nat.add_sub_cancel]; exact h0.out))
        exact ⟨by rw [this]; rfl, rfl⟩

/-- The words of a number that are read, set into nothing. -/
theorem set_rd (w : World) (b cap N : Nat) (hb : RdN w b (digs N)) (h0 : N ≠ 0) (hn : (digs N).length ≤ 1000) :
    Calls Tryz.prog 171 #[.slice none 0 0, .slice (some ⟨b, 0, none⟩) (digs N).length cap] w fun e w' => ∃ r, e = .returned r ∧ NatRes w w' none r N := by
  have hpx := digs_len_pos h0
  have hmk := make_c w (.slice none 0 0) none (stor_none w) (digs N).length hpx hn
  replace hb := Lib.hid hb
  go_enter Tryz.func171, Tryz.ntmps171
  go_wp2_with fail
  refine hmk.mono ?_
  rintro e w1 ⟨r, rfl, bz, capz, C, rfl, ha, hC, hnc, hcap, hbz, hchg⟩
  have hwd := Wd_digs N
  have hsrc : ∀ j, j < (digs N).length → w1.cell? ⟨b, 0 + j, none⟩ = some (.int .u64 (nth (digs N) j : Int)) := by
    intro j hj
    rw [Nat.zero_add]
    exact hchg.cell (hb.out j hj) (fun h => h)
  have hmin : (digs N).length = Nat.min (digs N).length (digs N).length := by simp
  replace hsrc := Lib.hid hsrc
  replace hmin := Lib.hid hmin
  go_upto_region 2 with (fail)
  refine wp_region_lit ?_
  go_wp2_with (refine wpList_copyW rfl (.tmp 9) (.tmp 10) 69 69 rfl Tryz.underlying69 bz 0 _ capz b 0 _ cap rfl rfl C (digs N) ha hwd hmin.out (by omega) hsrc.out ?_)
  intro w2 hS
  go_wp2
  go_ret
  have h1 : (spl C 0 (digs N)).length = capz := by rw [spl_length (by omega), hC]
  have := natRes_of hbz hchg hS h1 hnc hcap
  rw [spl_zero_take (by omega), val_digs] at this
  exact ⟨_, rfl, this⟩

/-- An Int in a block of its own. -/
def IntBlk (w : World) (b : Nat) (n : Bool) (v : Value) : Prop := w.heap[b]? = some (.cells #[.bool n, v] 71 (0, 0))
def BigBlk (w : World) (b : Nat) (n : Bool) (v : Value) (m : Bool) : Prop := w.heap[b]? = some (.cells #[.bool n, v, .bool m] 73 (0, 0))

theorem setBits_c (w : World) (z : Nat) (n : Bool) (u : Value) (p p' : Option Addr) (l l' c c' : Nat) (hz : IntBlk w z n u)
    (hn : Calls Tryz.prog 172 #[.slice p l c] w fun e w' => e = .returned (.slice p' l' c') ∧ w = w') :
    Calls Tryz.prog 131 #[.pointer (some ⟨z, 0, none⟩), .slice p l c] w fun e w' => e = .returned (.pointer (some ⟨z, 0, none⟩)) ∧ IntBlk w' z false (.slice p' l' c') ∧ Chg w w' (fun k => k = z) := by
  have z0 : w.cell? ⟨z, 0, none⟩ = some (.bool n) := cellB hz rfl
  have z1 : w.cell? ⟨z, 1, none⟩ = some u := cellB hz rfl
  have f0 := frozenB hz 0
  have f1 := frozenB hz 1
  replace hn := Lib.hid hn
  replace hz := Lib.hid hz
  go_enter Tryz.func131, Tryz.ntmps131
  go_wp2_with fail
  with_reducible refine hn.out.mono ?_
  rintro e w' ⟨rfl, hw⟩
  obtain rfl := hw
  go_wp2
  go_ret
  exact ⟨rfl, setB (i := 0) (v := .bool false) (setB (i := 1) (v := .slice p' l' c') hz.out), (chg_setB w z 1 _).trans ((chg_setB _ z 0 _).mono (fun _ _ h => .inl h))⟩

/-- What an Int is after a number is set: its cells, its words. -/
def IntRes (w w' : World) (pz oz : Nat) (cs : Array Value) (T : TypeId) (o : Option Nat) (n : Bool) (N : Nat) : Prop :=
  ∃ v' o', w'.heap[pz]? = some (.cells ((cs.setIfInBounds (oz + 1) v').setIfInBounds oz (.bool n)) T (0, 0)) ∧ IsNat w' v' N o' ∧ (o' = o ∨ o' = none ∨ ∃ b, o' = some b ∧ w.heap.size ≤ b) ∧ Chg w w' (fun k => k = pz ∨ some k = o)

theorem IsNat.setCell {w : World} {v : Value} {N : Nat} {o : Option Nat} (h : IsNat w v N o) (b i : Nat) (u : Value) (hb : o ≠ some b) : IsNat (w.setCell ⟨b, i, none⟩ u) v N o :=
  h.chg (chg_setB w b i u) (fun k hk e => hb (by rw [hk, e]))

theorem Arr.ne2 {w : World} {b t : Nat} {C : List Nat} {cs : Array Value} {T : TypeId} (ha : Arr w b C) (ht : w.heap[t]? = some (.cells cs T (0, 0))) (hT : T ≠ 154) : b ≠ t := by
  rintro rfl
  have := ha.heap
  rw [ht] at this
  simp only [Option.some.injEq, Obj.cells.injEq] at this
  exact hT this.2.1
theorem Stor.ne2 {w : World} {v : Value} {b t : Nat} {cs : Array Value} {T : TypeId} (h : Stor w v (some b)) (ht : w.heap[t]? = some (.cells cs T (0, 0))) (hT : T ≠ 154) : b ≠ t := by
  rcases h with ⟨_, h⟩ | ⟨b', l, cap, C, h, _, _, ha, _⟩
  · cases h
  · cases h; exact ha.ne2 ht hT
theorem set_size {α : Type} {a : Array α} {i : Nat} {v : α} (h : a[i]? = some v) : i < a.size := by
  rcases Nat.lt_or_ge i a.size with h' | h'
  · exact h'
  · rw [Array.getElem?_eq_none h'] at h; cases h

set_option maxHeartbeats 400000 in
/-- Set, of another block's Int. -/
theorem intSet_c (w : World) (pz oz px ox : Nat) (cs cx : Array Value) (T Tx : TypeId) (o : Option Nat) (nz n : Bool) (u v : Value) (N : Nat) (hz : w.heap[pz]? = some (.cells cs T (0, 0))) (hT : T ≠ 154) (hz0 : cs[oz]? = some (.bool nz)) (hz1 : cs[oz + 1]? = some u)
    (hx : w.heap[px]? = some (.cells cx Tx (0, 0))) (hTx : Tx ≠ 154) (hx0 : cx[ox]? = some (.bool n)) (hx1 : cx[ox + 1]? = some v) (hne : pz ≠ px) (hu : Stor w u o) (hvs : ∃ p l c, v = .slice p l c)
    (hs : ∀ w2 k, w2 = w.drewN k → Calls Tryz.prog 171 #[u, v] w2 fun e w' => ∃ r, e = .returned r ∧ NatRes w2 w' o r N) :
    Calls Tryz.prog 129 #[.pointer (some ⟨pz, oz, none⟩), .pointer (some ⟨px, ox, none⟩)] w fun e w' => e = .returned (.pointer (some ⟨pz, oz, none⟩)) ∧ IntRes w w' pz oz cs T o n N := by
  have hq := neqInt (oa := oz) (ob := ox) (fun e => hne (congrArg Addr.block e)) hz hx
  have z0 := cellB hz hz0
  have z1 := cellB hz hz1
  have f0 := frozenB hz oz
  have f1 := frozenB hz (oz + 1)
  have x0 := cellB hx hx0
  have x1 := cellB hx hx1
  have hpo : ∀ b, o = some b → b ≠ pz := fun b e => by subst e; exact hu.ne2 hz hT
  have hxo : ∀ b, o = some b → b ≠ px := fun b e => by subst e; exact hu.ne2 hx hTx
  obtain ⟨p, l, c, rfl⟩ := hvs
  obtain ⟨pu, lu, cu, rfl⟩ := stor_slice hu
  replace hs := Lib.hid hs
  replace hz := Lib.hid hz
  replace hx := Lib.hid hx
  replace hpo := Lib.hid hpo
  replace hxo := Lib.hid hxo
  have hz0i := Lib.hid hz0
  have hz1i := Lib.hid hz1
  have hx0i := Lib.hid hx0
  clear hu hz0 hz1 hx0 hx1 hT hTx
  go_enter Tryz.func129, Tryz.ntmps129
  go_wp2
  go_region_with ((go_at_call 171; refine (hs.out _ 1 (by rfl)).mono ?_; rintro e w1 ⟨r, rfl, o', hr, ho', hch⟩; obtain ⟨pr, cr, rfl, hr1, hr2⟩ := hr.shape; have hz1 := hch.heapB (show w.drew.heap[pz]? = _ from hz.out) (fun e => hpo.out _ e.symm rfl); have hx1 := hch.heapB (show w.drew.heap[px]? = _ from hx.out) (fun e => hxo.out _ e.symm rfl); have y1 := cellB hz1 hz1i.out; have y0 := cellB hz1 hz0i.out; have g0 := frozenB hz1 oz; have g1 := frozenB hz1 (oz + 1); have k0 := cellB hx1 hx0i.out; replace hz1 := Lib.hid hz1; replace hch := Lib.hid hch; replace hr := Lib.hid hr; replace ho' := Lib.hid ho'; clear hx1 hr1 hr2))
  all_goals
    go_wp2
    go_ret
    have hb1 : o' ≠ some pz := by
      intro e
      rcases ho'.out with h | h | ⟨b, hb, hlt⟩
      · exact hpo.out _ (h ▸ e) rfl
      · rw [h] at e; cases e
      · rw [hb] at e
        cases e
        have := ltB hz.out
        have h2 : w.drew.heap.size = w.heap.size := rfl
        omega
    refine ⟨rfl, _, o', setB (i := oz) (v := .bool n) (setB (i := oz + 1) hz1.out), (hr.out.setCell pz (oz + 1) _ hb1).setCell pz oz _ hb1, ho'.out, ?_⟩
    exact (((Chg.refl w (fun k => k = pz ∨ some k = o)).drew.trans (hch.out.mono (fun _ _ h => .inl (.inr h)))).trans ((chg_setB w1 pz (oz + 1) _).mono (fun _ _ h => .inl (.inl h)))).trans ((chg_setB _ pz oz _).mono (fun _ _ h => .inl (.inl h)))
end Go.Proofs.YtcoljeafgiemkaaGreatDoor

namespace Go.Proofs.YtcoljeafgiemkaaGreatDoor
open Go Go.RowKit

/-- A byte as a value. -/
def yw (x : Nat) : Value := .int .u8 (x : Int)
structure ArrY (w : World) (b : Nat) (D : List Nat) : Prop where
  heap : w.heap[b]? = some (.cells (D.map yw).toArray 5 (0, 0))
  by_ : ∀ x, x ∈ D → x < 256
theorem ArrY.cell {w : World} {b : Nat} {D : List Nat} (h : ArrY w b D) {i : Nat} (hi : i < D.length) : w.cell? ⟨b, i, none⟩ = some (.int .u8 (nth D i : Int)) := by
  refine cellB h.heap ?_
  rw [List.getElem?_toArray, List.getElem?_map, get_nth hi]; rfl
theorem ArrY.frozen {w : World} {b : Nat} {D : List Nat} (h : ArrY w b D) (i : Nat) : w.frozen? ⟨b, i, none⟩ = false := frozenB h.heap i
theorem ArrY.lt {w : World} {b : Nat} {D : List Nat} (h : ArrY w b D) : b < w.heap.size := ltB h.heap
theorem ArrY.chg {w w' : World} {S : Nat → Prop} {b : Nat} {D : List Nat} (h : ArrY w b D) (hc : Chg w w' S) (hn : ¬ S b) : ArrY w' b D := ⟨hc.heapB h.heap hn, h.by_⟩
theorem ArrY.set {w : World} {b : Nat} {D : List Nat} (h : ArrY w b D) (i x : Nat) (hx : x < 256) : ArrY (w.setCell ⟨b, i, none⟩ (.int .u8 (x : Int))) b (D.set i x) := by
  refine ⟨?_, fun y hy => ?_⟩
  · have h1 := setB (i := i) (v := .int .u8 (x : Int)) h.heap
    rw [h1]
    congr 2
    apply Array.ext'
    simp [List.map_set, yw]
  · rcases List.mem_or_eq_of_mem_set hy with h' | h'
    · exact h.by_ y h'
    · omega
theorem ArrY.neArr {w : World} {b k : Nat} {D C : List Nat} (h : ArrY w b D) (hk : Arr w k C) : k ≠ b := hk.ne2 h.heap (by decide)
theorem nth_set {l : List Nat} {i x : Nat} (h : i < l.length) : nth (l.set i x) i = x := by unfold nth; simp [h]
theorem nth_set_ne {l : List Nat} {i j x : Nat} (h : i ≠ j) : nth (l.set i x) j = nth l j := by unfold nth; rw [List.getElem?_set_ne h]

/-- The figures of Q stand in D from i on. -/
def FigsFrom (D : List Nat) (Q n i : Nat) : Prop := D.length = n ∧ i ≤ n ∧ ∀ j, i ≤ j → j < n → nth D j = 48 + Q / 10 ^ (n - 1 - j) % 10
theorem FigsFrom.step {D : List Nat} {Q n i : Nat} (h : FigsFrom D Q n (i + 1)) : FigsFrom (D.set i (48 + Q / 10 ^ (n - 1 - i) % 10)) Q n i := by
  obtain ⟨h1, h2, h3⟩ := h
  refine ⟨by rw [List.length_set]; exact h1, by omega, fun j hj hn => ?_⟩
  by_cases e : i = j
  · subst e; exact nth_set (by omega)
  · rw [nth_set_ne e]; exact h3 j (by omega) hn
theorem mod_tens (a m : Nat) : a % 10 ^ (m + 1) / 10 = a / 10 % 10 ^ m := by
  rw [ten_succ, Nat.mod_mul_right_div_self]
theorem mod_ten (a m : Nat) : a % 10 ^ (m + 1) % 10 = a % 10 := by
  rw [ten_succ]; exact Nat.mod_mod_of_dvd _ (Nat.dvd_mul_right _ _)
theorem div_tens (a k : Nat) : a / 10 ^ k / 10 = a / 10 ^ (k + 1) := by rw [Nat.div_div_eq_div_mul, Nat.pow_succ]

theorem infoY : (Tryz.prog.info? 5).map (fun i => (i.zero, i.size, i.bytes)) = some (some (.int .u8 0), 1, 1) := by kernel_rfl
theorem run_makeY (w : World) {l : Int} {l' : Nat} (hl : l = l') (hcap : l' ≤ 1000000) :
    (Instr.makeSlice 121 (.int .i64 l) (.int .i64 l)).run Tryz.prog w = .ok (.slice (some ⟨w.heap.size, 0, none⟩) l' l') (w.alloc (.cells ((List.replicate l' 0).map yw).toArray 5 (0, 0))) := by
  have h := infoY
  cases hi : Tryz.prog.info? 5 with
  | none => rw [hi] at h; cases h
  | some i =>
    rw [hi] at h
    simp only [Option.map_some, Option.some.injEq, Prod.mk.injEq] at h
    obtain ⟨h1, h2, h3⟩ := h
    subst hl
    rw [run_make (P := Tryz.prog) w 121 5 i (.int .u8 0) Tryz.underlying121 hi h1 .i64 .i64 l' l' (by omega) (by omega) (by rw [h3]; omega) (by omega)]
    simp only [Int.toNat_natCast]
    have e : madeCells (Value.int .u8 0).cells (l' * i.size) = ((List.replicate l' 0).map yw).toArray := by
      rw [h2, Nat.mul_one]
      unfold madeCells
      apply Array.ext
      · simp
      · intro j h1 h2
        simp [Value.cells, yw]
        have : j % 1 = 0 := Nat.mod_one j
        simp [Nat.mod_one]
    rw [e]
theorem arrY_zero (w : World) (c : Nat) : ArrY (w.alloc (.cells ((List.replicate c 0).map yw).toArray 5 (0, 0))) w.heap.size (List.replicate c 0) :=
  ⟨allocB _ _, fun x hx => by rw [List.eq_of_mem_replicate hx]; omega⟩

theorem maxPow_c (w : World) : Calls Tryz.prog 278 #[.int .u64 10] w fun e w' => e = .returned (.tuple #[.int .u64 10000000000000000000, .int .i64 19]) ∧ w = w' := by
  go_enter Tryz.func278, Tryz.ntmps278
  go_wp2
  go_loop [2, 3] (fun p n => ∃ k : Nat, 1 ≤ k ∧ k ≤ 19 ∧ p = .int .u64 ((10 ^ k : Nat) : Int) ∧ n = .int .i64 (k : Int)) (fun _ n => 19 - (intOf n).toNat)
  case atStart => exact ⟨1, by omega, by omega, rfl, rfl⟩
  case round =>
    obtain ⟨k, h1, h2, rfl, rfl⟩ := hrel
    by_cases hk : k < 19
    · have hp : 10 ^ k ≤ 1000000000000000000 := by have := ten_le (show k ≤ 18 by omega); exact this
      have hs : 10 ^ (k + 1) = 10 * 10 ^ k := ten_succ k
      generalize 10 ^ k = p at *
      have hn : IntKind.u64.wrap ((p : Int) * 10) = ((10 * p : Nat) : Int) := by rw [show (p : Int) * 10 = ((10 * p : Nat) : Int) by omega]; exact IntWalk.u64_in _ (by omega)
      have hn2 : (p : Int) * 10 = ((10 * p : Nat) : Int) := by omega
      have hle : (p : Int) ≤ 1844674407370955161 := by omega
      replace hs := Lib.hid hs
      go_wp2
      go_round
      case rel => exact ⟨k + 1, by omega, by omega, by rw [hs.out]; congr 1, by go_num⟩
      case measure => simp [intOf]; omega
    · obtain rfl : k = 19 := by omega
      have hgt : ¬ ((10 ^ 19 : Nat) : Int) ≤ 1844674407370955161 := by decide
      have e : ((10 ^ 19 : Nat) : Int) = 10000000000000000000 := by decide
      rw [e] at hgt ⊢
      clear e
      go_wp2
      go_ret2
      exact ⟨rfl, rfl⟩
theorem divisors_c (w : World) (stk : Value) (hG : Glob w) (m : Nat) (n : Int) (hm : m ≤ 8) (b c : Int) : Calls Tryz.prog 279 #[stk, .int .i64 (m : Int), .int .u64 b, .int .i64 n, .int .u64 c] w fun e w' => e = .returned (.slice none 0 0) ∧ w = w' := by
  have g := hG.g6
  have hle : (m : Int) ≤ 8 := by omega
  go_enter Tryz.func279, Tryz.ntmps279
  go_wp2
  go_ret
  exact ⟨rfl, rfl⟩
end Go.Proofs.YtcoljeafgiemkaaGreatDoor

namespace Go.Proofs.YtcoljeafgiemkaaGreatDoor
open Go Go.RowKit

theorem setMath_c (w : World) (z x : Nat) (n : Bool) (p : Option Addr) (l c N : Nat) (hz : BigBlk w z false (.slice none 0 0) false) (hx : IntBlk w x n (.slice p l c)) (hne : z ≠ x)
    (hs : ∀ w2, Chg w w2 (fun k => k = z) → Calls Tryz.prog 171 #[.slice none 0 0, .slice p l c] w2 fun e w' => ∃ r, e = .returned r ∧ NatRes w2 w' none r N) :
    Calls Tryz.prog 130 #[.pointer (some ⟨z, 0, none⟩), .pointer (some ⟨x, 0, none⟩)] w fun e w' =>
      e = .returned (.pointer (some ⟨z, 0, none⟩)) ∧ ∃ v' o', BigBlk w' z n v' false ∧ IsNat w' v' N o' ∧ (o' = none ∨ ∃ b, o' = some b ∧ w.heap.size ≤ b) ∧ Chg w w' (fun k => k = z) := by
  have z2 : w.cell? ⟨z, 2, none⟩ = some (.bool false) := cellB hz rfl
  have f2 := frozenB hz 2
  have hch : Chg w (w.setCell ⟨z, 2, none⟩ (.bool false)) (fun k => k = z) := chg_setB w z 2 _
  have hz1 : BigBlk (w.setCell ⟨z, 2, none⟩ (.bool false)) z false (.slice none 0 0) false := setB (i := 2) (v := .bool false) hz
  have hx1 : IntBlk (w.setCell ⟨z, 2, none⟩ (.bool false)) x n (.slice p l c) := hch.heapB hx (fun e => hne e.symm)
  have key := intSet_c (w.setCell ⟨z, 2, none⟩ (.bool false)) z 0 x 0 _ _ _ _ none false n (.slice none 0 0) (.slice p l c) N hz1 (by decide) rfl rfl hx1 (by decide) rfl rfl hne (stor_none _) ⟨p, l, c, rfl⟩ (fun w2 k e => by subst e; exact hs _ (hch.drewN k))
  replace key := Lib.hid key
  replace hch := Lib.hid hch
  clear hz1 hx1
  go_enter Tryz.func130, Tryz.ntmps130
  go_wp2_with fail
  with_reducible refine key.out.mono ?_
  rintro e w' ⟨rfl, v', o', h1, h2, h3, h4⟩
  go_wp2
  go_ret
  refine ⟨rfl, v', o', h1, h2, ?_, hch.out.trans (h4.mono (fun _ _ h => .inl (h.elim id (fun h => by cases h))))⟩
  rcases h3 with h | h | ⟨b, hb, hlt⟩
  · exact .inl h
  · exact .inl h
  · exact .inr ⟨b, hb, by rw [World.size_setCell] at hlt; exact hlt⟩

set_option maxHeartbeats 400000 in
/-- Set, of another block's number. -/
theorem bigSet_c (w : World) (pz oz px ox : Nat) (cs cx : Array Value) (T Tx : TypeId) (o : Option Nat) (nz n mz mx : Bool) (u v : Value) (N : Nat) (hz : w.heap[pz]? = some (.cells cs T (0, 0))) (hT : T ≠ 154) (hz0 : cs[oz]? = some (.bool nz)) (hz1 : cs[oz + 1]? = some u) (hz2 : cs[oz + 2]? = some (.bool mz))
    (hx : w.heap[px]? = some (.cells cx Tx (0, 0))) (hTx : Tx ≠ 154) (hx0 : cx[ox]? = some (.bool n)) (hx1 : cx[ox + 1]? = some v) (hx2 : cx[ox + 2]? = some (.bool mx)) (hne : pz ≠ px) (hu : Stor w u o) (hvs : ∃ p l c, v = .slice p l c)
    (hs : ∀ w2, Chg w w2 (fun k => k = pz) → Calls Tryz.prog 171 #[u, v] w2 fun e w' => ∃ r, e = .returned r ∧ NatRes w2 w' o r N) :
    Calls Tryz.prog 84 #[.pointer (some ⟨pz, oz, none⟩), .pointer (some ⟨px, ox, none⟩)] w fun e w' => e = .returned (.pointer (some ⟨pz, oz, none⟩)) ∧ IntRes w w' pz oz (cs.setIfInBounds (oz + 2) (.bool mx)) T o n N := by
  have z2 := cellB hz hz2
  have f2 := frozenB hz (oz + 2)
  have x2 := cellB hx hx2
  have hch : Chg w (w.setCell ⟨pz, oz + 2, none⟩ (.bool mx)) (fun k => k = pz) := chg_setB w pz (oz + 2) _
  have h1 := setB (i := oz + 2) (v := .bool mx) hz
  have h2 := hch.heapB hx (fun e => hne e.symm)
  have hpo : ∀ b, o = some b → b ≠ pz := fun b e => by subst e; exact hu.ne2 hz hT
  have hu1 := hu.chg hch (fun b e => hpo b e)
  have e0 : (cs.setIfInBounds (oz + 2) (.bool mx))[oz]? = some (.bool nz) := by rw [Array.getElem?_setIfInBounds_ne (by omega)]; exact hz0
  have e1 : (cs.setIfInBounds (oz + 2) (.bool mx))[oz + 1]? = some u := by rw [Array.getElem?_setIfInBounds_ne (by omega)]; exact hz1
  have key := fun k => intSet_c ((w.setCell ⟨pz, oz + 2, none⟩ (.bool mx)).drewN k) pz oz px ox _ _ _ _ o nz n u v N h1 hT e0 e1 h2 hTx hx0 hx1 hne (hu1.chg ((Chg.refl _ (fun _ => False)).drewN k) (fun _ _ h => h)) hvs (fun w2 k2 e => by subst e; exact hs _ ((hch.drewN k).drewN k2))
  replace key := Lib.hid key
  replace hch := Lib.hid hch
  clear h1 h2 hu1 e0 e1 hz hx hz0 hz1 hz2 hx0 hx1 hx2 hu
  go_enter Tryz.func84, Tryz.ntmps84
  go_wp2_with fail
  generalize w.setCell ⟨pz, oz + 2, none⟩ (.bool mx) = w0 at key hch ⊢
  go_region_with ((go_at_call 129; refine (key.out 1).mono ?_; rintro e w2 ⟨rfl, hr⟩; replace hr := Lib.hid hr))
  all_goals
    go_wp2
    go_ret
    obtain ⟨v', o', h1, h2, h3, h4⟩ := hr.out
    refine ⟨rfl, v', o', h1, h2, ?_, (hch.out.mono (fun _ _ h => .inl h)).trans (((Chg.refl _ (fun _ => False)).drewN 1).mono (fun _ _ h => h.elim) |>.trans (h4.mono (fun _ _ h => .inl (.inl h))))⟩
    rcases h3 with h | h | ⟨b, hb, hlt⟩
    · exact .inl h
    · exact .inr (.inl h)
    · exact .inr (.inr ⟨b, hb, Nat.le_trans hch.out.size hlt⟩)
end Go.Proofs.YtcoljeafgiemkaaGreatDoor

namespace Go.Proofs.YtcoljeafgiemkaaGreatDoor
open Go Go.RowKit

theorem below_drewN2 {B : Nat} {w W : World} (h : Below B w W) (n : Nat) : Below B w (W.drewN n) := ⟨h.os, h.tape, h.output, h.size, h.block⟩
theorem Below.chg {w w' : World} (h : Below w.heap.size w w') : Chg w w' (fun _ => False) := ⟨h.os, h.tape, h.output, h.size, fun k hk _ => h.block k hk⟩

theorem norm_nil (w : World) : Calls Tryz.prog 172 #[.slice none 0 0] w fun e w' => e = .returned (.slice none 0 0) ∧ w = w' := by
  go_enter Tryz.func172, Tryz.ntmps172
  go_wp2
  go_loop [3] (fun i => i = .int .i64 0) (fun i => (intOf i).toNat)
  case atStart => rfl
  case round =>
    obtain rfl := hrel
    go_wp2
    go_ret
    exact ⟨rfl, rfl⟩

theorem set0_c (w : World) (p : Option Addr) (c : Nat) : Calls Tryz.prog 171 #[.slice none 0 0, .slice p 0 c] w fun e w' => ∃ r, e = .returned r ∧ NatRes w w' none r 0 := by
  have hmk : Calls Tryz.prog 192 #[.slice none 0 0, .int .i64 0] w fun e w' => e = .returned (.slice none 0 0) ∧ w = w' := by
    go_enter Tryz.func192, Tryz.ntmps192
    go_wp2
    go_ret
    exact ⟨rfl, rfl⟩
  go_enter Tryz.func171, Tryz.ntmps171
  go_wp2_with fail
  refine hmk.mono ?_
  rintro e w' ⟨rfl, hw⟩
  obtain rfl := hw
  go_upto_region 2 with (fail)
  refine wp_region_lit ?_
  go_wp2_with (refine wpList_copy_nothing rfl (.tmp 9) (.tmp 10) 69 69 rfl 154 Tryz.underlying69 infoW _ _ _ _ _ _ rfl rfl (by simp) ?_)
  go_ret
  exact ⟨_, rfl, none, IsNat.zero _, .inl rfl, Chg.refl _ _⟩
theorem own_slice2 {w : World} {base n : Nat} {e : TypeId} {size : Nat} {v : Value} {xs : List Value} (h : w.ownsRow base e size v n xs) : ∃ A c, v = .slice A n c := by
  rcases h.2 with ⟨rfl, rfl⟩ | ⟨g, cap, cur, rfl, _⟩
  · exact ⟨none, 0, rfl⟩
  · exact ⟨_, cap, rfl⟩

/-- What whole gives: a number in new memory. -/
def NewBig (w w' : World) (e : Ending) (N : Nat) : Prop :=
  ∃ k v o, e = .returned (.pointer (some ⟨k, 0, none⟩)) ∧ w.heap.size ≤ k ∧ BigBlk w' k false v false ∧ IsNat w' v N o ∧ (∀ b, o = some b → w.heap.size ≤ b) ∧ Chg w w' (fun _ => False)

/-- Behind whole's loop. -/
theorem tail_c (w w1 : World) (p : Option Addr) (l c : Nat) (X : List Nat) (hb : Below w.heap.size w w1) (hown : w1.ownsRow w.heap.size 154 1 (.slice p l c) l (X.map uw)) (hX : X.length = l) (hW : Wd X) (hl : l ≤ 900) :
    ∀ z i, BigBlk w1 z false (.slice none 0 0) false → IntBlk w1 i false (.slice none 0 0) → z ≠ i → w.heap.size ≤ z → w.heap.size ≤ i →
      Calls Tryz.prog 131 #[.pointer (some ⟨i, 0, none⟩), .slice p l c] w1 fun e w2 => e = .returned (.pointer (some ⟨i, 0, none⟩)) ∧
        Calls Tryz.prog 130 #[.pointer (some ⟨z, 0, none⟩), .pointer (some ⟨i, 0, none⟩)] w2 fun e w3 => e = .returned (.pointer (some ⟨z, 0, none⟩)) ∧
          ∃ v o, BigBlk w3 z false v false ∧ IsNat w3 v (val X) o ∧ (∀ b, o = some b → w.heap.size ≤ b) ∧ Chg w w3 (fun _ => False) := by
  intro z i hz hi hne hzl hil
  have hc1 : Chg w w1 (fun _ => False) := Below.chg hb
  rcases hown.2 with ⟨h1, h2⟩ | ⟨g, cap, cur, h1, hg, hgg, hn, hm, hcs, htake⟩
  · injection h1 with h1 h3 h4
    subst h1 h2 h4
    obtain rfl : X = [] := List.length_eq_zero_iff.1 hX
    refine (setBits_c w1 i _ _ none none 0 0 0 0 hi (norm_nil w1)).mono ?_
    rintro e w2 ⟨rfl, hi2, hch2⟩
    have hz2 : BigBlk w2 z false (.slice none 0 0) false := hch2.heapB hz hne
    refine ⟨rfl, (setMath_c w2 z i false none 0 0 0 hz2 hi2 hne (fun w3 _ => (set_nil w3).mono ?_)).mono ?_⟩
    · rintro e w' ⟨rfl, hw⟩
      subst hw
      exact ⟨_, rfl, none, IsNat.zero _, .inl rfl, Chg.refl _ _⟩
    · rintro e w3 ⟨rfl, v', o', h1, h2, h3, h4⟩
      refine ⟨rfl, v', o', h1, h2, ?_, (hc1.trans (hch2.mono (fun k _ h => .inr (by omega)))).trans (h4.mono (fun k _ h => .inr (by omega)))⟩
      intro b hb'
      have s1 := hc1.size
      have s2 := hch2.size
      rcases h3 with h | ⟨b2, hb2, hlt⟩
      · rw [h] at hb'; cases hb'
      · rw [hb2] at hb'; cases hb'; omega
  · injection h1 with h1 h3 h4
    subst h1 h4
    have hrd : RdN w1 g X := by
      intro j hj
      have := hown.cells (g := g) rfl j (uw (nth X j)) (by rw [List.getElem?_map, get_nth hj]; rfl)
      have e : (⟨g, 0, none⟩ : Addr).add j = ⟨g, j, none⟩ := by unfold Addr.add; split <;> simp_all
      rw [e] at this
      exact this
    have hcap : c ≤ 9223372036854775807 := by unfold maxLen at hm; omega
    have hdl : (digs (val X)).length ≤ X.length := digs_len_le.2 (val_lt hW)
    have hpre : ∀ w2 S, Chg w1 w2 S → ¬ S g → RdN w2 g (digs (val X)) := by
      intro w2 S hch hS j hj
      have h1 := hch.cell (hrd j (by omega)) hS
      have h2 : nth X j = nth (digs (val X)) j := by
        have h3 := val_digs (val X)
        have h4 : X = digs (val X) ++ List.replicate (X.length - (digs (val X)).length) 0 := by
          refine val_inj hW ((Wd_digs _).append (Wd.zeros _)) (by simp; omega) ?_
          rw [val_append_zeros, h3]
        conv => lhs; rw [h4]
        rw [nth_append_left hj]
      rw [← h2]; exact h1
    have hn0 := norm_rd w1 g c X hrd hW (by omega) (by omega) hcap
    rw [hX] at hn0
    refine (setBits_c w1 i _ _ _ _ _ _ _ _ hi hn0).mono ?_
    rintro e w2 ⟨rfl, hi2, hch2⟩
    have hz2 : BigBlk w2 z false (.slice none 0 0) false := hch2.heapB hz hne
    have hgi : g ≠ i := by
      rintro rfl
      have h5 : w1.heap[g]? = some (.cells #[.bool false, .slice none 0 0] 71 (0, 0)) := hi
      rw [hgg] at h5
      simp at h5
    have hgz : g ≠ z := by
      rintro rfl
      have h5 : w1.heap[g]? = some (.cells #[.bool false, .slice none 0 0, .bool false] 73 (0, 0)) := hz
      rw [hgg] at h5
      simp at h5
    refine ⟨rfl, (setMath_c w2 z i false _ _ _ (val X) hz2 hi2 hne (fun w3 hch3 => ?_)).mono ?_⟩
    · by_cases h0 : val X = 0
      · rw [h0, digs_zero]
        exact set0_c w3 _ _
      · exact set_rd w3 g c (val X) (hpre w3 _ ((hch2.mono (fun k _ h => (show k = i ∨ k = z from .inl h))).trans (hch3.mono (fun k _ h => .inl (.inr h)))) (by omega)) h0 (by omega)
    · rintro e w3 ⟨rfl, v', o', h1, h2, h3, h4⟩
      refine ⟨rfl, v', o', h1, h2, ?_, (hc1.trans (hch2.mono (fun k _ h => .inr (by omega)))).trans (h4.mono (fun k _ h => .inr (by omega)))⟩
      intro b hb'
      have s1 := hc1.size
      have s2 := hch2.size
      rcases h3 with h | ⟨b2, hb2, hlt⟩
      · rw [h] at hb'; cases hb'
      · rw [hb2] at hb'; cases hb'; omega

set_option maxHeartbeats 2000000 in
theorem whole_c (w : World) (A : Option Addr) (l c : Nat) (X : List Nat) (hX : RdW w A l c X) (hl : l ≤ 900) :
    Calls Tryz.prog 85 #[.slice A l c] w fun e w' => NewBig w w' e (val X) := by
  obtain ⟨i0, hi, hz0, hz1, hz2⟩ := info_parts makeZ
  have hlen := hX.len
  replace hX := Lib.hid hX
  replace hlen := Lib.hid hlen
  go_enter Tryz.func85, Tryz.ntmps85
  go_wp2
  go_loopw [3, 8] (fun v i wr => ∃ (k : Nat) (p : Option Addr) (cc : Nat), k ≤ l ∧ i = .int .i64 k ∧ v = .slice p k cc ∧ Below w.heap.size w wr ∧ wr.ownsRow w.heap.size 154 1 (.slice p k cc) k ((X.take k).map uw)) (fun _ i _ => l - (intOf i).toNat)
  case atStart => exact ⟨0, none, 0, Nat.zero_le _, rfl, rfl, Below.refl _ _, World.ownsRow_nil _ _ _ _⟩
  case round =>
    obtain ⟨k, p, cc, hk, rfl, rfl, hb, hown⟩ := hrel
    by_cases hlt : k < l
    · obtain ⟨ad, rfl, hcs⟩ := hX.out.cells (by omega)
      have hcell := hb.cell (World.block_lt_of_cell? w _ (hcs k hlt)) |>.trans (hcs k hlt)
      have hbs := hb.size
      have htk : X.take (k + 1) = X.take k ++ [nth X k] := take_nth (by rw [hlen.out]; exact hlt)
      replace htk := Lib.hid htk
      replace hown := Lib.hid hown
      replace hb := Lib.hid hb
      clear hcs
      go_wp2_with (at_builtin; refine wpList_append_own _ rfl _ _ 68 rfl w.heap.size 154 i0 (.int .u64 0) 1 8 Tryz.underlying68 hi hz0 hz1 hz2 rfl (by decide) _ _ _ rfl (hown.out.alloc _) ⟨wr.heap.size, 0, none⟩ 1 1 [.int .u64 (nth X k : Int)] rfl rfl ?c1 ?c2 ?c3 ?c4 ?c5 ?_)
      case c1 => exact cell_one_new _ _ _
      case c2 => intro u hu; simp only [List.mem_cons, List.not_mem_nil, or_false] at hu; subst hu; rfl
      case c3 => unfold maxLen; omega
      case c4 => omega
      case c5 => simp; omega
      intro v' w1 hown' hgrow _
      obtain ⟨p', cc', rfl⟩ := own_slice2 hown'
      replace hown' := Lib.hid hown'
      replace hgrow := Lib.hid hgrow
      go_wp2
      go_roundw
      case rel =>
        refine ⟨k + 1, p', cc', by omega, by go_num, rfl, ?_, ?_⟩
        · exact (hb.out.alloc hbs _).grown hgrow.out (by simp; omega) (fun g hg => (hown.out.lt g hg).1)
        · have h := hown'.out
          rw [htk.out, List.map_append]
          rw [← List.map_take] at h
          exact h
      case measure => simp [intOf]; omega
    · obtain rfl : k = l := by omega
      have htl : X.take k = X := List.take_of_length_le (by rw [hlen.out]; exact Nat.le_refl _)
      rw [htl] at hown
      have hbs := hb.size
      have hb2 : Below w.heap.size w ((wr.alloc (.cells #[.bool false, .slice none 0 0, .bool false] 73 (0, 0))).alloc (.cells #[.bool false, .slice none 0 0] 71 (0, 0))) := (hb.alloc hbs _).alloc (by simp; omega) _
      have key := tail_c w _ p k cc X hb2 ((hown.alloc _).alloc _) hlen.out hX.out.wd hl wr.heap.size (wr.heap.size + 1) (allocB_old (allocB _ _)) (allocB_at _ _ (by simp)) (by omega) hbs (by omega)
      replace key := Lib.hid key
      clear hb2 hb hown htl
      go_wp2_with fail
      with_reducible refine key.out.mono ?_
      rintro e w2 ⟨rfl, k2⟩
      replace k2 := Lib.hid k2
      go_wp2_with fail
      with_reducible refine k2.out.mono ?_
      rintro e w3 ⟨rfl, v, o, h1, h2, h3, h4⟩
      go_wp2
      go_ret
      exact ⟨wr.heap.size, v, o, rfl, hbs, h1, h2, h3, h4⟩
end Go.Proofs.YtcoljeafgiemkaaGreatDoor

namespace Go.Proofs.YtcoljeafgiemkaaGreatDoor
open Go Go.RowKit

/-- A finite decimal is made, of words that fit. -/
def MadeF (w w' : World) (e : Ending) (n : Bool) (ex : Int) (N : Nat) : Prop :=
  ∃ k o, e = .returned (.pointer (some ⟨k, 0, none⟩)) ∧ w.heap.size ≤ k ∧ k < w'.heap.size ∧ DecA w' k 0 n ex N o ∧ (∀ b, o = some b → w.heap.size ≤ b ∧ b < w'.heap.size ∧ b ≠ k) ∧ Chg w w' (fun _ => False)

set_option maxHeartbeats 2000000 in
theorem madeF_c (w : World) (n : Bool) (A : Option Addr) (l c : Nat) (X : List Nat) (ex : Int) (hX : RdW w A l c X) (hl : l ≤ 900) (he : -2147483648 ≤ ex ∧ ex ≤ 2147483647) :
    Calls Tryz.prog 42 #[.agg #[.int .i64 0, .bool n, .slice A l c, .int .i64 ex]] w fun e w' => MadeF w w' e n ex (val X) := by
  have iw : IntKind.i32.wrap ex = ex := IntWalk.i32_in _ he
  obtain ⟨he1, he2⟩ := he
  have hw := fun w2 (hb : Below w.heap.size w w2) => whole_c w2 A l c X (hX.below hb) hl
  replace hw := Lib.hid hw
  have hLd : (digs (val X)).length ≤ 1000 := Nat.le_trans (digs_len_le.2 (by have := val_lt hX.wd; rwa [hX.len] at this)) (by omega : l ≤ 1000)
  clear hX
  go_enter Tryz.func42, Tryz.ntmps42
  go_wp2
  generalize hW : (w.alloc (.cells #[.int .i64 0, .bool n, .slice A l c, .int .i64 ex] 24 (0, 0))).alloc (.cells #[.int .i8 0, .bool false, .int .i32 ex, .bool false, .slice none 0 0, .bool false] 75 (0, 0)) = W
  have hB0 : Below w.heap.size w W := by rw [← hW]; exact ((Below.refl _ _).alloc (Nat.le_refl _) _).alloc (by simp) _
  have hBx : W.heap[w.heap.size]? = some (.cells #[.int .i64 0, .bool n, .slice A l c, .int .i64 ex] 24 (0, 0)) := by rw [← hW]; exact allocB_old (allocB _ _)
  have hD : DecZ W (w.heap.size + 1) 0 false ex := by rw [← hW]; exact allocB_at _ _ (by simp)
  have hsz : W.heap.size = w.heap.size + 2 := by rw [← hW]; simp
  clear hW iw
  have hS0 : W.drew.cell? ⟨w.heap.size, 2, none⟩ = some (.slice A l c) := cellB (w := W.drew) hBx rfl
  replace hB0 := Lib.hid hB0
  replace hBx := Lib.hid hBx
  replace hD := Lib.hid hD
  replace hsz := Lib.hid hsz
  go_region_held3 (fun w' => w'.cell? ⟨w.heap.size, 2, none⟩ = some (.slice A l c)) (with_reducible (first | exact hS0 | exact hS1 | exact hS2)) (first
    | (go_at_call 85
       refine (hw.out W.drew ⟨hB0.out.os, hB0.out.tape, hB0.out.output, hB0.out.size, hB0.out.block⟩).mono ?_
       rintro e w1 ⟨k, v, o, rfl, hk, hbk, hN, ho, hch1⟩
       have hX1 := hch1.heapB (show W.drew.heap[w.heap.size]? = _ from hBx.out) (fun h => h)
       have hS1 : w1.cell? ⟨w.heap.size, 2, none⟩ = some (.slice A l c) := cellB hX1 rfl
       have hD1 : DecZ w1 (w.heap.size + 1) 0 false ex := DecZ.chg (w := W.drew) hD.out hch1 (fun h => h)
       replace hX1 := Lib.hid hX1
       replace hD1 := Lib.hid hD1
       replace hbk := Lib.hid hbk
       replace hN := Lib.hid hN
       replace ho := Lib.hid ho
       replace hch1 := Lib.hid hch1
       replace hk := Lib.hid hk)
    | (go_at_call 84
       have hz := hsz.out
       have hkk := hk.out
       have hz2 : W.drew.heap.size = W.heap.size := rfl
       obtain ⟨pv, cv, rfl, _, _⟩ := hN.out.shape
       have hset := fun w2 (hc : Chg w1 w2 (fun j => j = w.heap.size + 1)) => set_c w2 (.slice none 0 0) _ (val X) none o (stor_none w2) (hN.out.chg hc (fun b hb e => by have := ho.out b hb; omega)) hLd
       refine (bigSet_c w1 (w.heap.size + 1) 3 k 0 _ _ _ _ none false false false false (.slice none 0 0) _ (val X) hD1.out (by decide) rfl rfl rfl hbk.out (by decide) rfl rfl rfl (by omega) (stor_none _) ⟨_, _, _, rfl⟩ hset).mono ?_
       rintro e w2 ⟨rfl, v', o', h1, h2, h3, h4⟩
       have hX2 := h4.heapB hX1.out (by rintro (h | h); omega; cases h)
       have hS2 : w2.cell? ⟨w.heap.size, 2, none⟩ = some (.slice A l c) := cellB hX2 rfl
       replace hX2 := Lib.hid hX2
       replace h1 := Lib.hid h1
       replace h2 := Lib.hid h2
       replace h3 := Lib.hid h3
       replace h4 := Lib.hid h4))
  have hz := hsz.out
  have hz2 : W.drew.heap.size = W.heap.size := rfl
  have hkk := hk.out
  have hs1 := hch1.out.size
  have b1 : w2.cell? ⟨w.heap.size, 1, none⟩ = some (.bool n) := cellB hX2.out rfl
  have h1a : w2.heap[w.heap.size + 1]? = some (.cells #[.int .i8 0, .bool false, .int .i32 ex, .bool false, v', .bool false] 75 (0, 0)) := h1.out
  have d1 := cellB (i := 1) h1a rfl
  have df1 := frozenB h1a 1
  replace h1a := Lib.hid h1a
  clear hS0 hS1 hS2
  go_wp2
  go_ret
  have hfin := setB (i := 1) (v := .bool n) h1a.out
  have hb' : ∀ b, o' = some b → W.heap.size ≤ b := by
    intro b hb
    rcases h3.out with h | h | ⟨b2, hb2, hlt⟩
    · rw [h] at hb; cases hb
    · rw [h] at hb; cases hb
    · rw [hb2] at hb; cases hb; omega
  have hlt2 : w.heap.size + 1 < w2.heap.size := ltB h1a.out
  refine ⟨w.heap.size + 1, o', rfl, by omega, by rw [World.size_setCell]; exact hlt2, ⟨v', hfin, h2.out.setCell _ _ _ (fun e => by have := hb' _ e; omega)⟩, fun b hb => ⟨by have := hb' b hb; omega, by rw [World.size_setCell]; subst hb; exact h2.out.lt, by have := hb' b hb; omega⟩, ?_⟩
  have hc : Chg w W (fun _ => False) := Below.chg hB0.out
  exact ((hc.drew.trans (hch1.out.mono (fun _ _ h => h.elim))).trans (h4.out.mono (fun k _ h => .inr (h.elim (fun h => by omega) (fun h => by cases h))))).trans ((chg_setB w2 (w.heap.size + 1) 1 _).mono (fun k _ h => .inr (by omega)))
end Go.Proofs.YtcoljeafgiemkaaGreatDoor

namespace Go.Proofs.YtcoljeafgiemkaaGreatDoor
open Go Go.RowKit

/-- What a block holds: k 0 a decimal, 1 an apd.BigInt, 2 a big.Int, 3 a row of the table of digits, 4 what is only read. -/
structure It where
  k : Nat
  f : Int
  n : Bool
  e : Int
  g : Bool
  N : Nat
  g2 : Bool
  N2 : Nat
  o : Obj

def noObj : Obj := .cells #[] 0 (0, 0)
def dec (f : Int) (n : Bool) (e : Int) (g : Bool) (N : Nat) : It := ⟨0, f, n, e, g, N, false, 0, noObj⟩
def big (g : Bool) (N : Nat) : It := ⟨1, 0, false, 0, g, N, false, 0, noObj⟩
def int (g : Bool) (N : Nat) : It := ⟨2, 0, false, 0, g, N, false, 0, noObj⟩
def tv (d : Int) (g : Bool) (N : Nat) (g2 : Bool) (N2 : Nat) : It := ⟨3, d, false, 0, g, N, g2, N2, noObj⟩
def raw (o : Obj) : It := ⟨4, 0, false, 0, false, 0, false, 0, o⟩

/-- The number at a place of a block. -/
def It.num (it : It) (o : Nat) : Option (Bool × Nat) :=
  match it.k, o with
  | 0, 3 => some (it.g, it.N)
  | 1, 0 => some (it.g, it.N)
  | 2, 0 => some (it.g, it.N)
  | 3, 1 => some (it.g, it.N)
  | 3, 4 => some (it.g2, it.N2)
  | _, _ => none
def It.put (it : It) (o : Nat) (g : Bool) (N : Nat) : It :=
  match it.k, o with
  | 3, 4 => { it with g2 := g, N2 := N }
  | _, _ => { it with g := g, N := N }
def It.ty (it : It) : TypeId := match it.k with
  | 0 => 75
  | 1 => 73
  | 2 => 71
  | _ => 170
def It.cells (it : It) (v : Nat → Value) : Array Value := match it.k with
  | 0 => #[.int .i8 it.f, .bool it.n, .int .i32 it.e, .bool it.g, v 3, .bool false]
  | 1 => #[.bool it.g, v 0, .bool false]
  | 2 => #[.bool it.g, v 0]
  | _ => #[.int .i64 it.f, .bool it.g, v 1, .bool false, .bool it.g2, v 4, .bool false]
def It.holds (it : It) (w : World) (b : Nat) (s : Nat → Option Nat) : Prop :=
  (it.k < 4 ∧ ∃ v : Nat → Value, w.heap[b]? = some (.cells (it.cells v) it.ty (0, 0)) ∧ ∀ o g N, it.num o = some (g, N) → IsNat w (v o) N (s o)) ∨ (4 ≤ it.k ∧ w.heap[b]? = some it.o)

theorem It.num_cases {it : It} {o : Nat} {p : Bool × Nat} (h : it.num o = some p) :
    (it.k = 0 ∧ o = 3 ∧ p = (it.g, it.N)) ∨ (it.k = 1 ∧ o = 0 ∧ p = (it.g, it.N)) ∨ (it.k = 2 ∧ o = 0 ∧ p = (it.g, it.N)) ∨ (it.k = 3 ∧ o = 1 ∧ p = (it.g, it.N)) ∨ (it.k = 3 ∧ o = 4 ∧ p = (it.g2, it.N2)) := by
  unfold It.num at h
  split at h <;> simp_all
theorem It.put_k (it : It) (o : Nat) (g : Bool) (N : Nat) : (it.put o g N).k = it.k := by
  unfold It.put; split <;> rfl
theorem It.put_ty (it : It) (o : Nat) (g : Bool) (N : Nat) : (it.put o g N).ty = it.ty := by
  unfold It.ty; rw [It.put_k]
theorem It.num_put {it : It} {o : Nat} {p : Bool × Nat} (h : it.num o = some p) (g : Bool) (N : Nat) : (it.put o g N).num o = some (g, N) := by
  obtain ⟨k, f, n, e, g1, N1, g2, N2, ob⟩ := it
  rcases It.num_cases h with ⟨hk, rfl, _⟩ | ⟨hk, rfl, _⟩ | ⟨hk, rfl, _⟩ | ⟨hk, rfl, _⟩ | ⟨hk, rfl, _⟩ <;> (simp only at hk; subst hk; rfl)
theorem It.num_put_ne {it : It} {o o' : Nat} {p : Bool × Nat} (h : it.num o = some p) (g : Bool) (N : Nat) (hne : o' ≠ o) : (it.put o g N).num o' = it.num o' := by
  obtain ⟨k, f, n, e, g1, N1, g2, N2, ob⟩ := it
  rcases It.num_cases h with ⟨hk, rfl, _⟩ | ⟨hk, rfl, _⟩ | ⟨hk, rfl, _⟩ | ⟨hk, rfl, _⟩ | ⟨hk, rfl, _⟩ <;> (simp only at hk; subst hk; unfold It.put It.num; simp only; split <;> first | rfl | simp_all | omega)
theorem It.put_put {it : It} {o : Nat} {p : Bool × Nat} (h : it.num o = some p) (g g' : Bool) (N N' : Nat) : (it.put o g N).put o g' N' = it.put o g' N' := by
  obtain ⟨k, f, n, e, g1, N1, g2, N2, ob⟩ := it
  rcases It.num_cases h with ⟨hk, rfl, _⟩ | ⟨hk, rfl, _⟩ | ⟨hk, rfl, _⟩ | ⟨hk, rfl, _⟩ | ⟨hk, rfl, _⟩ <;> (simp only at hk; subst hk; rfl)
theorem It.put_self {it : It} {o : Nat} {g : Bool} {N : Nat} (h : it.num o = some (g, N)) : it.put o g N = it := by
  obtain ⟨k, f, n, e, g1, N1, g2, N2, ob⟩ := it
  rcases It.num_cases h with ⟨hk, rfl, hp⟩ | ⟨hk, rfl, hp⟩ | ⟨hk, rfl, hp⟩ | ⟨hk, rfl, hp⟩ | ⟨hk, rfl, hp⟩ <;> (simp only at hk; subst hk; cases hp; rfl)
theorem It.cells_at {it : It} {o : Nat} {g : Bool} {N : Nat} (h : it.num o = some (g, N)) (v : Nat → Value) : (it.cells v)[o]? = some (.bool g) ∧ (it.cells v)[o + 1]? = some (v o) ∧ (it.k = 2 ∨ (it.cells v)[o + 2]? = some (.bool false)) := by
  obtain ⟨k, f, n, e, g1, N1, g2, N2, ob⟩ := it
  rcases It.num_cases h with ⟨hk, rfl, hp⟩ | ⟨hk, rfl, hp⟩ | ⟨hk, rfl, hp⟩ | ⟨hk, rfl, hp⟩ | ⟨hk, rfl, hp⟩ <;> (simp only at hk; subst hk; cases hp; first | exact ⟨rfl, rfl, .inr rfl⟩ | exact ⟨rfl, rfl, .inl rfl⟩)
/-- A store of the words. -/
theorem It.cells_abs {it : It} {o : Nat} {g : Bool} {N : Nat} (h : it.num o = some (g, N)) (v : Nat → Value) (x : Value) (N' : Nat) : (it.cells v).setIfInBounds (o + 1) x = (it.put o g N').cells (fun k => if k = o then x else v k) := by
  obtain ⟨k, f, n, e, g1, N1, g2, N2, ob⟩ := it
  rcases It.num_cases h with ⟨hk, rfl, hp⟩ | ⟨hk, rfl, hp⟩ | ⟨hk, rfl, hp⟩ | ⟨hk, rfl, hp⟩ | ⟨hk, rfl, hp⟩ <;> (simp only at hk; subst hk; cases hp; rfl)
theorem It.cells_neg {it : It} {o : Nat} {g : Bool} {N : Nat} (h : it.num o = some (g, N)) (v : Nat → Value) (g' : Bool) : (it.cells v).setIfInBounds o (.bool g') = (it.put o g' N).cells v := by
  obtain ⟨k, f, n, e, g1, N1, g2, N2, ob⟩ := it
  rcases It.num_cases h with ⟨hk, rfl, hp⟩ | ⟨hk, rfl, hp⟩ | ⟨hk, rfl, hp⟩ | ⟨hk, rfl, hp⟩ | ⟨hk, rfl, hp⟩ <;> (simp only at hk; subst hk; cases hp; rfl)
theorem It.cells_minus {it : It} {o : Nat} {g : Bool} {N : Nat} (h : it.num o = some (g, N)) (hk : it.k ≠ 2) (v : Nat → Value) : (it.cells v).setIfInBounds (o + 2) (.bool false) = it.cells v := by
  obtain ⟨k, f, n, e, g1, N1, g2, N2, ob⟩ := it
  simp only at hk
  rcases It.num_cases h with ⟨hk, rfl, hp⟩ | ⟨hk, rfl, hp⟩ | ⟨hk, rfl, hp⟩ | ⟨hk, rfl, hp⟩ | ⟨hk, rfl, hp⟩ <;> (simp only at hk; subst hk; cases hp; first | rfl | omega)
theorem It.ty_ne (it : It) : it.ty ≠ 154 := by
  unfold It.ty; split <;> decide

abbrev Sg := Nat → Option It
def upd (σ : Sg) (b : Nat) (it : It) : Sg := fun k => if k = b then some it else σ k
theorem upd_eq (σ : Sg) (b : Nat) (it : It) : upd σ b it b = some it := by unfold upd; rw [if_pos rfl]
theorem upd_ne (σ : Sg) {b k : Nat} (it : It) (h : k ≠ b) : upd σ b it k = σ k := by unfold upd; rw [if_neg h]
theorem upd_upd (σ : Sg) (b : Nat) (it it' : It) : upd (upd σ b it) b it' = upd σ b it' := by
  funext k; unfold upd; split <;> rfl
theorem upd_self {σ : Sg} {b : Nat} {it : It} (h : σ b = some it) : upd σ b it = σ := by
  funext k; unfold upd; split
  · next e => rw [e, h]
  · rfl
theorem upd_swap (σ : Sg) {b c : Nat} (it jt : It) (h : b ≠ c) : upd (upd σ b it) c jt = upd (upd σ c jt) b it := by
  funext k; unfold upd; split
  · next e => rw [if_neg (by omega)]
  · rfl
/-- A number at a place. -/
def Num (σ : Sg) (b o : Nat) (g : Bool) (N : Nat) : Prop := ∃ it, σ b = some it ∧ it.num o = some (g, N)
def put (σ : Sg) (b o : Nat) (g : Bool) (N : Nat) : Sg := fun k => if k = b then (σ b).map (fun it => it.put o g N) else σ k
theorem put_upd {σ : Sg} {b : Nat} {it : It} (h : σ b = some it) (o : Nat) (g : Bool) (N : Nat) : put σ b o g N = upd σ b (it.put o g N) := by
  funext k; unfold put upd; split
  · rw [h]; rfl
  · rfl
theorem put_dec {σ : Sg} {b : Nat} {f e : Int} {n g : Bool} {N : Nat} (h : σ b = some (dec f n e g N)) (g' : Bool) (N' : Nat) : put σ b 3 g' N' = upd σ b (dec f n e g' N') := put_upd h 3 g' N'
theorem put_big {σ : Sg} {b : Nat} {g : Bool} {N : Nat} (h : σ b = some (big g N)) (g' : Bool) (N' : Nat) : put σ b 0 g' N' = upd σ b (big g' N') := put_upd h 0 g' N'
theorem put_int {σ : Sg} {b : Nat} {g : Bool} {N : Nat} (h : σ b = some (int g N)) (g' : Bool) (N' : Nat) : put σ b 0 g' N' = upd σ b (int g' N') := put_upd h 0 g' N'
theorem num_dec {σ : Sg} {b : Nat} {f e : Int} {n g : Bool} {N : Nat} (h : σ b = some (dec f n e g N)) : Num σ b 3 g N := ⟨_, h, rfl⟩
theorem num_big {σ : Sg} {b : Nat} {g : Bool} {N : Nat} (h : σ b = some (big g N)) : Num σ b 0 g N := ⟨_, h, rfl⟩
theorem num_int {σ : Sg} {b : Nat} {g : Bool} {N : Nat} (h : σ b = some (int g N)) : Num σ b 0 g N := ⟨_, h, rfl⟩
theorem Num.put {σ : Sg} {b o : Nat} {g : Bool} {N : Nat} (h : Num σ b o g N) (g' : Bool) (N' : Nat) : Num (put σ b o g' N') b o g' N' := by
  obtain ⟨it, h1, h2⟩ := h
  rw [put_upd h1]
  exact ⟨_, upd_eq _ _ _, It.num_put h2 _ _⟩
theorem Num.put_ne {σ : Sg} {b o c p : Nat} {g g1 : Bool} {N N1 : Nat} (h : Num σ b o g N) (hc : Num σ c p g1 N1) (hne : ¬ (b = c ∧ o = p)) (g' : Bool) (N' : Nat) : Num (Go.Proofs.YtcoljeafgiemkaaGreatDoor.put σ c p g' N') b o g N := by
  obtain ⟨it, h1, h2⟩ := h
  obtain ⟨jt, h3, h4⟩ := hc
  rw [put_upd h3]
  by_cases e : b = c
  · subst e
    rw [h1] at h3
    cases h3
    exact ⟨_, upd_eq _ _ _, by rw [It.num_put_ne h4 _ _ (fun e => hne ⟨rfl, e⟩)]; exact h2⟩
  · exact ⟨it, by rw [upd_ne _ _ e]; exact h1, h2⟩
theorem Num.uniq {σ : Sg} {b o : Nat} {g g' : Bool} {N N' : Nat} (h : Num σ b o g N) (h' : Num σ b o g' N') : g = g' ∧ N = N' := by
  obtain ⟨it, h1, h2⟩ := h
  obtain ⟨jt, h3, h4⟩ := h'
  rw [h1] at h3; cases h3
  rw [h2] at h4; cases h4
  exact ⟨rfl, rfl⟩
/-- Signs stay where words are stored. -/
theorem Num.sign {σ : Sg} {b o c p : Nat} {g g1 : Bool} {N N1 : Nat} (h : Num σ b o g N) (hc : Num σ c p g1 N1) (N' : Nat) : ∃ N2, Num (Go.Proofs.YtcoljeafgiemkaaGreatDoor.put σ c p g1 N') b o g N2 := by
  by_cases e : b = c ∧ o = p
  · obtain ⟨rfl, rfl⟩ := e
    obtain ⟨rfl, rfl⟩ := h.uniq hc
    exact ⟨_, h.put _ _⟩
  · exact ⟨N, h.put_ne hc e _ _⟩
theorem put_put {σ : Sg} {b o : Nat} {g : Bool} {N : Nat} (h : Num σ b o g N) (g1 g2 : Bool) (N1 N2 : Nat) : put (put σ b o g1 N1) b o g2 N2 = put σ b o g2 N2 := by
  obtain ⟨it, h1, h2⟩ := h
  rw [put_upd h1, put_upd (upd_eq _ _ _), upd_upd, It.put_put h2, put_upd h1]
theorem put_self {σ : Sg} {b o : Nat} {g : Bool} {N : Nat} (h : Num σ b o g N) : put σ b o g N = σ := by
  obtain ⟨it, h1, h2⟩ := h
  rw [put_upd h1, It.put_self h2, upd_self h1]

/-- Memory since w0 holds σ; the words of each number lie in a block of their own. -/
structure HoldS (w0 w : World) (σ : Sg) (st : Nat → Nat → Option Nat) : Prop where
  chg : Chg w0 w (fun _ => False)
  glob : Glob w0
  it : ∀ b it, σ b = some it → w0.heap.size ≤ b ∧ it.holds w b (st b)
  sto : ∀ b o g N k, Num σ b o g N → st b o = some k → w0.heap.size ≤ k ∧ σ k = none
  inj : ∀ b o g N b' o' g' N' k, Num σ b o g N → Num σ b' o' g' N' → st b o = some k → st b' o' = some k → b = b' ∧ o = o'
def Hold (w0 w : World) (σ : Sg) : Prop := ∃ st, HoldS w0 w σ st

theorem It.holds.lt {it : It} {w : World} {b : Nat} {s : Nat → Option Nat} (h : it.holds w b s) : b < w.heap.size := by
  rcases h with ⟨_, v, h, _⟩ | ⟨_, h⟩ <;> exact ltB h
theorem It.num_lt {it : It} {o : Nat} {p : Bool × Nat} (h : it.num o = some p) : it.k < 4 := by
  rcases It.num_cases h with h | h | h | h | h <;> omega
theorem It.holds.num {it : It} {w : World} {b o : Nat} {g : Bool} {N : Nat} {s : Nat → Option Nat} (h : it.holds w b s) (hn : it.num o = some (g, N)) : ∃ v : Nat → Value, w.heap[b]? = some (.cells (it.cells v) it.ty (0, 0)) ∧ (∀ o g N, it.num o = some (g, N) → IsNat w (v o) N (s o)) := by
  have := It.num_lt hn
  rcases h with ⟨_, v, h⟩ | ⟨h, _⟩
  · exact ⟨v, h⟩
  · omega
theorem It.holds.chg {it : It} {w w' : World} {b : Nat} {s : Nat → Option Nat} {S : Nat → Prop} (h : it.holds w b s) (hc : Chg w w' S) (hb : ¬ S b) (hs : ∀ o g N k, it.num o = some (g, N) → s o = some k → ¬ S k) : it.holds w' b s := by
  rcases h with ⟨h1, v, h2, h3⟩ | ⟨h1, h2⟩
  · exact .inl ⟨h1, v, hc.heapB h2 hb, fun o g N ho => (h3 o g N ho).chg hc (fun k hk => hs o g N k ho hk)⟩
  · exact .inr ⟨h1, hc.heapB h2 hb⟩
theorem HoldS.lt {w0 w : World} {σ : Sg} {st : Nat → Nat → Option Nat} (h : HoldS w0 w σ st) {b : Nat} {it : It} (hb : σ b = some it) : b < w.heap.size := (h.it b it hb).2.lt
theorem HoldS.stlt {w0 w : World} {σ : Sg} {st : Nat → Nat → Option Nat} (h : HoldS w0 w σ st) {b o k : Nat} {g : Bool} {N : Nat} (hn : Num σ b o g N) (hk : st b o = some k) : k < w.heap.size := by
  obtain ⟨it, h1, h2⟩ := hn
  obtain ⟨v, _, hv⟩ := (h.it b it h1).2.num h2
  have := hv o g N h2
  rw [hk] at this
  exact this.lt

/-- What a place holds turns, and nothing else. -/
theorem HoldS.turn {w0 w w' : World} {σ : Sg} {st : Nat → Nat → Option Nat} (h : HoldS w0 w σ st) {b o : Nat} {g g' : Bool} {N N' : Nat} {s' : Option Nat} {it : It} (hb : σ b = some it) (hn : it.num o = some (g, N))
    (hc : Chg w w' (fun k => k = b ∨ some k = st b o)) (hh : ∃ v : Nat → Value, w'.heap[b]? = some (.cells ((it.put o g' N').cells v) it.ty (0, 0)) ∧ IsNat w' (v o) N' s' ∧ ∀ o1 g1 N1, o1 ≠ o → it.num o1 = some (g1, N1) → IsNat w' (v o1) N1 (st b o1))
    (hs : s' = st b o ∨ s' = none ∨ ∃ k, s' = some k ∧ w.heap.size ≤ k) : Hold w0 w' (put σ b o g' N') := by
  have hN : Num σ b o g N := ⟨it, hb, hn⟩
  have hlt := h.lt hb
  have hcs := h.chg.size
  refine ⟨fun c p => if c = b ∧ p = o then s' else st c p, ?_⟩
  -- a number of the new state
  have old : ∀ c p g1 N1, Num (put σ b o g' N') c p g1 N1 → ¬ (c = b ∧ p = o) → Num σ c p g1 N1 := by
    rintro c p g1 N1 ⟨jt, hj, hjn⟩ hne
    rw [put_upd hb] at hj
    by_cases e : c = b
    · subst e
      rw [upd_eq] at hj
      cases hj
      rw [It.num_put_ne hn _ _ (fun e => hne ⟨rfl, e⟩)] at hjn
      exact ⟨it, hb, hjn⟩
    · rw [upd_ne _ _ e] at hj
      exact ⟨jt, hj, hjn⟩
  have none_of : ∀ k, σ k = none → put σ b o g' N' k = none := by
    intro k hk
    rw [put_upd hb, upd_ne _ _ (by rintro rfl; rw [hb] at hk; cases hk)]
    exact hk
  have fresh : ∀ k, w.heap.size ≤ k → σ k = none := by
    intro k hk
    cases hj : σ k with
    | none => rfl
    | some jt => have := h.lt hj; omega
  refine ⟨h.chg.trans (hc.mono (fun k hk hS => .inr ?_)), h.glob, ?_, ?_, ?_⟩
  · rcases hS with rfl | hS
    · exact (h.it _ _ hb).1
    · exact (h.sto b o g N k hN hS.symm).1
  · intro c jt hj
    rw [put_upd hb] at hj
    by_cases e : c = b
    · subst e
      rw [upd_eq] at hj
      cases hj
      refine ⟨(h.it _ _ hb).1, .inl ⟨by rw [It.put_k]; exact It.num_lt hn, ?_⟩⟩
      obtain ⟨v, h1, h2, h3⟩ := hh
      refine ⟨v, by rw [It.put_ty]; exact h1, fun o1 g1 N1 ho1 => ?_⟩
      by_cases e1 : o1 = o
      · subst e1
        rw [It.num_put hn] at ho1
        cases ho1
        simp only [and_self, if_true]
        exact h2
      · rw [It.num_put_ne hn _ _ e1] at ho1
        simp only [e1, and_false, if_false]
        exact h3 o1 g1 N1 e1 ho1
    · rw [upd_ne _ _ e] at hj
      have hcd : (fun p => if c = b ∧ p = o then s' else st c p) = st c := by funext p; rw [if_neg (fun h => e h.1)]
      rw [hcd]
      refine ⟨(h.it _ _ hj).1, (h.it _ _ hj).2.chg hc ?_ ?_⟩
      · rintro (h1 | h1)
        · exact e h1
        · have := (h.sto b o g N c hN h1.symm).2
          rw [hj] at this; cases this
      · rintro p g1 N1 k hp hk (h1 | h1)
        · subst h1
          have := (h.sto c p g1 N1 k ⟨jt, hj, hp⟩ hk).2
          rw [hb] at this; cases this
        · exact e (h.inj c p g1 N1 b o g N k ⟨jt, hj, hp⟩ hN hk h1.symm).1
  · intro c p g1 N1 k hcn hk
    by_cases e : c = b ∧ p = o
    · rw [if_pos e] at hk
      rcases hs with h1 | h1 | ⟨k2, h1, h2⟩
      · rw [h1] at hk
        exact ⟨(h.sto b o g N k hN hk).1, none_of k (h.sto b o g N k hN hk).2⟩
      · rw [h1] at hk; cases hk
      · rw [h1] at hk; cases hk
        exact ⟨by omega, none_of _ (fresh _ h2)⟩
    · rw [if_neg e] at hk
      have h1 := h.sto c p g1 N1 k (old c p g1 N1 hcn e) hk
      exact ⟨h1.1, none_of k h1.2⟩
  · intro c p g1 N1 c' p' g2 N2 k h1 h2 hk hk'
    by_cases e : c = b ∧ p = o
    · by_cases e' : c' = b ∧ p' = o
      · exact ⟨e.1.trans e'.1.symm, e.2.trans e'.2.symm⟩
      · rw [if_pos e] at hk
        rw [if_neg e'] at hk'
        have h3 := old c' p' g2 N2 h2 e'
        rcases hs with h4 | h4 | ⟨k2, h4, h5⟩
        · rw [h4] at hk
          have := h.inj b o g N c' p' g2 N2 k hN h3 hk hk'
          exact absurd ⟨this.1.symm, this.2.symm⟩ e'
        · rw [h4] at hk; cases hk
        · rw [h4] at hk; cases hk
          have := h.stlt h3 hk'
          omega
    · rw [if_neg e] at hk
      have h3 := old c p g1 N1 h1 e
      by_cases e' : c' = b ∧ p' = o
      · rw [if_pos e'] at hk'
        rcases hs with h4 | h4 | ⟨k2, h4, h5⟩
        · rw [h4] at hk'
          have := h.inj c p g1 N1 b o g N k h3 hN hk hk'
          exact absurd this e
        · rw [h4] at hk'; cases hk'
        · rw [h4] at hk'; cases hk'
          have := h.stlt h3 hk
          omega
      · rw [if_neg e'] at hk'
        exact h.inj c p g1 N1 c' p' g2 N2 k h3 (old c' p' g2 N2 h2 e') hk hk'

theorem Hold.keep {w0 w w' : World} {σ : Sg} (h : Hold w0 w σ) (hc : Chg w w' (fun _ => False)) : Hold w0 w' σ := by
  obtain ⟨st, h⟩ := h
  exact ⟨st, h.chg.trans (hc.mono (fun _ _ h => h.elim)), h.glob, fun b it hb => ⟨(h.it b it hb).1, (h.it b it hb).2.chg hc (fun h => h) (fun _ _ _ _ _ _ h => h)⟩, h.sto, h.inj⟩
theorem Hold.drew {w0 w : World} {σ : Sg} (h : Hold w0 w σ) : Hold w0 w.drew σ := h.keep (Chg.refl w _).drew
theorem Hold.drewN {w0 w : World} {σ : Sg} (h : Hold w0 w σ) (n : Nat) : Hold w0 (w.drewN n) σ := h.keep ((Chg.refl w _).drewN n)
theorem Hold.start {w : World} (hG : Glob w) : Hold w w (fun _ => none) :=
  ⟨fun _ _ => none, Chg.refl w _, hG, fun _ _ h => (by cases h), (fun _ _ _ _ _ ⟨_, h, _⟩ => by cases h), (fun _ _ _ _ _ _ _ _ _ ⟨_, h, _⟩ => by cases h)⟩
theorem Hold.sub {w0 w : World} {σ τ : Sg} (h : Hold w0 w σ) (hs : ∀ b it, τ b = some it → σ b = some it) : Hold w0 w τ := by
  obtain ⟨st, h⟩ := h
  have hn : ∀ b o g N, Num τ b o g N → Num σ b o g N := fun b o g N ⟨it, h1, h2⟩ => ⟨it, hs b it h1, h2⟩
  refine ⟨st, h.chg, h.glob, fun b it hb => h.it b it (hs b it hb), fun b o g N k hb hk => ?_, fun b o g N b' o' g' N' k h1 h2 => h.inj b o g N b' o' g' N' k (hn _ _ _ _ h1) (hn _ _ _ _ h2)⟩
  have h1 := h.sto b o g N k (hn _ _ _ _ hb) hk
  refine ⟨h1.1, ?_⟩
  cases hk2 : τ k with
  | none => rfl
  | some jt => rw [hs k jt hk2] at h1; cases h1.2
theorem Hold.chg {w0 w : World} {σ : Sg} (h : Hold w0 w σ) : Chg w0 w (fun _ => False) := by
  obtain ⟨st, h⟩ := h; exact h.chg
theorem Hold.glob {w0 w : World} {σ : Sg} (h : Hold w0 w σ) : Glob w := by
  obtain ⟨st, h⟩ := h; exact h.glob.chg h.chg (fun _ _ h => h)
theorem Hold.lt {w0 w : World} {σ : Sg} (h : Hold w0 w σ) {b : Nat} {it : It} (hb : σ b = some it) : w0.heap.size ≤ b ∧ b < w.heap.size := by
  obtain ⟨st, h⟩ := h; exact ⟨(h.it b it hb).1, h.lt hb⟩
theorem Hold.fresh {w0 w : World} {σ : Sg} (h : Hold w0 w σ) {k : Nat} (hk : w.heap.size ≤ k) : σ k = none := by
  cases hj : σ k with
  | none => rfl
  | some jt => have := (h.lt hj).2; omega
/-- A new block comes in. -/
theorem Hold.add {w0 w w' : World} {σ : Sg} (h : Hold w0 w σ) (hc : Chg w w' (fun _ => False)) {k : Nat} {it : It} {s : Nat → Option Nat} (hk : w.heap.size ≤ k) (hh : it.holds w' k s)
    (hs : ∀ o g N b, it.num o = some (g, N) → s o = some b → w.heap.size ≤ b ∧ b ≠ k) (hi : ∀ o g N o' g' N' b, it.num o = some (g, N) → it.num o' = some (g', N') → s o = some b → s o' = some b → o = o') : Hold w0 w' (upd σ k it) := by
  have hf := h.fresh hk
  have hfr := fun b hb => h.fresh (k := b) hb
  obtain ⟨st, h⟩ := h
  have hcs := h.chg.size
  refine ⟨fun c p => if c = k then s p else st c p, h.chg.trans (hc.mono (fun _ _ h => h.elim)), h.glob, ?_, ?_, ?_⟩
  · intro b jt hb
    by_cases e : b = k
    · subst e
      rw [upd_eq] at hb; cases hb
      refine ⟨by omega, ?_⟩
      rw [show (fun p => if b = b then s p else st b p) = s by funext p; rw [if_pos rfl]]
      exact hh
    · rw [upd_ne _ _ e] at hb
      rw [show (fun p => if b = k then s p else st b p) = st b by funext p; rw [if_neg e]]
      exact ⟨(h.it b jt hb).1, (h.it b jt hb).2.chg hc (fun h => h) (fun _ _ _ _ _ _ h => h)⟩
  · rintro b o g N c ⟨jt, hb, hn⟩ hst
    by_cases e : b = k
    · subst e
      rw [upd_eq] at hb; cases hb
      rw [if_pos rfl] at hst
      have h1 := hs o g N c hn hst
      exact ⟨by omega, by rw [upd_ne _ _ h1.2]; exact hfr c h1.1⟩
    · rw [upd_ne _ _ e] at hb
      rw [if_neg e] at hst
      have h1 := h.sto b o g N c ⟨jt, hb, hn⟩ hst
      have h2 := h.stlt ⟨jt, hb, hn⟩ hst
      exact ⟨h1.1, by rw [upd_ne _ _ (by omega)]; exact h1.2⟩
  · rintro b o g N b' o' g' N' c ⟨jt, hb, hn⟩ ⟨jt', hb', hn'⟩ hst hst'
    by_cases e : b = k
    · subst e
      rw [upd_eq] at hb; cases hb
      rw [if_pos rfl] at hst
      have h1 := hs o g N c hn hst
      by_cases e' : b' = b
      · subst e'
        rw [upd_eq] at hb'; cases hb'
        rw [if_pos rfl] at hst'
        exact ⟨rfl, hi _ _ _ _ _ _ _ hn hn' hst hst'⟩
      · rw [upd_ne _ _ e'] at hb'
        rw [if_neg e'] at hst'
        have := h.stlt ⟨jt', hb', hn'⟩ hst'
        omega
    · rw [upd_ne _ _ e] at hb
      rw [if_neg e] at hst
      by_cases e' : b' = k
      · subst e'
        rw [upd_eq] at hb'; cases hb'
        rw [if_pos rfl] at hst'
        have h1 := hs o' g' N' c hn' hst'
        have := h.stlt ⟨jt, hb, hn⟩ hst
        omega
      · rw [upd_ne _ _ e'] at hb'
        rw [if_neg e'] at hst'
        exact h.inj b o g N b' o' g' N' c ⟨jt, hb, hn⟩ ⟨jt', hb', hn'⟩ hst hst'

/-- A place laid open: its cells, its words, and what a new number there makes of it. -/
theorem Hold.opened {w0 w : World} {σ : Sg} (h : Hold w0 w σ) {b o : Nat} {g : Bool} {N : Nat} (hn : Num σ b o g N) :
    ∃ v s cs T, w.heap[b]? = some (.cells cs T (0, 0)) ∧ T ≠ 154 ∧ cs[o]? = some (.bool g) ∧ cs[o + 1]? = some v ∧ IsNat w v N s ∧ (∀ k, s = some k → k ≠ b ∧ w0.heap.size ≤ k ∧ ∀ c it, σ c = some it → k ≠ c) ∧
      (∀ w' v' N' s', Chg w w' (fun k => some k = s) → IsNat w' v' N' s' → (s' = s ∨ s' = none ∨ ∃ k, s' = some k ∧ w.heap.size ≤ k) → Hold w0 (w'.setCell ⟨b, o + 1, none⟩ v') (put σ b o g N')) ∧
      (∀ g', Hold w0 (w.setCell ⟨b, o, none⟩ (.bool g')) (put σ b o g' N)) := by
  obtain ⟨st, h⟩ := h
  have hN := hn
  obtain ⟨it, hb, hio⟩ := hn
  obtain ⟨v, h1, h2⟩ := (h.it b it hb).2.num hio
  obtain ⟨c1, c2, _⟩ := It.cells_at hio v
  have hsb : ∀ k, st b o = some k → k ≠ b ∧ w0.heap.size ≤ k ∧ ∀ c it, σ c = some it → k ≠ c := by
    intro k hk
    have hno := (h.sto b o g N k hN hk)
    exact ⟨(by rintro rfl; rw [hb] at hno; cases hno.2), hno.1, (by rintro c it hc rfl; rw [hc] at hno; cases hno.2)⟩
  have hsep : ∀ o1 g1 N1, o1 ≠ o → it.num o1 = some (g1, N1) → ∀ k, st b o1 = some k → k ≠ b ∧ some k ≠ st b o := by
    intro o1 g1 N1 hne hno k hk
    refine ⟨?_, ?_⟩
    · rintro rfl
      have := (h.sto _ o1 g1 N1 _ ⟨it, hb, hno⟩ hk).2
      rw [hb] at this; cases this
    · intro e
      exact hne (h.inj b o1 g1 N1 b o g N k ⟨it, hb, hno⟩ hN hk e.symm).2
  refine ⟨v o, st b o, _, _, h1, It.ty_ne it, c1, c2, h2 o g N hio, hsb, ?_, ?_⟩
  · intro w' v' N' s' hc hv' hs'
    have hbk : w'.heap[b]? = some (.cells (it.cells v) it.ty (0, 0)) := hc.heapB h1 (fun e => (hsb b e.symm).1 rfl)
    have hbs : s' ≠ some b := by
      intro e
      rcases hs' with h3 | h3 | ⟨k, h3, h4⟩
      · exact (hsb b (h3 ▸ e)).1 rfl
      · rw [h3] at e; cases e
      · rw [h3] at e; cases e; have := ltB h1; omega
    refine h.turn hb hio ((hc.mono (fun _ _ h => .inr h)).trans ((chg_setB w' b (o + 1) v').mono (fun _ _ h => .inl (.inl h)))) ⟨fun k => if k = o then v' else v k, ?_, ?_, ?_⟩ hs'
    · rw [← It.cells_abs hio v v' N']
      exact setB hbk
    · simp only [if_true]
      exact hv'.setCell b (o + 1) v' hbs
    · intro o1 g1 N1 hne hno
      simp only [if_neg hne]
      refine ((h2 o1 g1 N1 hno).chg hc (fun k hk e => (hsep o1 g1 N1 hne hno k hk).2 e)).setCell b (o + 1) v' (fun e => (hsep o1 g1 N1 hne hno b e).1 rfl)
  · intro g'
    refine h.turn (s' := st b o) hb hio ((chg_setB w b o (.bool g')).mono (fun _ _ h => .inl h)) ⟨v, ?_, ?_, ?_⟩ (.inl rfl)
    · rw [← It.cells_neg hio v g']
      exact setB h1
    · exact (h2 o g N hio).setCell b o _ (fun e => (hsb b e).1 rfl)
    · intro o1 g1 N1 hne hno
      exact (h2 o1 g1 N1 hno).setCell b o _ (fun e => (hsep o1 g1 N1 hne hno b e).1 rfl)

/-- A write that leaves a block's cells as they are. -/
theorem Hold.same {w0 w : World} {σ : Sg} (h : Hold w0 w σ) {b i : Nat} {v : Value} {cs : Array Value} {T : TypeId} (hb : w.heap[b]? = some (.cells cs T (0, 0))) (hv : cs.setIfInBounds i v = cs) : Hold w0 (w.setCell ⟨b, i, none⟩ v) σ := by
  have hc : Chg w (w.setCell ⟨b, i, none⟩ v) (fun _ => False) := by
    refine ⟨rfl, rfl, rfl, by rw [World.size_setCell]; exact Nat.le_refl _, fun k _ _ => ?_⟩
    by_cases e : k = b
    · subst e
      rw [hb, setB hb, hv]
    · exact Below.heap_setCell _ _ _ _ e
  exact h.keep hc
theorem Hold.minus {w0 w : World} {σ : Sg} (h : Hold w0 w σ) {b o : Nat} {it : It} {g : Bool} {N : Nat} (hb : σ b = some it) (hn : it.num o = some (g, N)) (hk : it.k ≠ 2) : w.frozen? ⟨b, o + 2, none⟩ = false ∧ w.cell? ⟨b, o + 2, none⟩ = some (.bool false) ∧ Hold w0 (w.setCell ⟨b, o + 2, none⟩ (.bool false)) σ := by
  have h' := h
  obtain ⟨st, h⟩ := h
  obtain ⟨v, h1, _⟩ := (h.it b it hb).2.num hn
  obtain ⟨_, _, h3⟩ := It.cells_at hn v
  rcases h3 with h3 | h3
  · exact absurd h3 hk
  · exact ⟨frozenB h1 _, cellB h1 h3, h'.same h1 (It.cells_minus hn hk v)⟩
/-- A decimal laid open. -/
theorem Hold.decAt {w0 w : World} {σ : Sg} (h : Hold w0 w σ) {b : Nat} {f e : Int} {n g : Bool} {N : Nat} (hb : σ b = some (dec f n e g N)) :
    ∃ v s, w.heap[b]? = some (.cells #[.int .i8 f, .bool n, .int .i32 e, .bool g, v, .bool false] 75 (0, 0)) ∧ IsNat w v N s := by
  obtain ⟨st, h⟩ := h
  obtain ⟨v, h1, h2⟩ := (h.it b _ hb).2.num (o := 3) (g := g) (N := N) rfl
  exact ⟨v 3, st b 3, h1, h2 3 g N rfl⟩
theorem Hold.c0 {w0 w : World} {σ : Sg} (h : Hold w0 w σ) {b : Nat} {f e : Int} {n g : Bool} {N : Nat} (hb : σ b = some (dec f n e g N)) : w.cell? ⟨b, 0, none⟩ = some (.int .i8 f) := by obtain ⟨v, s, h1, _⟩ := h.decAt hb; exact cellB h1 rfl
theorem Hold.c1 {w0 w : World} {σ : Sg} (h : Hold w0 w σ) {b : Nat} {f e : Int} {n g : Bool} {N : Nat} (hb : σ b = some (dec f n e g N)) : w.cell? ⟨b, 1, none⟩ = some (.bool n) := by obtain ⟨v, s, h1, _⟩ := h.decAt hb; exact cellB h1 rfl
theorem Hold.c2 {w0 w : World} {σ : Sg} (h : Hold w0 w σ) {b : Nat} {f e : Int} {n g : Bool} {N : Nat} (hb : σ b = some (dec f n e g N)) : w.cell? ⟨b, 2, none⟩ = some (.int .i32 e) := by obtain ⟨v, s, h1, _⟩ := h.decAt hb; exact cellB h1 rfl
theorem Hold.fz {w0 w : World} {σ : Sg} (h : Hold w0 w σ) {b : Nat} {f e : Int} {n g : Bool} {N : Nat} (hb : σ b = some (dec f n e g N)) (i : Nat) : w.frozen? ⟨b, i, none⟩ = false := by obtain ⟨v, s, h1, _⟩ := h.decAt hb; exact frozenB h1 i
theorem Hold.raw {w0 w : World} {σ : Sg} (h : Hold w0 w σ) {b : Nat} {o : Obj} (hb : σ b = some (raw o)) : w.heap[b]? = some o := by
  obtain ⟨st, h⟩ := h
  rcases (h.it b _ hb).2 with ⟨h1, _⟩ | ⟨_, h1⟩
  · exact absurd h1 (Nat.not_lt.2 (Nat.le_refl 4))
  · exact h1
/-- A field of a decimal is stored. -/
theorem Hold.setDec {w0 w : World} {σ : Sg} (h : Hold w0 w σ) {b i : Nat} {f e f' e' : Int} {n n' g : Bool} {N : Nat} {x : Value} (hb : σ b = some (dec f n e g N))
    (hx : ∀ v, (#[.int .i8 f, .bool n, .int .i32 e, .bool g, v, .bool false] : Array Value).setIfInBounds i x = #[.int .i8 f', .bool n', .int .i32 e', .bool g, v, .bool false]) : Hold w0 (w.setCell ⟨b, i, none⟩ x) (upd σ b (dec f' n' e' g N)) := by
  obtain ⟨st, h⟩ := h
  have hn : Num σ b 3 g N := num_dec hb
  obtain ⟨v, h1, h2⟩ := (h.it b _ hb).2.num (o := 3) (g := g) (N := N) rfl
  have hsz : (w.setCell ⟨b, i, none⟩ x).heap.size = w.heap.size := World.size_setCell _ _ _
  have hc := chg_setB w b i x
  have old : ∀ c p g1 N1, Num (upd σ b (dec f' n' e' g N)) c p g1 N1 → Num σ c p g1 N1 := by
    rintro c p g1 N1 ⟨jt, hj, hjn⟩
    by_cases e : c = b
    · subst e
      rw [upd_eq] at hj; cases hj
      refine ⟨_, hb, ?_⟩
      rcases It.num_cases hjn with ⟨_, rfl, hp⟩ | ⟨hk, _⟩ | ⟨hk, _⟩ | ⟨hk, _⟩ | ⟨hk, _⟩
      · exact hp ▸ rfl
      all_goals exact absurd hk (Nat.ne_of_beq_eq_false rfl)
    · rw [upd_ne _ _ e] at hj
      exact ⟨jt, hj, hjn⟩
  refine ⟨st, h.chg.trans (hc.mono (fun k _ e => .inr (by subst e; exact (h.it _ _ hb).1))), h.glob, ?_, ?_, ?_⟩
  · intro c jt hj
    by_cases e : c = b
    · subst e
      rw [upd_eq] at hj; cases hj
      refine ⟨(h.it _ _ hb).1, .inl ⟨Nat.le_of_ble_eq_true rfl, v, ?_, ?_⟩⟩
      · have h3 := setB (i := i) (v := x) h1
        rw [show (dec f n e g N).cells v = #[.int .i8 f, .bool n, .int .i32 e, .bool g, v 3, .bool false] from rfl, hx] at h3
        exact h3
      · intro o g1 N1 ho
        rcases It.num_cases ho with ⟨_, rfl, hp⟩ | ⟨hk, _⟩ | ⟨hk, _⟩ | ⟨hk, _⟩ | ⟨hk, _⟩
        · cases hp
          refine (h2 3 g N rfl).setCell c i x (fun e => ?_)
          have := (h.sto c 3 g N c hn e).2
          rw [hb] at this; cases this
        all_goals exact absurd hk (Nat.ne_of_beq_eq_false rfl)
    · rw [upd_ne _ _ e] at hj
      refine ⟨(h.it _ _ hj).1, (h.it _ _ hj).2.chg hc e ?_⟩
      rintro p g1 N1 k hp hk rfl
      have := (h.sto c p g1 N1 _ ⟨jt, hj, hp⟩ hk).2
      rw [hb] at this; cases this
  · intro c p g1 N1 k hcn hk
    have h3 := h.sto c p g1 N1 k (old _ _ _ _ hcn) hk
    exact ⟨h3.1, by rw [upd_ne _ _ (by rintro rfl; rw [hb] at h3; cases h3.2)]; exact h3.2⟩
  · intro c p g1 N1 c' p' g2 N2 k h3 h4 hk hk'
    exact h.inj c p g1 N1 c' p' g2 N2 k (old _ _ _ _ h3) (old _ _ _ _ h4) hk hk'
theorem Hold.setForm {w0 w : World} {σ : Sg} (h : Hold w0 w σ) {b : Nat} {f e : Int} {n g : Bool} {N : Nat} (hb : σ b = some (dec f n e g N)) (f' : Int) : Hold w0 (w.setCell ⟨b, 0, none⟩ (.int .i8 f')) (upd σ b (dec f' n e g N)) := h.setDec hb (fun _ => rfl)
theorem Hold.setSign {w0 w : World} {σ : Sg} (h : Hold w0 w σ) {b : Nat} {f e : Int} {n g : Bool} {N : Nat} (hb : σ b = some (dec f n e g N)) (n' : Bool) : Hold w0 (w.setCell ⟨b, 1, none⟩ (.bool n')) (upd σ b (dec f n' e g N)) := h.setDec hb (fun _ => rfl)
theorem Hold.setExp {w0 w : World} {σ : Sg} (h : Hold w0 w σ) {b : Nat} {f e : Int} {n g : Bool} {N : Nat} (hb : σ b = some (dec f n e g N)) (e' : Int) : Hold w0 (w.setCell ⟨b, 2, none⟩ (.int .i32 e')) (upd σ b (dec f n e' g N)) := h.setDec hb (fun _ => rfl)
/-- New blocks of numbers that are 0. -/
theorem Hold.newDec {w0 w : World} {σ : Sg} (h : Hold w0 w σ) (f e : Int) (n : Bool) : Hold w0 (w.alloc (.cells #[.int .i8 f, .bool n, .int .i32 e, .bool false, .slice none 0 0, .bool false] 75 (0, 0))) (upd σ w.heap.size (dec f n e false 0)) := by
  refine h.add (s := fun _ => none) ((Chg.refl w _).alloc _) (Nat.le_refl _) (.inl ⟨Nat.le_of_ble_eq_true rfl, fun _ => .slice none 0 0, allocB _ _, fun o g N ho => ?_⟩) (fun _ _ _ _ _ h => by cases h) (fun _ _ _ _ _ _ _ _ _ h => by cases h)
  rcases It.num_cases ho with ⟨_, rfl, hp⟩ | ⟨hk, _⟩ | ⟨hk, _⟩ | ⟨hk, _⟩ | ⟨hk, _⟩
  · cases hp; exact IsNat.zero _
  all_goals exact absurd hk (Nat.ne_of_beq_eq_false rfl)
theorem Hold.newBig {w0 w : World} {σ : Sg} (h : Hold w0 w σ) : Hold w0 (w.alloc (.cells #[.bool false, .slice none 0 0, .bool false] 73 (0, 0))) (upd σ w.heap.size (big false 0)) := by
  refine h.add (s := fun _ => none) ((Chg.refl w _).alloc _) (Nat.le_refl _) (.inl ⟨Nat.le_of_ble_eq_true rfl, fun _ => .slice none 0 0, allocB _ _, fun o g N ho => ?_⟩) (fun _ _ _ _ _ h => by cases h) (fun _ _ _ _ _ _ _ _ _ h => by cases h)
  rcases It.num_cases ho with ⟨hk, _⟩ | ⟨_, rfl, hp⟩ | ⟨hk, _⟩ | ⟨hk, _⟩ | ⟨hk, _⟩
  · exact absurd hk (Nat.ne_of_beq_eq_false rfl)
  · cases hp; exact IsNat.zero _
  all_goals exact absurd hk (Nat.ne_of_beq_eq_false rfl)
theorem Hold.newInt {w0 w : World} {σ : Sg} (h : Hold w0 w σ) : Hold w0 (w.alloc (.cells #[.bool false, .slice none 0 0] 71 (0, 0))) (upd σ w.heap.size (int false 0)) := by
  refine h.add (s := fun _ => none) ((Chg.refl w _).alloc _) (Nat.le_refl _) (.inl ⟨Nat.le_of_ble_eq_true rfl, fun _ => .slice none 0 0, allocB _ _, fun o g N ho => ?_⟩) (fun _ _ _ _ _ h => by cases h) (fun _ _ _ _ _ _ _ _ _ h => by cases h)
  rcases It.num_cases ho with ⟨hk, _⟩ | ⟨hk, _⟩ | ⟨_, rfl, hp⟩ | ⟨hk, _⟩ | ⟨hk, _⟩
  · exact absurd hk (Nat.ne_of_beq_eq_false rfl)
  · exact absurd hk (Nat.ne_of_beq_eq_false rfl)
  · cases hp; exact IsNat.zero _
  all_goals exact absurd hk (Nat.ne_of_beq_eq_false rfl)
theorem Hold.newTv {w0 w : World} {σ : Sg} (h : Hold w0 w σ) (d : Int) : Hold w0 (w.alloc (.cells #[.int .i64 d, .bool false, .slice none 0 0, .bool false, .bool false, .slice none 0 0, .bool false] 170 (0, 0))) (upd σ w.heap.size (tv d false 0 false 0)) := by
  refine h.add (s := fun _ => none) ((Chg.refl w _).alloc _) (Nat.le_refl _) (.inl ⟨Nat.le_of_ble_eq_true rfl, fun _ => .slice none 0 0, allocB _ _, fun o g N ho => ?_⟩) (fun _ _ _ _ _ h => by cases h) (fun _ _ _ _ _ _ _ _ _ h => by cases h)
  rcases It.num_cases ho with ⟨hk, _⟩ | ⟨hk, _⟩ | ⟨hk, _⟩ | ⟨_, rfl, hp⟩ | ⟨_, rfl, hp⟩
  · exact absurd hk (Nat.ne_of_beq_eq_false rfl)
  · exact absurd hk (Nat.ne_of_beq_eq_false rfl)
  · exact absurd hk (Nat.ne_of_beq_eq_false rfl)
  all_goals (cases hp; exact IsNat.zero _)
theorem Hold.newRaw {w0 w : World} {σ : Sg} (h : Hold w0 w σ) (o : Obj) : Hold w0 (w.alloc o) (upd σ w.heap.size (Go.Proofs.YtcoljeafgiemkaaGreatDoor.raw o)) := by
  refine h.add (s := fun _ => none) ((Chg.refl w _).alloc _) (Nat.le_refl _) (.inr ⟨Nat.le_of_ble_eq_true rfl, allocB _ _⟩) (fun _ _ _ _ _ h => by cases h) (fun _ _ _ _ _ _ _ _ _ h => by cases h)
/-- Less is told. -/
def Le (τ σ : Sg) : Prop := ∀ c it, τ c = some it → σ c = some it
theorem Le.refl (σ : Sg) : Le σ σ := fun _ _ h => h
theorem Le.trans {a b c : Sg} (h : Le a b) (h' : Le b c) : Le a c := fun k it hk => h' k it (h k it hk)
theorem Le.skip {τ σ : Sg} {k : Nat} {jt : It} (hk : τ k = none) (h : Le τ σ) : Le τ (upd σ k jt) := fun c it hc => by
  rw [upd_ne _ _ (by rintro rfl; rw [hk] at hc; cases hc)]; exact h c it hc
theorem Le.both {τ σ : Sg} {k : Nat} {jt : It} (h : Le τ σ) : Le (upd τ k jt) (upd σ k jt) := fun c it hc => by
  by_cases e : c = k
  · subst e; rw [upd_eq] at hc ⊢; exact hc
  · rw [upd_ne _ _ e] at hc ⊢; exact h c it hc
theorem Le.put {τ σ : Sg} (h : Le τ σ) (b o : Nat) (g : Bool) (N : Nat) {it : It} (hb : τ b = some it) : Le (Go.Proofs.YtcoljeafgiemkaaGreatDoor.put τ b o g N) (Go.Proofs.YtcoljeafgiemkaaGreatDoor.put σ b o g N) := by
  rw [put_upd hb, put_upd (h b it hb)]; exact h.both
theorem Hold.le {w0 w : World} {σ τ : Sg} (h : Hold w0 w σ) (hl : Le τ σ) : Hold w0 w τ := h.sub hl
end Go.Proofs.YtcoljeafgiemkaaGreatDoor
