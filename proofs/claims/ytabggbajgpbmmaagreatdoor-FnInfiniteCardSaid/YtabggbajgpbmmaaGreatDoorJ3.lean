/- impl.whole: words that come in, as a number. -/
import Derived.Test.YtabggbajgpbmmaaGreatDoorI6
import Derived.Test.YtabggbajgpbmmaaGreatDoorN8
import Derived.Test.YtabggbajgpbmmaaGreatDoorQ1
import Derived.Laws.OwnMore
namespace Go.Proofs.YtabggbajgpbmmaaGreatDoor
open Go Go.RowKit

/-- Words that are read at the head of a block. -/
def RdN (w : World) (b : Nat) (L : List Nat) : Prop := ∀ j, j < L.length → w.cell? ⟨b, j, none⟩ = some (.int .u64 (nth L j : Int))

set_option maxHeartbeats 400000 in
theorem norm_rd (w : World) (b cap : Nat) (L : List Nat) (hb : RdN w b L) (hW : Wd L) (hlc : L.length ≤ cap) (hn : L.length ≤ 1000000) (_hc : cap ≤ 9223372036854775807) :
    Calls Tryz.prog 133 #[.slice (some ⟨b, 0, none⟩) L.length cap] w fun e w' => e = .returned (.slice (some ⟨b, 0, none⟩) (digs (val L)).length cap) ∧ w = w' := by
  replace hb := Lib.hid hb
  obtain ⟨l, hl⟩ : ∃ l, L.length = l := ⟨_, rfl⟩
  rw [hl] at hlc hn ⊢
  replace hl := Lib.hid hl
  go_enter Tryz.func133, Tryz.ntmps133
  go_wp2
  go_loop [3] (fun i => ∃ k : Nat, k ≤ l ∧ i = .int .i64 k ∧ ∀ j, k ≤ j → j < l → nth L j = 0) (fun i => (intOf i).toNat)
  case atStart => exact ⟨l, Nat.le_refl _, rfl, fun j h1 h2 => by omega⟩
  case round =>
    obtain ⟨k, hk, rfl, hz⟩ := hrel
    replace hz := Lib.hid hz
    by_cases hk0 : k = 0
    · subst hk0
      go_wp2
      go_ret
      have := digs_val_cut hW (k := 0) (Nat.zero_le _) (fun j h1 h2 => hz.out j h1 (by rw [hl.out] at h2; exact h2)) (.inl rfl)
      exact ⟨by rw [this]; rfl, rfl⟩
    · obtain ⟨j, rfl⟩ : ∃ j, k = j + 1 := ⟨k - 1, by omega⟩
      have hcell := hb.out j (by rw [hl.out]; omega)
      by_cases h0 : nth L j = 0
      · rw [h0] at hcell
        replace h0 := Lib.hid h0
        go_wp2
        go_round
        case rel =>
          refine ⟨j, by omega, rfl, fun i h1 h2 => ?_⟩
          by_cases e : i = j
          · subst e; exact h0.out
          · exact hz.out i (by omega) h2
        case measure => simp [intOf]
      · have e0 : ((nth L j : Int) == 0) = false := by simp; omega
        replace h0 := Lib.hid h0
        go_wp2
        go_ret
        have := digs_val_cut hW (k := j + 1) (by rw [hl.out]; omega) (fun i h1 h2 => hz.out i h1 (by rw [hl.out] at h2; exact h2)) (.inr (by rw [Nat.add_sub_cancel]; exact h0.out))
        exact ⟨by rw [this]; rfl, rfl⟩

/-- The words of a number that are read, set into nothing. -/
theorem set_rd (w : World) (b cap N : Nat) (hb : RdN w b (digs N)) (h0 : N ≠ 0) (hn : (digs N).length ≤ 1000) :
    Calls Tryz.prog 132 #[.slice none 0 0, .slice (some ⟨b, 0, none⟩) (digs N).length cap] w fun e w' => ∃ r, e = .returned r ∧ NatRes w w' none r N := by
  have hpx := digs_len_pos h0
  have hmk := make_c w (.slice none 0 0) none (stor_none w) (digs N).length hpx hn
  replace hb := Lib.hid hb
  go_enter Tryz.func132, Tryz.ntmps132
  go_wp2_with fail
  refine hmk.mono ?_
  rintro e w1 ⟨r, rfl, bz, capz, C, rfl, ha, hC, hnc, hcap, hbz, hchg⟩
  have hwd := Wd_digs N
  have hsrc : ∀ j, j < (digs N).length → w1.cell? ⟨b, 0 + j, none⟩ = some (.int .u64 (nth (digs N) j : Int)) := by
    intro j hj
    rw [Nat.zero_add]
    exact hchg.cell (hb.out j hj) (fun h => h)
  have hmin : (digs N).length = Nat.min (digs N).length (digs N).length := by simp
  replace hsrc := Lib.hid hsrc
  replace hmin := Lib.hid hmin
  go_upto_region 2 with (fail)
  refine wp_region_lit ?_
  go_wp2_with (refine wpList_copyW rfl (.tmp 9) (.tmp 10) 52 52 rfl Tryz.underlying52 bz 0 _ capz b 0 _ cap rfl rfl C (digs N) ha hwd hmin.out (by omega) hsrc.out ?_)
  intro w2 hS
  go_wp2
  go_ret
  have h1 : (spl C 0 (digs N)).length = capz := by rw [spl_length (by omega), hC]
  have := natRes_of hbz hchg hS h1 hnc hcap
  rw [spl_zero_take (by omega), val_digs] at this
  exact ⟨_, rfl, this⟩

/-- An Int in a block of its own. -/
def IntBlk (w : World) (b : Nat) (n : Bool) (v : Value) : Prop := w.heap[b]? = some (.cells #[.bool n, v] 54 (0, 0))
def BigBlk (w : World) (b : Nat) (n : Bool) (v : Value) (m : Bool) : Prop := w.heap[b]? = some (.cells #[.bool n, v, .bool m] 56 (0, 0))

theorem setBits_c (w : World) (z : Nat) (n : Bool) (u : Value) (p p' : Option Addr) (l l' c c' : Nat) (hz : IntBlk w z n u)
    (hn : Calls Tryz.prog 133 #[.slice p l c] w fun e w' => e = .returned (.slice p' l' c') ∧ w = w') :
    Calls Tryz.prog 105 #[.pointer (some ⟨z, 0, none⟩), .slice p l c] w fun e w' => e = .returned (.pointer (some ⟨z, 0, none⟩)) ∧ IntBlk w' z false (.slice p' l' c') ∧ Chg w w' (fun k => k = z) := by
  have z0 : w.cell? ⟨z, 0, none⟩ = some (.bool n) := cellB hz rfl
  have z1 : w.cell? ⟨z, 1, none⟩ = some u := cellB hz rfl
  have f0 := frozenB hz 0
  have f1 := frozenB hz 1
  replace hn := Lib.hid hn
  replace hz := Lib.hid hz
  go_enter Tryz.func105, Tryz.ntmps105
  go_wp2_with fail
  with_reducible refine hn.out.mono ?_
  rintro e w' ⟨rfl, hw⟩
  obtain rfl := hw
  go_wp2
  go_ret
  exact ⟨rfl, setB (i := 0) (v := .bool false) (setB (i := 1) (v := .slice p' l' c') hz.out), (chg_setB w z 1 _).trans ((chg_setB _ z 0 _).mono (fun _ _ h => .inl h))⟩

/-- What an Int is after a number is set: its cells, its words. -/
def IntRes (w w' : World) (pz oz : Nat) (cs : Array Value) (T : TypeId) (o : Option Nat) (n : Bool) (N : Nat) : Prop :=
  ∃ v' o', w'.heap[pz]? = some (.cells ((cs.setIfInBounds (oz + 1) v').setIfInBounds oz (.bool n)) T (0, 0)) ∧ IsNat w' v' N o' ∧ (o' = o ∨ o' = none ∨ ∃ b, o' = some b ∧ w.heap.size ≤ b) ∧ Chg w w' (fun k => k = pz ∨ some k = o)

theorem IsNat.setCell {w : World} {v : Value} {N : Nat} {o : Option Nat} (h : IsNat w v N o) (b i : Nat) (u : Value) (hb : o ≠ some b) : IsNat (w.setCell ⟨b, i, none⟩ u) v N o :=
  h.chg (chg_setB w b i u) (fun k hk e => hb (by rw [hk, e]))

theorem Arr.ne2 {w : World} {b t : Nat} {C : List Nat} {cs : Array Value} {T : TypeId} (ha : Arr w b C) (ht : w.heap[t]? = some (.cells cs T (0, 0))) (hT : T ≠ 128) : b ≠ t := by
  rintro rfl
  have := ha.heap
  rw [ht] at this
  simp only [Option.some.injEq, Obj.cells.injEq] at this
  exact hT this.2.1
theorem Stor.ne2 {w : World} {v : Value} {b t : Nat} {cs : Array Value} {T : TypeId} (h : Stor w v (some b)) (ht : w.heap[t]? = some (.cells cs T (0, 0))) (hT : T ≠ 128) : b ≠ t := by
  rcases h with ⟨_, h⟩ | ⟨b', l, cap, C, h, _, _, ha, _⟩
  · cases h
  · cases h; exact ha.ne2 ht hT
theorem set_size {α : Type} {a : Array α} {i : Nat} {v : α} (h : a[i]? = some v) : i < a.size := by
  rcases Nat.lt_or_ge i a.size with h' | h'
  · exact h'
  · rw [Array.getElem?_eq_none h'] at h; cases h

set_option maxHeartbeats 400000 in
/-- Set, of another block's Int. -/
theorem intSet_c (w : World) (pz oz px ox : Nat) (cs cx : Array Value) (T Tx : TypeId) (o : Option Nat) (nz n : Bool) (u v : Value) (N : Nat) (hz : w.heap[pz]? = some (.cells cs T (0, 0))) (hT : T ≠ 128) (hz0 : cs[oz]? = some (.bool nz)) (hz1 : cs[oz + 1]? = some u)
    (hx : w.heap[px]? = some (.cells cx Tx (0, 0))) (hTx : Tx ≠ 128) (hx0 : cx[ox]? = some (.bool n)) (hx1 : cx[ox + 1]? = some v) (hne : pz ≠ px) (hu : Stor w u o) (hvs : ∃ p l c, v = .slice p l c)
    (hs : ∀ w2 k, w2 = w.drewN k → Calls Tryz.prog 132 #[u, v] w2 fun e w' => ∃ r, e = .returned r ∧ NatRes w2 w' o r N) :
    Calls Tryz.prog 103 #[.pointer (some ⟨pz, oz, none⟩), .pointer (some ⟨px, ox, none⟩)] w fun e w' => e = .returned (.pointer (some ⟨pz, oz, none⟩)) ∧ IntRes w w' pz oz cs T o n N := by
  have hq := neqInt (oa := oz) (ob := ox) (fun e => hne (congrArg Addr.block e)) hz hx
  have z0 := cellB hz hz0
  have z1 := cellB hz hz1
  have f0 := frozenB hz oz
  have f1 := frozenB hz (oz + 1)
  have x0 := cellB hx hx0
  have x1 := cellB hx hx1
  have hpo : ∀ b, o = some b → b ≠ pz := fun b e => by subst e; exact hu.ne2 hz hT
  have hxo : ∀ b, o = some b → b ≠ px := fun b e => by subst e; exact hu.ne2 hx hTx
  obtain ⟨p, l, c, rfl⟩ := hvs
  obtain ⟨pu, lu, cu, rfl⟩ := stor_slice hu
  replace hs := Lib.hid hs
  replace hz := Lib.hid hz
  replace hx := Lib.hid hx
  replace hpo := Lib.hid hpo
  replace hxo := Lib.hid hxo
  have hz0i := Lib.hid hz0
  have hz1i := Lib.hid hz1
  have hx0i := Lib.hid hx0
  clear hu hz0 hz1 hx0 hx1 hT hTx
  go_enter Tryz.func103, Tryz.ntmps103
  go_wp2
  go_region_with ((go_at_call 132; refine (hs.out _ 1 (by rfl)).mono ?_; rintro e w1 ⟨r, rfl, o', hr, ho', hch⟩; obtain ⟨pr, cr, rfl, hr1, hr2⟩ := hr.shape; have hz1 := hch.heapB (show w.drew.heap[pz]? = _ from hz.out) (fun e => hpo.out _ e.symm rfl); have hx1 := hch.heapB (show w.drew.heap[px]? = _ from hx.out) (fun e => hxo.out _ e.symm rfl); have y1 := cellB hz1 hz1i.out; have y0 := cellB hz1 hz0i.out; have g0 := frozenB hz1 oz; have g1 := frozenB hz1 (oz + 1); have k0 := cellB hx1 hx0i.out; replace hz1 := Lib.hid hz1; replace hch := Lib.hid hch; replace hr := Lib.hid hr; replace ho' := Lib.hid ho'; clear hx1 hr1 hr2))
  all_goals
    go_wp2
    go_ret
    have hb1 : o' ≠ some pz := by
      intro e
      rcases ho'.out with h | h | ⟨b, hb, hlt⟩
      · exact hpo.out _ (h ▸ e) rfl
      · rw [h] at e; cases e
      · rw [hb] at e
        cases e
        have := ltB hz.out
        have h2 : w.drew.heap.size = w.heap.size := rfl
        omega
    refine ⟨rfl, _, o', setB (i := oz) (v := .bool n) (setB (i := oz + 1) hz1.out), (hr.out.setCell pz (oz + 1) _ hb1).setCell pz oz _ hb1, ho'.out, ?_⟩
    exact (((Chg.refl w (fun k => k = pz ∨ some k = o)).drew.trans (hch.out.mono (fun _ _ h => .inl (.inr h)))).trans ((chg_setB w1 pz (oz + 1) _).mono (fun _ _ h => .inl (.inl h)))).trans ((chg_setB _ pz oz _).mono (fun _ _ h => .inl (.inl h)))
end Go.Proofs.YtabggbajgpbmmaaGreatDoor
