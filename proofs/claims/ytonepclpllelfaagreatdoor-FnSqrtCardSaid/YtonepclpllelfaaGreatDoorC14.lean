/- impl.whole: words that come in, as a number. apd.BigInt: Set, SetMathBigInt; impl.whole. impl.whole, impl.made of a finite decimal. impl.made of a finite decimal. Rows of bytes; figures of a number, one by one. -/
import Derived.Laws.OwnMore
import Derived.Laws.BytesArg
import Derived.Test.YtonepclpllelfaaGreatDoorC05
import Derived.Test.YtonepclpllelfaaGreatDoorC09
import Derived.Test.YtonepclpllelfaaGreatDoorC10
import Derived.Test.YtonepclpllelfaaGreatDoorC11
namespace Go.Proofs.YtonepclpllelfaaGreatDoor
open Go Go.RowKit

/-- Words that are read at the head of a block. -/
def RdN (w : World) (b : Nat) (L : List Nat) : Prop := ∀ j, j < L.length → w.cell? ⟨b, j, none⟩ = some (.int .u64 (nth L j : Int))

set_option maxHeartbeats 400000 in
theorem norm_rd (w : World) (b cap : Nat) (L : List Nat) (hb : RdN w b L) (hW : Wd L) (hlc : L.length ≤ cap) (hn : L.length ≤ 1000000) (_hc : cap ≤ 9223372036854775807) :
    Calls Tryz.prog 94 #[.slice (some ⟨b, 0, none⟩) L.length cap] w fun e w' => e = .returned (.slice (some ⟨b, 0, none⟩) (digs (val L)).length cap) ∧ w = w' := by
  replace hb := Lib.hid hb
  obtain ⟨l, hl⟩ : ∃ l, L.length = l := ⟨_, rfl⟩
  rw [hl] at hlc hn ⊢
  replace hl := Lib.hid hl
  go_enter Tryz.func94, Tryz.ntmps94
  go_wp2
  go_loop [3] (fun i => ∃ k : Nat, k ≤ l ∧ i = .int .i64 k ∧ ∀ j, k ≤ j → j < l → nth L j = 0) (fun i => (intOf i).toNat)
  case atStart => exact ⟨l, Nat.le_refl _, rfl, fun j h1 h2 => by omega⟩
  case round =>
    obtain ⟨k, hk, rfl, hz⟩ := hrel
    replace hz := Lib.hid hz
    by_cases hk0 : k = 0
    · subst hk0
      go_wp2
      go_ret
      have := digs_val_cut hW (k := 0) (Nat.zero_le _) (fun j h1 h2 => hz.out j h1 (by rw [hl.out] at h2; exact h2)) (.inl rfl)
      exact ⟨by rw [this]; rfl, rfl⟩
    · obtain ⟨j, rfl⟩ : ∃ j, k = j + 1 := ⟨k - 1, by omega⟩
      have hcell := hb.out j (by rw [hl.out]; omega)
      by_cases h0 : nth L j = 0
      · rw [h0] at hcell
        replace h0 := Lib.hid h0
        go_wp2
        go_round
        case rel =>
          refine ⟨j, by omega, rfl, fun i h1 h2 => ?_⟩
          by_cases e : i = j
          · subst e; exact h0.out
          · exact hz.out i (by omega) h2
        case measure => simp [intOf]
      · have e0 : ((nth L j : Int) == 0) = false := by simp; omega
        replace h0 := Lib.hid h0
        go_wp2
        go_ret
        have := digs_val_cut hW (k := j + 1) (by rw [hl.out]; omega) (fun i h1 h2 => hz.out i h1 (by rw [hl.out] at h2; exact h2)) (.inr (by rw [Nat.add_sub_cancel]; exact h0.out))
        exact ⟨by rw [this]; rfl, rfl⟩

/-- The words of a number that are read, set into nothing. -/
theorem set_rd (w : World) (b cap N : Nat) (hb : RdN w b (digs N)) (h0 : N ≠ 0) (hn : (digs N).length ≤ 1000) :
    Calls Tryz.prog 93 #[.slice none 0 0, .slice (some ⟨b, 0, none⟩) (digs N).length cap] w fun e w' => ∃ r, e = .returned r ∧ NatRes w w' none r N := by
  have hpx := digs_len_pos h0
  have hmk := make_c w (.slice none 0 0) none (stor_none w) (digs N).length hpx hn
  replace hb := Lib.hid hb
  go_enter Tryz.func93, Tryz.ntmps93
  go_wp2_with fail
  refine hmk.mono ?_
  rintro e w1 ⟨r, rfl, bz, capz, C, rfl, ha, hC, hnc, hcap, hbz, hchg⟩
  have hwd := Wd_digs N
  have hsrc : ∀ j, j < (digs N).length → w1.cell? ⟨b, 0 + j, none⟩ = some (.int .u64 (nth (digs N) j : Int)) := by
    intro j hj
    rw [Nat.zero_add]
    exact hchg.cell (hb.out j hj) (fun h => h)
  have hmin : (digs N).length = Nat.min (digs N).length (digs N).length := by simp
  replace hsrc := Lib.hid hsrc
  replace hmin := Lib.hid hmin
  go_upto_region 2 with (fail)
  refine wp_region_lit ?_
  go_wp2_with (refine wpList_copyW rfl (.tmp 9) (.tmp 10) 49 49 rfl Tryz.underlying49 bz 0 _ capz b 0 _ cap rfl rfl C (digs N) ha hwd hmin.out (by omega) hsrc.out ?_)
  intro w2 hS
  go_wp2
  go_ret
  have h1 : (spl C 0 (digs N)).length = capz := by rw [spl_length (by omega), hC]
  have := natRes_of hbz hchg hS h1 hnc hcap
  rw [spl_zero_take (by omega), val_digs] at this
  exact ⟨_, rfl, this⟩

/-- An Int in a block of its own. -/
def IntBlk (w : World) (b : Nat) (n : Bool) (v : Value) : Prop := w.heap[b]? = some (.cells #[.bool n, v] 51 (0, 0))
def BigBlk (w : World) (b : Nat) (n : Bool) (v : Value) (m : Bool) : Prop := w.heap[b]? = some (.cells #[.bool n, v, .bool m] 53 (0, 0))

theorem setBits_c (w : World) (z : Nat) (n : Bool) (u : Value) (p p' : Option Addr) (l l' c c' : Nat) (hz : IntBlk w z n u)
    (hn : Calls Tryz.prog 94 #[.slice p l c] w fun e w' => e = .returned (.slice p' l' c') ∧ w = w') :
    Calls Tryz.prog 67 #[.pointer (some ⟨z, 0, none⟩), .slice p l c] w fun e w' => e = .returned (.pointer (some ⟨z, 0, none⟩)) ∧ IntBlk w' z false (.slice p' l' c') ∧ Chg w w' (fun k => k = z) := by
  have z0 : w.cell? ⟨z, 0, none⟩ = some (.bool n) := cellB hz rfl
  have z1 : w.cell? ⟨z, 1, none⟩ = some u := cellB hz rfl
  have f0 := frozenB hz 0
  have f1 := frozenB hz 1
  replace hn := Lib.hid hn
  replace hz := Lib.hid hz
  go_enter Tryz.func67, Tryz.ntmps67
  go_wp2_with fail
  with_reducible refine hn.out.mono ?_
  rintro e w' ⟨rfl, hw⟩
  obtain rfl := hw
  go_wp2
  go_ret
  exact ⟨rfl, setB (i := 0) (v := .bool false) (setB (i := 1) (v := .slice p' l' c') hz.out), (chg_setB w z 1 _).trans ((chg_setB _ z 0 _).mono (fun _ _ h => .inl h))⟩

/-- What an Int is after a number is set: its cells, its words. -/
def IntRes (w w' : World) (pz oz : Nat) (cs : Array Value) (T : TypeId) (o : Option Nat) (n : Bool) (N : Nat) : Prop :=
  ∃ v' o', w'.heap[pz]? = some (.cells ((cs.setIfInBounds (oz + 1) v').setIfInBounds oz (.bool n)) T (0, 0)) ∧ IsNat w' v' N o' ∧ (o' = o ∨ o' = none ∨ ∃ b, o' = some b ∧ w.heap.size ≤ b) ∧ Chg w w' (fun k => k = pz ∨ some k = o)

theorem IsNat.setCell {w : World} {v : Value} {N : Nat} {o : Option Nat} (h : IsNat w v N o) (b i : Nat) (u : Value) (hb : o ≠ some b) : IsNat (w.setCell ⟨b, i, none⟩ u) v N o :=
  h.chg (chg_setB w b i u) (fun k hk e => hb (by rw [hk, e]))

theorem Arr.ne2 {w : World} {b t : Nat} {C : List Nat} {cs : Array Value} {T : TypeId} (ha : Arr w b C) (ht : w.heap[t]? = some (.cells cs T (0, 0))) (hT : T ≠ 112) : b ≠ t := by
  rintro rfl
  have := ha.heap
  rw [ht] at this
  simp only [Option.some.injEq, Obj.cells.injEq] at this
  exact hT this.2.1
theorem Stor.ne2 {w : World} {v : Value} {b t : Nat} {cs : Array Value} {T : TypeId} (h : Stor w v (some b)) (ht : w.heap[t]? = some (.cells cs T (0, 0))) (hT : T ≠ 112) : b ≠ t := by
  rcases h with ⟨_, h⟩ | ⟨b', l, cap, C, h, _, _, ha, _⟩
  · cases h
  · cases h; exact ha.ne2 ht hT
set_option maxHeartbeats 400000 in
/-- Set, of another block's Int. -/
theorem intSet_c (w : World) (pz oz px ox : Nat) (cs cx : Array Value) (T Tx : TypeId) (o : Option Nat) (nz n : Bool) (u v : Value) (N : Nat) (hz : w.heap[pz]? = some (.cells cs T (0, 0))) (hT : T ≠ 112) (hz0 : cs[oz]? = some (.bool nz)) (hz1 : cs[oz + 1]? = some u)
    (hx : w.heap[px]? = some (.cells cx Tx (0, 0))) (hTx : Tx ≠ 112) (hx0 : cx[ox]? = some (.bool n)) (hx1 : cx[ox + 1]? = some v) (hne : pz ≠ px) (hu : Stor w u o) (hvs : ∃ p l c, v = .slice p l c)
    (hs : ∀ w2 k, w2 = w.drewN k → Calls Tryz.prog 93 #[u, v] w2 fun e w' => ∃ r, e = .returned r ∧ NatRes w2 w' o r N) :
    Calls Tryz.prog 65 #[.pointer (some ⟨pz, oz, none⟩), .pointer (some ⟨px, ox, none⟩)] w fun e w' => e = .returned (.pointer (some ⟨pz, oz, none⟩)) ∧ IntRes w w' pz oz cs T o n N := by
  have hq := neqInt (oa := oz) (ob := ox) (fun e => hne (congrArg Addr.block e)) hz hx
  have z0 := cellB hz hz0
  have z1 := cellB hz hz1
  have f0 := frozenB hz oz
  have f1 := frozenB hz (oz + 1)
  have x0 := cellB hx hx0
  have x1 := cellB hx hx1
  have hpo : ∀ b, o = some b → b ≠ pz := fun b e => by subst e; exact hu.ne2 hz hT
  have hxo : ∀ b, o = some b → b ≠ px := fun b e => by subst e; exact hu.ne2 hx hTx
  obtain ⟨p, l, c, rfl⟩ := hvs
  obtain ⟨pu, lu, cu, rfl⟩ := stor_slice hu
  replace hs := Lib.hid hs
  replace hz := Lib.hid hz
  replace hx := Lib.hid hx
  replace hpo := Lib.hid hpo
  replace hxo := Lib.hid hxo
  have hz0i := Lib.hid hz0
  have hz1i := Lib.hid hz1
  have hx0i := Lib.hid hx0
  clear hu hz0 hz1 hx0 hx1 hT hTx
  go_enter Tryz.func65, Tryz.ntmps65
  go_wp2
  go_region_with ((go_at_call 93; refine (hs.out _ 1 (by rfl)).mono ?_; rintro e w1 ⟨r, rfl, o', hr, ho', hch⟩; obtain ⟨pr, cr, rfl, hr1, hr2⟩ := hr.shape; have hz1 := hch.heapB (show w.drew.heap[pz]? = _ from hz.out) (fun e => hpo.out _ e.symm rfl); have hx1 := hch.heapB (show w.drew.heap[px]? = _ from hx.out) (fun e => hxo.out _ e.symm rfl); have y1 := cellB hz1 hz1i.out; have y0 := cellB hz1 hz0i.out; have g0 := frozenB hz1 oz; have g1 := frozenB hz1 (oz + 1); have k0 := cellB hx1 hx0i.out; replace hz1 := Lib.hid hz1; replace hch := Lib.hid hch; replace hr := Lib.hid hr; replace ho' := Lib.hid ho'; clear hx1 hr1 hr2))
  all_goals
    go_wp2
    go_ret
    have hb1 : o' ≠ some pz := by
      intro e
      rcases ho'.out with h | h | ⟨b, hb, hlt⟩
      · exact hpo.out _ (h ▸ e) rfl
      · rw [h] at e; cases e
      · rw [hb] at e
        cases e
        have := ltB hz.out
        have h2 : w.drew.heap.size = w.heap.size := rfl
        omega
    refine ⟨rfl, _, o', setB (i := oz) (v := .bool n) (setB (i := oz + 1) hz1.out), (hr.out.setCell pz (oz + 1) _ hb1).setCell pz oz _ hb1, ho'.out, ?_⟩
    exact (((Chg.refl w (fun k => k = pz ∨ some k = o)).drew.trans (hch.out.mono (fun _ _ h => .inl (.inr h)))).trans ((chg_setB w1 pz (oz + 1) _).mono (fun _ _ h => .inl (.inl h)))).trans ((chg_setB _ pz oz _).mono (fun _ _ h => .inl (.inl h)))
end Go.Proofs.YtonepclpllelfaaGreatDoor

namespace Go.Proofs.YtonepclpllelfaaGreatDoor
open Go Go.RowKit

theorem setMath_c (w : World) (z x : Nat) (n : Bool) (p : Option Addr) (l c N : Nat) (hz : BigBlk w z false (.slice none 0 0) false) (hx : IntBlk w x n (.slice p l c)) (hne : z ≠ x)
    (hs : ∀ w2, Chg w w2 (fun k => k = z) → Calls Tryz.prog 93 #[.slice none 0 0, .slice p l c] w2 fun e w' => ∃ r, e = .returned r ∧ NatRes w2 w' none r N) :
    Calls Tryz.prog 66 #[.pointer (some ⟨z, 0, none⟩), .pointer (some ⟨x, 0, none⟩)] w fun e w' =>
      e = .returned (.pointer (some ⟨z, 0, none⟩)) ∧ ∃ v' o', BigBlk w' z n v' false ∧ IsNat w' v' N o' ∧ (o' = none ∨ ∃ b, o' = some b ∧ w.heap.size ≤ b) ∧ Chg w w' (fun k => k = z) := by
  have z2 : w.cell? ⟨z, 2, none⟩ = some (.bool false) := cellB hz rfl
  have f2 := frozenB hz 2
  have hch : Chg w (w.setCell ⟨z, 2, none⟩ (.bool false)) (fun k => k = z) := chg_setB w z 2 _
  have hz1 : BigBlk (w.setCell ⟨z, 2, none⟩ (.bool false)) z false (.slice none 0 0) false := setB (i := 2) (v := .bool false) hz
  have hx1 : IntBlk (w.setCell ⟨z, 2, none⟩ (.bool false)) x n (.slice p l c) := hch.heapB hx (fun e => hne e.symm)
  have key := intSet_c (w.setCell ⟨z, 2, none⟩ (.bool false)) z 0 x 0 _ _ _ _ none false n (.slice none 0 0) (.slice p l c) N hz1 (by decide) rfl rfl hx1 (by decide) rfl rfl hne (stor_none _) ⟨p, l, c, rfl⟩ (fun w2 k e => by subst e; exact hs _ (hch.drewN k))
  replace key := Lib.hid key
  replace hch := Lib.hid hch
  clear hz1 hx1
  go_enter Tryz.func66, Tryz.ntmps66
  go_wp2_with fail
  with_reducible refine key.out.mono ?_
  rintro e w' ⟨rfl, v', o', h1, h2, h3, h4⟩
  go_wp2
  go_ret
  refine ⟨rfl, v', o', h1, h2, ?_, hch.out.trans (h4.mono (fun _ _ h => .inl (h.elim id (fun h => by cases h))))⟩
  rcases h3 with h | h | ⟨b, hb, hlt⟩
  · exact .inl h
  · exact .inl h
  · exact .inr ⟨b, hb, by rw [World.size_setCell] at hlt; exact hlt⟩

set_option maxHeartbeats 400000 in
/-- Set, of another block's number. -/
theorem bigSet_c (w : World) (pz oz px ox : Nat) (cs cx : Array Value) (T Tx : TypeId) (o : Option Nat) (nz n mz mx : Bool) (u v : Value) (N : Nat) (hz : w.heap[pz]? = some (.cells cs T (0, 0))) (hT : T ≠ 112) (hz0 : cs[oz]? = some (.bool nz)) (hz1 : cs[oz + 1]? = some u) (hz2 : cs[oz + 2]? = some (.bool mz))
    (hx : w.heap[px]? = some (.cells cx Tx (0, 0))) (hTx : Tx ≠ 112) (hx0 : cx[ox]? = some (.bool n)) (hx1 : cx[ox + 1]? = some v) (hx2 : cx[ox + 2]? = some (.bool mx)) (hne : pz ≠ px) (hu : Stor w u o) (hvs : ∃ p l c, v = .slice p l c)
    (hs : ∀ w2, Chg w w2 (fun k => k = pz) → Calls Tryz.prog 93 #[u, v] w2 fun e w' => ∃ r, e = .returned r ∧ NatRes w2 w' o r N) :
    Calls Tryz.prog 44 #[.pointer (some ⟨pz, oz, none⟩), .pointer (some ⟨px, ox, none⟩)] w fun e w' => e = .returned (.pointer (some ⟨pz, oz, none⟩)) ∧ IntRes w w' pz oz (cs.setIfInBounds (oz + 2) (.bool mx)) T o n N := by
  have z2 := cellB hz hz2
  have f2 := frozenB hz (oz + 2)
  have x2 := cellB hx hx2
  have hch : Chg w (w.setCell ⟨pz, oz + 2, none⟩ (.bool mx)) (fun k => k = pz) := chg_setB w pz (oz + 2) _
  have h1 := setB (i := oz + 2) (v := .bool mx) hz
  have h2 := hch.heapB hx (fun e => hne e.symm)
  have hpo : ∀ b, o = some b → b ≠ pz := fun b e => by subst e; exact hu.ne2 hz hT
  have hu1 := hu.chg hch (fun b e => hpo b e)
  have e0 : (cs.setIfInBounds (oz + 2) (.bool mx))[oz]? = some (.bool nz) := by rw [Array.getElem?_setIfInBounds_ne (by omega)]; exact hz0
  have e1 : (cs.setIfInBounds (oz + 2) (.bool mx))[oz + 1]? = some u := by rw [Array.getElem?_setIfInBounds_ne (by omega)]; exact hz1
  have key := fun k => intSet_c ((w.setCell ⟨pz, oz + 2, none⟩ (.bool mx)).drewN k) pz oz px ox _ _ _ _ o nz n u v N h1 hT e0 e1 h2 hTx hx0 hx1 hne (hu1.chg ((Chg.refl _ (fun _ => False)).drewN k) (fun _ _ h => h)) hvs (fun w2 k2 e => by subst e; exact hs _ ((hch.drewN k).drewN k2))
  replace key := Lib.hid key
  replace hch := Lib.hid hch
  clear h1 h2 hu1 e0 e1 hz hx hz0 hz1 hz2 hx0 hx1 hx2 hu
  go_enter Tryz.func44, Tryz.ntmps44
  go_wp2_with fail
  generalize w.setCell ⟨pz, oz + 2, none⟩ (.bool mx) = w0 at key hch ⊢
  go_region_with ((go_at_call 65; refine (key.out 1).mono ?_; rintro e w2 ⟨rfl, hr⟩; replace hr := Lib.hid hr))
  all_goals
    go_wp2
    go_ret
    obtain ⟨v', o', h1, h2, h3, h4⟩ := hr.out
    refine ⟨rfl, v', o', h1, h2, ?_, (hch.out.mono (fun _ _ h => .inl h)).trans (((Chg.refl _ (fun _ => False)).drewN 1).mono (fun _ _ h => h.elim) |>.trans (h4.mono (fun _ _ h => .inl (.inl h))))⟩
    rcases h3 with h | h | ⟨b, hb, hlt⟩
    · exact .inl h
    · exact .inr (.inl h)
    · exact .inr (.inr ⟨b, hb, Nat.le_trans hch.out.size hlt⟩)
end Go.Proofs.YtonepclpllelfaaGreatDoor

namespace Go.Proofs.YtonepclpllelfaaGreatDoor
open Go Go.RowKit

theorem Below.chg {w w' : World} (h : Below w.heap.size w w') : Chg w w' (fun _ => False) := ⟨h.os, h.tape, h.output, h.size, fun k hk _ => h.block k hk⟩

theorem norm_nil (w : World) : Calls Tryz.prog 94 #[.slice none 0 0] w fun e w' => e = .returned (.slice none 0 0) ∧ w = w' := by
  go_enter Tryz.func94, Tryz.ntmps94
  go_wp2
  go_loop [3] (fun i => i = .int .i64 0) (fun i => (intOf i).toNat)
  case atStart => rfl
  case round =>
    obtain rfl := hrel
    go_wp2
    go_ret
    exact ⟨rfl, rfl⟩

theorem set0_c (w : World) (p : Option Addr) (c : Nat) : Calls Tryz.prog 93 #[.slice none 0 0, .slice p 0 c] w fun e w' => ∃ r, e = .returned r ∧ NatRes w w' none r 0 := by
  have hmk : Calls Tryz.prog 127 #[.slice none 0 0, .int .i64 0] w fun e w' => e = .returned (.slice none 0 0) ∧ w = w' := by
    go_enter Tryz.func127, Tryz.ntmps127
    go_wp2
    go_ret
    exact ⟨rfl, rfl⟩
  go_enter Tryz.func93, Tryz.ntmps93
  go_wp2_with fail
  refine hmk.mono ?_
  rintro e w' ⟨rfl, hw⟩
  obtain rfl := hw
  go_upto_region 2 with (fail)
  refine wp_region_lit ?_
  go_wp2_with (refine wpList_copy_nothing rfl (.tmp 9) (.tmp 10) 49 49 rfl 112 Tryz.underlying49 infoW _ _ _ _ _ _ rfl rfl (by simp) ?_)
  go_ret
  exact ⟨_, rfl, none, IsNat.zero _, .inl rfl, Chg.refl _ _⟩
theorem own_slice2 {w : World} {base n : Nat} {e : TypeId} {size : Nat} {v : Value} {xs : List Value} (h : w.ownsRow base e size v n xs) : ∃ A c, v = .slice A n c := by
  rcases h.2 with ⟨rfl, rfl⟩ | ⟨g, cap, cur, rfl, _⟩
  · exact ⟨none, 0, rfl⟩
  · exact ⟨_, cap, rfl⟩

/-- What whole gives: a number in new memory. -/
def NewBig (w w' : World) (e : Ending) (N : Nat) : Prop :=
  ∃ k v o, e = .returned (.pointer (some ⟨k, 0, none⟩)) ∧ w.heap.size ≤ k ∧ BigBlk w' k false v false ∧ IsNat w' v N o ∧ (∀ b, o = some b → w.heap.size ≤ b) ∧ Chg w w' (fun _ => False)

/-- Behind whole's loop. -/
theorem tail_c (w w1 : World) (p : Option Addr) (l c : Nat) (X : List Nat) (hb : Below w.heap.size w w1) (hown : w1.ownsRow w.heap.size 112 1 (.slice p l c) l (X.map uw)) (hX : X.length = l) (hW : Wd X) (hl : l ≤ 900) :
    ∀ z i, BigBlk w1 z false (.slice none 0 0) false → IntBlk w1 i false (.slice none 0 0) → z ≠ i → w.heap.size ≤ z → w.heap.size ≤ i →
      Calls Tryz.prog 67 #[.pointer (some ⟨i, 0, none⟩), .slice p l c] w1 fun e w2 => e = .returned (.pointer (some ⟨i, 0, none⟩)) ∧
        Calls Tryz.prog 66 #[.pointer (some ⟨z, 0, none⟩), .pointer (some ⟨i, 0, none⟩)] w2 fun e w3 => e = .returned (.pointer (some ⟨z, 0, none⟩)) ∧
          ∃ v o, BigBlk w3 z false v false ∧ IsNat w3 v (val X) o ∧ (∀ b, o = some b → w.heap.size ≤ b) ∧ Chg w w3 (fun _ => False) := by
  intro z i hz hi hne hzl hil
  have hc1 : Chg w w1 (fun _ => False) := Below.chg hb
  rcases hown.2 with ⟨h1, h2⟩ | ⟨g, cap, cur, h1, hg, hgg, hn, hm, hcs, htake⟩
  · injection h1 with h1 h3 h4
    subst h1 h2 h4
    obtain rfl : X = [] := List.length_eq_zero_iff.1 hX
    refine (setBits_c w1 i _ _ none none 0 0 0 0 hi (norm_nil w1)).mono ?_
    rintro e w2 ⟨rfl, hi2, hch2⟩
    have hz2 : BigBlk w2 z false (.slice none 0 0) false := hch2.heapB hz hne
    refine ⟨rfl, (setMath_c w2 z i false none 0 0 0 hz2 hi2 hne (fun w3 _ => (set_nil w3).mono ?_)).mono ?_⟩
    · rintro e w' ⟨rfl, hw⟩
      subst hw
      exact ⟨_, rfl, none, IsNat.zero _, .inl rfl, Chg.refl _ _⟩
    · rintro e w3 ⟨rfl, v', o', h1, h2, h3, h4⟩
      refine ⟨rfl, v', o', h1, h2, ?_, (hc1.trans (hch2.mono (fun k _ h => .inr (by omega)))).trans (h4.mono (fun k _ h => .inr (by omega)))⟩
      intro b hb'
      have s1 := hc1.size
      have s2 := hch2.size
      rcases h3 with h | ⟨b2, hb2, hlt⟩
      · rw [h] at hb'; cases hb'
      · rw [hb2] at hb'; cases hb'; omega
  · injection h1 with h1 h3 h4
    subst h1 h4
    have hrd : RdN w1 g X := by
      intro j hj
      have := hown.cells (g := g) rfl j (uw (nth X j)) (by rw [List.getElem?_map, get_nth hj]; rfl)
      have e : (⟨g, 0, none⟩ : Addr).add j = ⟨g, j, none⟩ := by unfold Addr.add; split <;> simp_all
      rw [e] at this
      exact this
    have hcap : c ≤ 9223372036854775807 := by unfold maxLen at hm; omega
    have hdl : (digs (val X)).length ≤ X.length := digs_len_le.2 (val_lt hW)
    have hpre : ∀ w2 S, Chg w1 w2 S → ¬ S g → RdN w2 g (digs (val X)) := by
      intro w2 S hch hS j hj
      have h1 := hch.cell (hrd j (by omega)) hS
      have h2 : nth X j = nth (digs (val X)) j := by
        have h3 := val_digs (val X)
        have h4 : X = digs (val X) ++ List.replicate (X.length - (digs (val X)).length) 0 := by
          refine val_inj hW ((Wd_digs _).append (Wd.zeros _)) (by simp; omega) ?_
          rw [val_append_zeros, h3]
        conv => lhs; rw [h4]
        rw [nth_append_left hj]
      rw [← h2]; exact h1
    have hn0 := norm_rd w1 g c X hrd hW (by omega) (by omega) hcap
    rw [hX] at hn0
    refine (setBits_c w1 i _ _ _ _ _ _ _ _ hi hn0).mono ?_
    rintro e w2 ⟨rfl, hi2, hch2⟩
    have hz2 : BigBlk w2 z false (.slice none 0 0) false := hch2.heapB hz hne
    have hgi : g ≠ i := by
      rintro rfl
      have h5 : w1.heap[g]? = some (.cells #[.bool false, .slice none 0 0] 51 (0, 0)) := hi
      rw [hgg] at h5
      simp at h5
    have hgz : g ≠ z := by
      rintro rfl
      have h5 : w1.heap[g]? = some (.cells #[.bool false, .slice none 0 0, .bool false] 53 (0, 0)) := hz
      rw [hgg] at h5
      simp at h5
    refine ⟨rfl, (setMath_c w2 z i false _ _ _ (val X) hz2 hi2 hne (fun w3 hch3 => ?_)).mono ?_⟩
    · by_cases h0 : val X = 0
      · rw [h0, digs_zero]
        exact set0_c w3 _ _
      · exact set_rd w3 g c (val X) (hpre w3 _ ((hch2.mono (fun k _ h => (show k = i ∨ k = z from .inl h))).trans (hch3.mono (fun k _ h => .inl (.inr h)))) (by omega)) h0 (by omega)
    · rintro e w3 ⟨rfl, v', o', h1, h2, h3, h4⟩
      refine ⟨rfl, v', o', h1, h2, ?_, (hc1.trans (hch2.mono (fun k _ h => .inr (by omega)))).trans (h4.mono (fun k _ h => .inr (by omega)))⟩
      intro b hb'
      have s1 := hc1.size
      have s2 := hch2.size
      rcases h3 with h | ⟨b2, hb2, hlt⟩
      · rw [h] at hb'; cases hb'
      · rw [hb2] at hb'; cases hb'; omega

set_option maxHeartbeats 2000000 in
theorem whole_c (w : World) (A : Option Addr) (l c : Nat) (X : List Nat) (hX : RdW w A l c X) (hl : l ≤ 900) :
    Calls Tryz.prog 45 #[.slice A l c] w fun e w' => NewBig w w' e (val X) := by
  obtain ⟨i0, hi, hz0, hz1, hz2⟩ := info_parts makeZ
  have hlen := hX.len
  replace hX := Lib.hid hX
  replace hlen := Lib.hid hlen
  go_enter Tryz.func45, Tryz.ntmps45
  go_wp2
  go_loopw [3, 8] (fun v i wr => ∃ (k : Nat) (p : Option Addr) (cc : Nat), k ≤ l ∧ i = .int .i64 k ∧ v = .slice p k cc ∧ Below w.heap.size w wr ∧ wr.ownsRow w.heap.size 112 1 (.slice p k cc) k ((X.take k).map uw)) (fun _ i _ => l - (intOf i).toNat)
  case atStart => exact ⟨0, none, 0, Nat.zero_le _, rfl, rfl, Below.refl _ _, World.ownsRow_nil _ _ _ _⟩
  case round =>
    obtain ⟨k, p, cc, hk, rfl, rfl, hb, hown⟩ := hrel
    by_cases hlt : k < l
    · obtain ⟨ad, rfl, hcs⟩ := hX.out.cells (by omega)
      have hcell := hb.cell (World.block_lt_of_cell? w _ (hcs k hlt)) |>.trans (hcs k hlt)
      have hbs := hb.size
      have htk : X.take (k + 1) = X.take k ++ [nth X k] := take_nth (by rw [hlen.out]; exact hlt)
      replace htk := Lib.hid htk
      replace hown := Lib.hid hown
      replace hb := Lib.hid hb
      clear hcs
      go_wp2_with (at_builtin; refine wpList_append_own _ rfl _ _ 48 rfl w.heap.size 112 i0 (.int .u64 0) 1 8 Tryz.underlying48 hi hz0 hz1 hz2 rfl (by decide) _ _ _ rfl (hown.out.alloc _) ⟨wr.heap.size, 0, none⟩ 1 1 [.int .u64 (nth X k : Int)] rfl rfl ?c1 ?c2 ?c3 ?c4 ?c5 ?_)
      case c1 => exact cell_one_new _ _ _
      case c2 => intro u hu; simp only [List.mem_cons, List.not_mem_nil, or_false] at hu; subst hu; rfl
      case c3 => unfold maxLen; omega
      case c4 => omega
      case c5 => simp; omega
      intro v' w1 hown' hgrow _
      obtain ⟨p', cc', rfl⟩ := own_slice2 hown'
      replace hown' := Lib.hid hown'
      replace hgrow := Lib.hid hgrow
      go_wp2
      go_roundw
      case rel =>
        refine ⟨k + 1, p', cc', by omega, by go_num, rfl, ?_, ?_⟩
        · exact (hb.out.alloc hbs _).grown hgrow.out (by simp; omega) (fun g hg => (hown.out.lt g hg).1)
        · have h := hown'.out
          rw [htk.out, List.map_append]
          rw [← List.map_take] at h
          exact h
      case measure => simp [intOf]; omega
    · obtain rfl : k = l := by omega
      have htl : X.take k = X := List.take_of_length_le (by rw [hlen.out]; exact Nat.le_refl _)
      rw [htl] at hown
      have hbs := hb.size
      have hb2 : Below w.heap.size w ((wr.alloc (.cells #[.bool false, .slice none 0 0, .bool false] 53 (0, 0))).alloc (.cells #[.bool false, .slice none 0 0] 51 (0, 0))) := (hb.alloc hbs _).alloc (by simp; omega) _
      have key := tail_c w _ p k cc X hb2 ((hown.alloc _).alloc _) hlen.out hX.out.wd hl wr.heap.size (wr.heap.size + 1) (allocB_old (allocB _ _)) (allocB_at _ _ (by simp)) (by omega) hbs (by omega)
      replace key := Lib.hid key
      clear hb2 hb hown htl
      go_wp2_with fail
      with_reducible refine key.out.mono ?_
      rintro e w2 ⟨rfl, k2⟩
      replace k2 := Lib.hid k2
      go_wp2_with fail
      with_reducible refine k2.out.mono ?_
      rintro e w3 ⟨rfl, v, o, h1, h2, h3, h4⟩
      go_wp2
      go_ret
      exact ⟨wr.heap.size, v, o, rfl, hbs, h1, h2, h3, h4⟩
end Go.Proofs.YtonepclpllelfaaGreatDoor

namespace Go.Proofs.YtonepclpllelfaaGreatDoor
open Go Go.RowKit

/-- A finite decimal is made, of words that fit. -/
def MadeF (w w' : World) (e : Ending) (n : Bool) (ex : Int) (N : Nat) : Prop :=
  ∃ k o, e = .returned (.pointer (some ⟨k, 0, none⟩)) ∧ w.heap.size ≤ k ∧ k < w'.heap.size ∧ DecA w' k 0 n ex N o ∧ (∀ b, o = some b → w.heap.size ≤ b ∧ b < w'.heap.size ∧ b ≠ k) ∧ Chg w w' (fun _ => False)

set_option maxHeartbeats 2000000 in
theorem madeF_c (w : World) (n : Bool) (A : Option Addr) (l c : Nat) (X : List Nat) (ex : Int) (hX : RdW w A l c X) (hl : l ≤ 900) (he : -2147483648 ≤ ex ∧ ex ≤ 2147483647) :
    Calls Tryz.prog 18 #[.agg #[.int .i64 0, .bool n, .slice A l c, .int .i64 ex]] w fun e w' => MadeF w w' e n ex (val X) := by
  have iw : IntKind.i32.wrap ex = ex := IntWalk.i32_in _ he
  obtain ⟨he1, he2⟩ := he
  have hw := fun w2 (hb : Below w.heap.size w w2) => whole_c w2 A l c X (hX.below hb) hl
  replace hw := Lib.hid hw
  have hLd : (digs (val X)).length ≤ 1000 := Nat.le_trans (digs_len_le.2 (by have := val_lt hX.wd; rwa [hX.len] at this)) (by omega : l ≤ 1000)
  clear hX
  go_enter Tryz.func18, Tryz.ntmps18
  go_wp2
  generalize hW : (w.alloc (.cells #[.int .i64 0, .bool n, .slice A l c, .int .i64 ex] 24 (0, 0))).alloc (.cells #[.int .i8 0, .bool false, .int .i32 ex, .bool false, .slice none 0 0, .bool false] 55 (0, 0)) = W
  have hB0 : Below w.heap.size w W := by rw [← hW]; exact ((Below.refl _ _).alloc (Nat.le_refl _) _).alloc (by simp) _
  have hBx : W.heap[w.heap.size]? = some (.cells #[.int .i64 0, .bool n, .slice A l c, .int .i64 ex] 24 (0, 0)) := by rw [← hW]; exact allocB_old (allocB _ _)
  have hD : DecZ W (w.heap.size + 1) 0 false ex := by rw [← hW]; exact allocB_at _ _ (by simp)
  have hsz : W.heap.size = w.heap.size + 2 := by rw [← hW]; simp
  clear hW iw
  have hS0 : W.drew.cell? ⟨w.heap.size, 2, none⟩ = some (.slice A l c) := cellB (w := W.drew) hBx rfl
  replace hB0 := Lib.hid hB0
  replace hBx := Lib.hid hBx
  replace hD := Lib.hid hD
  replace hsz := Lib.hid hsz
  go_region_held3 (fun w' => w'.cell? ⟨w.heap.size, 2, none⟩ = some (.slice A l c)) (with_reducible (first | exact hS0 | exact hS1 | exact hS2)) (first
    | (go_at_call 45
       refine (hw.out W.drew ⟨hB0.out.os, hB0.out.tape, hB0.out.output, hB0.out.size, hB0.out.block⟩).mono ?_
       rintro e w1 ⟨k, v, o, rfl, hk, hbk, hN, ho, hch1⟩
       have hX1 := hch1.heapB (show W.drew.heap[w.heap.size]? = _ from hBx.out) (fun h => h)
       have hS1 : w1.cell? ⟨w.heap.size, 2, none⟩ = some (.slice A l c) := cellB hX1 rfl
       have hD1 : DecZ w1 (w.heap.size + 1) 0 false ex := DecZ.chg (w := W.drew) hD.out hch1 (fun h => h)
       replace hX1 := Lib.hid hX1
       replace hD1 := Lib.hid hD1
       replace hbk := Lib.hid hbk
       replace hN := Lib.hid hN
       replace ho := Lib.hid ho
       replace hch1 := Lib.hid hch1
       replace hk := Lib.hid hk)
    | (go_at_call 44
       have hz := hsz.out
       have hkk := hk.out
       have hz2 : W.drew.heap.size = W.heap.size := rfl
       obtain ⟨pv, cv, rfl, _, _⟩ := hN.out.shape
       have hset := fun w2 (hc : Chg w1 w2 (fun j => j = w.heap.size + 1)) => set_c w2 (.slice none 0 0) _ (val X) none o (stor_none w2) (hN.out.chg hc (fun b hb e => by have := ho.out b hb; omega)) hLd
       refine (bigSet_c w1 (w.heap.size + 1) 3 k 0 _ _ _ _ none false false false false (.slice none 0 0) _ (val X) hD1.out (by decide) rfl rfl rfl hbk.out (by decide) rfl rfl rfl (by omega) (stor_none _) ⟨_, _, _, rfl⟩ hset).mono ?_
       rintro e w2 ⟨rfl, v', o', h1, h2, h3, h4⟩
       have hX2 := h4.heapB hX1.out (by rintro (h | h); omega; cases h)
       have hS2 : w2.cell? ⟨w.heap.size, 2, none⟩ = some (.slice A l c) := cellB hX2 rfl
       replace hX2 := Lib.hid hX2
       replace h1 := Lib.hid h1
       replace h2 := Lib.hid h2
       replace h3 := Lib.hid h3
       replace h4 := Lib.hid h4))
  have hz := hsz.out
  have hz2 : W.drew.heap.size = W.heap.size := rfl
  have hkk := hk.out
  have hs1 := hch1.out.size
  have b1 : w2.cell? ⟨w.heap.size, 1, none⟩ = some (.bool n) := cellB hX2.out rfl
  have h1a : w2.heap[w.heap.size + 1]? = some (.cells #[.int .i8 0, .bool false, .int .i32 ex, .bool false, v', .bool false] 55 (0, 0)) := h1.out
  have d1 := cellB (i := 1) h1a rfl
  have df1 := frozenB h1a 1
  replace h1a := Lib.hid h1a
  clear hS0 hS1 hS2
  go_wp2
  go_ret
  have hfin := setB (i := 1) (v := .bool n) h1a.out
  have hb' : ∀ b, o' = some b → W.heap.size ≤ b := by
    intro b hb
    rcases h3.out with h | h | ⟨b2, hb2, hlt⟩
    · rw [h] at hb; cases hb
    · rw [h] at hb; cases hb
    · rw [hb2] at hb; cases hb; omega
  have hlt2 : w.heap.size + 1 < w2.heap.size := ltB h1a.out
  refine ⟨w.heap.size + 1, o', rfl, by omega, by rw [World.size_setCell]; exact hlt2, ⟨v', hfin, h2.out.setCell _ _ _ (fun e => by have := hb' _ e; omega)⟩, fun b hb => ⟨by have := hb' b hb; omega, by rw [World.size_setCell]; subst hb; exact h2.out.lt, by have := hb' b hb; omega⟩, ?_⟩
  have hc : Chg w W (fun _ => False) := Below.chg hB0.out
  exact ((hc.drew.trans (hch1.out.mono (fun _ _ h => h.elim))).trans (h4.out.mono (fun k _ h => .inr (h.elim (fun h => by omega) (fun h => by cases h))))).trans ((chg_setB w2 (w.heap.size + 1) 1 _).mono (fun k _ h => .inr (by omega)))
end Go.Proofs.YtonepclpllelfaaGreatDoor

namespace Go.Proofs.YtonepclpllelfaaGreatDoor
open Go Go.RowKit

/-- A byte as a value. -/
def yw (x : Nat) : Value := .int .u8 (x : Int)
structure ArrY (w : World) (b : Nat) (D : List Nat) : Prop where
  heap : w.heap[b]? = some (.cells (D.map yw).toArray 5 (0, 0))
  by_ : ∀ x, x ∈ D → x < 256
theorem ArrY.cell {w : World} {b : Nat} {D : List Nat} (h : ArrY w b D) {i : Nat} (hi : i < D.length) : w.cell? ⟨b, i, none⟩ = some (.int .u8 (nth D i : Int)) := by
  refine cellB h.heap ?_
  rw [List.getElem?_toArray, List.getElem?_map, get_nth hi]; rfl
theorem ArrY.frozen {w : World} {b : Nat} {D : List Nat} (h : ArrY w b D) (i : Nat) : w.frozen? ⟨b, i, none⟩ = false := frozenB h.heap i
theorem ArrY.lt {w : World} {b : Nat} {D : List Nat} (h : ArrY w b D) : b < w.heap.size := ltB h.heap
theorem ArrY.chg {w w' : World} {S : Nat → Prop} {b : Nat} {D : List Nat} (h : ArrY w b D) (hc : Chg w w' S) (hn : ¬ S b) : ArrY w' b D := ⟨hc.heapB h.heap hn, h.by_⟩
theorem ArrY.set {w : World} {b : Nat} {D : List Nat} (h : ArrY w b D) (i x : Nat) (hx : x < 256) : ArrY (w.setCell ⟨b, i, none⟩ (.int .u8 (x : Int))) b (D.set i x) := by
  refine ⟨?_, fun y hy => ?_⟩
  · have h1 := setB (i := i) (v := .int .u8 (x : Int)) h.heap
    rw [h1]
    congr 2
    apply Array.ext'
    simp [List.map_set, yw]
  · rcases List.mem_or_eq_of_mem_set hy with h' | h'
    · exact h.by_ y h'
    · omega
theorem ArrY.neArr {w : World} {b k : Nat} {D C : List Nat} (h : ArrY w b D) (hk : Arr w k C) : k ≠ b := hk.ne2 h.heap (by decide)
theorem nth_set {l : List Nat} {i x : Nat} (h : i < l.length) : nth (l.set i x) i = x := by unfold nth; simp [h]
theorem nth_set_ne {l : List Nat} {i j x : Nat} (h : i ≠ j) : nth (l.set i x) j = nth l j := by unfold nth; rw [List.getElem?_set_ne h]

/-- The figures of Q stand in D from i on. -/
def FigsFrom (D : List Nat) (Q n i : Nat) : Prop := D.length = n ∧ i ≤ n ∧ ∀ j, i ≤ j → j < n → nth D j = 48 + Q / 10 ^ (n - 1 - j) % 10
theorem FigsFrom.step {D : List Nat} {Q n i : Nat} (h : FigsFrom D Q n (i + 1)) : FigsFrom (D.set i (48 + Q / 10 ^ (n - 1 - i) % 10)) Q n i := by
  obtain ⟨h1, h2, h3⟩ := h
  refine ⟨by rw [List.length_set]; exact h1, by omega, fun j hj hn => ?_⟩
  by_cases e : i = j
  · subst e; exact nth_set (by omega)
  · rw [nth_set_ne e]; exact h3 j (by omega) hn
theorem mod_tens (a m : Nat) : a % 10 ^ (m + 1) / 10 = a / 10 % 10 ^ m := by
  rw [ten_succ, Nat.mod_mul_right_div_self]
theorem mod_ten (a m : Nat) : a % 10 ^ (m + 1) % 10 = a % 10 := by
  rw [ten_succ]; exact Nat.mod_mod_of_dvd _ (Nat.dvd_mul_right _ _)
theorem div_tens (a k : Nat) : a / 10 ^ k / 10 = a / 10 ^ (k + 1) := by rw [Nat.div_div_eq_div_mul, Nat.pow_succ]

theorem infoY : (Tryz.prog.info? 5).map (fun i => (i.zero, i.size, i.bytes)) = some (some (.int .u8 0), 1, 1) := by kernel_rfl
theorem run_makeY (w : World) {l : Int} {l' : Nat} (hl : l = l') (hcap : l' ≤ 1000000) :
    (Instr.makeSlice 100 (.int .i64 l) (.int .i64 l)).run Tryz.prog w = .ok (.slice (some ⟨w.heap.size, 0, none⟩) l' l') (w.alloc (.cells ((List.replicate l' 0).map yw).toArray 5 (0, 0))) := by
  have h := infoY
  cases hi : Tryz.prog.info? 5 with
  | none => rw [hi] at h; cases h
  | some i =>
    rw [hi] at h
    simp only [Option.map_some, Option.some.injEq, Prod.mk.injEq] at h
    obtain ⟨h1, h2, h3⟩ := h
    subst hl
    rw [run_make (P := Tryz.prog) w 100 5 i (.int .u8 0) Tryz.underlying100 hi h1 .i64 .i64 l' l' (by omega) (by omega) (by rw [h3]; omega) (by omega)]
    simp only [Int.toNat_natCast]
    have e : madeCells (Value.int .u8 0).cells (l' * i.size) = ((List.replicate l' 0).map yw).toArray := by
      rw [h2, Nat.mul_one]
      unfold madeCells
      apply Array.ext
      · simp
      · intro j h1 h2
        simp [Value.cells, yw]
        have : j % 1 = 0 := Nat.mod_one j
        simp [Nat.mod_one]
    rw [e]
theorem arrY_zero (w : World) (c : Nat) : ArrY (w.alloc (.cells ((List.replicate c 0).map yw).toArray 5 (0, 0))) w.heap.size (List.replicate c 0) :=
  ⟨allocB _ _, fun x hx => by rw [List.eq_of_mem_replicate hx]; omega⟩

theorem maxPow_c (w : World) : Calls Tryz.prog 201 #[.int .u64 10] w fun e w' => e = .returned (.tuple #[.int .u64 10000000000000000000, .int .i64 19]) ∧ w = w' := by
  go_enter Tryz.func201, Tryz.ntmps201
  go_wp2
  go_loop [2, 3] (fun p n => ∃ k : Nat, 1 ≤ k ∧ k ≤ 19 ∧ p = .int .u64 ((10 ^ k : Nat) : Int) ∧ n = .int .i64 (k : Int)) (fun _ n => 19 - (intOf n).toNat)
  case atStart => exact ⟨1, by omega, by omega, rfl, rfl⟩
  case round =>
    obtain ⟨k, h1, h2, rfl, rfl⟩ := hrel
    by_cases hk : k < 19
    · have hp : 10 ^ k ≤ 1000000000000000000 := by have := ten_le (show k ≤ 18 by omega); exact this
      have hs : 10 ^ (k + 1) = 10 * 10 ^ k := ten_succ k
      generalize 10 ^ k = p at *
      have hn : IntKind.u64.wrap ((p : Int) * 10) = ((10 * p : Nat) : Int) := by rw [show (p : Int) * 10 = ((10 * p : Nat) : Int) by omega]; exact IntWalk.u64_in _ (by omega)
      have hn2 : (p : Int) * 10 = ((10 * p : Nat) : Int) := by omega
      have hle : (p : Int) ≤ 1844674407370955161 := by omega
      replace hs := Lib.hid hs
      go_wp2
      go_round
      case rel => exact ⟨k + 1, by omega, by omega, by rw [hs.out]; congr 1, by go_num⟩
      case measure => simp [intOf]; omega
    · obtain rfl : k = 19 := by omega
      have hgt : ¬ ((10 ^ 19 : Nat) : Int) ≤ 1844674407370955161 := by decide
      have e : ((10 ^ 19 : Nat) : Int) = 10000000000000000000 := by decide
      rw [e] at hgt ⊢
      clear e
      go_wp2
      go_ret2
      exact ⟨rfl, rfl⟩
theorem divisors_c (w : World) (stk : Value) (hG : Glob w) (m : Nat) (n : Int) (hm : m ≤ 8) (b c : Int) : Calls Tryz.prog 202 #[stk, .int .i64 (m : Int), .int .u64 b, .int .i64 n, .int .u64 c] w fun e w' => e = .returned (.slice none 0 0) ∧ w = w' := by
  have g := hG.g6
  have hle : (m : Int) ≤ 8 := by omega
  go_enter Tryz.func202, Tryz.ntmps202
  go_wp2
  go_ret
  exact ⟨rfl, rfl⟩
end Go.Proofs.YtonepclpllelfaaGreatDoor
