/- impl.made of a finite decimal. -/
import Derived.Test.YtabggbajgpbmmaaGreatDoorJ5
namespace Go.Proofs.YtabggbajgpbmmaaGreatDoor
open Go Go.RowKit

/-- A finite decimal is made, of words that fit. -/
def MadeF (w w' : World) (e : Ending) (n : Bool) (ex : Int) (N : Nat) : Prop :=
  ∃ k o, e = .returned (.pointer (some ⟨k, 0, none⟩)) ∧ w.heap.size ≤ k ∧ k < w'.heap.size ∧ DecA w' k 0 n ex N o ∧ (∀ b, o = some b → w.heap.size ≤ b ∧ b < w'.heap.size ∧ b ≠ k) ∧ Chg w w' (fun _ => False)

set_option maxHeartbeats 2000000 in
theorem madeF_c (w : World) (n : Bool) (A : Option Addr) (l c : Nat) (X : List Nat) (ex : Int) (hX : RdW w A l c X) (hl : l ≤ 900) (he : -2147483648 ≤ ex ∧ ex ≤ 2147483647) :
    Calls Tryz.prog 19 #[.agg #[.int .i64 0, .bool n, .slice A l c, .int .i64 ex]] w fun e w' => MadeF w w' e n ex (val X) := by
  have iw : IntKind.i32.wrap ex = ex := IntWalk.i32_in _ he
  obtain ⟨he1, he2⟩ := he
  have hw := fun w2 (hb : Below w.heap.size w w2) => whole_c w2 A l c X (hX.below hb) hl
  replace hw := Lib.hid hw
  have hLd : (digs (val X)).length ≤ 1000 := Nat.le_trans (digs_len_le.2 (by have := val_lt hX.wd; rwa [hX.len] at this)) (by omega : l ≤ 1000)
  clear hX
  go_enter Tryz.func19, Tryz.ntmps19
  go_wp2
  generalize hW : (w.alloc (.cells #[.int .i64 0, .bool n, .slice A l c, .int .i64 ex] 24 (0, 0))).alloc (.cells #[.int .i8 0, .bool false, .int .i32 ex, .bool false, .slice none 0 0, .bool false] 58 (0, 0)) = W
  have hB0 : Below w.heap.size w W := by rw [← hW]; exact ((Below.refl _ _).alloc (Nat.le_refl _) _).alloc (by simp) _
  have hBx : W.heap[w.heap.size]? = some (.cells #[.int .i64 0, .bool n, .slice A l c, .int .i64 ex] 24 (0, 0)) := by rw [← hW]; exact allocB_old (allocB _ _)
  have hD : DecZ W (w.heap.size + 1) 0 false ex := by rw [← hW]; exact allocB_at _ _ (by simp)
  have hsz : W.heap.size = w.heap.size + 2 := by rw [← hW]; simp
  clear hW iw
  have hS0 : W.drew.cell? ⟨w.heap.size, 2, none⟩ = some (.slice A l c) := cellB (w := W.drew) hBx rfl
  replace hB0 := Lib.hid hB0
  replace hBx := Lib.hid hBx
  replace hD := Lib.hid hD
  replace hsz := Lib.hid hsz
  go_region_held3 (fun w' => w'.cell? ⟨w.heap.size, 2, none⟩ = some (.slice A l c)) (with_reducible (first | exact hS0 | exact hS1 | exact hS2)) (first
    | (go_at_call 49
       refine (hw.out W.drew ⟨hB0.out.os, hB0.out.tape, hB0.out.output, hB0.out.size, hB0.out.block⟩).mono ?_
       rintro e w1 ⟨k, v, o, rfl, hk, hbk, hN, ho, hch1⟩
       have hX1 := hch1.heapB (show W.drew.heap[w.heap.size]? = _ from hBx.out) (fun h => h)
       have hS1 : w1.cell? ⟨w.heap.size, 2, none⟩ = some (.slice A l c) := cellB hX1 rfl
       have hD1 : DecZ w1 (w.heap.size + 1) 0 false ex := DecZ.chg (w := W.drew) hD.out hch1 (fun h => h)
       replace hX1 := Lib.hid hX1
       replace hD1 := Lib.hid hD1
       replace hbk := Lib.hid hbk
       replace hN := Lib.hid hN
       replace ho := Lib.hid ho
       replace hch1 := Lib.hid hch1
       replace hk := Lib.hid hk)
    | (go_at_call 48
       have hz := hsz.out
       have hkk := hk.out
       have hz2 : W.drew.heap.size = W.heap.size := rfl
       obtain ⟨pv, cv, rfl, _, _⟩ := hN.out.shape
       have hset := fun w2 (hc : Chg w1 w2 (fun j => j = w.heap.size + 1)) => set_c w2 (.slice none 0 0) _ (val X) none o (stor_none w2) (hN.out.chg hc (fun b hb e => by have := ho.out b hb; omega)) hLd
       refine (bigSet_c w1 (w.heap.size + 1) 3 k 0 _ _ _ _ none false false false false (.slice none 0 0) _ (val X) hD1.out (by decide) rfl rfl rfl hbk.out (by decide) rfl rfl rfl (by omega) (stor_none _) ⟨_, _, _, rfl⟩ hset).mono ?_
       rintro e w2 ⟨rfl, v', o', h1, h2, h3, h4⟩
       have hX2 := h4.heapB hX1.out (by rintro (h | h); omega; cases h)
       have hS2 : w2.cell? ⟨w.heap.size, 2, none⟩ = some (.slice A l c) := cellB hX2 rfl
       replace hX2 := Lib.hid hX2
       replace h1 := Lib.hid h1
       replace h2 := Lib.hid h2
       replace h3 := Lib.hid h3
       replace h4 := Lib.hid h4))
  have hz := hsz.out
  have hz2 : W.drew.heap.size = W.heap.size := rfl
  have hkk := hk.out
  have hs1 := hch1.out.size
  have b1 : w2.cell? ⟨w.heap.size, 1, none⟩ = some (.bool n) := cellB hX2.out rfl
  have h1a : w2.heap[w.heap.size + 1]? = some (.cells #[.int .i8 0, .bool false, .int .i32 ex, .bool false, v', .bool false] 58 (0, 0)) := h1.out
  have d1 := cellB (i := 1) h1a rfl
  have df1 := frozenB h1a 1
  replace h1a := Lib.hid h1a
  clear hS0 hS1 hS2
  go_wp2
  go_ret
  have hfin := setB (i := 1) (v := .bool n) h1a.out
  have hb' : ∀ b, o' = some b → W.heap.size ≤ b := by
    intro b hb
    rcases h3.out with h | h | ⟨b2, hb2, hlt⟩
    · rw [h] at hb; cases hb
    · rw [h] at hb; cases hb
    · rw [hb2] at hb; cases hb; omega
  have hlt2 : w.heap.size + 1 < w2.heap.size := ltB h1a.out
  refine ⟨w.heap.size + 1, o', rfl, by omega, by rw [World.size_setCell]; exact hlt2, ⟨v', hfin, h2.out.setCell _ _ _ (fun e => by have := hb' _ e; omega)⟩, fun b hb => ⟨by have := hb' b hb; omega, by rw [World.size_setCell]; subst hb; exact h2.out.lt, by have := hb' b hb; omega⟩, ?_⟩
  have hc : Chg w W (fun _ => False) := Below.chg hB0.out
  exact ((hc.drew.trans (hch1.out.mono (fun _ _ h => h.elim))).trans (h4.out.mono (fun k _ h => .inr (h.elim (fun h => by omega) (fun h => by cases h))))).trans ((chg_setB w2 (w.heap.size + 1) 1 _).mono (fun k _ h => .inr (by omega)))
end Go.Proofs.YtabggbajgpbmmaaGreatDoor
