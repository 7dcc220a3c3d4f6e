/- Figures cut off, as quantizing needs them: plain facts, no program. The reference's order of two values that are the same. -/
import Derived.Test.YtcoljeafgiemkaaGreatDoorC03
import Derived.Test.YtcoljeafgiemkaaGreatDoorC21
import Derived.Test.YtcoljeafgiemkaaGreatDoorTB
namespace Go.Proofs.YtcoljeafgiemkaaGreatDoor
end Go.Proofs.YtcoljeafgiemkaaGreatDoor

namespace Go.Proofs.YtcoljeafgiemkaaGreatDoor
open Go Go.RowKit

set_option maxRecDepth 20000 in
set_option maxHeartbeats 4000000 in
theorem order0_c (w : World) (s t : Bool) (p q : Option Addr) (l c a b : Nat) (e f : Int) (N M : Nat) (g : Int) (i j A B : Nat) (hX : RdD w p l c (d16 N)) (hY : RdD w q a b (d16 M)) (hl : l ≤ 1000) (ha : a ≤ 1000) (he : -1000 ≤ e ∧ e ≤ 1000) (hf : -1000 ≤ f ∧ f ≤ 1000)
    (hg : min e f = g) (hi : e - g = (i : Int)) (hj : f - g = (j : Int)) (hA : A = N * 10 ^ i) (hB : B = M * 10 ^ j) (heq : (s = t ∧ A = B) ∨ (A = 0 ∧ B = 0)) :
    Calls Tryz.prog 36 #[.agg #[.bool s, .slice p l c, .int .i64 e], .agg #[.bool t, .slice q a b, .int .i64 f]] w fun E w' => E = .returned (.int .i64 0) ∧ Below w.heap.size w w' := by
  have hz : (if s = !t then A + B else if B ≤ A then A - B else B - A) = 0 := by
    rcases heq with ⟨rfl, rfl⟩ | ⟨rfl, rfl⟩
    · cases s <;> simp
    · cases s <;> cases t <;> simp
  have ks := fun W (hb : Below w.heap.size w W) => sumV_c W s (!t) p q l c a b e f N M g i j A B (hX.below hb) (hY.below hb) hl ha he hf hg hi hj hA hB
  simp only [hz] at ks
  obtain ⟨SG, hSG⟩ : ∃ SG, sumS s (!t) A B = SG := ⟨_, rfl⟩
  rw [hSG] at ks
  replace ks := Lib.hid ks
  replace hSG := Lib.hid hSG
  replace hX := Lib.hid hX
  replace hY := Lib.hid hY
  clear hz hA hB heq hg hi hj
  go_enter Tryz.func36, Tryz.ntmps36
  go_upto_region 1 with (fail)
  generalize hW : (w.alloc (.cells #[.bool s, .slice p l c, .int .i64 e] 30 (0, 0))).alloc (.cells #[.bool t, .slice q a b, .int .i64 f] 30 (0, 0)) = W
  have hB0 : Below w.heap.size w W := by rw [← hW]; exact ((Below.refl _ _).alloc (Nat.le_refl _) _).alloc (by simp) _
  have hBv : Bv2 w.heap.size s t p q l c a b e f W := by rw [← hW]; exact ⟨allocB_old (allocB _ _), allocB_at _ _ (by simp)⟩
  clear hW
  have ko := opp_c W.drew t q a b f M ((hY.out.below hB0).below (Below.drw (Below.refl _ _)))
  have hS0 := (show Bv2 w.heap.size s t p q l c a b e f W.drew from hBv).cells
  replace ko := Lib.hid ko
  replace hB0 := Lib.hid hB0
  replace hBv := Lib.hid hBv
  go_region_held3 (fun w' => w'.cell? ⟨w.heap.size, 0, none⟩ = some (.bool s) ∧ w'.cell? ⟨w.heap.size, 1, none⟩ = some (.slice p l c) ∧ w'.cell? ⟨w.heap.size, 2, none⟩ = some (.int .i64 e) ∧ w'.cell? ⟨w.heap.size + 1, 0, none⟩ = some (.bool t) ∧ w'.cell? ⟨w.heap.size + 1, 1, none⟩ = some (.slice q a b) ∧ w'.cell? ⟨w.heap.size + 1, 2, none⟩ = some (.int .i64 f)) (first | exact hS0 | exact hS1 | exact hS2 | exact hS3) (first
    | (go_at_call 35
       with_reducible refine ko.out.mono ?_
       rintro E w1 ⟨rfl, hbo⟩
       have hb1 := bundrew hbo
       have hS1 := (hBv.out.new hb1).cells
       replace hb1 := Lib.hid hb1
       clear hbo)
    | (go_at_call 34
       with_reducible refine (ks.out w1 (brise hB0.out hb1.out)).mono ?_
       rintro E w2 ⟨r, lr, cr, rfl, h2⟩
       have hl0 : lr = 0 := (d16_len0 h2.rd.len).2 rfl
       subst hl0
       have hb2 := brise hb1.out h2.bel
       have hS2 := (hBv.out.new hb2).cells
       replace hb2 := Lib.hid hb2
       clear h2)
    | (go_at_call 25
       with_reducible refine (sign_c w2 SG r 0 cr g).mono ?_
       rintro E w3 ⟨rfl, hb3'⟩
       have hb3 := brise hb2.out hb3'
       have hS3 := (hBv.out.new hb3).cells
       replace hb3 := Lib.hid hb3
       clear hb3'))
  go_wp2
  go_ret
  exact ⟨by simp, brise hB0.out hb3.out⟩
set_option maxRecDepth 20000 in
set_option maxHeartbeats 4000000 in
theorem same_c (w : World) (s t : Bool) (p q : Option Addr) (l c a b : Nat) (e f : Int) (N M : Nat) (g : Int) (i j : Nat) (hX : RdD w p l c (d16 N)) (hY : RdD w q a b (d16 M)) (hl : l ≤ 1000) (ha : a ≤ 1000) (he : -1000 ≤ e ∧ e ≤ 1000) (hf : -1000 ≤ f ∧ f ≤ 1000)
    (hg : min e f = g) (hi : e - g = (i : Int)) (hj : f - g = (j : Int)) (heq : (s = t ∨ N = 0) ∧ N * 10 ^ i = M * 10 ^ j) :
    Calls Tryz.prog 24 #[.agg #[.bool s, .slice p l c, .int .i64 e], .agg #[.bool t, .slice q a b, .int .i64 f]] w fun E w' => E = .returned (.bool true) ∧ Below w.heap.size w w' := by
  have ks := fun W (hb : Below w.heap.size w W) => order0_c W s t p q l c a b e f N M g i j _ _ (hX.below hb) (hY.below hb) hl ha he hf hg hi hj rfl rfl (by
    obtain ⟨h1, h2⟩ := heq
    rcases h1 with h1 | h1
    · exact .inl ⟨h1, h2⟩
    · refine .inr ⟨by rw [h1, Nat.zero_mul], ?_⟩
      rw [← h2, h1, Nat.zero_mul])
  replace ks := Lib.hid ks
  clear hX hY heq hg hi hj
  go_enter Tryz.func24, Tryz.ntmps24
  go_upto_region 1 with (fail)
  generalize hW : (w.alloc (.cells #[.bool s, .slice p l c, .int .i64 e] 30 (0, 0))).alloc (.cells #[.bool t, .slice q a b, .int .i64 f] 30 (0, 0)) = W
  have hB0 : Below w.heap.size w W := by rw [← hW]; exact ((Below.refl _ _).alloc (Nat.le_refl _) _).alloc (by simp) _
  have hBv : Bv2 w.heap.size s t p q l c a b e f W := by rw [← hW]; exact ⟨allocB_old (allocB _ _), allocB_at _ _ (by simp)⟩
  clear hW
  obtain ⟨c0, c1, c2, d0, d1, d2⟩ := hBv.cells
  replace hB0 := Lib.hid hB0
  clear hBv
  go_wp2_with fail
  with_reducible refine (ks.out _ hB0.out).mono ?_
  rintro E w1 ⟨rfl, hb⟩
  go_wp2
  go_ret
  exact ⟨rfl, brise hB0.out hb⟩
end Go.Proofs.YtcoljeafgiemkaaGreatDoor
