/- laws.far: are more figures cut off than there are, by a mode that is not to the nearest, nor down. -/
import Derived.Test.YtcoljeafgiemkaaGreatDoorC21
import Derived.Test.YtcoljeafgiemkaaGreatDoorC26
namespace Go.Proofs.YtcoljeafgiemkaaGreatDoor
open Go Go.RowKit

set_option maxRecDepth 20000 in
set_option maxHeartbeats 40000000 in
theorem far_c (w : World) (n : Bool) (p : Option Addr) (l c : Nat) (e q : Int) (N m : Nat) (hX : RdD w p l c (d16 N)) (hl : l ≤ 900) (hm : m < 8) (he : -1000 ≤ e ∧ e ≤ 1000) (hq : -1000 ≤ q ∧ q ≤ 1000) :
    Calls Tryz.prog 13 #[.agg #[.bool n, .slice p l c, .int .i64 e], .int .i64 q, .int .i64 (m : Int)] w fun E w' => ∃ b, E = .returned (.bool b) ∧ Below w.heap.size w w' ∧ (b = false → (q - e).toNat ≤ figs N ∨ N = 0 ∨ m = 0 ∨ m = 1 ∨ m = 2 ∨ m = 5) := by
  have ew : IntKind.i64.wrap (q - e) = q - e := IntWalk.i64_in _ (by omega)
  have hl0 := d16_len0 hX.len
  replace hX := Lib.hid hX
  go_enter Tryz.func13, Tryz.ntmps13
  go_upto_region 1 with (fail)
  generalize hW : w.alloc (.cells #[.bool n, .slice p l c, .int .i64 e] 30 (0, 0)) = W
  have hB0 : Below w.heap.size w W := by rw [← hW]; exact (Below.refl _ _).alloc (Nat.le_refl _) _
  have hX0 : Bxs [(w.heap.size, #[.bool n, .slice p l c, .int .i64 e], 30)] W := by rw [← hW]; exact ⟨allocB _ _, trivial⟩
  clear hW
  have hrW := hX.out.below hB0
  have kfg := fun W2 (hb : Below W.heap.size W W2) => figuresD_c W2 p l c N (hrW.below hb) (by omega)
  have ksg := fun W2 => sign_c W2 n p l c e
  replace kfg := Lib.hid kfg
  replace hB0 := Lib.hid hB0
  replace hrW := Lib.hid hrW
  have hun : undef = Value.tuple #[] := rfl
  have hS0 : W.drew.cell? ⟨w.heap.size, 0, none⟩ = some (.bool n) ∧ W.drew.cell? ⟨w.heap.size, 1, none⟩ = some (.slice p l c) ∧ W.drew.cell? ⟨w.heap.size, 2, none⟩ = some (.int .i64 e) := ⟨cellB hX0.drew.1 rfl, cellB hX0.drew.1 rfl, cellB hX0.drew.1 rfl⟩
  replace hX0 := Lib.hid hX0
  replace hl0 := Lib.hid hl0
  by_cases h1 : (figs N : Int) < q - e
  · have hg1 : decide ((figs N : Int) < q - e) = true := decide_eq_true h1
    by_cases hz : l = 0
    · have hN0 := Lib.hid (hl0.out.1 hz)
      simp only [if_pos hz] at ksg
      replace ksg := Lib.hid ksg
      replace hz := Lib.hid hz
      clear h1
      first
        | (go_region_held (fun w' => w'.cell? ⟨w.heap.size, 0, none⟩ = some (.bool n) ∧ w'.cell? ⟨w.heap.size, 1, none⟩ = some (.slice p l c) ∧ w'.cell? ⟨w.heap.size, 2, none⟩ = some (.int .i64 e)) (first | exact hS0 | exact hS1 | exact hS2) (first
            | (go_at_call 18
               with_reducible refine (kfg.out _ (bD _)).mono ?_
               rintro E w5 ⟨rfl, hbV'⟩
               have hbV := bundrew hbV'
               have hX5 := hX0.out.new hbV
               have hS1 : w5.cell? ⟨w.heap.size, 0, none⟩ = some (.bool n) ∧ w5.cell? ⟨w.heap.size, 1, none⟩ = some (.slice p l c) ∧ w5.cell? ⟨w.heap.size, 2, none⟩ = some (.int .i64 e) := ⟨cellB hX5.1 rfl, cellB hX5.1 rfl, cellB hX5.1 rfl⟩
               replace hbV := Lib.hid hbV
               replace hX5 := Lib.hid hX5
               clear hbV')
            | (go_at_call 25
               with_reducible refine (ksg.out _).mono ?_
               rintro E w6 ⟨rfl, hbF⟩
               have hX6 := hX5.out.new hbF
               have hS2 : w6.cell? ⟨w.heap.size, 0, none⟩ = some (.bool n) ∧ w6.cell? ⟨w.heap.size, 1, none⟩ = some (.slice p l c) ∧ w6.cell? ⟨w.heap.size, 2, none⟩ = some (.int .i64 e) := ⟨cellB hX6.1 rfl, cellB hX6.1 rfl, cellB hX6.1 rfl⟩
               clear hX6)))
        | fail
      all_goals
        clear hun
        go_wp2
        go_ret
        exact ⟨false, rfl, brise hB0.out (brise hbV.out hbF), fun _ => .inr (.inl hN0.out)⟩
    · obtain ⟨sg, hsg⟩ : ∃ sg : Int, (if n then -1 else 1) = sg := ⟨_, rfl⟩
      simp only [if_neg hz, hsg] at ksg
      have hsg0 := sgn_ne n hsg
      have hsg1 : (sg != 0) = true := by simp [bne, hsg0]
      replace ksg := Lib.hid ksg
      replace hsg := Lib.hid hsg
      replace hz := Lib.hid hz
      clear h1
      by_cases h3 : m = 3
      · subst h3
        first
          | (go_region_held (fun w' => w'.cell? ⟨w.heap.size, 0, none⟩ = some (.bool n) ∧ w'.cell? ⟨w.heap.size, 1, none⟩ = some (.slice p l c) ∧ w'.cell? ⟨w.heap.size, 2, none⟩ = some (.int .i64 e)) (first | exact hS0 | exact hS1 | exact hS2) (first
              | (go_at_call 18
                 with_reducible refine (kfg.out _ (bD _)).mono ?_
                 rintro E w5 ⟨rfl, hbV'⟩
                 have hbV := bundrew hbV'
                 have hX5 := hX0.out.new hbV
                 have hS1 : w5.cell? ⟨w.heap.size, 0, none⟩ = some (.bool n) ∧ w5.cell? ⟨w.heap.size, 1, none⟩ = some (.slice p l c) ∧ w5.cell? ⟨w.heap.size, 2, none⟩ = some (.int .i64 e) := ⟨cellB hX5.1 rfl, cellB hX5.1 rfl, cellB hX5.1 rfl⟩
                 replace hbV := Lib.hid hbV
                 replace hX5 := Lib.hid hX5
                 clear hbV')
              | (go_at_call 25
                 with_reducible refine (ksg.out _).mono ?_
                 rintro E w6 ⟨rfl, hbF⟩
                 have hX6 := hX5.out.new hbF
                 have hS2 : w6.cell? ⟨w.heap.size, 0, none⟩ = some (.bool n) ∧ w6.cell? ⟨w.heap.size, 1, none⟩ = some (.slice p l c) ∧ w6.cell? ⟨w.heap.size, 2, none⟩ = some (.int .i64 e) := ⟨cellB hX6.1 rfl, cellB hX6.1 rfl, cellB hX6.1 rfl⟩
                 clear hX6)))
          | fail
        all_goals
          clear hun
          go_wp2
          go_ret
          exact ⟨true, rfl, brise hB0.out (brise hbV.out hbF), fun h => by cases h⟩
      · have q3 : ((m : Int) == 3) = false := beq_eq_false_iff_ne.2 (by omega)
        by_cases h4 : m = 4
        · subst h4
          first
            | (go_region_held (fun w' => w'.cell? ⟨w.heap.size, 0, none⟩ = some (.bool n) ∧ w'.cell? ⟨w.heap.size, 1, none⟩ = some (.slice p l c) ∧ w'.cell? ⟨w.heap.size, 2, none⟩ = some (.int .i64 e)) (first | exact hS0 | exact hS1 | exact hS2) (first
                | (go_at_call 18
                   with_reducible refine (kfg.out _ (bD _)).mono ?_
                   rintro E w5 ⟨rfl, hbV'⟩
                   have hbV := bundrew hbV'
                   have hX5 := hX0.out.new hbV
                   have hS1 : w5.cell? ⟨w.heap.size, 0, none⟩ = some (.bool n) ∧ w5.cell? ⟨w.heap.size, 1, none⟩ = some (.slice p l c) ∧ w5.cell? ⟨w.heap.size, 2, none⟩ = some (.int .i64 e) := ⟨cellB hX5.1 rfl, cellB hX5.1 rfl, cellB hX5.1 rfl⟩
                   replace hbV := Lib.hid hbV
                   replace hX5 := Lib.hid hX5
                   clear hbV')
                | (go_at_call 25
                   with_reducible refine (ksg.out _).mono ?_
                   rintro E w6 ⟨rfl, hbF⟩
                   have hX6 := hX5.out.new hbF
                   have hS2 : w6.cell? ⟨w.heap.size, 0, none⟩ = some (.bool n) ∧ w6.cell? ⟨w.heap.size, 1, none⟩ = some (.slice p l c) ∧ w6.cell? ⟨w.heap.size, 2, none⟩ = some (.int .i64 e) := ⟨cellB hX6.1 rfl, cellB hX6.1 rfl, cellB hX6.1 rfl⟩
                   clear hX6)))
            | fail
          all_goals
            clear hun
            go_wp2
            go_ret
            exact ⟨true, rfl, brise hB0.out (brise hbV.out hbF), fun h => by cases h⟩
        · have q4 : ((m : Int) == 4) = false := beq_eq_false_iff_ne.2 (by omega)
          by_cases h5 : 5 < m
          · have q5 : decide ((5 : Int) < (m : Int)) = true := decide_eq_true (by omega)
            have q6 : (5 : Int) < (m : Int) := by omega
            first
              | (go_region_held (fun w' => w'.cell? ⟨w.heap.size, 0, none⟩ = some (.bool n) ∧ w'.cell? ⟨w.heap.size, 1, none⟩ = some (.slice p l c) ∧ w'.cell? ⟨w.heap.size, 2, none⟩ = some (.int .i64 e)) (first | exact hS0 | exact hS1 | exact hS2) (first
                  | (go_at_call 18
                     with_reducible refine (kfg.out _ (bD _)).mono ?_
                     rintro E w5 ⟨rfl, hbV'⟩
                     have hbV := bundrew hbV'
                     have hX5 := hX0.out.new hbV
                     have hS1 : w5.cell? ⟨w.heap.size, 0, none⟩ = some (.bool n) ∧ w5.cell? ⟨w.heap.size, 1, none⟩ = some (.slice p l c) ∧ w5.cell? ⟨w.heap.size, 2, none⟩ = some (.int .i64 e) := ⟨cellB hX5.1 rfl, cellB hX5.1 rfl, cellB hX5.1 rfl⟩
                     replace hbV := Lib.hid hbV
                     replace hX5 := Lib.hid hX5
                     clear hbV')
                  | (go_at_call 25
                     with_reducible refine (ksg.out _).mono ?_
                     rintro E w6 ⟨rfl, hbF⟩
                     have hX6 := hX5.out.new hbF
                     have hS2 : w6.cell? ⟨w.heap.size, 0, none⟩ = some (.bool n) ∧ w6.cell? ⟨w.heap.size, 1, none⟩ = some (.slice p l c) ∧ w6.cell? ⟨w.heap.size, 2, none⟩ = some (.int .i64 e) := ⟨cellB hX6.1 rfl, cellB hX6.1 rfl, cellB hX6.1 rfl⟩
                     clear hX6)))
              | fail
            all_goals
              clear hun
              go_wp2
              go_ret
              exact ⟨true, rfl, brise hB0.out (brise hbV.out hbF), fun h => by cases h⟩
          · have q5 : decide ((5 : Int) < (m : Int)) = false := decide_eq_false (by omega)
            first
              | (go_region_held (fun w' => w'.cell? ⟨w.heap.size, 0, none⟩ = some (.bool n) ∧ w'.cell? ⟨w.heap.size, 1, none⟩ = some (.slice p l c) ∧ w'.cell? ⟨w.heap.size, 2, none⟩ = some (.int .i64 e)) (first | exact hS0 | exact hS1 | exact hS2) (first
                  | (go_at_call 18
                     with_reducible refine (kfg.out _ (bD _)).mono ?_
                     rintro E w5 ⟨rfl, hbV'⟩
                     have hbV := bundrew hbV'
                     have hX5 := hX0.out.new hbV
                     have hS1 : w5.cell? ⟨w.heap.size, 0, none⟩ = some (.bool n) ∧ w5.cell? ⟨w.heap.size, 1, none⟩ = some (.slice p l c) ∧ w5.cell? ⟨w.heap.size, 2, none⟩ = some (.int .i64 e) := ⟨cellB hX5.1 rfl, cellB hX5.1 rfl, cellB hX5.1 rfl⟩
                     replace hbV := Lib.hid hbV
                     replace hX5 := Lib.hid hX5
                     clear hbV')
                  | (go_at_call 25
                     with_reducible refine (ksg.out _).mono ?_
                     rintro E w6 ⟨rfl, hbF⟩
                     have hX6 := hX5.out.new hbF
                     have hS2 : w6.cell? ⟨w.heap.size, 0, none⟩ = some (.bool n) ∧ w6.cell? ⟨w.heap.size, 1, none⟩ = some (.slice p l c) ∧ w6.cell? ⟨w.heap.size, 2, none⟩ = some (.int .i64 e) := ⟨cellB hX6.1 rfl, cellB hX6.1 rfl, cellB hX6.1 rfl⟩
                     clear hX6)))
              | fail
            all_goals
              clear hun
              go_wp2
              go_ret
              exact ⟨false, rfl, brise hB0.out (brise hbV.out hbF), fun _ => by omega⟩
  · have hg1 : decide ((figs N : Int) < q - e) = false := decide_eq_false h1
    replace ksg := Lib.hid ksg
    have v0 := cellB hX0.out.1 (i := 0) rfl
    have v1 := cellB hX0.out.1 (i := 1) rfl
    have v2 := cellB hX0.out.1 (i := 2) rfl
    clear hS0
    replace h1 := Lib.hid h1
    first
      | (go_region_with (first
          | (go_at_call 18
             with_reducible refine (kfg.out _ (bD _)).mono ?_
             rintro E w5 ⟨rfl, hbV'⟩
             have hbV := bundrew hbV'
             have hX5 := hX0.out.new hbV
             obtain ⟨c0, c1, c2⟩ : w5.cell? ⟨w.heap.size, 0, none⟩ = some (.bool n) ∧ w5.cell? ⟨w.heap.size, 1, none⟩ = some (.slice p l c) ∧ w5.cell? ⟨w.heap.size, 2, none⟩ = some (.int .i64 e) := ⟨cellB hX5.1 rfl, cellB hX5.1 rfl, cellB hX5.1 rfl⟩
             replace hbV := Lib.hid hbV
             replace hX5 := Lib.hid hX5
             clear hbV')
          | (go_at_call 25
             with_reducible refine (ksg.out _).mono ?_
             rintro E w6 ⟨rfl, hbF⟩)))
      | fail
    all_goals
      clear hun
      go_wp2
      go_ret
      exact ⟨false, rfl, brise hB0.out hbV.out, fun _ => .inl (by have := h1.out; omega)⟩
end Go.Proofs.YtcoljeafgiemkaaGreatDoor
