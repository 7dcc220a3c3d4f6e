/- What the laws of rounding near limits and of quotients need: plain facts, no program. spec.Sign. The reference's order of two values that are the same. The reference's quotient of values. The reference's integer part of a quotient, and what is left. A value of the reference without noughts at its end. Boxes kept as a list. laws.alike: two decimals as plain data that are the same. -/
import Derived.Test.YtffjgkghmdhlkaaGreatDoorG10
import Derived.Test.YtffjgkghmdhlkaaGreatDoorC16
import Derived.Test.YtffjgkghmdhlkaaGreatDoorC20
import Derived.Test.YtffjgkghmdhlkaaGreatDoorC21
namespace Go.Proofs.YtffjgkghmdhlkaaGreatDoor

theorem awayN_sg {n : Bool} {l m : Nat} {h : Int} (hm : n = true → m ≠ 3 ∧ m ≠ 4) : awayN n l h m = awayN false l h m := by
  cases n with
  | false => rfl
  | true =>
    obtain ⟨h3, h4⟩ := hm rfl
    match m, h3, h4 with
    | 0, _, _ => rfl
    | 1, _, _ => rfl
    | 2, _, _ => rfl
    | 3, h3, _ => exact absurd rfl h3
    | 4, _, h4 => exact absurd rfl h4
    | 5, _, _ => rfl
    | 6, _, _ => rfl
    | 7, _, _ => rfl
    | _ + 8, _, _ => rfl
/-- Cutting without the sign, but for the modes that look at it. -/
theorem cutN_sg {n : Bool} {N k m : Nat} (hm : n = true → m ≠ 3 ∧ m ≠ 4) : cutN n N k m = cutN false N k m := by
  unfold cutN
  rw [awayN_sg hm]
theorem scale_eq {a b s t i j : Nat} (h : a * 10 ^ s = b * 10 ^ t) (hij : s + j = t + i) : a * 10 ^ i = b * 10 ^ j := by
  have h1 : a * 10 ^ i * 10 ^ (s + j) = b * 10 ^ j * 10 ^ (s + j) := by
    rw [show a * 10 ^ i * 10 ^ (s + j) = a * 10 ^ s * (10 ^ i * 10 ^ j) by rw [Nat.pow_add]; ac_rfl, h, hij, Nat.pow_add]
    ac_rfl
  exact Nat.eq_of_mul_eq_mul_right (ten_pos _) h1
/-- A power of ten whose noughts are off. -/
theorem bare_ten {C i j : Nat} (h : C * 10 ^ i = 10 ^ j) (hC : C % 10 ≠ 0) : C = 1 := by
  rcases Nat.lt_or_ge i j with hij | hij
  · have h1 : C = 10 ^ (j - i) := by
      have : C * 10 ^ i = 10 ^ (j - i) * 10 ^ i := by rw [h, ← Nat.pow_add]; congr 1; omega
      exact Nat.eq_of_mul_eq_mul_right (ten_pos i) this
    obtain ⟨q, hq⟩ : ∃ q, j - i = q + 1 := ⟨j - i - 1, by omega⟩
    rw [h1, hq, ten_succ] at hC
    omega
  · have h2 := ten_pos j
    have h3 : C * 10 ^ (i - j) = 1 := by
      have : C * 10 ^ (i - j) * 10 ^ j = 1 * 10 ^ j := by rw [Nat.mul_assoc, ← Nat.pow_add, Nat.one_mul, ← h]; congr 2; omega
      exact Nat.eq_of_mul_eq_mul_right h2 this
    have h4 := ten_pos (i - j)
    exact Nat.eq_one_of_mul_eq_one_right h3
theorem rndX_iff {C p : Nat} (h : p < figs C) : rndX C p = inexN C (figs C - p) := by unfold rndX; rw [if_neg (by omega)]
/-- The reference's quotient is not too long. -/
theorem sticky_ten {A B k j : Nat} (_hB : B ≠ 0) (h : A < 10 ^ j) : sticky (A * 10 ^ k) B < 10 ^ (j + k + 1) := by
  have h1 : A * 10 ^ k < 10 ^ (j + k) := by rw [Nat.pow_add]; exact Nat.mul_lt_mul_of_pos_right h (ten_pos k)
  have h2 := Nat.div_le_self (A * 10 ^ k) B
  have h3 := ten_succ (j + k)
  unfold sticky
  split <;> omega
end Go.Proofs.YtffjgkghmdhlkaaGreatDoor
namespace Go.Proofs.YtffjgkghmdhlkaaGreatDoor
open Go Go.RowKit

theorem sign_c (w : World) (n : Bool) (p : Option Addr) (m cc : Nat) (e : Int) :
    Calls Tryz.prog 11 #[.agg #[.bool n, .slice p m cc, .int .i64 e]] w fun E w' => E = .returned (.int .i64 (if m = 0 then 0 else if n then -1 else 1)) ∧ Below w.heap.size w w' := by
  go_enter Tryz.func11, Tryz.ntmps11
  by_cases h : m = 0
  · subst h
    go_wp2
    go_ret
    exact ⟨rfl, (Below.refl _ _).alloc (Nat.le_refl _) _⟩
  · have e0 : ((m : Int) == 0) = false := by simp; omega
    cases n with
    | true =>
      go_wp2
      go_ret
      exact ⟨by simp, (Below.refl _ _).alloc (Nat.le_refl _) _⟩
    | false =>
      go_wp2
      go_ret
      exact ⟨by simp, (Below.refl _ _).alloc (Nat.le_refl _) _⟩
end Go.Proofs.YtffjgkghmdhlkaaGreatDoor
namespace Go.Proofs.YtffjgkghmdhlkaaGreatDoor
open Go Go.RowKit

set_option maxRecDepth 20000 in
set_option maxHeartbeats 4000000 in
theorem order0_c (w : World) (s t : Bool) (p q : Option Addr) (l c a b : Nat) (e f : Int) (N M : Nat) (g : Int) (i j A B : Nat) (hX : RdD w p l c (d16 N)) (hY : RdD w q a b (d16 M)) (hl : l ≤ 1000) (ha : a ≤ 1000) (he : -1000 ≤ e ∧ e ≤ 1000) (hf : -1000 ≤ f ∧ f ≤ 1000)
    (hg : min e f = g) (hi : e - g = (i : Int)) (hj : f - g = (j : Int)) (hA : A = N * 10 ^ i) (hB : B = M * 10 ^ j) (heq : (s = t ∧ A = B) ∨ (A = 0 ∧ B = 0)) :
    Calls Tryz.prog 42 #[.agg #[.bool s, .slice p l c, .int .i64 e], .agg #[.bool t, .slice q a b, .int .i64 f]] w fun E w' => E = .returned (.int .i64 0) ∧ Below w.heap.size w w' := by
  have hz : (if s = !t then A + B else if B ≤ A then A - B else B - A) = 0 := by
    rcases heq with ⟨rfl, rfl⟩ | ⟨rfl, rfl⟩
    · cases s <;> simp
    · cases s <;> cases t <;> simp
  have ks := fun W (hb : Below w.heap.size w W) => sumV_c W s (!t) p q l c a b e f N M g i j A B (hX.below hb) (hY.below hb) hl ha he hf hg hi hj hA hB
  simp only [hz] at ks
  obtain ⟨SG, hSG⟩ : ∃ SG, sumS s (!t) A B = SG := ⟨_, rfl⟩
  rw [hSG] at ks
  replace ks := Lib.hid ks
  replace hSG := Lib.hid hSG
  replace hX := Lib.hid hX
  replace hY := Lib.hid hY
  clear hz hA hB heq hg hi hj
  go_enter Tryz.func42, Tryz.ntmps42
  go_upto_region 1 with (fail)
  generalize hW : (w.alloc (.cells #[.bool s, .slice p l c, .int .i64 e] 30 (0, 0))).alloc (.cells #[.bool t, .slice q a b, .int .i64 f] 30 (0, 0)) = W
  have hB0 : Below w.heap.size w W := by rw [← hW]; exact ((Below.refl _ _).alloc (Nat.le_refl _) _).alloc (by simp) _
  have hBv : Bv2 w.heap.size s t p q l c a b e f W := by rw [← hW]; exact ⟨allocB_old (allocB _ _), allocB_at _ _ (by simp)⟩
  clear hW
  have ko := opp_c W.drew t q a b f M ((hY.out.below hB0).below (Below.drw (Below.refl _ _)))
  have hS0 := (show Bv2 w.heap.size s t p q l c a b e f W.drew from hBv).cells
  replace ko := Lib.hid ko
  replace hB0 := Lib.hid hB0
  replace hBv := Lib.hid hBv
  go_region_held3 (fun w' => w'.cell? ⟨w.heap.size, 0, none⟩ = some (.bool s) ∧ w'.cell? ⟨w.heap.size, 1, none⟩ = some (.slice p l c) ∧ w'.cell? ⟨w.heap.size, 2, none⟩ = some (.int .i64 e) ∧ w'.cell? ⟨w.heap.size + 1, 0, none⟩ = some (.bool t) ∧ w'.cell? ⟨w.heap.size + 1, 1, none⟩ = some (.slice q a b) ∧ w'.cell? ⟨w.heap.size + 1, 2, none⟩ = some (.int .i64 f)) (first | exact hS0 | exact hS1 | exact hS2 | exact hS3) (first
    | (go_at_call 64
       with_reducible refine ko.out.mono ?_
       rintro E w1 ⟨rfl, hbo⟩
       have hb1 := bundrew hbo
       have hS1 := (hBv.out.new hb1).cells
       replace hb1 := Lib.hid hb1
       clear hbo)
    | (go_at_call 63
       with_reducible refine (ks.out w1 (brise hB0.out hb1.out)).mono ?_
       rintro E w2 ⟨r, lr, cr, rfl, h2⟩
       have hl0 : lr = 0 := (d16_len0 h2.rd.len).2 rfl
       subst hl0
       have hb2 := brise hb1.out h2.bel
       have hS2 := (hBv.out.new hb2).cells
       replace hb2 := Lib.hid hb2
       clear h2)
    | (go_at_call 11
       with_reducible refine (sign_c w2 SG r 0 cr g).mono ?_
       rintro E w3 ⟨rfl, hb3'⟩
       have hb3 := brise hb2.out hb3'
       have hS3 := (hBv.out.new hb3).cells
       replace hb3 := Lib.hid hb3
       clear hb3'))
  go_wp2
  go_ret
  exact ⟨by simp, brise hB0.out hb3.out⟩
set_option maxRecDepth 20000 in
set_option maxHeartbeats 4000000 in
theorem same_c (w : World) (s t : Bool) (p q : Option Addr) (l c a b : Nat) (e f : Int) (N M : Nat) (g : Int) (i j : Nat) (hX : RdD w p l c (d16 N)) (hY : RdD w q a b (d16 M)) (hl : l ≤ 1000) (ha : a ≤ 1000) (he : -1000 ≤ e ∧ e ≤ 1000) (hf : -1000 ≤ f ∧ f ≤ 1000)
    (hg : min e f = g) (hi : e - g = (i : Int)) (hj : f - g = (j : Int)) (heq : (s = t ∨ N = 0) ∧ N * 10 ^ i = M * 10 ^ j) :
    Calls Tryz.prog 18 #[.agg #[.bool s, .slice p l c, .int .i64 e], .agg #[.bool t, .slice q a b, .int .i64 f]] w fun E w' => E = .returned (.bool true) ∧ Below w.heap.size w w' := by
  have ks := fun W (hb : Below w.heap.size w W) => order0_c W s t p q l c a b e f N M g i j _ _ (hX.below hb) (hY.below hb) hl ha he hf hg hi hj rfl rfl (by
    obtain ⟨h1, h2⟩ := heq
    rcases h1 with h1 | h1
    · exact .inl ⟨h1, h2⟩
    · refine .inr ⟨by rw [h1, Nat.zero_mul], ?_⟩
      rw [← h2, h1, Nat.zero_mul])
  replace ks := Lib.hid ks
  clear hX hY heq hg hi hj
  go_enter Tryz.func18, Tryz.ntmps18
  go_upto_region 1 with (fail)
  generalize hW : (w.alloc (.cells #[.bool s, .slice p l c, .int .i64 e] 30 (0, 0))).alloc (.cells #[.bool t, .slice q a b, .int .i64 f] 30 (0, 0)) = W
  have hB0 : Below w.heap.size w W := by rw [← hW]; exact ((Below.refl _ _).alloc (Nat.le_refl _) _).alloc (by simp) _
  have hBv : Bv2 w.heap.size s t p q l c a b e f W := by rw [← hW]; exact ⟨allocB_old (allocB _ _), allocB_at _ _ (by simp)⟩
  clear hW
  obtain ⟨c0, c1, c2, d0, d1, d2⟩ := hBv.cells
  replace hB0 := Lib.hid hB0
  clear hBv
  go_wp2_with fail
  with_reducible refine (ks.out _ hB0.out).mono ?_
  rintro E w1 ⟨rfl, hb⟩
  go_wp2
  go_ret
  exact ⟨rfl, brise hB0.out hb⟩
end Go.Proofs.YtffjgkghmdhlkaaGreatDoor
namespace Go.Proofs.YtffjgkghmdhlkaaGreatDoor
open Go Go.RowKit

theorem small10_c (w : World) : Calls Tryz.prog 26 #[.int .i64 10] w fun e w' => ∃ p n cc, e = .returned (.slice p n cc) ∧ DRes w w' p n cc 10 := smallD_c w 10 (by decide)
set_option maxRecDepth 20000 in
set_option maxHeartbeats 8000000 in
theorem aheadV_c (w : World) (s t : Bool) (p q : Option Addr) (l c a b : Nat) (e f : Int) (N M n k : Nat) (hX : RdD w p l c (d16 N)) (hY : RdD w q a b (d16 M)) (hl : l ≤ 100) (ha : a ≤ 100) (he : -1000 ≤ e ∧ e ≤ 1000) (hf : -1000 ≤ f ∧ f ≤ 1000) (hM : M ≠ 0) (hn : n ≤ 100) (hfN : figs N ≤ 200) (hfM : figs M ≤ 200)
    (hk : n + 2 + figs M - figs N = k) :
    Calls Tryz.prog 23 #[.agg #[.bool s, .slice p l c, .int .i64 e], .agg #[.bool t, .slice q a b, .int .i64 f], .int .i64 (n : Int)] w fun E w' => ValN w w' E (s != t) (e - f - (k : Int) - 1) (sticky (N * 10 ^ k) M) := by
  have i1 : IntKind.i64.wrap ((n : Int) + 2) = (n : Int) + 2 := IntWalk.i64_in _ (by omega)
  have i2 : IntKind.i64.wrap ((n : Int) + 2 + (figs M : Int)) = (n : Int) + 2 + (figs M : Int) := IntWalk.i64_in _ (by omega)
  have i3 : IntKind.i64.wrap ((n : Int) + 2 + (figs M : Int) - (figs N : Int)) = (n : Int) + 2 + (figs M : Int) - (figs N : Int) := IntWalk.i64_in _ (by omega)
  have i4 : max 0 ((n : Int) + 2 + (figs M : Int) - (figs N : Int)) = (k : Int) := by omega
  have i5 : IntKind.i64.wrap (e - f) = e - f := IntWalk.i64_in _ (by omega)
  have i6 : IntKind.i64.wrap (e - f - (k : Int)) = e - f - (k : Int) := IntWalk.i64_in _ (by omega)
  have i7 : IntKind.i64.wrap (e - f - (k : Int) - 1) = e - f - (k : Int) - 1 := IntWalk.i64_in _ (by omega)
  have hk2 : k ≤ 400 := by omega
  have hpl := d16_len_pow 10 k (by decide)
  have hwl : (d16 (N * 10 ^ k)).length ≤ l + k := d16_len_wide hX.len
  have hql : (d16 (N * 10 ^ k / M)).length ≤ l + k := Nat.le_trans (d16_len_mono (Nat.div_le_self _ _)) hwl
  have hsl : (d16 (N * 10 ^ k / M * 10)).length ≤ l + k + 1 := Nat.le_trans (d16_len_wide (i := 1) rfl) (by omega)
  have kfX := fun W (hb : Below w.heap.size w W) => figuresD_c W p l c N (hX.below hb) (by omega)
  have kfY := fun W (hb : Below w.heap.size w W) => figuresD_c W q a b M (hY.below hb) (by omega)
  have kp := fun W => pow10_c W k (by omega)
  replace kfX := Lib.hid kfX
  replace kfY := Lib.hid kfY
  replace kp := Lib.hid kp
  replace hX := Lib.hid hX
  replace hY := Lib.hid hY
  replace hpl := Lib.hid hpl
  replace hwl := Lib.hid hwl
  replace hql := Lib.hid hql
  replace hsl := Lib.hid hsl
  replace hM := Lib.hid hM
  replace hk := Lib.hid hk
  have hs0 : N * 10 ^ k % M = 0 → N * 10 ^ k / M * 10 = sticky (N * 10 ^ k) M := fun h => by unfold sticky; rw [if_pos h]; omega
  have hs1 : ¬ N * 10 ^ k % M = 0 → N * 10 ^ k / M * 10 + 1 = sticky (N * 10 ^ k) M := fun h => by unfold sticky; rw [if_neg h]; omega
  unfold ValN
  generalize sticky (N * 10 ^ k) M = SK at hs0 hs1 ⊢
  replace hs0 := Lib.hid hs0
  replace hs1 := Lib.hid hs1
  go_enter Tryz.func23, Tryz.ntmps23
  go_upto_region 1 with (fail)
  generalize hW : ((w.alloc (.cells #[.bool s, .slice p l c, .int .i64 e] 30 (0, 0))).alloc (.cells #[.bool t, .slice q a b, .int .i64 f] 30 (0, 0))).alloc (.cells #[.bool false, .slice none 0 0, .int .i64 0] 30 (0, 0)) = W
  have hB0 : Below w.heap.size w W := by rw [← hW]; exact (((Below.refl _ _).alloc (Nat.le_refl _) _).alloc (by simp) _).alloc (by simp; omega) _
  have hBv : Bv2 w.heap.size s t p q l c a b e f W := by rw [← hW]; exact ⟨allocB_old (allocB_old (allocB _ _)), allocB_old (allocB_at _ _ (by simp))⟩
  have hR0 : W.heap[w.heap.size + 2]? = some (.cells #[.bool false, .slice none 0 0, .int .i64 0] 30 (0, 0)) := by rw [← hW]; exact allocB_at _ _ (by simp)
  have hsz : W.heap.size = w.heap.size + 3 := by rw [← hW]; simp
  clear hW
  have hS0 := (show Bv2 w.heap.size s t p q l c a b e f W.drew from hBv).cells
  replace hB0 := Lib.hid hB0
  replace hBv := Lib.hid hBv
  replace hR0 := Lib.hid hR0
  replace hsz := Lib.hid hsz
  go_region_held3 (fun w' => w'.cell? ⟨w.heap.size, 1, none⟩ = some (.slice p l c) ∧ w'.cell? ⟨w.heap.size + 1, 1, none⟩ = some (.slice q a b)) (first | exact ⟨hS0.2.1, hS0.2.2.2.2.1⟩ | exact ⟨hS1.2.1, hS1.2.2.2.2.1⟩ | exact ⟨hS2.2.1, hS2.2.2.2.2.1⟩) (first
    | (go_at_call 15
       with_reducible refine (kfY.out W.drew (Below.drw hB0.out)).mono ?_
       rintro E w1 ⟨rfl, hb1'⟩
       have hb1 := bundrew hb1'
       have hS1 := (hBv.out.new hb1).cells
       replace hb1 := Lib.hid hb1
       clear hb1')
    | (go_at_call 15
       with_reducible refine (kfX.out w1 (brise hB0.out hb1.out)).mono ?_
       rintro E w2 ⟨rfl, hb2'⟩
       have hb2 := brise hb1.out hb2'
       have hS2 := (hBv.out.new hb2).cells
       replace hb2 := Lib.hid hb2
       clear hb2'))
  clear hS0 hS1 hS2
  have hS2 := (hBv.out.new (brise hb2.out (Below.drw (Below.refl _ _)))).cells
  go_upto_region 2 with (fail)
  go_region_held3 (fun w' => w'.cell? ⟨w.heap.size, 1, none⟩ = some (.slice p l c) ∧ w'.cell? ⟨w.heap.size + 1, 1, none⟩ = some (.slice q a b)) (first | exact ⟨hS2.2.1, hS2.2.2.2.2.1⟩ | exact ⟨hS3.2.1, hS3.2.2.2.2.1⟩ | exact ⟨hS4.2.1, hS4.2.2.2.2.1⟩ | exact ⟨hS5.2.1, hS5.2.2.2.2.1⟩) (first
    | (go_at_call 35
       with_reducible refine (kp.out w2.drew).mono ?_
       rintro E w3 ⟨p1, l1, c1, rfl, h3⟩
       have hb3 := brise hb2.out (bundrew h3.bel)
       have hS3 := (hBv.out.new hb3).cells
       have hl1 : l1 ≤ k + 1 := by rw [← h3.rd.len]; exact hpl.out
       have hr1 := h3.rd
       replace hb3 := Lib.hid hb3
       replace hr1 := Lib.hid hr1
       clear h3)
    | (go_at_call 46
       with_reducible refine (mulD_c w3 p p1 l c l1 c1 N (10 ^ k) (hX.out.below (brise hB0.out hb3.out)) hr1.out (by omega) (by omega)).mono ?_
       rintro E w4 ⟨p2, l2, c2, rfl, h4⟩
       have hb4 := brise hb3.out h4.bel
       have hS4 := (hBv.out.new hb4).cells
       have hl2 : l2 ≤ l + k := by rw [← h4.rd.len]; exact hwl.out
       have hr2 := h4.rd
       replace hb4 := Lib.hid hb4
       replace hr2 := Lib.hid hr2
       clear h4)
    | (go_at_call 36
       with_reducible refine (divMod_c w4 p2 q l2 c2 a b (N * 10 ^ k) M hr2.out (hY.out.below (brise hB0.out hb4.out)) hM.out (by omega) (by omega)).mono ?_
       rintro E w5 ⟨p3, l3, c3, p4, l4, c4, rfl, h5, h6⟩
       have hb5 := brise hb4.out h5.bel
       have hS5 := (hBv.out.new hb5).cells
       have hl3 : l3 ≤ l + k := by rw [← h5.rd.len]; exact hql.out
       have hr3 := h5.rd
       have hr4 := h6.rd hr2.out h5.bel
       have hl4 := d16_len0 hr4.len
       replace hb5 := Lib.hid hb5
       replace hr3 := Lib.hid hr3
       replace hr4 := Lib.hid hr4
       replace hl4 := Lib.hid hl4
       clear h5 h6))
  clear hS2 hS3 hS4 hS5
  have ks := small10_c w5
  replace ks := Lib.hid ks
  go_wp2_with fail
  with_reducible refine ks.out.mono ?_
  rintro E w6 ⟨p5, l5, c5, rfl, h6⟩
  have hl5 : l5 ≤ 1 := by rw [← h6.rd.len, show d16 10 = [10] from by decide +kernel]; simp
  have km := mulD_c w6 p3 p5 l3 c3 l5 c5 (N * 10 ^ k / M) 10 (hr3.out.below h6.bel) h6.rd (by omega) (by omega)
  have hb6 := brise hb5.out h6.bel
  replace km := Lib.hid km
  replace hb6 := Lib.hid hb6
  clear h6 ks
  go_wp2_with fail
  with_reducible refine km.out.mono ?_
  rintro E w7 ⟨p7, l7, c7, rfl, h7⟩
  have hl7 : l7 ≤ l + k + 1 := by rw [← h7.rd.len]; exact hsl.out
  have hb7 := brise hb6.out h7.bel
  replace h7 := Lib.hid h7
  replace hb7 := Lib.hid hb7
  clear km
  by_cases h0 : l4 = 0
  · have hz := hl4.out.1 h0
    have hgt : decide ((l4 : Int) > 0) = false := by simp; omega
    have he0 := hs0.out hz
    replace he0 := Lib.hid he0
    replace hz := Lib.hid hz
    go_upto_region 6 with (fail)
    obtain ⟨v0, v1, v2, t0, t1, t2⟩ := (hBv.out.new hb7.out).cells
    have hRf := bkeep hb7.out hR0.out
    have z0 := cellB hRf (i := 0) rfl
    have z1 := cellB hRf (i := 1) rfl
    have z2 := cellB hRf (i := 2) rfl
    have y0 := frozenB hRf 0
    have y1 := frozenB hRf 1
    have y2 := frozenB hRf 2
    have hfin := ((DRes.early (w := W) h7.out hb6.out).eq he0.out)
    replace hRf := Lib.hid hRf
    replace hfin := Lib.hid hfin
    go_wp2
    clear v0 v1 v2 t0 t1 t2 z0 z1 z2 y0 y1 y2
    have hE := end3 hRf.out (.bool (!(s == t))) (.slice p7 l7 c7) (.int .i64 (e - f - (k : Int) - 1))
    have hch := chg3 w7 (w.heap.size + 2) (.bool (!(s == t))) (.slice p7 l7 c7) (.int .i64 (e - f - (k : Int) - 1))
    generalize ((w7.setCell ⟨w.heap.size + 2, 0, none⟩ (.bool (!(s == t)))).setCell ⟨w.heap.size + 2, 1, none⟩ (.slice p7 l7 c7)).setCell ⟨w.heap.size + 2, 2, none⟩ (.int .i64 (e - f - (k : Int) - 1)) = W9 at hE hch ⊢
    have e0 : W9.cell? ⟨w.heap.size + 1 + 1, 0, none⟩ = some (.bool (!(s == t))) := cellB hE rfl
    have e1 : W9.cell? ⟨w.heap.size + 1 + 1, 1, none⟩ = some (.slice p7 l7 c7) := cellB hE rfl
    have e2 : W9.cell? ⟨w.heap.size + 1 + 1, 2, none⟩ = some (.int .i64 (e - f - (k : Int) - 1)) := cellB hE rfl
    exact bodyPost_ret (v := .agg #[.bool (!(s == t)), .slice p7 l7 c7, .int .i64 (e - f - (k : Int) - 1)]) (by simp [results, Tryz.results23, go_sem, e0, e1, e2]) rfl ⟨p7, l7, c7, rfl, hfin.out.chgBox hB0.out hch (by omega) (by have := hsz.out; omega)⟩
  · have hz : ¬ N * 10 ^ k % M = 0 := fun h => h0 (hl4.out.2 h)
    have hgt : decide ((l4 : Int) > 0) = true := by simp; omega
    have he0 := hs1.out hz
    replace he0 := Lib.hid he0
    have ks := small1_c w7
    replace hz := Lib.hid hz
    replace ks := Lib.hid ks
    go_wp2_with fail
    with_reducible refine ks.out.mono ?_
    rintro E w8 ⟨p8, l8, c8, rfl, h8⟩
    have hl8 : l8 ≤ 1 := by rw [← h8.rd.len, show d16 1 = [1] from by decide +kernel]; simp
    have ka := addD_c w8 p7 p8 l7 c7 l8 c8 (N * 10 ^ k / M * 10) 1 (h7.out.rd.below h8.bel) h8.rd (by omega) (by omega)
    have hb8 := brise hb7.out h8.bel
    replace ka := Lib.hid ka
    replace hb8 := Lib.hid hb8
    clear h8 ks
    go_wp2_with fail
    with_reducible refine ka.out.mono ?_
    rintro E w9 ⟨p9, l9, c9, rfl, h9⟩
    have hb9 := brise hb8.out h9.bel
    replace h9 := Lib.hid h9
    replace hb9 := Lib.hid hb9
    go_upto_region 6 with (fail)
    obtain ⟨v0, v1, v2, t0, t1, t2⟩ := (hBv.out.new hb9.out).cells
    have hRf := bkeep hb9.out hR0.out
    have z0 := cellB hRf (i := 0) rfl
    have z1 := cellB hRf (i := 1) rfl
    have z2 := cellB hRf (i := 2) rfl
    have y0 := frozenB hRf 0
    have y1 := frozenB hRf 1
    have y2 := frozenB hRf 2
    have hfin := ((DRes.early (w := W) h9.out hb8.out).eq he0.out)
    replace hRf := Lib.hid hRf
    replace hfin := Lib.hid hfin
    go_wp2
    clear v0 v1 v2 t0 t1 t2 z0 z1 z2 y0 y1 y2
    have hE := end3 hRf.out (.bool (!(s == t))) (.slice p9 l9 c9) (.int .i64 (e - f - (k : Int) - 1))
    have hch := chg3 w9 (w.heap.size + 2) (.bool (!(s == t))) (.slice p9 l9 c9) (.int .i64 (e - f - (k : Int) - 1))
    generalize ((w9.setCell ⟨w.heap.size + 2, 0, none⟩ (.bool (!(s == t)))).setCell ⟨w.heap.size + 2, 1, none⟩ (.slice p9 l9 c9)).setCell ⟨w.heap.size + 2, 2, none⟩ (.int .i64 (e - f - (k : Int) - 1)) = W9 at hE hch ⊢
    have e0 : W9.cell? ⟨w.heap.size + 1 + 1, 0, none⟩ = some (.bool (!(s == t))) := cellB hE rfl
    have e1 : W9.cell? ⟨w.heap.size + 1 + 1, 1, none⟩ = some (.slice p9 l9 c9) := cellB hE rfl
    have e2 : W9.cell? ⟨w.heap.size + 1 + 1, 2, none⟩ = some (.int .i64 (e - f - (k : Int) - 1)) := cellB hE rfl
    exact bodyPost_ret (v := .agg #[.bool (!(s == t)), .slice p9 l9 c9, .int .i64 (e - f - (k : Int) - 1)]) (by simp [results, Tryz.results23, go_sem, e0, e1, e2]) rfl ⟨p9, l9, c9, rfl, hfin.out.chgBox hB0.out hch (by omega) (by have := hsz.out; omega)⟩
end Go.Proofs.YtffjgkghmdhlkaaGreatDoor
namespace Go.Proofs.YtffjgkghmdhlkaaGreatDoor
open Go Go.RowKit

theorem RdD.chgB {w w' : World} {A : Option Addr} {l c : Nat} {D : List Nat} {S : Nat → Prop} (h : RdD w A l c D) (hb : Chg w w' S) (hS : ∀ ad, A = some ad → ¬ S ad.block) : RdD w' A l c D :=
  ⟨h.len, h.cap, h.max, h.dg, fun hl => by
    obtain ⟨ad, e, hc⟩ := h.cells hl
    exact ⟨ad, e, fun j hj => hb.cell (hc j hj) (by rw [add_block]; exact hS ad e)⟩⟩
/-- Two values. -/
def DivV (w w' : World) (E : Ending) (s t : Bool) (g : Int) (Q R : Nat) : Prop := ∃ p3 l3 c3 p4 l4 c4, E = .returned (.tuple #[.agg #[.bool (s != t), .slice p3 l3 c3, .int .i64 0], .agg #[.bool s, .slice p4 l4 c4, .int .i64 g]]) ∧ RdD w' p3 l3 c3 (d16 Q) ∧ RdD w' p4 l4 c4 (d16 R) ∧ Below w.heap.size w w'
set_option maxRecDepth 20000 in
set_option maxHeartbeats 8000000 in
theorem divV_c (w : World) (s t : Bool) (p q : Option Addr) (l c a b : Nat) (e f : Int) (N M : Nat) (g : Int) (i j A B : Nat) (hX : RdD w p l c (d16 N)) (hY : RdD w q a b (d16 M)) (hl : l ≤ 100) (ha : a ≤ 100) (he : -300 ≤ e ∧ e ≤ 300) (hf : -300 ≤ f ∧ f ≤ 300)
    (hg : min e f = g) (hi : e - g = (i : Int)) (hj : f - g = (j : Int)) (hA : A = N * 10 ^ i) (hB : B = M * 10 ^ j) (hB0 : B ≠ 0) :
    Calls Tryz.prog 20 #[.agg #[.bool s, .slice p l c, .int .i64 e], .agg #[.bool t, .slice q a b, .int .i64 f]] w fun E w' => DivV w w' E s t g (A / B) (A % B) := by
  have hlA : (d16 A).length ≤ 800 := by rw [hA]; exact Nat.le_trans (d16_len_wide hX.len) (by omega)
  have hlB : (d16 B).length ≤ 800 := by rw [hB]; exact Nat.le_trans (d16_len_wide hY.len) (by omega)
  have kA := fun W (hb : Below w.heap.size w W) => wideV_c W s p l c e N g i (hX.below hb) (by omega) hi (by omega) (by omega)
  have kB := fun W (hb : Below w.heap.size w W) => wideV_c W t q a b f M g j (hY.below hb) (by omega) hj (by omega) (by omega)
  rw [← hA] at kA
  rw [← hB] at kB
  replace kA := Lib.hid kA
  replace kB := Lib.hid kB
  replace hlA := Lib.hid hlA
  replace hlB := Lib.hid hlB
  replace hB0 := Lib.hid hB0
  unfold DivV
  clear hX hY hA hB hi hj
  go_enter Tryz.func20, Tryz.ntmps20
  go_upto_region 1 with (fail)
  generalize hW : (((w.alloc (.cells #[.bool s, .slice p l c, .int .i64 e] 30 (0, 0))).alloc (.cells #[.bool t, .slice q a b, .int .i64 f] 30 (0, 0))).alloc (.cells #[.bool false, .slice none 0 0, .int .i64 0] 30 (0, 0))).alloc (.cells #[.bool false, .slice none 0 0, .int .i64 0] 30 (0, 0)) = W
  have hb0 : Below w.heap.size w W := by rw [← hW]; exact ((((Below.refl _ _).alloc (Nat.le_refl _) _).alloc (by simp) _).alloc (by simp; omega) _).alloc (by simp; omega) _
  have hBv : Bv2 w.heap.size s t p q l c a b e f W := by rw [← hW]; exact ⟨allocB_old (allocB_old (allocB_old (allocB _ _))), allocB_old (allocB_old (allocB_at _ _ (by simp)))⟩
  have hR0 : W.heap[w.heap.size + 2]? = some (.cells #[.bool false, .slice none 0 0, .int .i64 0] 30 (0, 0)) := by rw [← hW]; exact allocB_old (allocB_at _ _ (by simp))
  have hR1 : W.heap[w.heap.size + 3]? = some (.cells #[.bool false, .slice none 0 0, .int .i64 0] 30 (0, 0)) := by rw [← hW]; exact allocB_at _ _ (by simp)
  have hsz : W.heap.size = w.heap.size + 4 := by rw [← hW]; simp
  clear hW
  obtain ⟨v0, v1, v2, t0, t1, t2⟩ := hBv.cells
  replace hb0 := Lib.hid hb0
  replace hBv := Lib.hid hBv
  replace hR0 := Lib.hid hR0
  replace hR1 := Lib.hid hR1
  replace hsz := Lib.hid hsz
  go_upto_region 2 with (fail)
  clear v0 v1 v2 t0 t1 t2
  have hS0 := (show Bv2 w.heap.size s t p q l c a b e f W.drew from hBv.out).cells
  go_region_held3 (fun w' => w'.cell? ⟨w.heap.size, 0, none⟩ = some (.bool s) ∧ w'.cell? ⟨w.heap.size, 1, none⟩ = some (.slice p l c) ∧ w'.cell? ⟨w.heap.size, 2, none⟩ = some (.int .i64 e) ∧ w'.cell? ⟨w.heap.size + 1, 0, none⟩ = some (.bool t) ∧ w'.cell? ⟨w.heap.size + 1, 1, none⟩ = some (.slice q a b) ∧ w'.cell? ⟨w.heap.size + 1, 2, none⟩ = some (.int .i64 f)) (first | exact hS0 | exact hS1 | exact hS2 | exact hS3) (first
    | (go_at_call 43
       with_reducible refine (kA.out W.drew (Below.drw hb0.out)).mono ?_
       rintro E w1 ⟨p1, l1, c1, rfl, h1⟩
       have hb1 := bundrew h1.bel
       have hS1 := (hBv.out.new hb1).cells
       have hr1 := h1.rd
       have hloc1 : ∀ ad, p1 = some ad → W.heap.size ≤ ad.block := h1.loc
       have hl1 : l1 ≤ 800 := by rw [← hr1.len]; exact hlA.out
       replace hb1 := Lib.hid hb1
       replace hr1 := Lib.hid hr1
       replace hloc1 := Lib.hid hloc1
       clear h1)
    | (go_at_call 43
       with_reducible refine (kB.out w1 (brise hb0.out hb1.out)).mono ?_
       rintro E w2 ⟨q1, a1, b1, rfl, h2⟩
       have hb2 := brise hb1.out h2.bel
       have hS2 := (hBv.out.new hb2).cells
       have hr2 := h2.rd
       have hr1 := hr1.out.below h2.bel
       have hl2 : a1 ≤ 800 := by rw [← hr2.len]; exact hlB.out
       replace hb2 := Lib.hid hb2
       replace hr2 := Lib.hid hr2
       replace hr1 := Lib.hid hr1
       clear h2)
    | (go_at_call 36
       with_reducible refine (divMod_c w2 p1 q1 l1 c1 a1 b1 A B hr1.out hr2.out hB0.out (by omega) (by omega)).mono ?_
       rintro E w3 ⟨p3, l3, c3, p4, l4, c4, rfl, h3, h4⟩
       have hb3 := brise hb2.out h3.bel
       have hS3 := (hBv.out.new hb3).cells
       have hr3 := h3.rd
       have hr4 := h4.rd hr1.out h3.bel
       have hloc3 : ∀ ad, p3 = some ad → W.heap.size ≤ ad.block := fun ad ha => Nat.le_trans hb2.out.size (h3.loc ad ha)
       have hloc4 : ∀ ad, p4 = some ad → W.heap.size ≤ ad.block := fun ad ha => by
         rcases h4 with h | ⟨rfl, _⟩
         · exact Nat.le_trans hb2.out.size (h.loc ad ha)
         · exact hloc1.out ad ha
       replace hb3 := Lib.hid hb3
       replace hr3 := Lib.hid hr3
       replace hr4 := Lib.hid hr4
       replace hloc3 := Lib.hid hloc3
       replace hloc4 := Lib.hid hloc4
       clear h3 h4))
  clear hS0 hS1 hS2 hS3
  have hS3 := (hBv.out.new hb3.out).cells
  have hR3 := bkeep hb3.out hR0.out
  have hR4 := bkeep hb3.out hR1.out
  go_upto_region 3 with (fail)
  have z0 := cellB hR3 (i := 0) rfl
  have z1 := cellB hR3 (i := 1) rfl
  have z2 := cellB hR3 (i := 2) rfl
  have y0 := frozenB hR3 0
  have y1 := frozenB hR3 1
  have y2 := frozenB hR3 2
  have x0 := cellB hR4 (i := 0) rfl
  have x1 := cellB hR4 (i := 1) rfl
  have x2 := cellB hR4 (i := 2) rfl
  have u0 := frozenB hR4 0
  have u1 := frozenB hR4 1
  have u2 := frozenB hR4 2
  obtain ⟨v0, v1, v2, t0, t1, t2⟩ := hS3
  replace hR3 := Lib.hid hR3
  replace hR4 := Lib.hid hR4
  go_region
  all_goals
    go_wp2
    clear v0 v1 v2 t0 t1 t2 z0 z1 z2 y0 y1 y2 x0 x1 x2 u0 u1 u2
    have hE1 := end3 hR3.out (.bool (!(s == t))) (.slice p3 l3 c3) (.int .i64 0)
    have hc1 := chg3 w3 (w.heap.size + 2) (.bool (!(s == t))) (.slice p3 l3 c3) (.int .i64 0)
    have hR5 := hc1.heapB hR4.out (by omega)
    generalize ((w3.setCell ⟨w.heap.size + 2, 0, none⟩ (.bool (!(s == t)))).setCell ⟨w.heap.size + 2, 1, none⟩ (.slice p3 l3 c3)).setCell ⟨w.heap.size + 2, 2, none⟩ (.int .i64 0) = W8 at hE1 hc1 hR5 ⊢
    have hE2 := end3 hR5 (.bool s) (.slice p4 l4 c4) (.int .i64 g)
    have hc2 := chg3 W8 (w.heap.size + 3) (.bool s) (.slice p4 l4 c4) (.int .i64 g)
    have hE3 := hc2.heapB hE1 (by omega)
    generalize ((W8.setCell ⟨w.heap.size + 3, 0, none⟩ (.bool s)).setCell ⟨w.heap.size + 3, 1, none⟩ (.slice p4 l4 c4)).setCell ⟨w.heap.size + 3, 2, none⟩ (.int .i64 g) = W9 at hE2 hc2 hE3 ⊢
    have e0 : W9.cell? ⟨w.heap.size + 1 + 1, 0, none⟩ = some (.bool (!(s == t))) := cellB hE3 rfl
    have e1 : W9.cell? ⟨w.heap.size + 1 + 1, 1, none⟩ = some (.slice p3 l3 c3) := cellB hE3 rfl
    have e2 : W9.cell? ⟨w.heap.size + 1 + 1, 2, none⟩ = some (.int .i64 0) := cellB hE3 rfl
    have f0 : W9.cell? ⟨w.heap.size + 1 + 1 + 1, 0, none⟩ = some (.bool s) := cellB hE2 rfl
    have f1 : W9.cell? ⟨w.heap.size + 1 + 1 + 1, 1, none⟩ = some (.slice p4 l4 c4) := cellB hE2 rfl
    have f2 : W9.cell? ⟨w.heap.size + 1 + 1 + 1, 2, none⟩ = some (.int .i64 g) := cellB hE2 rfl
    have hs := hsz.out
    have hbW8 := bbox hb0.out hb3.out hc1 (by omega)
    have hbW9 := bbox (Below.refl _ _) hbW8 hc2 (by omega)
    have hrA := (hr3.out.chgB hc1 (fun ad ha h => by have := hloc3.out ad ha; omega)).chgB hc2 (fun ad ha h => by have := hloc3.out ad ha; omega)
    have hrB := (hr4.out.chgB hc1 (fun ad ha h => by have := hloc4.out ad ha; omega)).chgB hc2 (fun ad ha h => by have := hloc4.out ad ha; omega)
    exact bodyPost_ret (v := .tuple #[.agg #[.bool (!(s == t)), .slice p3 l3 c3, .int .i64 0], .agg #[.bool s, .slice p4 l4 c4, .int .i64 g]]) (by simp [results, Tryz.results20, go_sem, e0, e1, e2, f0, f1, f2]) rfl ⟨p3, l3, c3, p4, l4, c4, rfl, hrA.below (Below.drw (Below.refl _ _)), hrB.below (Below.drw (Below.refl _ _)), Below.drw hbW9⟩
end Go.Proofs.YtffjgkghmdhlkaaGreatDoor
namespace Go.Proofs.YtffjgkghmdhlkaaGreatDoor
open Go Go.RowKit

theorem RdD.chgB1 {w w' : World} {A : Option Addr} {l c : Nat} {D : List Nat} {k : Nat} (h : RdD w A l c D) (hb : Chg w w' (fun j => j = k)) (hS : ∀ ad, A = some ad → ad.block ≠ k) : RdD w' A l c D :=
  ⟨h.len, h.cap, h.max, h.dg, fun hl => by
    obtain ⟨ad, e, hc⟩ := h.cells hl
    exact ⟨ad, e, fun j hj => hb.cell (hc j hj) (by rw [add_block]; exact hS ad e)⟩⟩
theorem RdD.chgB0 {w w' : World} {A : Option Addr} {c : Nat} {D : List Nat} {S : Nat → Prop} (h : RdD w A 0 c D) (_hb : Chg w w' S) : RdD w' A 0 c D := ⟨h.len, h.cap, h.max, h.dg, fun hl => absurd hl (Nat.lt_irrefl 0)⟩
/-- A value, and how many noughts were off. -/
def BareV (w w' : World) (E : Ending) (s : Bool) (N : Nat) : Prop := ∃ q a b C e n, E = .returned (.tuple #[.agg #[.bool s, .slice q a b, .int .i64 e], .int .i64 n]) ∧ RdD w' q a b (d16 C) ∧ Below w.heap.size w w' ∧ (∀ j, N = 10 ^ j → C = 1)
set_option maxRecDepth 20000 in
set_option maxHeartbeats 8000000 in
theorem bareV_c (w : World) (s : Bool) (p : Option Addr) (l c : Nat) (e : Int) (N : Nat) (hX : RdD w p l c (d16 N)) (hl : l ≤ 1000) (he : -100000 ≤ e ∧ e ≤ 100000) (hN : figs N ≤ 1000) :
    Calls Tryz.prog 24 #[.agg #[.bool s, .slice p l c, .int .i64 e]] w fun E w' => BareV w w' E s N := by
  unfold BareV
  have hF0 : N ≠ 0 → 0 + figs N = figs N := fun _ => Nat.zero_add _
  have hlN := hX.len
  replace hX := Lib.hid hX
  replace hN := Lib.hid hN
  replace hF0 := Lib.hid hF0
  go_enter Tryz.func24, Tryz.ntmps24
  go_upto_region 1 with (fail)
  generalize hW : (w.alloc (.cells #[.bool s, .slice p l c, .int .i64 e] 30 (0, 0))).alloc (.cells #[.bool false, .slice none 0 0, .int .i64 0] 30 (0, 0)) = W
  have hb0 : Below w.heap.size w W := by rw [← hW]; exact ((Below.refl _ _).alloc (Nat.le_refl _) _).alloc (by simp) _
  have hV0 : W.heap[w.heap.size]? = some (.cells #[.bool s, .slice p l c, .int .i64 e] 30 (0, 0)) := by rw [← hW]; exact allocB_old (allocB _ _)
  have hR0 : W.heap[w.heap.size + 1]? = some (.cells #[.bool false, .slice none 0 0, .int .i64 0] 30 (0, 0)) := by rw [← hW]; exact allocB_at _ _ (by simp)
  have hsz : W.heap.size = w.heap.size + 2 := by rw [← hW]; simp
  clear hW
  have hX0 := hX.out.below hb0
  replace hb0 := Lib.hid hb0
  replace hV0 := Lib.hid hV0
  replace hR0 := Lib.hid hR0
  replace hsz := Lib.hid hsz
  replace hX0 := Lib.hid hX0
  go_upto_region 2 with (fail)
  go_loopw [4] (fun i wr => ∃ (k : Nat) (pa : Option Addr) (la ca Av : Nat), i = .int .i64 (k : Int) ∧ wr.heap[w.heap.size]? = some (.cells #[.bool s, .slice pa la ca, .int .i64 (e + (k : Int))] 30 (0, 0)) ∧ wr.heap[w.heap.size + 1]? = some (.cells #[.bool false, .slice none 0 0, .int .i64 0] 30 (0, 0)) ∧ RdD wr pa la ca (d16 Av) ∧ (∀ ad, pa = some ad → 0 < la → ad.block ≠ w.heap.size + 1) ∧ N = Av * 10 ^ k ∧ la ≤ 1000 ∧ Below w.heap.size w wr ∧ (Av ≠ 0 → k + figs Av = figs N) ∧ k ≤ 1000) (fun i _ => 2000 - (intOf i).toNat)
  case atStart => exact ⟨0, p, l, c, N, rfl, (by rw [show e + ((0 : Nat) : Int) = e by omega]; exact hV0.out), hR0.out, hX0.out, (fun ad ha hl0 => by
    obtain ⟨ad2, e2, hc2⟩ := hX.out.cells hl0
    rw [e2] at ha; cases ha
    have := World.block_lt_of_cell? w _ (hc2 0 hl0)
    rw [add_block] at this
    omega), (by rw [Nat.pow_zero, Nat.mul_one]), hl, hb0.out, hF0.out, Nat.zero_le _⟩
  case round =>
    obtain ⟨k, pa, la, ca, Av, rfl, hV, hR, hr, hnb, hNk, hla, hb, hfg, hk⟩ := hrel
    by_cases hA : Av = 0
    · have hl0 : la = 0 := (d16_len0 hr.len).2 hA
      subst hl0
      have hend : ∀ j, N = 10 ^ j → Av = 1 := fun j hj => by
        rw [hA, Nat.zero_mul] at hNk
        have := ten_pos j
        omega
      replace hend := Lib.hid hend
      replace hr := Lib.hid hr
      replace hb := Lib.hid hb
      replace hnb := Lib.hid hnb
      clear hNk hfg
      have z0 := cellB hR (i := 0) rfl
      have z1 := cellB hR (i := 1) rfl
      have z2 := cellB hR (i := 2) rfl
      have y0 := frozenB hR 0
      have y1 := frozenB hR 1
      have y2 := frozenB hR 2
      have v0 := cellB hV (i := 0) rfl
      have v1 := cellB hV (i := 1) rfl
      have v2 := cellB hV (i := 2) rfl
      have hRf := hR
      replace hRf := Lib.hid hRf
      go_wp2
      clear v0 v1 v2 z0 z1 z2 y0 y1 y2
      have hE := end3 hRf.out (.bool s) (.slice pa 0 ca) (.int .i64 (e + (k : Int)))
      have hch := chg3 wr (w.heap.size + 1) (.bool s) (.slice pa 0 ca) (.int .i64 (e + (k : Int)))
      generalize ((wr.setCell ⟨w.heap.size + 1, 0, none⟩ (.bool s)).setCell ⟨w.heap.size + 1, 1, none⟩ (.slice pa 0 ca)).setCell ⟨w.heap.size + 1, 2, none⟩ (.int .i64 (e + (k : Int))) = W9 at hE hch ⊢
      have e0 : W9.cell? ⟨w.heap.size + 1, 0, none⟩ = some (.bool s) := cellB hE rfl
      have e1 : W9.cell? ⟨w.heap.size + 1, 1, none⟩ = some (.slice pa 0 ca) := cellB hE rfl
      have e2 : W9.cell? ⟨w.heap.size + 1, 2, none⟩ = some (.int .i64 (e + (k : Int))) := cellB hE rfl
      exact bodyPost_ret (v := .tuple #[.agg #[.bool s, .slice pa 0 ca, .int .i64 (e + (k : Int))], .int .i64 (k : Int)]) (by simp [results, Tryz.results24, go_sem, e0, e1, e2]) rfl ⟨pa, 0, ca, Av, _, _, rfl, (hr.out.chgB0 hch), bbox (Below.refl _ _) hb.out hch (by omega), hend.out⟩
    · have hfg := hfg hA
      have hla1 := d16_pos hA
      rw [hr.len] at hla1
      have hfp := figs_pos Av
      have hN2 := hN.out
      have kb := by10_c wr pa la ca Av hr (by omega)
      have hrl := Nat.mod_lt Av (show 0 < 10 by decide)
      have hlen2 : (d16 (Av / 10)).length ≤ la := by have := d16_len_mono (Nat.div_le_self Av 10); rw [hr.len] at this; exact this
      have v1 := cellB hV (i := 1) rfl
      have hlb := ltB hV
      have hlb2 := ltB hR
      generalize hr10 : Av % 10 = r at kb hrl
      replace kb := Lib.hid kb
      replace hr := Lib.hid hr
      replace hb := Lib.hid hb
      replace hnb := Lib.hid hnb
      replace hNk := Lib.hid hNk
      replace hV := Lib.hid hV
      replace hR := Lib.hid hR
      replace hr10 := Lib.hid hr10
      replace hlen2 := Lib.hid hlen2
      have hgt : decide ((la : Int) > 0) = true := by simp; omega
      go_wp2_with fail
      with_reducible refine kb.out.mono ?_
      rintro E w1 ⟨p2, l2, c2, rfl, h2⟩
      have hV1 := bkeep h2.bel hV.out
      have hR1 := bkeep h2.bel hR.out
      have hb1 := brise hb.out h2.bel
      have hr1 := hr.out.below h2.bel
      replace hb1 := Lib.hid hb1
      replace hr1 := Lib.hid hr1
      clear v1
      by_cases hd : r = 0
      · subst hd
        have hA10 : Av = Av / 10 * 10 := by have := hr10.out; omega
        have hl2 : l2 ≤ la := by rw [← h2.rd.len]; exact hlen2.out
        have hloc : ∀ ad, p2 = some ad → wr.heap.size ≤ ad.block := h2.loc
        have hrd2 := h2.rd
        have v2 := cellB hV1 (i := 2) rfl
        have v1 := cellB hV1 (i := 1) rfl
        have y1 := frozenB hV1 1
        have y2 := frozenB hV1 2
        have ee : IntKind.i64.wrap (e + (k : Int) + 1) = e + ((k + 1 : Nat) : Int) := by rw [show e + (k : Int) + 1 = e + ((k + 1 : Nat) : Int) by omega]; exact IntWalk.i64_in _ (by omega)
        have ek : IntKind.i64.wrap ((k : Int) + 1) = ((k + 1 : Nat) : Int) := by rw [show (k : Int) + 1 = ((k + 1 : Nat) : Int) by omega]; exact IntWalk.i64_in _ (by omega)
        have hNn : N = Av / 10 * 10 ^ (k + 1) := by rw [hNk.out, ten_succ, ← Nat.mul_assoc, ← hA10]
        have hfs : Av / 10 ≠ 0 → k + 1 + figs (Av / 10) = figs N := fun h => by have := figs_step (n := Av) (by omega); omega
        replace hV1 := Lib.hid hV1
        replace hR1 := Lib.hid hR1
        replace hrd2 := Lib.hid hrd2
        replace hloc := Lib.hid hloc
        replace hNn := Lib.hid hNn
        replace hfs := Lib.hid hfs
        clear h2 hA10
        go_wp2
        have hch : Chg w1 ((w1.setCell ⟨w.heap.size, 1, none⟩ (.slice p2 l2 c2)).setCell ⟨w.heap.size, 2, none⟩ (.int .i64 (e + ((k + 1 : Nat) : Int)))) (fun j => j = w.heap.size) := (chg_setB w1 w.heap.size 1 _).trans ((chg_setB _ w.heap.size 2 _).mono (fun _ _ h => .inl h))
        have hVn := setB (i := 2) (v := .int .i64 (e + ((k + 1 : Nat) : Int))) (setB (i := 1) (v := .slice p2 l2 c2) hV1.out)
        go_roundw
        case rel =>
          exact ⟨k + 1, p2, l2, c2, Av / 10, rfl, hVn, hch.heapB hR1.out (by omega), hrd2.out.chgB1 hch (fun ad ha => by have := hloc.out ad ha; omega), fun ad ha _ => by have := hloc.out ad ha; omega, hNn.out, by omega, bbox (Below.refl _ _) hb1.out hch (Nat.le_refl _), hfs.out, by omega⟩
        case measure =>
          show 2000 - (intOf (.int .i64 ((k + 1 : Nat) : Int))).toNat < 2000 - (intOf (.int .i64 (k : Int))).toNat
          simp only [intOf]; omega
      · have hne : ((r : Int) != 0) = true := by simp; omega
        have hend : ∀ j, N = 10 ^ j → Av = 1 := fun j hj => bare_ten (i := k) (j := j) (by rw [← hj]; exact hNk.out.symm) (by rw [hr10.out]; exact hd)
        replace hend := Lib.hid hend
        clear h2
        have z0 := cellB hR1 (i := 0) rfl
        have z1 := cellB hR1 (i := 1) rfl
        have z2 := cellB hR1 (i := 2) rfl
        have y0 := frozenB hR1 0
        have y1 := frozenB hR1 1
        have y2 := frozenB hR1 2
        have v0 := cellB hV1 (i := 0) rfl
        have v1 := cellB hV1 (i := 1) rfl
        have v2 := cellB hV1 (i := 2) rfl
        have hRf := hR1
        replace hRf := Lib.hid hRf
        go_wp2
        clear v0 v1 v2 z0 z1 z2 y0 y1 y2
        have hE := end3 hRf.out (.bool s) (.slice pa la ca) (.int .i64 (e + (k : Int)))
        have hch := chg3 w1 (w.heap.size + 1) (.bool s) (.slice pa la ca) (.int .i64 (e + (k : Int)))
        generalize ((w1.setCell ⟨w.heap.size + 1, 0, none⟩ (.bool s)).setCell ⟨w.heap.size + 1, 1, none⟩ (.slice pa la ca)).setCell ⟨w.heap.size + 1, 2, none⟩ (.int .i64 (e + (k : Int))) = W9 at hE hch ⊢
        have e0 : W9.cell? ⟨w.heap.size + 1, 0, none⟩ = some (.bool s) := cellB hE rfl
        have e1 : W9.cell? ⟨w.heap.size + 1, 1, none⟩ = some (.slice pa la ca) := cellB hE rfl
        have e2 : W9.cell? ⟨w.heap.size + 1, 2, none⟩ = some (.int .i64 (e + (k : Int))) := cellB hE rfl
        exact bodyPost_ret (v := .tuple #[.agg #[.bool s, .slice pa la ca, .int .i64 (e + (k : Int))], .int .i64 (k : Int)]) (by simp [results, Tryz.results24, go_sem, e0, e1, e2]) rfl ⟨pa, la, ca, Av, _, _, rfl, (hr1.out.chgB1 hch (fun ad ha => hnb.out ad ha hla1)), bbox (Below.refl _ _) hb1.out hch (by omega), hend.out⟩
end Go.Proofs.YtffjgkghmdhlkaaGreatDoor
namespace Go.Proofs.YtffjgkghmdhlkaaGreatDoor
open Go Go.RowKit

/-- Blocks that hold plain data: place, contents, type. -/
def Bxs : List (Nat × Array Value × TypeId) → World → Prop
  | [], _ => True
  | (k, cs, T) :: L, w => w.heap[k]? = some (.cells cs T (0, 0)) ∧ Bxs L w
theorem Bxs.new {w w' : World} (hb : Below w.heap.size w w') : ∀ {L : List (Nat × Array Value × TypeId)}, Bxs L w → Bxs L w'
  | [], _ => trivial
  | (_, _, _) :: _, h => ⟨bkeep hb h.1, Bxs.new hb h.2⟩
theorem Bxs.add {L : List (Nat × Array Value × TypeId)} {w W : World} (h : Bxs L w) {cs : Array Value} {T : TypeId} (hW : w.alloc (.cells cs T (0, 0)) = W) : Bxs ((w.heap.size, cs, T) :: L) W ∧ Below w.heap.size w W ∧ W.heap.size = w.heap.size + 1 := by
  subst hW
  have hb : Below w.heap.size w (w.alloc (.cells cs T (0, 0))) := (Below.refl _ _).alloc (Nat.le_refl _) _
  exact ⟨⟨allocB _ _, Bxs.new hb h⟩, hb, by simp⟩
/-- A block is written. -/
theorem Bxs.chg {w w' : World} {S : Nat → Prop} (hc : Chg w w' S) : ∀ {L : List (Nat × Array Value × TypeId)}, (∀ t, t ∈ L → ¬ S t.1) → Bxs L w → Bxs L w'
  | [], _, _ => trivial
  | (k, cs, T) :: _, hS, h => ⟨hc.heapB h.1 (hS (k, cs, T) (List.mem_cons_self ..)), Bxs.chg hc (fun t ht => hS t (List.mem_cons_of_mem _ ht)) h.2⟩
theorem sgn_ne (o : Bool) {sg : Int} (h : (if o then -1 else 1) = sg) : (sg == 0) = false := by
  subst h; cases o <;> rfl
theorem Bxs.drew {L : List (Nat × Array Value × TypeId)} {w : World} (h : Bxs L w) : Bxs L w.drew := Bxs.new (Below.drw (Below.refl _ _)) h
theorem Bxs.al {L : List (Nat × Array Value × TypeId)} {w : World} (h : Bxs L w) (o : Obj) : Bxs L (w.alloc o) := Bxs.new ((Below.refl _ _).alloc (Nat.le_refl _) _) h
theorem Bxs.lt {w : World} : ∀ {L : List (Nat × Array Value × TypeId)}, Bxs L w → ∀ t, t ∈ L → t.1 < w.heap.size
  | [], _, _, ht => by cases ht
  | (k, cs, T) :: L, h, t, ht => by
    rcases List.mem_cons.1 ht with rfl | ht
    · exact ltB h.1
    · exact Bxs.lt h.2 t ht
theorem Bxs.box {L : List (Nat × Array Value × TypeId)} {w0 w w' : World} {k : Nat} (h0 : Bxs L w0) (h : Bxs L w) (hc : Chg w w' (fun j => j = k)) (hk : w0.heap.size ≤ k) : Bxs L w' :=
  h.chg hc (fun t ht he => by have := h0.lt t ht; omega)
theorem belBox {w0 w w' : World} {k : Nat} (h : Below w0.heap.size w0 w) (hc : Chg w w' (fun j => j = k)) (hk : w0.heap.size ≤ k) : Below w0.heap.size w0 w' := bbox (Below.refl _ _) h hc hk
theorem pack3 {w : World} {k : Nat} {a b c : Value} {T : TypeId} (h : w.heap[k]? = some (.cells #[a, b, c] T (0, 0))) (v0 v1 v2 : Value) :
    ∃ V, ((w.setCell ⟨k, 0, none⟩ v0).setCell ⟨k, 1, none⟩ v1).setCell ⟨k, 2, none⟩ v2 = V ∧ V.heap[k]? = some (.cells #[v0, v1, v2] T (0, 0)) ∧ Chg w V (fun j => j = k) := ⟨_, rfl, end3 h v0 v1 v2, chg3 w k v0 v1 v2⟩
theorem bD (w : World) : Below w.heap.size w w.drew := Below.drw (Below.refl _ _)
theorem bA (w : World) (o : Obj) : Below w.heap.size w (w.alloc o) := (Below.refl _ _).alloc (Nat.le_refl _) _
theorem bDA (w : World) (o : Obj) : Below w.heap.size w (w.drew.alloc o) := brise (bD w) (bA _ _)
theorem bAD (w : World) (o : Obj) : Below w.heap.size w (w.alloc o).drew := brise (bA w o) (bD _)
theorem pack1' (w : World) (o : Obj) : ∃ V, w.alloc o = V ∧ V.heap[w.heap.size]? = some o ∧ Chg w V (fun j => j = w.heap.size) := ⟨_, rfl, allocB w o, ((Chg.refl w (fun _ => False)).alloc o).mono (fun _ _ h => h.elim)⟩
theorem szAD (w : World) (o : Obj) : (w.alloc o).drew.heap.size = w.heap.size + 1 := by show (w.alloc o).heap.size = _; simp
theorem szDA (w : World) (o : Obj) : (w.drew.alloc o).heap.size = w.heap.size + 1 := by rw [World.size_alloc]; rfl
theorem szD (w : World) : w.drew.heap.size = w.heap.size := rfl
theorem rowLt {w : World} {A : Option Addr} {l c : Nat} {D : List Nat} (h : RdD w A l c D) {ad : Addr} (h0 : 0 < l) (ha : A = some ad) : ad.block < w.heap.size := by
  obtain ⟨ad2, e2, hc2⟩ := h.cells h0
  rw [e2] at ha; cases ha
  have := World.block_lt_of_cell? w _ (hc2 0 h0)
  rw [add_block] at this
  exact this
theorem RdD.chgB2 {w w' : World} {A : Option Addr} {l c : Nat} {D : List Nat} {k : Nat} (h : RdD w A l c D) (hb : Chg w w' (fun j => j = k)) (hS : ∀ ad, 0 < l → A = some ad → ad.block ≠ k) : RdD w' A l c D :=
  ⟨h.len, h.cap, h.max, h.dg, fun hl => by
    obtain ⟨ad, e, hc⟩ := h.cells hl
    exact ⟨ad, e, fun j hj => hb.cell (hc j hj) (by rw [add_block]; exact hS ad hl e)⟩⟩
end Go.Proofs.YtffjgkghmdhlkaaGreatDoor
namespace Go.Proofs.YtffjgkghmdhlkaaGreatDoor
open Go Go.RowKit

set_option maxRecDepth 20000 in
set_option maxHeartbeats 4000000 in
theorem alike_c (w : World) (n : Bool) (A B : Option Addr) (l c s : Nat) (e : Int) (X : List Nat) (hX : RdW w A l c X) (hY : RdW w B l s X) :
    Calls Tryz.prog 28 #[.agg #[.int .i64 0, .bool n, .slice A l c, .int .i64 e], .agg #[.int .i64 0, .bool n, .slice B l s, .int .i64 e]] w fun E w' => E = .returned (.bool true) ∧ Below w.heap.size w w' := by
  have hlc := hX.cap
  have hcm := hX.max
  have hls := hY.cap
  have hsm := hY.max
  replace hX := Lib.hid hX
  replace hY := Lib.hid hY
  go_enter Tryz.func28, Tryz.ntmps28
  go_upto_region 1 with (fail)
  generalize hW : (w.alloc (.cells #[.int .i64 0, .bool n, .slice A l c, .int .i64 e] 25 (0, 0))).alloc (.cells #[.int .i64 0, .bool n, .slice B l s, .int .i64 e] 25 (0, 0)) = W
  have hb0 : Below w.heap.size w W := by rw [← hW]; exact ((Below.refl _ _).alloc (Nat.le_refl _) _).alloc (by simp) _
  have hP : W.heap[w.heap.size]? = some (.cells #[.int .i64 0, .bool n, .slice A l c, .int .i64 e] 25 (0, 0)) := by rw [← hW]; exact allocB_old (allocB _ _)
  have hQ : W.heap[w.heap.size + 1]? = some (.cells #[.int .i64 0, .bool n, .slice B l s, .int .i64 e] 25 (0, 0)) := by rw [← hW]; exact allocB_at _ _ (by simp)
  clear hW
  have hrX := hX.out.below hb0
  have hrY := hY.out.below hb0
  have x0 := cellB hP (i := 0) rfl
  have x1 := cellB hP (i := 1) rfl
  have x2 := cellB hP (i := 2) rfl
  have x3 := cellB hP (i := 3) rfl
  have y0 := cellB hQ (i := 0) rfl
  have y1 := cellB hQ (i := 1) rfl
  have y2 := cellB hQ (i := 2) rfl
  have y3 := cellB hQ (i := 3) rfl
  replace hP := Lib.hid hP
  replace hQ := Lib.hid hQ
  replace hb0 := Lib.hid hb0
  replace hrX := Lib.hid hrX
  replace hrY := Lib.hid hrY
  cases n
  all_goals
    go_wp2
    go_loopw [37] (fun i wr => ∃ (k nn : Nat), k ≤ l ∧ i = .int .i64 (k : Int) ∧ wr = W.drewN nn) (fun i _ => l - (intOf i).toNat)
    case atStart => exact ⟨0, 0, Nat.zero_le _, rfl, rfl⟩
    case round =>
      obtain ⟨k, nn, hk, rfl, rfl⟩ := hrel
      by_cases hlt : k < l
      · obtain ⟨ada, rfl, hca⟩ := hrX.out.cells (by omega)
        obtain ⟨adb, rfl, hcb⟩ := hrY.out.cells (by omega)
        have ca := hca k hlt
        have cb := hcb k hlt
        generalize nth X k = v at ca cb
        have ee : (((v : Nat) : Int) != ((v : Nat) : Int)) = false := by simp
        have ek : IntKind.i64.wrap ((k : Int) + 1) = ((k + 1 : Nat) : Int) := by rw [show (k : Int) + 1 = ((k + 1 : Nat) : Int) by omega]; exact IntWalk.i64_in _ (by omega)
        have hk1 : k < c := by omega
        have hk2 : k < s := by omega
        clear hca hcb
        go_upto_region 6 with (fail)
        go_quiet (fail)
        go_wp2
        go_roundw
        case rel => exact ⟨k + 1, _, by omega, rfl, rfl⟩
        case measure =>
          show l - (intOf (.int .i64 ((k + 1 : Nat) : Int))).toNat < l - (intOf (.int .i64 (k : Int))).toNat
          simp only [intOf]; omega
      · obtain rfl : k = l := by omega
        go_wp2
        go_ret
        exact ⟨rfl, Below.drwN hb0.out _⟩
end Go.Proofs.YtffjgkghmdhlkaaGreatDoor
