/- The reference's order of two values that are not below 0. The reference's natural numbers: the whole root. The reference's natural numbers: the text of one, its figures. -/
import Derived.Test.YtcoljeafgiemkaaGreatDoorC03
import Derived.Test.YtcoljeafgiemkaaGreatDoorC21
import Derived.Test.YtcoljeafgiemkaaGreatDoorSB
import Derived.Test.YtcoljeafgiemkaaGreatDoorSA
namespace Go.Proofs.YtcoljeafgiemkaaGreatDoor
open Go Go.RowKit

set_option maxRecDepth 20000 in
set_option maxHeartbeats 4000000 in
theorem orderP_c (w : World) (p q : Option Addr) (l c a b : Nat) (e f : Int) (N M : Nat) (g : Int) (i j A B : Nat) (hX : RdD w p l c (d16 N)) (hY : RdD w q a b (d16 M)) (hl : l ≤ 1000) (ha : a ≤ 1000) (he : -1000 ≤ e ∧ e ≤ 1000) (hf : -1000 ≤ f ∧ f ≤ 1000)
    (hg : min e f = g) (hi : e - g = (i : Int)) (hj : f - g = (j : Int)) (hA : A = N * 10 ^ i) (hB : B = M * 10 ^ j) :
    Calls Tryz.prog 36 #[.agg #[.bool false, .slice p l c, .int .i64 e], .agg #[.bool false, .slice q a b, .int .i64 f]] w fun E w' => E = .returned (.int .i64 (ord3 A B)) ∧ Below w.heap.size w w' := by
  have ks := fun W (hb : Below w.heap.size w W) => sumV_c W false true p q l c a b e f N M g i j A B (hX.below hb) (hY.below hb) hl ha he hf hg hi hj hA hB
  rw [if_neg (by decide)] at ks
  obtain ⟨SG, hSG⟩ : ∃ SG, sumS false true A B = SG := ⟨_, rfl⟩
  obtain ⟨R, hR⟩ : ∃ R, (if B ≤ A then A - B else B - A) = R := ⟨_, rfl⟩
  have hv : ∀ lr : Nat, (lr = 0 ↔ R = 0) → (if lr = 0 then (0 : Int) else if SG then -1 else 1) = ord3 A B := by
    intro lr hl0
    rw [← hSG]
    rw [← hR] at hl0
    unfold sumS ord3
    rw [if_neg (show ¬ false = true by decide)]
    by_cases h1 : B ≤ A
    · rw [if_pos h1] at hl0
      rw [if_pos h1]
      by_cases h2 : A = B
      · rw [if_pos (hl0.2 (by omega))]; simp [h2]
      · rw [if_neg (fun h => by have := hl0.1 h; omega)]; simp; omega
    · rw [if_neg h1] at hl0
      rw [if_neg h1, if_neg (fun h => by have := hl0.1 h; omega)]; simp; omega
  obtain ⟨rv, hrv⟩ : ∃ rv, ord3 A B = rv := ⟨_, rfl⟩
  rw [hrv] at hv ⊢
  rw [hSG, hR] at ks
  replace hv := Lib.hid hv
  replace hrv := Lib.hid hrv
  replace hR := Lib.hid hR
  replace ks := Lib.hid ks
  replace hSG := Lib.hid hSG
  replace hX := Lib.hid hX
  replace hY := Lib.hid hY
  clear hA hB hg hi hj
  go_enter Tryz.func36, Tryz.ntmps36
  go_upto_region 1 with (fail)
  generalize hW : (w.alloc (.cells #[.bool false, .slice p l c, .int .i64 e] 30 (0, 0))).alloc (.cells #[.bool false, .slice q a b, .int .i64 f] 30 (0, 0)) = W
  have hB0 : Below w.heap.size w W := by rw [← hW]; exact ((Below.refl _ _).alloc (Nat.le_refl _) _).alloc (by simp) _
  have hBv : Bv2 w.heap.size false false p q l c a b e f W := by rw [← hW]; exact ⟨allocB_old (allocB _ _), allocB_at _ _ (by simp)⟩
  clear hW
  have ko := opp_c W.drew false q a b f M ((hY.out.below hB0).below (Below.drw (Below.refl _ _)))
  have hS0 := (show Bv2 w.heap.size false false p q l c a b e f W.drew from hBv).cells
  replace ko := Lib.hid ko
  replace hB0 := Lib.hid hB0
  replace hBv := Lib.hid hBv
  go_region_held3 (fun w' => w'.cell? ⟨w.heap.size, 0, none⟩ = some (.bool false) ∧ w'.cell? ⟨w.heap.size, 1, none⟩ = some (.slice p l c) ∧ w'.cell? ⟨w.heap.size, 2, none⟩ = some (.int .i64 e) ∧ w'.cell? ⟨w.heap.size + 1, 0, none⟩ = some (.bool false) ∧ w'.cell? ⟨w.heap.size + 1, 1, none⟩ = some (.slice q a b) ∧ w'.cell? ⟨w.heap.size + 1, 2, none⟩ = some (.int .i64 f)) (first | exact hS0 | exact hS1 | exact hS2 | exact hS3) (first
    | (go_at_call 35
       with_reducible refine ko.out.mono ?_
       rintro E w1 ⟨rfl, hbo⟩
       have hb1 := bundrew hbo
       have hS1 := (hBv.out.new hb1).cells
       replace hb1 := Lib.hid hb1
       clear hbo)
    | (go_at_call 34
       with_reducible refine (ks.out w1 (brise hB0.out hb1.out)).mono ?_
       rintro E w2 ⟨r, lr, cr, rfl, h2⟩
       have ksg := sign_c w2 SG r lr cr g
       rw [hv.out lr (d16_len0 h2.rd.len)] at ksg
       replace ksg := Lib.hid ksg
       have hb2 := brise hb1.out h2.bel
       have hS2 := (hBv.out.new hb2).cells
       replace hb2 := Lib.hid hb2
       clear h2)
    | (go_at_call 25
       with_reducible refine ksg.out.mono ?_
       rintro E w3 ⟨rfl, hb3'⟩
       have hb3 := brise hb2.out hb3'
       have hS3 := (hBv.out.new hb3).cells
       replace hb3 := Lib.hid hb3
       clear hb3'))
  go_wp2
  go_ret
  exact ⟨rfl, brise hB0.out hb3.out⟩
set_option maxRecDepth 20000 in
set_option maxHeartbeats 4000000 in
theorem sameP_c (w : World) (p q : Option Addr) (l c a b : Nat) (e f : Int) (N M : Nat) (g : Int) (i j : Nat) (hX : RdD w p l c (d16 N)) (hY : RdD w q a b (d16 M)) (hl : l ≤ 1000) (ha : a ≤ 1000) (he : -1000 ≤ e ∧ e ≤ 1000) (hf : -1000 ≤ f ∧ f ≤ 1000)
    (hg : min e f = g) (hi : e - g = (i : Int)) (hj : f - g = (j : Int)) :
    Calls Tryz.prog 24 #[.agg #[.bool false, .slice p l c, .int .i64 e], .agg #[.bool false, .slice q a b, .int .i64 f]] w fun E w' => E = .returned (.bool (decide (N * 10 ^ i = M * 10 ^ j))) ∧ Below w.heap.size w w' := by
  have ks := fun W (hb : Below w.heap.size w W) => orderP_c W p q l c a b e f N M g i j _ _ (hX.below hb) (hY.below hb) hl ha he hf hg hi hj rfl rfl
  generalize N * 10 ^ i = A at ks ⊢
  generalize M * 10 ^ j = B at ks ⊢
  obtain ⟨rv, hrv⟩ : ∃ rv, ord3 A B = rv := ⟨_, rfl⟩
  have hz : (rv == 0) = decide (A = B) := by
    rw [← hrv]
    by_cases h : A = B
    · rw [decide_eq_true h, ord3_zero.2 h]; rfl
    · rw [decide_eq_false h]
      exact beq_eq_false_iff_ne.2 (fun h2 => h (ord3_zero.1 h2))
  rw [hrv] at ks
  obtain ⟨bb, hbb⟩ : ∃ bb, decide (A = B) = bb := ⟨_, rfl⟩
  rw [hbb] at hz ⊢
  replace hbb := Lib.hid hbb
  replace hrv := Lib.hid hrv
  replace ks := Lib.hid ks
  clear hX hY hg hi hj
  go_enter Tryz.func24, Tryz.ntmps24
  go_upto_region 1 with (fail)
  generalize hW : (w.alloc (.cells #[.bool false, .slice p l c, .int .i64 e] 30 (0, 0))).alloc (.cells #[.bool false, .slice q a b, .int .i64 f] 30 (0, 0)) = W
  have hB0 : Below w.heap.size w W := by rw [← hW]; exact ((Below.refl _ _).alloc (Nat.le_refl _) _).alloc (by simp) _
  have hBv : Bv2 w.heap.size false false p q l c a b e f W := by rw [← hW]; exact ⟨allocB_old (allocB _ _), allocB_at _ _ (by simp)⟩
  clear hW
  obtain ⟨c0, c1, c2, d0, d1, d2⟩ := hBv.cells
  replace hB0 := Lib.hid hB0
  clear hBv
  go_wp2_with fail
  with_reducible refine (ks.out _ hB0.out).mono ?_
  rintro E w1 ⟨rfl, hb⟩
  go_wp2
  go_ret
  exact ⟨rfl, brise hB0.out hb⟩
end Go.Proofs.YtcoljeafgiemkaaGreatDoor
namespace Go.Proofs.YtcoljeafgiemkaaGreatDoor
open Go Go.RowKit

theorem ord3_le0 {a b : Nat} : (ord3 a b ≤ 0) ↔ a ≤ b := by
  unfold ord3
  split
  · constructor <;> intro <;> omega
  · split
    · constructor <;> intro <;> omega
    · constructor <;> intro <;> omega
theorem pow_sum {r c a b : Nat} (h1 : r < a) (h2 : c < b) : r + c < b * a := by
  have h := Nat.mul_le_mul (show c + 1 ≤ b by omega) (show r + 1 ≤ a by omega)
  rw [Nat.add_mul, Nat.one_mul, Nat.mul_add, Nat.mul_one] at h
  omega
set_option maxRecDepth 20000 in
set_option maxHeartbeats 4000000 in
theorem rootD_c (w : World) (A : Option Addr) (l c N : Nat) (hX : RdD w A l c (d16 N)) (hl : l ≤ 1000) :
    Calls Tryz.prog 71 #[.slice A l c] w fun E w' => ∃ p m cc r, E = .returned (.slice p m cc) ∧ DRes w w' p m cc r ∧ r * r ≤ N ∧ N < (r + 1) * (r + 1) := by
  obtain ⟨i0, hi, hz0, hz1, hz2⟩ := info_parts makeI
  have hlx := hX.len
  have hN0 := nbits_lt N
  have hLl : nbits N ≤ 16 * l := by
    refine nbits_le_iff.2 ?_
    have h1 := (dB_len_le two16 (n := N) (k := l)).1 (by rw [← hlx]; exact Nat.le_refl _)
    rw [Nat.pow_mul]
    exact h1
  obtain ⟨LB, hLB⟩ : ∃ LB, nbits N = LB := ⟨_, rfl⟩
  have kl := fun W (hb : Below w.heap.size w W) => lenD_c W A l c N (hX.below hb) (by omega)
  rw [hLB] at hN0 hLl
  simp only [hLB] at kl
  obtain ⟨J, hJ⟩ : ∃ J, (LB + 1) / 2 = J := ⟨_, rfl⟩
  have hst : N < (0 + 2 ^ (J + 1)) * (0 + 2 ^ (J + 1)) := by
    rw [Nat.zero_add, ← Nat.pow_add]
    exact Nat.lt_of_lt_of_le hN0 (Nat.pow_le_pow_right (by decide) (by omega))
  have ew1 : IntKind.i64.wrap ((LB : Int) + 1) = (LB : Int) + 1 := IntWalk.i64_in _ (by omega)
  have ew2 : IntKind.i64.wrap (((LB : Int) + 1).tdiv 2) = (J : Int) := by
    rw [Int.tdiv_eq_ediv_of_nonneg (by omega), show ((LB : Int) + 1) / 2 = (J : Int) by omega]; exact IntWalk.i64_in _ (by omega)
  have ew3 : ((LB : Int) + 1).tdiv 2 = (J : Int) := by rw [Int.tdiv_eq_ediv_of_nonneg (by omega)]; omega
  have ew4 : ((LB : Int) + 1) / 2 = (J : Int) := by omega
  have hrb : ∀ r, r * r ≤ N → (d16 r).length ≤ 1000 := fun r h => Nat.le_trans (d16_len_mono (show r ≤ N by
    rcases Nat.eq_zero_or_pos r with h0 | h0
    · omega
    · exact Nat.le_trans (Nat.le_mul_of_pos_right r h0) h)) (by rw [hlx]; exact hl)
  replace hX := Lib.hid hX
  replace hlx := Lib.hid hlx
  replace hst := Lib.hid hst
  replace hrb := Lib.hid hrb
  replace kl := Lib.hid kl
  replace hLB := Lib.hid hLB
  replace hJ := Lib.hid hJ
  replace hN0 := Lib.hid hN0
  go_enter Tryz.func71, Tryz.ntmps71
  go_wp2_with fail
  with_reducible refine (kl.out _ ((Below.refl _ _).alloc (Nat.le_refl _) _)).mono ?_
  rintro E w1 ⟨rfl, hw⟩
  have hD0 : DRes w w1 (some ⟨w.heap.size, 0, none⟩) 0 0 0 := by
    rw [← hw]
    have hown : (w.alloc (.cells #[] 3 (0, 0))).ownsRow w.heap.size 3 1 (.slice (some ⟨w.heap.size, 0, none⟩) 0 0) 0 (([] : List Nat).map sw) := World.ownsRow_made w #[] 0 (Nat.le_refl _) (by decide) rfl
    obtain ⟨h1, h2⟩ := own_rdD hown DgB.nil
    exact ⟨by rw [show d16 0 = [] from dB_zero two16]; exact h1, h2, (Below.refl _ _).alloc (Nat.le_refl _) _⟩
  replace hD0 := Lib.hid hD0
  clear hw kl
  go_wp2_with fail
  go_loopw [3, 4] (fun v i wr => ∃ (j r : Nat) (p : Option Addr) (m cc : Nat), i = .int .i64 ((j : Int) - 1) ∧ v = .slice p m cc ∧ j ≤ J + 1 ∧ DRes w wr p m cc r ∧ r * r ≤ N ∧ N < (r + 2 ^ j) * (r + 2 ^ j)) (fun _ i _ => (intOf i + 1).toNat)
  case atStart => exact ⟨J + 1, 0, _, 0, 0, by congr 1; omega, rfl, Nat.le_refl _, hD0.out, Nat.zero_le _, hst.out⟩
  case round =>
    obtain ⟨j, r, p, m, cc, rfl, rfl, hj, hr, hr1, hr2⟩ := hrel
    clear hD0
    by_cases h0 : j = 0
    · subst h0
      rw [Nat.pow_zero] at hr2
      replace hr := Lib.hid hr
      replace hr1 := Lib.hid hr1
      replace hr2 := Lib.hid hr2
      go_wp2
      go_ret
      exact ⟨p, m, cc, r, rfl, hr.out, hr1.out, hr2.out⟩
    · obtain ⟨k, rfl⟩ : ∃ k, j = k + 1 := ⟨j - 1, by omega⟩
      have hjk : ((k + 1 : Nat) : Int) - 1 = (k : Int) := by omega
      rw [hjk]
      have hk0 : (0 : Int) ≤ (k : Int) := by omega
      have ek : IntKind.i64.wrap ((k : Int) - 1) = (k : Int) - 1 := IntWalk.i64_in _ (by omega)
      have hml := hrb.out r hr1
      rw [hr.rd.len] at hml
      have kb := bitD_c wr k (by omega)
      replace kb := Lib.hid kb
      replace hr := Lib.hid hr
      clear hjk
      go_wp2_with fail
      with_reducible refine kb.out.mono ?_
      rintro E w2 ⟨p2, m2, c2, rfl, h2⟩
      have hr3 := hr.out.later h2.bel
      have hm2 : m2 ≤ 16001 := by
        have h3 : (d16 (2 ^ k)).length ≤ k + 1 := by
          refine (dB_len_le two16).2 ?_
          exact Nat.lt_of_lt_of_le (Nat.pow_lt_pow_right (show 1 < 2 by decide) (Nat.lt_succ_self k)) (Nat.pow_le_pow_left (by decide) (k + 1))
        rw [h2.rd.len] at h3
        omega
      have ka := addD_c w2 p p2 m cc m2 c2 r (2 ^ k) hr3.rd h2.rd (by omega) (by omega)
      obtain ⟨n2, hn2⟩ : ∃ n2, r + 2 ^ k = n2 := ⟨_, rfl⟩
      rw [hn2] at ka
      replace ka := Lib.hid ka
      replace hr3 := Lib.hid hr3
      clear kb h2 hr
      go_wp2_with fail
      with_reducible refine ka.out.mono ?_
      rintro E w3 ⟨p3, m3, c3, rfl, h3⟩
      have hm3 : m3 ≤ 16002 := by
        obtain ⟨Q, hQ⟩ : ∃ Q, Q = 1000 := ⟨_, rfl⟩
        have h4 : (d16 n2).length ≤ k + 1 + Q := by
          refine (dB_len_le two16).2 ?_
          have a1 : r < 65536 ^ Q := (dB_len_le two16).1 (by rw [hQ]; exact hrb.out r hr1)
          have a2 : 2 ^ k < 65536 ^ (k + 1) := Nat.lt_of_lt_of_le (Nat.pow_lt_pow_right (show 1 < 2 by decide) (Nat.lt_succ_self k)) (Nat.pow_le_pow_left (by decide) (k + 1))
          rw [← hn2, Nat.pow_add]
          exact pow_sum a1 a2
        rw [h3.rd.len] at h4
        omega
      have hr4 := hr3.out.later h3.bel
      have h4 := h3.early hr3.out.bel
      have km := mulD_c w3 p3 p3 m3 c3 m3 c3 n2 n2 h3.rd h3.rd (by omega) (by omega)
      replace km := Lib.hid km
      replace h4 := Lib.hid h4
      replace hr4 := Lib.hid hr4
      clear ka h3 hr3
      go_wp2_with fail
      with_reducible refine km.out.mono ?_
      rintro E w4 ⟨p4, m4, c4, rfl, h5⟩
      have hb4 := brise h4.out.bel h5.bel
      have kc := cmpD_c w4 p4 A m4 c4 l c (n2 * n2) N h5.rd (hX.out.below hb4)
      have h6 := h4.out.later h5.bel
      have hr6 := hr4.out.later h5.bel
      obtain ⟨rv, hrv⟩ : ∃ rv, ord3 (n2 * n2) N = rv := ⟨_, rfl⟩
      have hle := ord3_le0 (a := n2 * n2) (b := N)
      rw [hrv] at kc hle
      replace kc := Lib.hid kc
      replace h6 := Lib.hid h6
      replace hr6 := Lib.hid hr6
      replace hrv := Lib.hid hrv
      clear km h5 h4 hr4 hb4
      go_wp2_with fail
      with_reducible refine kc.out.mono ?_
      rintro E w5 ⟨rfl, nn, hw⟩
      obtain rfl := hw
      have hbd : Below w4.heap.size w4 (w4.drewN nn) := Below.drwN (Below.refl _ _) nn
      have h7 := h6.out.later hbd
      have hr7 := hr6.out.later hbd
      replace h7 := Lib.hid h7
      replace hr7 := Lib.hid hr7
      clear kc h6 hr6
      by_cases hc : n2 * n2 ≤ N
      · have l1 : rv ≤ 0 := hle.2 hc
        have l2 : decide (rv ≤ 0) = true := decide_eq_true l1
        have hnx : N < (n2 + 2 ^ k) * (n2 + 2 ^ k) := by
          rw [show n2 + 2 ^ k = r + 2 ^ (k + 1) by rw [← hn2, Nat.pow_succ]; omega]; exact hr2
        replace hnx := Lib.hid hnx
        replace hc := Lib.hid hc
        replace hr1 := Lib.hid hr1
        replace hr2 := Lib.hid hr2
        replace hn2 := Lib.hid hn2
        clear hle
        go_wp2
        go_roundw
        case rel => exact ⟨k, n2, p3, m3, c3, rfl, rfl, by omega, h7.out, hc.out, hnx.out⟩
        case measure => simp [intOf]
      · have l1 : ¬ rv ≤ 0 := fun h => hc (hle.1 h)
        have l2 : decide (rv ≤ 0) = false := decide_eq_false l1
        have hnx : N < (r + 2 ^ k) * (r + 2 ^ k) := by rw [hn2]; omega
        replace hnx := Lib.hid hnx
        replace hr1 := Lib.hid hr1
        replace hr2 := Lib.hid hr2
        replace hc := Lib.hid hc
        replace hn2 := Lib.hid hn2
        clear hle
        go_wp2
        go_roundw
        case rel => exact ⟨k, r, p, m, cc, rfl, rfl, by omega, hr7.out, hr1.out, hnx.out⟩
        case measure => simp [intOf]
end Go.Proofs.YtcoljeafgiemkaaGreatDoor
namespace Go.Proofs.YtcoljeafgiemkaaGreatDoor
open Go Go.RowKit

/-- The text of k figures. -/
def dgT : Nat → Nat → List UInt8
  | 0, _ => []
  | k + 1, N => UInt8.ofNat (48 + N / 10 ^ k % 10) :: dgT k N
theorem dgT_len (k N : Nat) : (dgT k N).length = k := by
  induction k with
  | zero => rfl
  | succ k ih => rw [dgT, List.length_cons, ih]
theorem dgT_get (N : Nat) : ∀ (k i : Nat) (h : i < (dgT k N).length), ((dgT k N)[i]'h).toNat = 48 + N / 10 ^ (k - 1 - i) % 10 := by
  intro k
  induction k with
  | zero => intro i h; simp [dgT] at h
  | succ k ih =>
    intro i h
    cases i with
    | zero =>
      show (UInt8.ofNat (48 + N / 10 ^ k % 10)).toNat = _
      rw [UInt8.toNat_ofNat', show k + 1 - 1 - 0 = k by omega]
      omega
    | succ i =>
      have h2 : i < (dgT k N).length := by rw [dgT_len] at h ⊢; omega
      show ((dgT k N)[i]'h2).toNat = _
      rw [ih i h2, show k + 1 - 1 - (i + 1) = k - 1 - i by rw [dgT_len] at h2; omega]
set_option maxRecDepth 20000 in
set_option maxHeartbeats 4000000 in
theorem digitsT_c (w : World) (A : Option Addr) (l c N : Nat) (hX : RdD w A l c (d16 N)) (hl : l ≤ 100000) (h0 : N ≠ 0) :
    Calls Tryz.prog 51 #[.slice A l c] w fun e w' => ∃ s : ByteArray, e = .returned (.string s) ∧ s.size = figs N ∧ s.data.toList = dgT (figs N) N ∧ Below w.heap.size w w' := by
  have hlx := hX.len
  have hp := d16_pos h0
  rw [hlx] at hp
  have e0 : ((l : Int) == 0) = false := by simp; omega
  have hmono : ∀ a, a ≤ N → (d16 a).length ≤ 100000 := fun a h => Nat.le_trans (d16_len_mono h) (by rw [hlx]; exact hl)
  have hF : figs N ≤ 5 * l := by
    refine (figs_le_iff (by omega)).2 (Nat.lt_of_lt_of_le ((dB_len_le two16 (k := l)).1 (by rw [← hlx]; exact Nat.le_refl _)) ?_)
    rw [Nat.pow_mul]
    exact Nat.pow_le_pow_left (by decide) l
  have hF0 : figs N + 0 = figs N := rfl
  generalize hFe : figs N = F at hF ⊢
  replace hX := Lib.hid hX
  replace hlx := Lib.hid hlx
  replace hmono := Lib.hid hmono
  replace hFe := Lib.hid hFe
  clear hF0
  go_enter Tryz.func51, Tryz.ntmps51
  go_wp2
  go_loopw [0, 3] (fun a s wr => ∃ (pa : Option Addr) (la ca Av k : Nat) (b : ByteArray), a = .slice pa la ca ∧ s = .string b ∧ b.size = k ∧ b.data.toList = dgT k N ∧ Av = N / 10 ^ k ∧ RdD wr pa la ca (d16 Av) ∧ Av ≤ N ∧ Below w.heap.size w wr ∧ (Av ≠ 0 → figs Av + k = F) ∧ (Av = 0 → k = F)) (fun _ s _ => match s with | .string b => F - b.size | _ => 0)
  case atStart => exact ⟨A, l, c, N, 0, _, rfl, rfl, rfl, rfl, by rw [Nat.pow_zero, Nat.div_one], hX.out, Nat.le_refl _, Below.refl _ _, fun _ => hFe.out, fun h => absurd h h0⟩
  case round =>
    obtain ⟨pa, la, ca, Av, k, b, rfl, rfl, hbk, hbt, hAk, hr, hAN, hb, hf1, hf2⟩ := hrel
    by_cases hA : Av = 0
    · have hk := hf2 hA
      have hl0 : la = 0 := by have := hr.len; rw [hA, show d16 0 = [] from dB_zero two16] at this; exact this.symm
      subst hl0
      replace hk := Lib.hid hk
      replace hb := Lib.hid hb
      replace hbt := Lib.hid hbt
      replace hAk := Lib.hid hAk
      replace hbk := Lib.hid hbk
      clear hr hf1 hf2
      go_wp2
      go_ret
      exact ⟨b, rfl, by rw [hbk.out, hk.out], by rw [hbt.out, hk.out], hb.out⟩
    · have hf := hf1 hA
      have hfp := figs_pos Av
      have hstep1 : Av / 10 ≠ 0 → figs (Av / 10) + (k + 1) = F := fun h => by have := figs_step (n := Av) (by omega); omega
      have hstep0 : Av / 10 = 0 → k + 1 = F := fun h => by have := figs_small (n := Av) (by omega); omega
      have hkF : k + 1 ≤ F := by omega
      replace hstep1 := Lib.hid hstep1
      replace hstep0 := Lib.hid hstep0
      clear hfp
      have hla := d16_pos hA
      rw [hr.len] at hla
      have hlb : la ≤ 100000 := by have := hmono.out Av hAN; rw [hr.len] at this; exact this
      have kb := by10_c wr pa la ca Av hr (by omega)
      have hrl := Nat.mod_lt Av (show 0 < 10 by decide)
      have hlen2 : (d16 (Av / 10)).length ≤ la := by have := d16_len_mono (Nat.div_le_self Av 10); rw [hr.len] at this; exact this
      generalize hr10 : Av % 10 = r at kb hrl
      have hAk2 : Av / 10 = N / 10 ^ (k + 1) := by rw [hAk, Nat.div_div_eq_div_mul, Nat.pow_succ]
      have hdg : dgT (k + 1) N = UInt8.ofNat (48 + r) :: dgT k N := by rw [dgT, ← hAk, hr10]
      replace hbt := Lib.hid hbt
      replace hAk := Lib.hid hAk
      replace hAk2 := Lib.hid hAk2
      replace hdg := Lib.hid hdg
      replace kb := Lib.hid kb
      replace hf := Lib.hid hf
      replace hb := Lib.hid hb
      replace hr10 := Lib.hid hr10
      clear hr hf1 hf2
      go_wp2_with fail
      with_reducible refine kb.out.mono ?_
      rintro E w1 ⟨p2, l2, c2, rfl, h2⟩
      have hb2 := h2.bel
      replace h2 := Lib.hid h2
      replace hb2 := Lib.hid hb2
      replace hbk := Lib.hid hbk
      have hcv := run_convert_bytes_arg (P := Tryz.prog) (w1.alloc (.cells #[.int .u8 (48 + (r : Int))] 5 (0, 0))) 121 5 Tryz.underlying121 Tryz.underlying5 w1.heap.size 0 1 1 [48 + (r : Int)] (by simp) (by
        intro j hj
        obtain rfl : j = 0 := by omega
        exact cellB (allocB _ _) rfl) 9 Tryz.underlying9
      have hts : (strOfNums [48 + (r : Int)]).size = 1 := by rw [strOfNums_size]; rfl
      have htd : (strOfNums [48 + (r : Int)]).data.toList = [UInt8.ofNat (48 + r)] := by rw [strOfNums_data]; simp only [List.map_cons, List.map_nil]; rw [show (48 + (r : Int)).toNat = 48 + r by omega]
      generalize strOfNums [48 + (r : Int)] = t at hcv hts htd
      have hwb : Below w1.heap.size w1 (w1.alloc (.cells #[.int .u8 (48 + (r : Int))] 5 (0, 0))) := (Below.refl _ _).alloc (Nat.le_refl _) _
      have hng : ¬ 9223372036854775807 < t.size + b.size := by rw [hts, hbk.out]; omega
      have hsz : (t ++ b).size = k + 1 := by rw [ByteArray.size_append, hts, hbk.out]; omega
      have hcat : (t ++ b).data.toList = dgT (k + 1) N := by rw [ByteArray.data_append, Array.toList_append, htd, hbt.out, hdg.out]; rfl
      replace hsz := Lib.hid hsz
      replace hcat := Lib.hid hcat
      replace htd := Lib.hid htd
      replace hts := Lib.hid hts
      replace hwb := Lib.hid hwb
      go_wp2
      go_roundw
      case rel =>
        exact ⟨p2, l2, c2, Av / 10, k + 1, t ++ b, rfl, rfl, hsz.out, hcat.out, hAk2.out, h2.out.rd.below hwb.out, by omega, brise (brise hb.out hb2.out) hwb.out, hstep1.out, hstep0.out⟩
      case measure =>
        have k1 := hsz.out
        have k2 := hbk.out
        show F - (t ++ b).size < F - b.size
        omega
end Go.Proofs.YtcoljeafgiemkaaGreatDoor
