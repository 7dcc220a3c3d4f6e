/- The reference: digits of 16 bits, words, the value of a decimal; the laws' tests of what comes in. The reference's natural numbers: rows of digits in new memory; sum, difference. The laws' test of two decimals. spec.Sign. -/
import Derived.BigQuiet
import Derived.Test.YtonepclpllelfaaGreatDoorC04
import Derived.Test.YtonepclpllelfaaGreatDoorC07
import Derived.Test.YtonepclpllelfaaGreatDoorC14
namespace Go.Proofs.YtonepclpllelfaaGreatDoor
open Go Go.RowKit

/-- Digits of the reference that are read. -/
structure RdD (w : World) (A : Option Addr) (l c : Nat) (D : List Nat) : Prop where
  len : D.length = l
  cap : l ≤ c
  max : c ≤ 9223372036854775807
  dg : DgB 65536 D
  cells : 0 < l → ∃ ad, A = some ad ∧ ∀ j, j < l → w.cell? (ad.add j) = some (.int .i64 (nth D j : Int))
theorem RdD.below {w w' : World} {A : Option Addr} {l c : Nat} {D : List Nat} (h : RdD w A l c D) (hb : Below w.heap.size w w') : RdD w' A l c D :=
  ⟨h.len, h.cap, h.max, h.dg, fun hl => by
    obtain ⟨ad, e, hc⟩ := h.cells hl
    exact ⟨ad, e, fun j hj => (hb.cell (World.block_lt_of_cell? w _ (hc j hj))).trans (hc j hj)⟩⟩

/-- Noughts at the end are left out. -/
theorem trim_c (w : World) (A : Option Addr) (l c : Nat) (D : List Nat) (hD : RdD w A l c D) :
    Calls Tryz.prog 47 #[.slice A l c] w fun e w' => w = w' ∧ ∃ m, e = .returned (.slice A m c) ∧ RdD w A m c (d16 (vB 65536 D)) := by
  have hcap := hD.cap
  have hmax := hD.max
  replace hD := Lib.hid hD
  go_enter Tryz.func47, Tryz.ntmps47
  go_wp2
  go_loop [0] (fun v => ∃ k : Nat, k ≤ l ∧ v = .slice A k c ∧ ∀ j, k ≤ j → j < l → nth D j = 0) (fun v => match v with | .slice _ k _ => k | _ => 0)
  case atStart => exact ⟨l, Nat.le_refl _, rfl, fun j h1 h2 => by omega⟩
  case round =>
    obtain ⟨k, hk, rfl, hz⟩ := hrel
    replace hz := Lib.hid hz
    have fin : (k = 0 ∨ nth D (k - 1) ≠ 0) → RdD w A k c (d16 (vB 65536 D)) := by
      intro h
      have hl := hD.out.len
      have e := dB_cut two16 hD.out.dg (k := k) (by omega) (fun j h1 h2 => hz.out j h1 (by omega)) h
      rw [show d16 (vB 65536 D) = D.take k from e]
      refine ⟨by simp; omega, by omega, hmax, hD.out.dg.take k, fun h0 => ?_⟩
      obtain ⟨ad, ea, hc⟩ := hD.out.cells (by omega)
      exact ⟨ad, ea, fun j hj => by rw [nth_take hj]; exact hc j (by omega)⟩
    replace fin := Lib.hid fin
    by_cases hk0 : k = 0
    · have f1 := fin.out (.inl hk0)
      subst hk0
      replace f1 := Lib.hid f1
      go_wp2
      go_ret
      exact ⟨rfl, _, rfl, f1.out⟩
    · obtain ⟨j, rfl⟩ : ∃ j, k = j + 1 := ⟨k - 1, by omega⟩
      obtain ⟨ad, rfl, hcs⟩ := hD.out.cells (by omega)
      have hcell := hcs j (by omega)
      clear hcs
      by_cases h0 : nth D j = 0
      · rw [h0] at hcell
        replace h0 := Lib.hid h0
        go_wp2
        go_round
        case rel =>
          refine ⟨j, by omega, by go_num, fun i h1 h2 => ?_⟩
          by_cases e : i = j
          · subst e; exact h0.out
          · exact hz.out i (by omega) h2
        case measure => simp
      · have e0 : ((nth D j : Int) == 0) = false := by simp; omega
        have f1 := fin.out (.inr (by rw [Nat.add_sub_cancel]; exact h0))
        replace h0 := Lib.hid h0
        replace f1 := Lib.hid f1
        go_wp2
        go_ret
        exact ⟨rfl, _, rfl, f1.out⟩

theorem makeI : (Tryz.prog.info? 3).map (fun i => (i.zero, i.size, i.bytes)) = some (some (.int .i64 0), 1, 8) := by kernel_rfl
theorem own_slice3 {w : World} {base n : Nat} {e : TypeId} {size : Nat} {v : Value} {xs : List Value} (h : w.ownsRow base e size v n xs) : ∃ A c, v = .slice A n c := by
  rcases h.2 with ⟨rfl, rfl⟩ | ⟨g, cap, cur, rfl, _⟩
  · exact ⟨none, 0, rfl⟩
  · exact ⟨_, cap, rfl⟩
theorem makeU : (Tryz.prog.info? 33).map (fun i => (i.zero, i.size, i.bytes)) = some (some (.int .u64 0), 1, 8) := by kernel_rfl
/-- A digit as a value. -/
def sw (x : Nat) : Value := .int .i64 (x : Int)
theorem w4_nth {x k : Nat} (hx : x < WB) (hk : k < 4) : nth (w4 x) k = x / 2 ^ (16 * k) % 65536 := by
  rw [WB_eq] at hx
  rcases (by omega : k = 0 ∨ k = 1 ∨ k = 2 ∨ k = 3) with rfl | rfl | rfl | rfl <;> simp [w4, nth]; omega

theorem w4_bits {x k : Nat} (hx : x < WB) (hk : k < 4) : wrap64 (bits .and .u64 ((x : Int) / 2 ^ (16 * k)) 65535) = (nth (w4 x) k : Int) := by
  rw [w4_nth hx hk]
  have h1 : x / 2 ^ (16 * k) ≤ x := Nat.div_le_self ..
  rw [WB_eq] at hx
  have h2 := bits_and_u64_nat (x / 2 ^ (16 * k)) 65535 (by omega) (by omega)
  have h3 : ((x : Int) / 2 ^ (16 * k)) = ((x / 2 ^ (16 * k) : Nat) : Int) := by simp
  rw [h3, show (65535 : Int) = ((65535 : Nat) : Int) from rfl, h2]
  have h4 : x / 2 ^ (16 * k) &&& 65535 = x / 2 ^ (16 * k) % 65536 := Nat.and_two_pow_sub_one_eq_mod _ 16
  rw [h4]
  have h5 : x / 2 ^ (16 * k) % 65536 < 65536 := Nat.mod_lt _ (by omega)
  have h6 := IntWalk.i64_in ((x / 2 ^ (16 * k) % 65536 : Nat) : Int) (by omega)
  exact (IntWalk.i64_left _).symm.trans h6

/-- Digits in new memory. -/
structure DRes (w w' : World) (p : Option Addr) (m cc N : Nat) : Prop where
  rd : RdD w' p m cc (d16 N)
  loc : ∀ ad, p = some ad → w.heap.size ≤ ad.block
  bel : Below w.heap.size w w'
theorem add_block (ad : Addr) (j : Nat) : (ad.add j).block = ad.block := by unfold Addr.add; split <;> rfl
theorem DRes.chg {w w1 w2 w3 : World} {p : Option Addr} {m cc N : Nat} {S : Nat → Prop} (h : DRes w1 w2 p m cc N) (hw : Chg w w1 (fun _ => False)) (hc : Chg w2 w3 S) (hS : ∀ k, S k → w.heap.size ≤ k ∧ (k < w1.heap.size ∨ w2.heap.size ≤ k)) : DRes w w3 p m cc N := by
  have s1 := hw.size
  refine ⟨⟨h.rd.len, h.rd.cap, h.rd.max, h.rd.dg, fun hl => ?_⟩, fun ad ha => Nat.le_trans s1 (h.loc ad ha), ?_⟩
  · obtain ⟨ad, e, hcs⟩ := h.rd.cells hl
    refine ⟨ad, e, fun j hj => hc.cell (hcs j hj) (fun hs => ?_)⟩
    have h1 := World.block_lt_of_cell? w2 _ (hcs j hj)
    have h2 := h.loc ad e
    have h3 := (hS _ hs).2
    rw [add_block] at h1 h3
    omega
  · have h1 := hw.trans ((show Chg w1 w2 (fun _ => False) from ⟨h.bel.os, h.bel.tape, h.bel.output, h.bel.size, fun k hk _ => h.bel.block k hk⟩).mono (fun _ _ h => h.elim))
    have h2 := h1.trans (hc.mono (fun k _ hs => .inr (hS k hs).1))
    exact ⟨h2.os, h2.tape, h2.output, h2.size, fun k hk => h2.block k hk (fun h => h)⟩

set_option maxRecDepth 20000 in
set_option maxHeartbeats 2000000 in
theorem of_c (w : World) (A : Option Addr) (l c : Nat) (X : List Nat) (hX : RdW w A l c X) (hl : l ≤ 1000000) :
    Calls Tryz.prog 21 #[.slice A l c] w fun e w' => ∃ p m cc, e = .returned (.slice p m cc) ∧ DRes w w' p m cc (val X) := by
  obtain ⟨i0, hi, hz0, hz1, hz2⟩ := info_parts makeI
  have hlen := hX.len
  replace hX := Lib.hid hX
  replace hlen := Lib.hid hlen
  go_enter Tryz.func21, Tryz.ntmps21
  go_wp2
  go_loopw [3, 10] (fun v i wr => ∃ (k : Nat) (p : Option Addr) (cc : Nat), k ≤ l ∧ i = .int .i64 k ∧ v = .slice p (4 * k) cc ∧ Below w.heap.size w wr ∧ wr.ownsRow w.heap.size 3 1 (.slice p (4 * k) cc) (4 * k) ((ws4 (X.take k)).map sw)) (fun _ i _ => l - (intOf i).toNat)
  case atStart => exact ⟨0, _, 0, Nat.zero_le _, rfl, rfl, (Below.refl _ _).alloc (Nat.le_refl _) _, World.ownsRow_made w #[] 0 (Nat.le_refl _) (by decide) rfl⟩
  case round =>
    obtain ⟨k, p, cc, hk, rfl, rfl, hb, hown⟩ := hrel
    by_cases hlt : k < l
    · obtain ⟨ad, rfl, hcs⟩ := hX.out.cells (by omega)
      have hcell := hb.cell (World.block_lt_of_cell? w _ (hcs k hlt)) |>.trans (hcs k hlt)
      have hxk : nth X k < WB := hX.out.wd.nth k
      have htk : X.take (k + 1) = X.take k ++ [nth X k] := take_nth (by rw [hlen.out]; exact hlt)
      replace htk := Lib.hid htk
      replace hown := Lib.hid hown
      replace hb := Lib.hid hb
      replace hxk := Lib.hid hxk
      clear hcs
      go_wp2
      go_loopw [3, 6] (fun v i wi => ∃ (q : Nat) (p2 : Option Addr) (c2 : Nat), q ≤ 4 ∧ i = .int .i64 q ∧ v = .slice p2 (4 * k + q) c2 ∧ Below w.heap.size w wi ∧ wi.ownsRow w.heap.size 3 1 (.slice p2 (4 * k + q) c2) (4 * k + q) ((ws4 (X.take k) ++ (w4 (nth X k)).take q).map sw)) (fun _ i _ => 4 - (intOf i).toNat)
      case atStart => exact ⟨0, p, cc, by omega, rfl, rfl, hb.out, by simpa using hown.out⟩
      case round =>
        obtain ⟨q, p2, c2, hq, rfl, rfl, hb2, hown2⟩ := hrel
        clear hb hown hcell
        by_cases hlq : q < 4
        · have hbs := hb2.size
          have hd := w4_bits hxk.out hlq
          have htq : (w4 (nth X k)).take (q + 1) = (w4 (nth X k)).take q ++ [nth (w4 (nth X k)) q] := take_nth (by simp [w4]; omega)
          replace hd := Lib.hid hd
          replace htq := Lib.hid htq
          replace hown2 := Lib.hid hown2
          replace hb2 := Lib.hid hb2
          go_wp2_with (at_builtin; refine wpList_append_own _ rfl _ _ 27 rfl w.heap.size 3 i0 (.int .i64 0) 1 8 Tryz.underlying27 hi hz0 hz1 hz2 rfl (by decide) _ _ _ rfl (hown2.out.alloc _) ⟨wr.heap.size, 0, none⟩ 1 1 [.int .i64 (wrap64 (bits .and .u64 ((nth X k : Int) / 2 ^ (16 * q)) 65535))] rfl rfl ?c1 ?c2 ?c3 ?c4 ?c5 ?_)
          case c1 => exact cell_one_new _ _ _
          case c2 => intro u hu; simp only [List.mem_cons, List.not_mem_nil, or_false] at hu; subst hu; rfl
          case c3 => unfold maxLen; omega
          case c4 => omega
          case c5 => simp; omega
          intro v' w1 hown' hgrow _
          obtain ⟨p', cc', rfl⟩ := own_slice3 hown'
          replace hown' := Lib.hid hown'
          replace hgrow := Lib.hid hgrow
          go_wp2
          go_roundw
          case rel =>
            refine ⟨q + 1, p', cc', by omega, by go_num, rfl, ?_, ?_⟩
            · exact (hb2.out.alloc hbs _).grown hgrow.out (by simp; omega) (fun g hg => (hown2.out.lt g hg).1)
            · have h := hown'.out
              rw [hd.out] at h
              rw [htq.out, ← List.append_assoc, List.map_append, List.map_append, List.map_take, List.append_assoc]
              exact h
          case measure => simp [intOf]; omega
        · obtain rfl : q = 4 := by omega
          replace hown2 := Lib.hid hown2
          replace hb2 := Lib.hid hb2
          go_wp2
          go_roundw
          case rel =>
            refine ⟨k + 1, p2, c2, by omega, by go_num, by congr 1, hb2.out, ?_⟩
            rw [show 4 * (k + 1) = 4 * k + 4 by omega]
            have h := hown2.out
            rw [htk.out, ws4_snoc]
            simpa [w4] using h
          case measure => simp [intOf]; omega
    · obtain rfl : k = l := by omega
      have htl : X.take k = X := List.take_of_length_le (by rw [hlen.out]; exact Nat.le_refl _)
      rw [htl] at hown
      have hrd : RdD wr p (4 * k) cc (ws4 X) := by
        have hl2 := hlen.out
        rcases hown.2 with ⟨h1, h2⟩ | ⟨g, cap, cur, h1, hg, hgg, hn, hm, hcs, htake⟩
        · have : k = 0 := by omega
          subst this
          injection h1 with h1 h3 h4
          subst h4
          exact ⟨by rw [ws4_len]; omega, Nat.zero_le _, Nat.zero_le _, ws4_dg hX.out.wd, fun h => by omega⟩
        · injection h1 with h1 h3 h4
          subst h1 h4
          refine ⟨by rw [ws4_len]; omega, hn, by unfold maxLen at hm; omega, ws4_dg hX.out.wd, fun _ => ⟨_, rfl, fun j hj => ?_⟩⟩
          have := hown.cells (g := g) rfl j (sw (nth (ws4 X) j)) (by rw [List.getElem?_map, get_nth (by rw [ws4_len]; omega)]; rfl)
          exact this
      have htr := trim_c wr p (4 * k) cc (ws4 X) hrd
      have hloc : ∀ ad, p = some ad → w.heap.size ≤ ad.block := fun ad ha => (hown.lt ad.block (by subst ha; rfl)).1
      rw [ws4_val] at htr
      replace hloc := Lib.hid hloc
      replace htr := Lib.hid htr
      replace hb := Lib.hid hb
      clear hown hrd htl
      go_wp2_with fail
      with_reducible refine htr.out.mono ?_
      rintro e w' ⟨hw, m, rfl, hm⟩
      obtain rfl := hw
      go_wp2
      go_ret
      exact ⟨p, m, cc, rfl, hm, hloc.out, hb.out⟩

theorem own_some {w : World} {base n : Nat} {e : TypeId} {size c : Nat} {A : Option Addr} {xs : List Value} (h : w.ownsRow base e size (.slice A n c) n xs) (hn : 0 < n) : ∃ g, A = some ⟨g, 0, none⟩ ∧ base ≤ g ∧ n ≤ c ∧ c ≤ maxLen := by
  rcases h.2 with ⟨h1, h2⟩ | ⟨g, cap, cur, h1, h2, _, h3, h4, _⟩
  · omega
  · injection h1 with a b c; subst a c; exact ⟨g, rfl, h2, h3, h4⟩
theorem pow16 (q r : Nat) : WB ^ q * 65536 ^ r = 65536 ^ (4 * q + r) := by
  rw [WB_16, ← Nat.pow_mul, ← Nat.pow_add]
theorem or_digit {y d r : Nat} (hy : y < 65536 ^ r) (hd : d < 65536) (hr : r < 4) :
    bits .or .u64 (y : Int) (IntKind.u64.wrap (IntKind.u64.wrap (d : Int) * 2 ^ (16 * r))) = ((y + d * 65536 ^ r : Nat) : Int) ∧ y + d * 65536 ^ r < WB := by
  have e1 : 65536 ^ r = 2 ^ (16 * r) := by rw [Nat.pow_mul]
  have h1 : (y + d * 65536 ^ r) < 65536 ^ (r + 1) := by
    rw [Nat.pow_succ]
    have : d * 65536 ^ r ≤ 65535 * 65536 ^ r := Nat.mul_le_mul_right _ (by omega)
    omega
  have h2 : 65536 ^ (r + 1) ≤ WB := by rw [WB_16]; exact Nat.pow_le_pow_right (by omega) (by omega)
  have h3 : y + d * 65536 ^ r < WB := Nat.lt_of_lt_of_le h1 h2
  refine ⟨?_, h3⟩
  have h4 := WB_eq
  have h5 : IntKind.u64.wrap (d : Int) = (d : Int) := IntWalk.u64_in _ (by omega)
  have e2 : (d : Int) * 2 ^ (16 * r) = ((d * 65536 ^ r : Nat) : Int) := by rw [e1]; simp
  rw [h5, e2]
  have h6 : IntKind.u64.wrap ((d * 65536 ^ r : Nat) : Int) = ((d * 65536 ^ r : Nat) : Int) := IntWalk.u64_in _ (by omega)
  rw [h6, bits_or_u64_nat _ _ (by omega) (by omega)]
  congr 1
  have h7 := Nat.shiftLeft_add_eq_or_of_lt (i := 16 * r) (b := y) (by rw [← e1]; exact hy) d
  rw [Nat.shiftLeft_eq, ← e1] at h7
  rw [Nat.or_comm, ← h7, Nat.add_comm]
theorem add0 (g j : Nat) : (⟨g, 0, none⟩ : Addr).add j = ⟨g, j, none⟩ := by unfold Addr.add; split <;> simp_all
theorem Below.drw {B : Nat} {w W : World} (h : Below B w W) : Below B w W.drew := ⟨h.os, h.tape, h.output, h.size, h.block⟩
/-- A digit is laid into the word that is there. -/
theorem words_step {D W : List Nat} {k : Nat} (hD : DgB 65536 D) (hk : k < D.length) (hW : Wd W) (hl : W.length = k / 4 + 1) (hv : val W = vB 65536 (D.take k)) :
    bits .or .u64 (nth W (k / 4) : Int) (IntKind.u64.wrap (IntKind.u64.wrap (nth D k : Int) * 2 ^ (16 * (k % 4)))) = ((nth W (k / 4) + nth D k * 65536 ^ (k % 4) : Nat) : Int) ∧
      Wd (W.set (k / 4) (nth W (k / 4) + nth D k * 65536 ^ (k % 4))) ∧ val (W.set (k / 4) (nth W (k / 4) + nth D k * 65536 ^ (k % 4))) = vB 65536 (D.take (k + 1)) := by
  have hW1 : W = W.take (k / 4) ++ [nth W (k / 4)] := by
    have := take_nth (l := W) (k := k / 4) (by omega)
    rw [List.take_of_length_le (by omega)] at this; exact this
  have hlt : (W.take (k / 4)).length = k / 4 := by simp; omega
  have hset : ∀ z, W.set (k / 4) z = W.take (k / 4) ++ [z] := by
    intro z
    conv => lhs; rw [hW1]
    rw [List.set_append_right _ _ (by omega), hlt]; simp
  have e1 : WB ^ (k / 4) * 65536 ^ (k % 4) = 65536 ^ k := by rw [pow16]; congr 1; omega
  have e2 : val W = val (W.take (k / 4)) + WB ^ (k / 4) * nth W (k / 4) := by
    have := val_append (W.take (k / 4)) [nth W (k / 4)]
    rw [← hW1, hlt] at this; rw [this]; simp [val]
  have hy : nth W (k / 4) < 65536 ^ (k % 4) := by
    have h1 := vB_lt (hD.take k)
    rw [← hv, List.length_take, Nat.min_eq_left (by omega), ← e1] at h1
    exact Nat.lt_of_mul_lt_mul_left (a := WB ^ (k / 4)) (by omega)
  obtain ⟨h1, h2⟩ := or_digit hy (hD.nth (by omega) k) (Nat.mod_lt k (by omega))
  refine ⟨h1, ?_, ?_⟩
  · rw [hset]; exact (hW.take _).append (fun x hx => by simp at hx; subst hx; exact h2)
  · rw [hset, val_append, hlt, vB_take_succ hk, ← hv, e2, ← e1]
    simp only [val_cons, val_nil]
    rw [Nat.mul_zero, Nat.add_zero, Nat.mul_add, Nat.mul_assoc, Nat.mul_comm (nth D k)]; omega

set_option maxRecDepth 20000 in
set_option maxHeartbeats 2000000 in
theorem words_c (w : World) (A : Option Addr) (l c : Nat) (D : List Nat) (hD : RdD w A l c D) (hl : l ≤ 4000000) :
    Calls Tryz.prog 48 #[.slice A l c] w fun e w' => ∃ p cc W, e = .returned (.slice p ((l + 3) / 4) cc) ∧ Wd W ∧ val W = vB 65536 D ∧ w'.ownsRow w.heap.size 33 1 (.slice p ((l + 3) / 4) cc) ((l + 3) / 4) (W.map uw) ∧ Below w.heap.size w w' := by
  obtain ⟨i0, hi, hz0, hz1, hz2⟩ := info_parts makeU
  have hlen := hD.len
  replace hD := Lib.hid hD
  replace hlen := Lib.hid hlen
  go_enter Tryz.func48, Tryz.ntmps48
  go_wp2
  go_loopw [3, 9] (fun v i wr => ∃ (k : Nat) (p : Option Addr) (cc : Nat) (W : List Nat), k ≤ l ∧ i = .int .i64 k ∧ v = .slice p ((k + 3) / 4) cc ∧ Below w.heap.size w wr ∧ wr.ownsRow w.heap.size 33 1 (.slice p ((k + 3) / 4) cc) ((k + 3) / 4) (W.map uw) ∧ Wd W ∧ val W = vB 65536 (D.take k)) (fun _ i _ => l - (intOf i).toNat)
  case atStart => exact ⟨0, _, 0, [], Nat.zero_le _, rfl, rfl, (Below.refl _ _).alloc (Nat.le_refl _) _, World.ownsRow_made w #[] 0 (Nat.le_refl _) (by decide) rfl, Wd.nil, rfl⟩
  case round =>
    obtain ⟨k, p, cc, W, hk, rfl, rfl, hb, hown, hW, hv⟩ := hrel
    replace hown := Lib.hid hown
    replace hb := Lib.hid hb
    replace hW := Lib.hid hW
    replace hv := Lib.hid hv
    by_cases hlt : k < l
    · obtain ⟨ad, rfl, hcs⟩ := hD.out.cells (by omega)
      have hcell := hb.out.cell (World.block_lt_of_cell? w _ (hcs k hlt)) |>.trans (hcs k hlt)
      clear hcs
      by_cases hr0 : k % 4 = 0
      · have e0 : ((k : Int) % 4 == 0) = true := by simp; omega
        have hWl : W.length = k / 4 := by have := hown.out.1; simp at this; omega
        have hbs := hb.out.size
        go_wp2_with (at_builtin; refine wpList_append_own _ rfl _ _ 22 rfl w.heap.size 33 i0 (.int .u64 0) 1 8 Tryz.underlying22 hi hz0 hz1 hz2 rfl (by decide) _ _ _ rfl (hown.out.alloc _) ⟨wr.heap.size, 0, none⟩ 1 1 [.int .u64 0] rfl rfl ?c1 ?c2 ?c3 ?c4 ?c5 ?_)
        case c1 => exact cell_one_new _ _ _
        case c2 => intro u hu; simp only [List.mem_cons, List.not_mem_nil, or_false] at hu; subst hu; rfl
        case c3 => unfold maxLen; omega
        case c4 => omega
        case c5 => simp; omega
        intro v' w1 hown' hgrow _
        obtain ⟨p', cc', rfl⟩ := own_slice3 hown'
        have e1 : (k + 3) / 4 + 1 = k / 4 + 1 := by omega
        have eW : W.map uw ++ [Value.int .u64 0] = (W ++ [0]).map uw := by simp [uw]
        rw [e1, eW] at hown'
        rw [e1]
        have hb1 : Below w.heap.size w w1 := (hb.out.alloc hbs _).grown hgrow (by simp; omega) (fun g hg => (hown.out.lt g hg).1)
        clear hbs hgrow
        replace hown' := Lib.hid hown'
        replace hb1 := Lib.hid hb1
        have hWl1 : (W ++ [0]).length = k / 4 + 1 := by simp; omega
        have hv1 : val (W ++ [0]) = vB 65536 (D.take k) := by rw [val_append]; simp only [val_cons, val_nil]; rw [← hv.out]; omega
        have hW1 : Wd (W ++ [0]) := hW.out.append (Wd.zeros 1)
        replace hW1 := Lib.hid hW1
        replace hv1 := Lib.hid hv1
        clear e0
        replace hr0 := Lib.hid hr0
        have hst := words_step hD.out.dg (by rw [hlen.out]; exact hlt) (hW1.out) (hWl1) (hv1.out)
        obtain ⟨g, rfl, hg, hc1, hc2⟩ := own_some hown'.out (by omega)
        have hcy : w1.drew.cell? ⟨g, k / 4, none⟩ = some (.int .u64 (nth (W ++ [0]) (k / 4) : Int)) := by
          have := hown'.out.cells (g := g) rfl (k / 4) (uw (nth (W ++ [0]) (k / 4))) (by rw [List.getElem?_map, get_nth (by rw [hWl1]; omega)]; rfl)
          rw [add0] at this; exact this
        have hfy : w1.drew.frozen? ⟨g, k / 4, none⟩ = false := hown'.out.frozenAt (k / 4)
        have hsto := hown'.out.stored (k / 4) (uw (nth (W ++ [0]) (k / 4) + nth D k * 65536 ^ (k % 4)))
        have hbs := hb1.out.size
        replace hst := Lib.hid hst
        replace hsto := Lib.hid hsto
        go_wp2_with fail
        go_region
        rw [hst.out.1]
        go_wp2
        go_roundw
        case rel =>
          have e3 : (k + 1 + 3) / 4 = k / 4 + 1 := by omega
          refine ⟨k + 1, some ⟨g, 0, none⟩, cc', (W ++ [0]).set (k / 4) (nth (W ++ [0]) (k / 4) + nth D k * 65536 ^ (k % 4)), by omega, by go_num, by rw [e3], ?_, ?_, hst.out.2.1, hst.out.2.2⟩
          · exact Below.drw ((hb1.out).grown hsto.out.2 hbs (fun g2 hg2 => by cases hg2; exact hg))
          · rw [e3, List.map_set]; exact hsto.out.1
        case measure => simp [intOf]; omega
      · have e0 : ((k : Int) % 4 == 0) = false := by simp; omega
        have hWl : W.length = k / 4 + 1 := by have := hown.out.1; simp at this; omega
        have e1 : (k + 3) / 4 = k / 4 + 1 := by omega
        rw [e1] at hown ⊢
        have hst := words_step hD.out.dg (by rw [hlen.out]; exact hlt) (hW.out) (hWl) (hv.out)
        obtain ⟨g, rfl, hg, hc1, hc2⟩ := own_some hown.out (by omega)
        have hcy : wr.drew.cell? ⟨g, k / 4, none⟩ = some (.int .u64 (nth W (k / 4) : Int)) := by
          have := hown.out.cells (g := g) rfl (k / 4) (uw (nth W (k / 4))) (by rw [List.getElem?_map, get_nth (by rw [hWl]; omega)]; rfl)
          rw [add0] at this; exact this
        have hfy : wr.drew.frozen? ⟨g, k / 4, none⟩ = false := hown.out.frozenAt (k / 4)
        have hsto := hown.out.stored (k / 4) (uw (nth W (k / 4) + nth D k * 65536 ^ (k % 4)))
        have hbs := hb.out.size
        replace hst := Lib.hid hst
        replace hsto := Lib.hid hsto
        go_wp2_with fail
        go_region
        rw [hst.out.1]
        go_wp2
        go_roundw
        case rel =>
          have e3 : (k + 1 + 3) / 4 = k / 4 + 1 := by omega
          refine ⟨k + 1, some ⟨g, 0, none⟩, cc, W.set (k / 4) (nth W (k / 4) + nth D k * 65536 ^ (k % 4)), by omega, by go_num, by rw [e3], ?_, ?_, hst.out.2.1, hst.out.2.2⟩
          · exact Below.drw ((hb.out).grown hsto.out.2 hbs (fun g2 hg2 => by cases hg2; exact hg))
          · rw [e3, List.map_set]; exact hsto.out.1
        case measure => simp [intOf]; omega
    · obtain rfl : k = l := by omega
      rw [show D.take k = D from List.take_of_length_le (by rw [hlen.out]; exact Nat.le_refl _)] at hv
      go_wp2
      go_ret
      exact ⟨p, cc, W, rfl, hW.out, hv.out, hown.out, hb.out⟩

theorem Below.drwN {B : Nat} {w W : World} (h : Below B w W) (n : Nat) : Below B w (W.drewN n) := ⟨h.os, h.tape, h.output, h.size, h.block⟩
set_option maxRecDepth 20000 in
set_option maxHeartbeats 2000000 in
theorem hasWords_c (w : World) (A B : Option Addr) (l c m c2 N : Nat) (X : List Nat) (hX : RdW w A l c X) (hD : RdD w B m c2 (d16 N)) (hm : m ≤ 4000000) :
    Calls Tryz.prog 22 #[.slice A l c, .slice B m c2] w fun e w' => e = .returned (.bool (decide (X = digs N))) ∧ Below w.heap.size w w' := by
  have hwd := words_c w B m c2 (d16 N) hD hm
  have hlen := hX.len
  have hmlen := hD.len
  have hcl := hX.cap
  have hcm := hX.max
  replace hX := Lib.hid hX
  replace hlen := Lib.hid hlen
  replace hmlen := Lib.hid hmlen
  replace hwd := Lib.hid hwd
  go_enter Tryz.func22, Tryz.ntmps22
  go_wp2_with fail
  with_reducible refine hwd.out.mono ?_
  rintro e w1 ⟨p, cc, W, rfl, hW, hv, hown, hb⟩
  have hWl : W.length = (m + 3) / 4 := by have := hown.1; simpa using this
  have hWe : W = digs N := digs_of_groups hW (by rw [hv]; exact vB_dB two16 N) (by rw [hWl, hmlen.out])
  subst hWe
  clear hv hwd
  have hNm : (d16 N).length = m := hmlen.out
  have hfin : (Ending.returned (.bool (decide (X = digs N))) = .returned (.bool (decide (X = digs N)))) := rfl
  generalize (m + 3) / 4 = L at hWl hown ⊢
  replace hb := Lib.hid hb
  have fin : ∀ b : Bool, (b = true ↔ X = digs N) → Ending.returned (.bool b) = .returned (.bool (decide (X = digs N))) := by
    intro b hb; congr 2; cases b with
    | true => simp [hb.1 rfl]
    | false => symm; rw [decide_eq_false_iff_not]; intro h; exact Bool.false_ne_true (hb.2 h)
  replace fin := Lib.hid fin
  clear hfin hNm
  by_cases hle : l = L
  · subst hle
    have hcw := fun g e j hj => hown.cells (g := g) e j (uw (nth (digs N) j)) (by rw [List.getElem?_map, get_nth hj]; rfl)
    have hsm := fun h0 => own_some hown h0
    clear hown
    replace hcw := Lib.hid hcw
    replace hsm := Lib.hid hsm
    replace hW := Lib.hid hW
    replace hWl := Lib.hid hWl
    have hbs : w.heap.size ≤ w1.heap.size := hb.out.size
    go_wp2
    go_loopw [16] (fun i wr => ∃ (k nn : Nat), k ≤ l ∧ i = .int .i64 k ∧ (∀ j, j < k → nth X j = nth (digs N) j) ∧ wr = w1.drewN nn) (fun i _ => l - (intOf i).toNat)
    case atStart => exact ⟨0, 0, Nat.zero_le _, rfl, (fun j h => by omega), rfl⟩
    case round =>
      obtain ⟨k, nn, hk, rfl, hz, rfl⟩ := hrel
      replace hz := Lib.hid hz
      by_cases hlt : k < l
      · obtain ⟨ad, rfl, hcs⟩ := hX.out.cells (by omega)
        have hcell : w1.cell? (ad.add k) = some (.int .u64 (nth X k : Int)) := (hb.out.cell (World.block_lt_of_cell? w _ (hcs k hlt))).trans (hcs k hlt)
        obtain ⟨g, rfl, hg, hc1, hc2⟩ := hsm.out (by omega)
        have hcl2 : w1.cell? ⟨g, k, none⟩ = some (.int .u64 (nth (digs N) k : Int)) := by
          have := hcw.out g rfl k (by rw [hWl.out]; exact hlt)
          rw [add0] at this; exact this
        clear hcs
        by_cases he : nth X k = nth (digs N) k
        · rw [he] at hcell
          replace he := Lib.hid he
          go_wp2_with fail
          go_quiet (fail)
          go_wp2
          go_roundw
          case rel =>
            refine ⟨k + 1, _, by omega, by go_num, fun j hj => ?_, rfl⟩
            rcases (by omega : j = k ∨ j < k) with h | h
            · subst h; exact he.out
            · exact hz.out j h
          case measure => simp [intOf]; omega
        · have e0 : ((nth X k : Int) != (nth (digs N) k : Int)) = true := by simp; omega
          replace he := Lib.hid he
          go_wp2_with fail
          go_quiet (fail)
          go_wp2
          go_ret
          exact ⟨fin.out false ⟨(fun h => by cases h), fun h => absurd (by rw [h]) he.out⟩, Below.drwN (Below.drwN hb.out nn) _⟩
      · obtain rfl : k = l := by omega
        go_wp2
        go_ret
        exact ⟨fin.out true ⟨fun _ => List.ext_getElem? (fun j => by
          have h1 := hlen.out
          have h2 := hWl.out
          by_cases hj : j < k
          · rw [get_nth (by omega), get_nth (by omega), hz.out j hj]
          · rw [List.getElem?_eq_none (by omega), List.getElem?_eq_none (by omega)]), fun _ => rfl⟩, Below.drwN hb.out nn⟩
  · have e0 : ((l : Int) != (L : Int)) = true := by simp; omega
    have hne : X ≠ digs N := fun h => by have h1 := hlen.out; rw [h] at h1; exact hle (h1.symm.trans hWl)
    replace hne := Lib.hid hne
    replace hle := Lib.hid hle
    replace hown := Lib.hid hown
    go_wp2
    go_ret
    exact ⟨fin.out false ⟨(fun h => by cases h), fun h => absurd h hne.out⟩, hb.out⟩

/-- The box of a decimal as plain data. -/
def Bx1 (s : Nat) (f : Int) (n : Bool) (A : Option Addr) (l c : Nat) (e : Int) (w : World) : Prop := w.heap[s]? = some (.cells #[.int .i64 f, .bool n, .slice A l c, .int .i64 e] 24 (0, 0))
theorem Bx1.cells {s : Nat} {f : Int} {n : Bool} {A : Option Addr} {l c : Nat} {e : Int} {w : World} (h : Bx1 s f n A l c e w) :
    w.cell? ⟨s, 0, none⟩ = some (.int .i64 f) ∧ w.cell? ⟨s, 1, none⟩ = some (.bool n) ∧ w.cell? ⟨s, 2, none⟩ = some (.slice A l c) ∧ w.cell? ⟨s, 3, none⟩ = some (.int .i64 e) :=
  ⟨cellB h rfl, cellB h rfl, cellB h rfl, cellB h rfl⟩
theorem Bx1.chg {s : Nat} {f : Int} {n : Bool} {A : Option Addr} {l c : Nat} {e : Int} {w w' : World} (h : Bx1 s f n A l c e w) (hc : Chg w w' (fun _ => False)) : Bx1 s f n A l c e w' := hc.heapB h (fun h => h)
theorem Bx1.set3 {s : Nat} {f : Int} {n : Bool} {A : Option Addr} {l c : Nat} {e : Int} {w : World} (h : Bx1 s f n A l c e w) (zb : Nat) (h0 : s ≠ zb) (v0 v1 v2 : Value) : Bx1 s f n A l c e (((w.setCell ⟨zb, 0, none⟩ v0).setCell ⟨zb, 1, none⟩ v1).setCell ⟨zb, 2, none⟩ v2) :=
  (chg_setB _ zb 2 v2).heapB ((chg_setB _ zb 1 v1).heapB ((chg_setB _ zb 0 v0).heapB h h0) h0) h0
theorem chg3 (w : World) (zb : Nat) (v0 v1 v2 : Value) : Chg w (((w.setCell ⟨zb, 0, none⟩ v0).setCell ⟨zb, 1, none⟩ v1).setCell ⟨zb, 2, none⟩ v2) (fun k => k = zb) :=
  ((chg_setB w zb 0 v0).trans ((chg_setB _ zb 1 v1).mono (fun _ _ h => .inl h))).trans ((chg_setB _ zb 2 v2).mono (fun _ _ h => .inl h))
theorem end3 {w : World} {k : Nat} {a b c : Value} {T : TypeId} (h : w.heap[k]? = some (.cells #[a, b, c] T (0, 0))) (v0 v1 v2 : Value) :
    (((w.setCell ⟨k, 0, none⟩ v0).setCell ⟨k, 1, none⟩ v1).setCell ⟨k, 2, none⟩ v2).heap[k]? = some (.cells #[v0, v1, v2] T (0, 0)) :=
  setB (i := 2) (v := v2) (setB (i := 1) (v := v1) (setB (i := 0) (v := v0) h))
theorem RdD.chg {w w' : World} {A : Option Addr} {l c : Nat} {D : List Nat} {S : Nat → Prop} (h : RdD w A l c D) (hb : Chg w w' S) (hS : ∀ k, S k → w.heap.size ≤ k) : RdD w' A l c D :=
  ⟨h.len, h.cap, h.max, h.dg, fun hl => by
    obtain ⟨ad, e, hc⟩ := h.cells hl
    exact ⟨ad, e, fun j hj => hb.cell (hc j hj) (fun hs => by have := World.block_lt_of_cell? w _ (hc j hj); have := hS _ hs; omega)⟩⟩
set_option maxRecDepth 20000 in
set_option maxHeartbeats 2000000 in
theorem ofDec_c (w : World) (f : Int) (n : Bool) (A : Option Addr) (l c : Nat) (X : List Nat) (e : Int) (hX : RdW w A l c X) (hl : l ≤ 1000000) :
    Calls Tryz.prog 9 #[.agg #[.int .i64 f, .bool n, .slice A l c, .int .i64 e]] w fun E w' => ∃ p m cc, E = .returned (.tuple #[.agg #[.bool n, .slice p m cc, .int .i64 e], .bool (decide (f = 0 ∧ X = digs (val X)))]) ∧ DRes w w' p m cc (val X) := by
  replace hX := Lib.hid hX
  go_enter Tryz.func9, Tryz.ntmps9
  go_upto_region 1 with (fail)
  generalize hW : (w.alloc (.cells #[.int .i64 f, .bool n, .slice A l c, .int .i64 e] 24 (0, 0))).alloc (.cells #[.bool false, .slice none 0 0, .int .i64 0] 29 (0, 0)) = W
  have hB0 : Below w.heap.size w W := by rw [← hW]; exact ((Below.refl _ _).alloc (Nat.le_refl _) _).alloc (by simp) _
  have hBx : W.heap[w.heap.size]? = some (.cells #[.int .i64 f, .bool n, .slice A l c, .int .i64 e] 24 (0, 0)) := by rw [← hW]; exact allocB_old (allocB _ _)
  have hRs : W.heap[w.heap.size + 1]? = some (.cells #[.bool false, .slice none 0 0, .int .i64 0] 29 (0, 0)) := by rw [← hW]; exact allocB_at _ _ (by simp)
  have hsz : W.heap.size = w.heap.size + 2 := by rw [← hW]; simp
  clear hW
  have c2 := cellB (i := 2) hBx rfl
  have ho := of_c W A l c X (hX.out.below hB0) hl
  replace ho := Lib.hid ho
  replace hB0 := Lib.hid hB0
  replace hBx := Lib.hid hBx
  replace hRs := Lib.hid hRs
  replace hsz := Lib.hid hsz
  replace c2 : W.cell? ⟨w.heap.size, 2, none⟩ = some (.slice A l c) := c2
  go_wp2_with fail
  with_reducible refine ho.out.mono ?_
  rintro E w1 ⟨p, m, cc, rfl, hD⟩
  have hR := hD.rd
  have hb1 := hD.bel
  clear c2 ho
  have hc1 := Below.chg hb1
  have hX1 := hc1.heapB hBx.out (fun h => h)
  have hR1 := hc1.heapB hRs.out (fun h => h)
  have hml : m ≤ 4 * l := by
    rw [← hR.len]
    refine (dB_len_le two16).2 ?_
    have h := val_lt hX.out.wd
    rw [hX.out.len, WB_16, ← Nat.pow_mul] at h
    exact h
  have hB1 : Below w.heap.size w w1 := hB0.out.trans (hb1.mono (by have := hsz.out; omega))
  have hXr1 := hX.out.below hB1
  have hh := fun w2 (hb : Below w1.heap.size w1 w2) => hasWords_c w2 A p l c m cc (val X) X (hXr1.below hb) (hR.below hb) (by omega)
  have hs1 : W.heap.size ≤ w1.heap.size := hb1.size
  have hsz1 : w.heap.size + 2 ≤ w1.heap.size := by have := hsz.out; omega
  clear hml hXr1 hs1
  have c0 : w1.drew.cell? ⟨w.heap.size, 0, none⟩ = some (.int .i64 f) := cellB hX1 rfl
  have c1 : w1.drew.cell? ⟨w.heap.size, 1, none⟩ = some (.bool n) := cellB hX1 rfl
  have c2 : w1.drew.cell? ⟨w.heap.size, 2, none⟩ = some (.slice A l c) := cellB hX1 rfl
  have c3 : w1.drew.cell? ⟨w.heap.size, 3, none⟩ = some (.int .i64 e) := cellB hX1 rfl
  replace hh := Lib.hid hh
  replace hR := Lib.hid hR
  replace hB1 := Lib.hid hB1
  replace hX1 := Lib.hid hX1
  replace hR1 := Lib.hid hR1
  replace hD := Lib.hid hD
  replace hsz1 := Lib.hid hsz1
  clear hb1 hc1
  by_cases hf : f = 0
  · subst hf
    have hS0 := And.intro c0 (And.intro c1 (And.intro c2 c3))
    clear c0 c1 c2 c3
    have ne0 : w.heap.size ≠ w.heap.size + 1 := by omega
    go_wp2_with fail
    go_region_held3 (fun w' => w'.cell? ⟨w.heap.size, 0, none⟩ = some (.int .i64 0) ∧ w'.cell? ⟨w.heap.size, 1, none⟩ = some (.bool n) ∧ w'.cell? ⟨w.heap.size, 2, none⟩ = some (.slice A l c) ∧ w'.cell? ⟨w.heap.size, 3, none⟩ = some (.int .i64 e)) (with_reducible (first | exact hS0 | exact hS1 | exact (Bx1.set3 hX2.out (w.heap.size + 1) ne0 _ _ _).cells)) (
      (go_at_call 22
       with_reducible refine (hh.out w1.drew (Below.drw (Below.refl _ _))).mono ?_
       rintro e' w2 ⟨rfl, hb2⟩
       have hc2 := Below.chg (w := w1.drew) hb2
       have hX2 := hc2.heapB (show w1.drew.heap[w.heap.size]? = _ from hX1.out) (fun h => h)
       have hR2 := hc2.heapB (show w1.drew.heap[w.heap.size + 1]? = _ from hR1.out) (fun h => h)
       have hS1 : w2.cell? ⟨w.heap.size, 0, none⟩ = some (.int .i64 0) ∧ w2.cell? ⟨w.heap.size, 1, none⟩ = some (.bool n) ∧ w2.cell? ⟨w.heap.size, 2, none⟩ = some (.slice A l c) ∧ w2.cell? ⟨w.heap.size, 3, none⟩ = some (.int .i64 e) := ⟨cellB hX2 rfl, cellB hX2 rfl, cellB hX2 rfl, cellB hX2 rfl⟩
       have y0 : w2.frozen? ⟨w.heap.size + 1, 0, none⟩ = false := frozenB hR2 0
       have y1 : w2.frozen? ⟨w.heap.size + 1, 1, none⟩ = false := frozenB hR2 1
       have y2 : w2.frozen? ⟨w.heap.size + 1, 2, none⟩ = false := frozenB hR2 2
       have z0 : w2.cell? ⟨w.heap.size + 1, 0, none⟩ = some (.bool false) := cellB hR2 rfl
       have z1 : w2.cell? ⟨w.heap.size + 1, 1, none⟩ = some (.slice none 0 0) := cellB hR2 rfl
       have z2 : w2.cell? ⟨w.heap.size + 1, 2, none⟩ = some (.int .i64 0) := cellB hR2 rfl
       have hX2 : Bx1 w.heap.size 0 n A l c e w2 := hX2
       replace hX2 := Lib.hid hX2
       replace hR2 := Lib.hid hR2
       replace hb2 := Lib.hid hb2
       replace hc2 := Lib.hid hc2))
    go_wp2
    have hfin := end3 hR2.out (.bool n) (.slice p m cc) (.int .i64 e)
    have hch9 := chg3 w2 (w.heap.size + 1) (.bool n) (.slice p m cc) (.int .i64 e)
    clear hS0 hS1 y0 y1 y2 z0 z1 z2
    generalize ((w2.setCell ⟨w.heap.size + 1, 0, none⟩ (.bool n)).setCell ⟨w.heap.size + 1, 1, none⟩ (.slice p m cc)).setCell ⟨w.heap.size + 1, 2, none⟩ (.int .i64 e) = W9 at hfin hch9 ⊢
    have e0 := cellB hfin (i := 0) (v := .bool n) rfl
    have e1 := cellB hfin (i := 1) (v := .slice p m cc) rfl
    have e2 := cellB hfin (i := 2) (v := .int .i64 e) rfl
    have k1 := hsz1.out
    have hs2 := hc2.out.size
    have hs3 : w1.drew.heap.size = w1.heap.size := rfl
    have hc0 := Below.chg hB1.out
    have a1 : Chg w1 w2 (fun k => k = w.heap.size + 1) := ((Chg.refl w1 (fun _ => False)).drew.trans (hc2.out.mono (fun _ _ h => h.elim))).mono (fun _ _ h => h.elim)
    have q1 : DRes w W9 p m cc (val X) := hD.out.chg (Below.chg hB0.out) (a1.trans (hch9.mono (fun k _ h => .inl h))) (fun k h => ⟨by omega, .inl (by have := hsz.out; omega)⟩)
    exact bodyPost_ret (v := .tuple #[.agg #[.bool n, .slice p m cc, .int .i64 e], .bool (decide (X = digs (val X)))]) (by simp [results, Tryz.results9, go_sem, e0, e1, e2]) rfl ⟨p, m, cc, by simp, q1⟩
  · have e0 : (f == 0) = false := by simpa using hf
    have y0 : w1.drew.frozen? ⟨w.heap.size + 1, 0, none⟩ = false := frozenB hR1.out 0
    have y1 : w1.drew.frozen? ⟨w.heap.size + 1, 1, none⟩ = false := frozenB hR1.out 1
    have y2 : w1.drew.frozen? ⟨w.heap.size + 1, 2, none⟩ = false := frozenB hR1.out 2
    have z0 : w1.drew.cell? ⟨w.heap.size + 1, 0, none⟩ = some (.bool false) := cellB hR1.out rfl
    have z1 : w1.drew.cell? ⟨w.heap.size + 1, 1, none⟩ = some (.slice none 0 0) := cellB hR1.out rfl
    have z2 : w1.drew.cell? ⟨w.heap.size + 1, 2, none⟩ = some (.int .i64 0) := cellB hR1.out rfl
    have yy0 : w1.frozen? ⟨w.heap.size + 1, 0, none⟩ = false := frozenB hR1.out 0
    have yy1 : w1.frozen? ⟨w.heap.size + 1, 1, none⟩ = false := frozenB hR1.out 1
    have yy2 : w1.frozen? ⟨w.heap.size + 1, 2, none⟩ = false := frozenB hR1.out 2
    have zz0 : w1.cell? ⟨w.heap.size + 1, 0, none⟩ = some (.bool false) := cellB hR1.out rfl
    have zz1 : w1.cell? ⟨w.heap.size + 1, 1, none⟩ = some (.slice none 0 0) := cellB hR1.out rfl
    have zz2 : w1.cell? ⟨w.heap.size + 1, 2, none⟩ = some (.int .i64 0) := cellB hR1.out rfl
    replace hf := Lib.hid hf
    go_wp2_with fail
    go_region
    go_wp2
    have hfin := end3 hR1.out (.bool n) (.slice p m cc) (.int .i64 e)
    have hch9 := chg3 w1 (w.heap.size + 1) (.bool n) (.slice p m cc) (.int .i64 e)
    clear y0 y1 y2 z0 z1 z2 yy0 yy1 yy2 zz0 zz1 zz2 c0 c1 c2 c3
    generalize ((w1.setCell ⟨w.heap.size + 1, 0, none⟩ (.bool n)).setCell ⟨w.heap.size + 1, 1, none⟩ (.slice p m cc)).setCell ⟨w.heap.size + 1, 2, none⟩ (.int .i64 e) = W9 at hfin hch9 ⊢
    have e0 := cellB hfin (i := 0) (v := .bool n) rfl
    have e1 := cellB hfin (i := 1) (v := .slice p m cc) rfl
    have e2 := cellB hfin (i := 2) (v := .int .i64 e) rfl
    have q1 : DRes w W9.drew p m cc (val X) := hD.out.chg (Below.chg hB0.out) (hch9.drew) (fun k h => ⟨by omega, .inl (by have := hsz.out; omega)⟩)
    exact bodyPost_ret (v := .tuple #[.agg #[.bool n, .slice p m cc, .int .i64 e], .bool false]) (by simp [results, Tryz.results9, go_sem, e0, e1, e2]) rfl ⟨p, m, cc, by simp [hf.out], q1⟩

theorem fits_c (w : World) (f : Int) (n : Bool) (A : Option Addr) (l c : Nat) (e : Int) :
    Calls Tryz.prog 4 #[.agg #[.int .i64 f, .bool n, .slice A l c, .int .i64 e]] w fun E w' => E = .returned (.bool (decide (l ≤ 2147483647))) ∧ Below w.heap.size w w' := by
  go_enter Tryz.func4, Tryz.ntmps4
  by_cases h : l ≤ 2147483647
  · go_wp2
    go_ret
    exact ⟨by simp [h], (Below.refl _ _).alloc (Nat.le_refl _) _⟩
  · go_wp2
    go_ret
    exact ⟨by simp [h], (Below.refl _ _).alloc (Nat.le_refl _) _⟩

/-- What finite tells of a decimal that it takes. -/
structure FinV (w w' : World) (f : Int) (n : Bool) (l : Nat) (X : List Nat) (e : Int) (a0 : Bool) (p0 : Option Addr) (m0 k0 : Nat) (a2 : Int) : Prop where
  len : l ≤ 3
  lo : -100 ≤ e
  hi : e ≤ 100
  form : f = 0
  norm : X = digs (val X)
  neg : a0 = n
  ex : a2 = e
  coeff : DRes w w' p0 m0 k0 (val X)

def FinRes (w w' : World) (E : Ending) (f : Int) (n : Bool) (l : Nat) (X : List Nat) (e : Int) : Prop :=
  ∃ (a0 : Bool) (p0 : Option Addr) (m0 k0 : Nat) (a2 : Int) (ok : Bool), E = .returned (.tuple #[.agg #[.bool a0, .slice p0 m0 k0, .int .i64 a2], .bool ok]) ∧ Below w.heap.size w w' ∧ (ok = true → FinV w w' f n l X e a0 p0 m0 k0 a2)

set_option maxRecDepth 20000 in
set_option maxHeartbeats 2000000 in
theorem finite_c (w : World) (f : Int) (n : Bool) (A : Option Addr) (l c : Nat) (X : List Nat) (e : Int) (hX : RdW w A l c X) :
    Calls Tryz.prog 5 #[.agg #[.int .i64 f, .bool n, .slice A l c, .int .i64 e]] w fun E w' => FinRes w w' E f n l X e := by
  have hlc := hX.cap
  have hcm := hX.max
  replace hX := Lib.hid hX
  go_enter Tryz.func5, Tryz.ntmps5
  go_upto_region 1 with (fail)
  generalize hW : (w.alloc (.cells #[.int .i64 f, .bool n, .slice A l c, .int .i64 e] 24 (0, 0))).alloc (.cells #[.bool false, .slice none 0 0, .int .i64 0] 29 (0, 0)) = W
  have hB0 : Below w.heap.size w W := by rw [← hW]; exact ((Below.refl _ _).alloc (Nat.le_refl _) _).alloc (by simp) _
  have hBx : W.heap[w.heap.size]? = some (.cells #[.int .i64 f, .bool n, .slice A l c, .int .i64 e] 24 (0, 0)) := by rw [← hW]; exact allocB_old (allocB _ _)
  have hRs : W.heap[w.heap.size + 1]? = some (.cells #[.bool false, .slice none 0 0, .int .i64 0] 29 (0, 0)) := by rw [← hW]; exact allocB_at _ _ (by simp)
  have hsz : W.heap.size = w.heap.size + 2 := by rw [← hW]; simp
  clear hW
  have c0 : W.cell? ⟨w.heap.size, 0, none⟩ = some (.int .i64 f) := cellB hBx rfl
  have c1 : W.cell? ⟨w.heap.size, 1, none⟩ = some (.bool n) := cellB hBx rfl
  have c2 : W.cell? ⟨w.heap.size, 2, none⟩ = some (.slice A l c) := cellB hBx rfl
  have c3 : W.cell? ⟨w.heap.size, 3, none⟩ = some (.int .i64 e) := cellB hBx rfl
  by_cases hok : l ≤ 3 ∧ -100 ≤ e ∧ e ≤ 100
  · obtain ⟨h1, h2, h3⟩ := hok
    have hq : ∀ w1, Below W.heap.size W w1 → Calls Tryz.prog 9 #[.agg #[.int .i64 f, .bool n, .slice A l c, .int .i64 e]] w1 _ := fun w1 hb => ofDec_c w1 f n A l c X e ((hX.out.below hB0).below hb) (by omega)
    replace hq := Lib.hid (hq W (Below.refl _ _))
    replace hB0 := Lib.hid hB0
    replace hBx := Lib.hid hBx
    replace hRs := Lib.hid hRs
    replace hsz := Lib.hid hsz
    go_wp2_with fail
    with_reducible refine hq.out.mono ?_
    rintro E w1 ⟨p, m, cc, rfl, hD⟩
    have hch := Below.chg hD.bel
    have hR1 := hch.heapB hRs.out (fun h => h)
    have y0 : w1.frozen? ⟨w.heap.size + 1, 0, none⟩ = false := frozenB hR1 0
    have y1 : w1.frozen? ⟨w.heap.size + 1, 1, none⟩ = false := frozenB hR1 1
    have y2 : w1.frozen? ⟨w.heap.size + 1, 2, none⟩ = false := frozenB hR1 2
    have z0 : w1.cell? ⟨w.heap.size + 1, 0, none⟩ = some (.bool false) := cellB hR1 rfl
    have z1 : w1.cell? ⟨w.heap.size + 1, 1, none⟩ = some (.slice none 0 0) := cellB hR1 rfl
    have z2 : w1.cell? ⟨w.heap.size + 1, 2, none⟩ = some (.int .i64 0) := cellB hR1 rfl
    replace hR1 := Lib.hid hR1
    replace hD := Lib.hid hD
    replace hch := Lib.hid hch
    go_wp2
    have hfin := end3 hR1.out (.bool n) (.slice p m cc) (.int .i64 e)
    have hch9 := chg3 w1 (w.heap.size + 1) (.bool n) (.slice p m cc) (.int .i64 e)
    clear y0 y1 y2 z0 z1 z2 c0 c1 c2 c3
    generalize ((w1.setCell ⟨w.heap.size + 1, 0, none⟩ (.bool n)).setCell ⟨w.heap.size + 1, 1, none⟩ (.slice p m cc)).setCell ⟨w.heap.size + 1, 2, none⟩ (.int .i64 e) = W9 at hfin hch9 ⊢
    have e0 := cellB hfin (i := 0) (v := .bool n) rfl
    have e1 := cellB hfin (i := 1) (v := .slice p m cc) rfl
    have e2 := cellB hfin (i := 2) (v := .int .i64 e) rfl
    have q1 : DRes w W9 p m cc (val X) := hD.out.chg (Below.chg hB0.out) hch9 (fun k h => ⟨by omega, .inl (by have := hsz.out; omega)⟩)
    exact bodyPost_ret (v := .tuple #[.agg #[.bool n, .slice p m cc, .int .i64 e], .bool (decide (f = 0 ∧ X = digs (val X)))]) (by simp [results, Tryz.results5, go_sem, e0, e1, e2]) rfl ⟨_, _, _, _, _, _, rfl, q1.bel, fun h => by
      rw [decide_eq_true_eq] at h
      exact ⟨h1, h2, h3, h.1, h.2, rfl, rfl, q1⟩⟩
  · have y0 : W.frozen? ⟨w.heap.size + 1, 0, none⟩ = false := frozenB hRs 0
    have y1 : W.frozen? ⟨w.heap.size + 1, 1, none⟩ = false := frozenB hRs 1
    have y2 : W.frozen? ⟨w.heap.size + 1, 2, none⟩ = false := frozenB hRs 2
    have z0 : W.cell? ⟨w.heap.size + 1, 0, none⟩ = some (.bool false) := cellB hRs rfl
    have z1 : W.cell? ⟨w.heap.size + 1, 1, none⟩ = some (.slice none 0 0) := cellB hRs rfl
    have z2 : W.cell? ⟨w.heap.size + 1, 2, none⟩ = some (.int .i64 0) := cellB hRs rfl
    replace hB0 := Lib.hid hB0
    replace hBx := Lib.hid hBx
    replace hRs := Lib.hid hRs
    replace hsz := Lib.hid hsz
    have hno : 3 < l ∨ (l ≤ 3 ∧ e < -100) ∨ (l ≤ 3 ∧ -100 ≤ e ∧ 100 < e) := by omega
    clear hok
    rcases hno with h | ⟨h1, h2⟩ | ⟨h1, h2, h3⟩
    all_goals
      go_wp2
      have hfin := end3 hRs.out (.bool false) (.slice none 0 0) (.int .i64 0)
      have hch9 := chg3 W (w.heap.size + 1) (.bool false) (.slice none 0 0) (.int .i64 0)
      clear y0 y1 y2 z0 z1 z2 c0 c1 c2 c3
      generalize ((W.setCell ⟨w.heap.size + 1, 0, none⟩ (.bool false)).setCell ⟨w.heap.size + 1, 1, none⟩ (.slice none 0 0)).setCell ⟨w.heap.size + 1, 2, none⟩ (.int .i64 0) = W9 at hfin hch9 ⊢
      have e0 := cellB hfin (i := 0) (v := .bool false) rfl
      have e1 := cellB hfin (i := 1) (v := .slice none 0 0) rfl
      have e2 := cellB hfin (i := 2) (v := .int .i64 0) rfl
      have q1 : Chg w W9 (fun _ => False) := (Below.chg hB0.out).trans (hch9.mono (fun k _ h => .inr (by omega)))
      exact bodyPost_ret (v := .tuple #[.agg #[.bool false, .slice none 0 0, .int .i64 0], .bool false]) (by simp [results, Tryz.results5, go_sem, e0, e1, e2]) rfl ⟨_, _, _, _, _, _, rfl, ⟨q1.os, q1.tape, q1.output, q1.size, fun k hk => q1.block k hk (fun h => h)⟩, (fun h => by cases h)⟩
end Go.Proofs.YtonepclpllelfaaGreatDoor

namespace Go.Proofs.YtonepclpllelfaaGreatDoor
open Go Go.RowKit

/-- An own row of digits is a row that is read; where it lies. -/
theorem own_rdD {w : World} {base l c : Nat} {p : Option Addr} {D : List Nat} (hown : w.ownsRow base 3 1 (.slice p l c) l (D.map sw)) (hW : DgB 65536 D) : RdD w p l c D ∧ ∀ ad, p = some ad → base ≤ ad.block := by
  have hX : D.length = l := by have := hown.1; simpa using this
  refine ⟨?_, fun ad ha => (hown.lt ad.block (by subst ha; rfl)).1⟩
  rcases hown.2 with ⟨h1, h2⟩ | ⟨g, cap, cur, h1, hg, hgg, hn, hm, hcs, htake⟩
  · injection h1 with h1 h3 h4
    subst h3 h4
    exact ⟨hX, Nat.le_refl _, by omega, hW, fun h => absurd h (Nat.lt_irrefl _)⟩
  · injection h1 with h1 h3 h4
    subst h1 h4
    refine ⟨hX, hn, by unfold maxLen at hm; omega, hW, fun _ => ⟨_, rfl, fun j hj => ?_⟩⟩
    exact hown.cells (g := g) rfl j (sw (nth D j)) (by rw [List.getElem?_map, get_nth (by omega)]; rfl)
theorem own_len {w : World} {base l : Nat} {v : Value} {D : List Nat} (hown : w.ownsRow base 3 1 v l (D.map sw)) : D.length = l := by have := hown.1; simpa using this
theorem RdD.at {w : World} {A : Option Addr} {l c : Nat} {D : List Nat} (h : RdD w A l c D) {w' : World} (hb : Below w.heap.size w w') {k : Nat} (hk : k < l) : ∃ ad, A = some ad ∧ w'.cell? (ad.add k) = some (.int .i64 (nth D k : Int)) := by
  obtain ⟨ad, e, hc⟩ := h.cells (by omega)
  exact ⟨ad, e, (hb.cell (World.block_lt_of_cell? w _ (hc k hk))).trans (hc k hk)⟩
/-- A row that is handed back is trimmed. -/
theorem trimOwn {w wr : World} {p : Option Addr} {l c N : Nat} {D : List Nat} (hb : Below w.heap.size w wr) (hown : wr.ownsRow w.heap.size 3 1 (.slice p l c) l (D.map sw)) (hW : DgB 65536 D) (hv : vB 65536 D = N) :
    Calls Tryz.prog 47 #[.slice p l c] wr fun e w' => wr = w' ∧ ∃ m, e = .returned (.slice p m c) ∧ DRes w wr p m c N := by
  subst hv
  obtain ⟨h1, h2⟩ := own_rdD hown hW
  exact (trim_c wr p l c D h1).mono fun e w' ⟨hw, m, he, hr⟩ => ⟨hw, m, he, hr, h2, hb⟩

set_option maxRecDepth 20000 in
set_option maxHeartbeats 2000000 in
theorem addD_c (w : World) (A B : Option Addr) (l c m d N M : Nat) (hX : RdD w A l c (d16 N)) (hY : RdD w B m d (d16 M)) (hl : l ≤ 1000000) (hm : m ≤ 1000000) :
    Calls Tryz.prog 25 #[.slice A l c, .slice B m d] w fun e w' => ∃ p n cc, e = .returned (.slice p n cc) ∧ DRes w w' p n cc (N + M) := by
  obtain ⟨i0, hi, hz0, hz1, hz2⟩ := info_parts makeI
  have hlx := hX.len
  have hly := hY.len
  replace hX := Lib.hid hX
  replace hY := Lib.hid hY
  replace hlx := Lib.hid hlx
  replace hly := Lib.hid hly
  go_enter Tryz.func25, Tryz.ntmps25
  go_wp2
  go_loopw [5, 6, 7] (fun v cy i wr => ∃ (k t : Nat) (p : Option Addr) (cc : Nat) (O : List Nat), (k ≤ l ∨ k ≤ m) ∧ i = .int .i64 k ∧ cy = .int .i64 t ∧ t ≤ 1 ∧ v = .slice p k cc ∧ Below w.heap.size w wr ∧ wr.ownsRow w.heap.size 3 1 (.slice p k cc) k (O.map sw) ∧ DgB 65536 O ∧ vB 65536 O + 65536 ^ k * t = vB 65536 ((d16 N).take k) + vB 65536 ((d16 M).take k)) (fun _ _ i _ => (l + m) - (intOf i).toNat)
  case atStart => exact ⟨0, 0, _, 0, [], .inl (Nat.zero_le _), rfl, rfl, by omega, rfl, (Below.refl _ _).alloc (Nat.le_refl _) _, World.ownsRow_made w #[] 0 (Nat.le_refl _) (by decide) rfl, DgB.nil, rfl⟩
  case round =>
    obtain ⟨k, t, p, cc, O, hk, rfl, rfl, ht, rfl, hb, hown, hO, hv⟩ := hrel
    have hbs := hb.size
    have hOl := own_len hown
    by_cases hlt : k < l ∨ k < m
    · have hx : ∃ x, nth (d16 N) k = x := ⟨_, rfl⟩
      have hy : ∃ y, nth (d16 M) k = y := ⟨_, rfl⟩
      obtain ⟨x, hx⟩ := hx
      obtain ⟨y, hy⟩ := hy
      have hxb : x < 65536 := by rw [← hx]; exact d16_nth N k
      have hyb : y < 65536 := by rw [← hy]; exact d16_nth M k
      have hst := addD_step hOl hv
      rw [hx, hy] at hst
      have hx0 : l ≤ k → x = 0 := fun h => by rw [← hx]; exact nth_ge (by rw [hlx.out]; exact h)
      have hy0 : m ≤ k → y = 0 := fun h => by rw [← hy]; exact nth_ge (by rw [hly.out]; exact h)
      have hdg : DgB 65536 (O ++ [(t + x + y) % 65536]) := hO.snoc (Nat.mod_lt _ (by decide))
      have ht1 : (t + x + y) / 65536 ≤ 1 := by omega
      have hca : k < l → ∃ ad, A = some ad ∧ wr.cell? (ad.add k) = some (.int .i64 (x : Int)) := fun h => by rw [← hx]; exact hX.out.at hb h
      have hcb : k < m → ∃ ad, B = some ad ∧ wr.cell? (ad.add k) = some (.int .i64 (y : Int)) := fun h => by rw [← hy]; exact hY.out.at hb h
      replace hca := Lib.hid hca
      replace hcb := Lib.hid hcb
      replace hx0 := Lib.hid hx0
      replace hy0 := Lib.hid hy0
      replace hx := Lib.hid hx
      replace hy := Lib.hid hy
      replace hst := Lib.hid hst
      replace hdg := Lib.hid hdg
      replace ht1 := Lib.hid ht1
      replace hown := Lib.hid hown
      replace hb := Lib.hid hb
      replace hO := Lib.hid hO
      replace hv := Lib.hid hv
      replace hOl := Lib.hid hOl
      have fin : ∀ (v' : Value) (w1 : World) (s : Int), s = ((t + x + y : Nat) : Int) → w1.ownsRow w.heap.size 3 1 v' (k + 1) (O.map sw ++ [.int .i64 (s % 65536)]) → ∃ p' cc', v' = .slice p' (k + 1) cc' ∧ w1.ownsRow w.heap.size 3 1 (.slice p' (k + 1) cc') (k + 1) ((O ++ [(t + x + y) % 65536]).map sw) := by
        rintro v' w1 s rfl h
        obtain ⟨p', cc', rfl⟩ := own_slice3 h
        refine ⟨p', cc', rfl, ?_⟩
        rw [List.map_append]
        have e : sw ((t + x + y) % 65536) = .int .i64 (((t + x + y : Nat) : Int) % 65536) := by unfold sw; congr 1
        simp only [List.map_cons, List.map_nil, e]
        exact h
      replace fin := Lib.hid fin
      by_cases hla : k < l
      · by_cases hlb : k < m
        · obtain ⟨ada, rfl, ca⟩ := hca.out hla
          obtain ⟨adb, rfl, cb⟩ := hcb.out hlb
          have se : ((t : Int) + (x : Int) + (y : Int)) = ((t + x + y : Nat) : Int) := by omega
          have s0 : 0 ≤ ((t : Int) + (x : Int) + (y : Int)) := by omega
          have s1 : ((t : Int) + (x : Int) + (y : Int)) ≤ 131073 := by omega
          replace se := Lib.hid se
          go_wp2_with (at_builtin; refine wpList_append_own _ rfl _ _ 27 rfl w.heap.size 3 i0 (.int .i64 0) 1 8 Tryz.underlying27 hi hz0 hz1 hz2 rfl (by decide) _ _ _ rfl (hown.out.alloc _) ⟨wr.heap.size, 0, none⟩ 1 1 [.int .i64 (((t : Int) + (x : Int) + (y : Int)) % 65536)] rfl rfl ?c1 ?c2 ?c3 ?c4 ?c5 ?_)
          case c1 => exact cell_one_new _ _ _
          case c2 => intro u hu; simp only [List.mem_cons, List.not_mem_nil, or_false] at hu; subst hu; rfl
          case c3 => unfold maxLen; omega
          case c4 => omega
          case c5 => simp; omega
          intro v' w1 hown' hgrow _
          obtain ⟨p', cc', rfl, hown2⟩ := fin.out v' w1 _ se.out hown'
          replace hown2 := Lib.hid hown2
          replace hgrow := Lib.hid hgrow
          clear hown'
          go_wp2
          go_roundw
          case rel =>
            exact ⟨k + 1, (t + x + y) / 65536, p', cc', O ++ [(t + x + y) % 65536], by omega, by go_num, by rw [se.out]; go_num, ht1.out, rfl, (hb.out.alloc hbs _).grown hgrow.out (by simp; omega) (fun g hg => (hown.out.lt g hg).1), hown2.out, hdg.out, hst.out⟩
          case measure => simp [intOf]; omega
        · obtain ⟨ada, rfl, ca⟩ := hca.out hla
          have y0 := hy0.out (by omega)
          have se : ((t : Int) + (x : Int)) = ((t + x + y : Nat) : Int) := by omega
          have s0 : 0 ≤ ((t : Int) + (x : Int)) := by omega
          have s1 : ((t : Int) + (x : Int)) ≤ 131073 := by omega
          replace se := Lib.hid se
          go_wp2_with (at_builtin; refine wpList_append_own _ rfl _ _ 27 rfl w.heap.size 3 i0 (.int .i64 0) 1 8 Tryz.underlying27 hi hz0 hz1 hz2 rfl (by decide) _ _ _ rfl (hown.out.alloc _) ⟨wr.heap.size, 0, none⟩ 1 1 [.int .i64 (((t : Int) + (x : Int)) % 65536)] rfl rfl ?c1 ?c2 ?c3 ?c4 ?c5 ?_)
          case c1 => exact cell_one_new _ _ _
          case c2 => intro u hu; simp only [List.mem_cons, List.not_mem_nil, or_false] at hu; subst hu; rfl
          case c3 => unfold maxLen; omega
          case c4 => omega
          case c5 => simp; omega
          intro v' w1 hown' hgrow _
          obtain ⟨p', cc', rfl, hown2⟩ := fin.out v' w1 _ se.out hown'
          replace hown2 := Lib.hid hown2
          replace hgrow := Lib.hid hgrow
          clear hown'
          go_wp2
          go_roundw
          case rel =>
            exact ⟨k + 1, (t + x + y) / 65536, p', cc', O ++ [(t + x + y) % 65536], by omega, by go_num, by rw [se.out]; go_num, ht1.out, rfl, (hb.out.alloc hbs _).grown hgrow.out (by simp; omega) (fun g hg => (hown.out.lt g hg).1), hown2.out, hdg.out, hst.out⟩
          case measure => simp [intOf]; omega
      · have hlb : k < m := by omega
        obtain ⟨adb, rfl, cb⟩ := hcb.out hlb
        have x0 := hx0.out (by omega)
        have se : ((t : Int) + (y : Int)) = ((t + x + y : Nat) : Int) := by omega
        have s0 : 0 ≤ ((t : Int) + (y : Int)) := by omega
        have s1 : ((t : Int) + (y : Int)) ≤ 131073 := by omega
        replace se := Lib.hid se
        go_wp2_with (at_builtin; refine wpList_append_own _ rfl _ _ 27 rfl w.heap.size 3 i0 (.int .i64 0) 1 8 Tryz.underlying27 hi hz0 hz1 hz2 rfl (by decide) _ _ _ rfl (hown.out.alloc _) ⟨wr.heap.size, 0, none⟩ 1 1 [.int .i64 (((t : Int) + (y : Int)) % 65536)] rfl rfl ?c1 ?c2 ?c3 ?c4 ?c5 ?_)
        case c1 => exact cell_one_new _ _ _
        case c2 => intro u hu; simp only [List.mem_cons, List.not_mem_nil, or_false] at hu; subst hu; rfl
        case c3 => unfold maxLen; omega
        case c4 => omega
        case c5 => simp; omega
        intro v' w1 hown' hgrow _
        obtain ⟨p', cc', rfl, hown2⟩ := fin.out v' w1 _ se.out hown'
        replace hown2 := Lib.hid hown2
        replace hgrow := Lib.hid hgrow
        clear hown'
        go_wp2
        go_roundw
        case rel =>
          exact ⟨k + 1, (t + x + y) / 65536, p', cc', O ++ [(t + x + y) % 65536], by omega, by go_num, by rw [se.out]; go_num, ht1.out, rfl, (hb.out.alloc hbs _).grown hgrow.out (by simp; omega) (fun g hg => (hown.out.lt g hg).1), hown2.out, hdg.out, hst.out⟩
        case measure => simp [intOf]; omega
    · have hend := addD_end hOl (by rw [hlx.out]; omega) (by rw [hly.out]; omega) hv
      have hdg : DgB 65536 (O ++ [t]) := hO.snoc (by omega)
      rw [d16_val, d16_val] at hend
      replace hend := Lib.hid hend
      replace hdg := Lib.hid hdg
      replace hown := Lib.hid hown
      replace hb := Lib.hid hb
      clear hO hv hOl
      go_wp2_with (at_builtin; refine wpList_append_own _ rfl _ _ 27 rfl w.heap.size 3 i0 (.int .i64 0) 1 8 Tryz.underlying27 hi hz0 hz1 hz2 rfl (by decide) _ _ _ rfl (hown.out.alloc _) ⟨wr.heap.size, 0, none⟩ 1 1 [.int .i64 ((t : Int))] rfl rfl ?c1 ?c2 ?c3 ?c4 ?c5 ?_)
      case c1 => exact cell_one_new _ _ _
      case c2 => intro u hu; simp only [List.mem_cons, List.not_mem_nil, or_false] at hu; subst hu; rfl
      case c3 => unfold maxLen; omega
      case c4 => omega
      case c5 => simp; omega
      intro v' w1 hown' hgrow _
      obtain ⟨p', cc', rfl⟩ := own_slice3 hown'
      have k1 := trimOwn ((hb.out.alloc hbs _).grown hgrow (by simp; omega) (fun g hg => (hown.out.lt g hg).1)) (D := O ++ [t]) (by rw [List.map_append]; exact hown') hdg.out hend.out
      replace k1 := Lib.hid k1
      clear hown'
      go_wp2_with fail
      with_reducible refine k1.out.mono ?_
      rintro E w' ⟨hw, q, rfl, hr⟩
      obtain rfl := hw
      go_wp2
      go_ret
      exact ⟨p', q, cc', rfl, hr⟩
end Go.Proofs.YtonepclpllelfaaGreatDoor

namespace Go.Proofs.YtonepclpllelfaaGreatDoor
open Go Go.RowKit

theorem FinV.chg {w w1 w2 w3 : World} {f : Int} {n : Bool} {l : Nat} {X : List Nat} {e : Int} {a0 : Bool} {p0 : Option Addr} {m0 k0 : Nat} {a2 : Int} {S : Nat → Prop} (h : FinV w1 w2 f n l X e a0 p0 m0 k0 a2) (hw : Chg w w1 (fun _ => False)) (hc : Chg w2 w3 S) (hS : ∀ k, S k → w.heap.size ≤ k ∧ (k < w1.heap.size ∨ w2.heap.size ≤ k)) : FinV w w3 f n l X e a0 p0 m0 k0 a2 :=
  ⟨h.len, h.lo, h.hi, h.form, h.norm, h.neg, h.ex, h.coeff.chg hw hc hS⟩
/-- What both tells. -/
def BothRes (w w' : World) (E : Ending) (f : Int) (n : Bool) (l : Nat) (X : List Nat) (e : Int) (g : Int) (o : Bool) (r : Nat) (Y : List Nat) (d : Int) : Prop :=
  ∃ (a0 : Bool) (p0 : Option Addr) (m0 k0 : Nat) (a2 : Int) (b0 : Bool) (q0 : Option Addr) (n0 j0 : Nat) (b2 : Int) (ok : Bool),
    E = .returned (.tuple #[.agg #[.bool a0, .slice p0 m0 k0, .int .i64 a2], .agg #[.bool b0, .slice q0 n0 j0, .int .i64 b2], .bool ok]) ∧ Below w.heap.size w w' ∧
      (ok = true → FinV w w' f n l X e a0 p0 m0 k0 a2 ∧ FinV w w' g o r Y d b0 q0 n0 j0 b2)

end Go.Proofs.YtonepclpllelfaaGreatDoor

namespace Go.Proofs.YtonepclpllelfaaGreatDoor
open Go Go.RowKit

theorem sign_c (w : World) (n : Bool) (p : Option Addr) (m cc : Nat) (e : Int) :
    Calls Tryz.prog 6 #[.agg #[.bool n, .slice p m cc, .int .i64 e]] w fun E w' => E = .returned (.int .i64 (if m = 0 then 0 else if n then -1 else 1)) ∧ Below w.heap.size w w' := by
  go_enter Tryz.func6, Tryz.ntmps6
  by_cases h : m = 0
  · subst h
    go_wp2
    go_ret
    exact ⟨rfl, (Below.refl _ _).alloc (Nat.le_refl _) _⟩
  · have e0 : ((m : Int) == 0) = false := by simp; omega
    cases n with
    | true =>
      go_wp2
      go_ret
      exact ⟨by simp, (Below.refl _ _).alloc (Nat.le_refl _) _⟩
    | false =>
      go_wp2
      go_ret
      exact ⟨by simp, (Below.refl _ _).alloc (Nat.le_refl _) _⟩
end Go.Proofs.YtonepclpllelfaaGreatDoor
