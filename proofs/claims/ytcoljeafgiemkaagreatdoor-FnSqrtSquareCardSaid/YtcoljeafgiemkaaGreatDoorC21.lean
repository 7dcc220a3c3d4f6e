/- The reference: digits of 16 bits, words, the value of a decimal; the laws' tests of what comes in. The reference's natural numbers: rows of digits in new memory; sum, difference. The reference's natural numbers: of a small number; a difference; the order. The reference's natural numbers: a product; by one digit. The reference's natural numbers: bits, a power of 2, times a power of 2. The reference's natural numbers: quotient and remainder; a power. The reference's natural numbers: how many figures; when a magnitude is made one greater. The reference's rounding: Cut, Rounded. The reference's rounding to so many figures. The reference's values: a smaller exponent. The reference's values: the opposite, sums. The laws' test of two decimals. spec.Sign. Boxes kept as a list. -/
import Derived.BigQuiet
import Derived.Laws.BytesArg
import Derived.Test.YtcoljeafgiemkaaGreatDoorC07
import Derived.Test.YtcoljeafgiemkaaGreatDoorC11
import Derived.Test.YtcoljeafgiemkaaGreatDoorC16
namespace Go.Proofs.YtcoljeafgiemkaaGreatDoor
open Go Go.RowKit

/-- Digits of the reference that are read. -/
structure RdD (w : World) (A : Option Addr) (l c : Nat) (D : List Nat) : Prop where
  len : D.length = l
  cap : l ≤ c
  max : c ≤ 9223372036854775807
  dg : DgB 65536 D
  cells : 0 < l → ∃ ad, A = some ad ∧ ∀ j, j < l → w.cell? (ad.add j) = some (.int .i64 (nth D j : Int))
theorem RdD.below {w w' : World} {A : Option Addr} {l c : Nat} {D : List Nat} (h : RdD w A l c D) (hb : Below w.heap.size w w') : RdD w' A l c D :=
  ⟨h.len, h.cap, h.max, h.dg, fun hl => by
    obtain ⟨ad, e, hc⟩ := h.cells hl
    exact ⟨ad, e, fun j hj => (hb.cell (World.block_lt_of_cell? w _ (hc j hj))).trans (hc j hj)⟩⟩

/-- Noughts at the end are left out. -/
theorem trim_c (w : World) (A : Option Addr) (l c : Nat) (D : List Nat) (hD : RdD w A l c D) :
    Calls Tryz.prog 45 #[.slice A l c] w fun e w' => w = w' ∧ ∃ m, e = .returned (.slice A m c) ∧ RdD w A m c (d16 (vB 65536 D)) := by
  have hcap := hD.cap
  have hmax := hD.max
  replace hD := Lib.hid hD
  go_enter Tryz.func45, Tryz.ntmps45
  go_wp2
  go_loop [0] (fun v => ∃ k : Nat, k ≤ l ∧ v = .slice A k c ∧ ∀ j, k ≤ j → j < l → nth D j = 0) (fun v => match v with | .slice _ k _ => k | _ => 0)
  case atStart => exact ⟨l, Nat.le_refl _, rfl, fun j h1 h2 => by omega⟩
  case round =>
    obtain ⟨k, hk, rfl, hz⟩ := hrel
    replace hz := Lib.hid hz
    have fin : (k = 0 ∨ nth D (k - 1) ≠ 0) → RdD w A k c (d16 (vB 65536 D)) := by
      intro h
      have hl := hD.out.len
      have e := dB_cut two16 hD.out.dg (k := k) (by omega) (fun j h1 h2 => hz.out j h1 (by omega)) h
      rw [show d16 (vB 65536 D) = D.take k from e]
      refine ⟨by simp; omega, by omega, hmax, hD.out.dg.take k, fun h0 => ?_⟩
      obtain ⟨ad, ea, hc⟩ := hD.out.cells (by omega)
      exact ⟨ad, ea, fun j hj => by rw [nth_take hj]; exact hc j (by omega)⟩
    replace fin := Lib.hid fin
    by_cases hk0 : k = 0
    · have f1 := fin.out (.inl hk0)
      subst hk0
      replace f1 := Lib.hid f1
      go_wp2
      go_ret
      exact ⟨rfl, _, rfl, f1.out⟩
    · obtain ⟨j, rfl⟩ : ∃ j, k = j + 1 := ⟨k - 1, by omega⟩
      obtain ⟨ad, rfl, hcs⟩ := hD.out.cells (by omega)
      have hcell := hcs j (by omega)
      clear hcs
      by_cases h0 : nth D j = 0
      · rw [h0] at hcell
        replace h0 := Lib.hid h0
        go_wp2
        go_round
        case rel =>
          refine ⟨j, by omega, by go_num, fun i h1 h2 => ?_⟩
          by_cases e : i = j
          · subst e; exact h0.out
          · exact hz.out i (by omega) h2
        case measure => simp
      · have e0 : ((nth D j : Int) == 0) = false := by simp; omega
        have f1 := fin.out (.inr (by rw [Nat.add_sub_cancel]; exact h0))
        replace h0 := Lib.hid h0
        replace f1 := Lib.hid f1
        go_wp2
        go_ret
        exact ⟨rfl, _, rfl, f1.out⟩

theorem makeI : (Tryz.prog.info? 3).map (fun i => (i.zero, i.size, i.bytes)) = some (some (.int .i64 0), 1, 8) := by kernel_rfl
theorem own_slice3 {w : World} {base n : Nat} {e : TypeId} {size : Nat} {v : Value} {xs : List Value} (h : w.ownsRow base e size v n xs) : ∃ A c, v = .slice A n c := by
  rcases h.2 with ⟨rfl, rfl⟩ | ⟨g, cap, cur, rfl, _⟩
  · exact ⟨none, 0, rfl⟩
  · exact ⟨_, cap, rfl⟩
theorem makeU : (Tryz.prog.info? 33).map (fun i => (i.zero, i.size, i.bytes)) = some (some (.int .u64 0), 1, 8) := by kernel_rfl
/-- A digit as a value. -/
def sw (x : Nat) : Value := .int .i64 (x : Int)
theorem w4_nth {x k : Nat} (hx : x < WB) (hk : k < 4) : nth (w4 x) k = x / 2 ^ (16 * k) % 65536 := by
  rw [WB_eq] at hx
  rcases (by omega : k = 0 ∨ k = 1 ∨ k = 2 ∨ k = 3) with rfl | rfl | rfl | rfl <;> simp [w4, nth]; omega

theorem w4_bits {x k : Nat} (hx : x < WB) (hk : k < 4) : wrap64 (bits .and .u64 ((x : Int) / 2 ^ (16 * k)) 65535) = (nth (w4 x) k : Int) := by
  rw [w4_nth hx hk]
  have h1 : x / 2 ^ (16 * k) ≤ x := Nat.div_le_self ..
  rw [WB_eq] at hx
  have h2 := bits_and_u64_nat (x / 2 ^ (16 * k)) 65535 (by omega) (by omega)
  have h3 : ((x : Int) / 2 ^ (16 * k)) = ((x / 2 ^ (16 * k) : Nat) : Int) := by simp
  rw [h3, show (65535 : Int) = ((65535 : Nat) : Int) from rfl, h2]
  have h4 : x / 2 ^ (16 * k) &&& 65535 = x / 2 ^ (16 * k) % 65536 := Nat.and_two_pow_sub_one_eq_mod _ 16
  rw [h4]
  have h5 : x / 2 ^ (16 * k) % 65536 < 65536 := Nat.mod_lt _ (by omega)
  have h6 := IntWalk.i64_in ((x / 2 ^ (16 * k) % 65536 : Nat) : Int) (by omega)
  exact (IntWalk.i64_left _).symm.trans h6

/-- Digits in new memory. -/
structure DRes (w w' : World) (p : Option Addr) (m cc N : Nat) : Prop where
  rd : RdD w' p m cc (d16 N)
  loc : ∀ ad, p = some ad → w.heap.size ≤ ad.block
  bel : Below w.heap.size w w'
theorem add_block (ad : Addr) (j : Nat) : (ad.add j).block = ad.block := by unfold Addr.add; split <;> rfl
theorem DRes.chg {w w1 w2 w3 : World} {p : Option Addr} {m cc N : Nat} {S : Nat → Prop} (h : DRes w1 w2 p m cc N) (hw : Chg w w1 (fun _ => False)) (hc : Chg w2 w3 S) (hS : ∀ k, S k → w.heap.size ≤ k ∧ (k < w1.heap.size ∨ w2.heap.size ≤ k)) : DRes w w3 p m cc N := by
  have s1 := hw.size
  refine ⟨⟨h.rd.len, h.rd.cap, h.rd.max, h.rd.dg, fun hl => ?_⟩, fun ad ha => Nat.le_trans s1 (h.loc ad ha), ?_⟩
  · obtain ⟨ad, e, hcs⟩ := h.rd.cells hl
    refine ⟨ad, e, fun j hj => hc.cell (hcs j hj) (fun hs => ?_)⟩
    have h1 := World.block_lt_of_cell? w2 _ (hcs j hj)
    have h2 := h.loc ad e
    have h3 := (hS _ hs).2
    rw [add_block] at h1 h3
    omega
  · have h1 := hw.trans ((show Chg w1 w2 (fun _ => False) from ⟨h.bel.os, h.bel.tape, h.bel.output, h.bel.size, fun k hk _ => h.bel.block k hk⟩).mono (fun _ _ h => h.elim))
    have h2 := h1.trans (hc.mono (fun k _ hs => .inr (hS k hs).1))
    exact ⟨h2.os, h2.tape, h2.output, h2.size, fun k hk => h2.block k hk (fun h => h)⟩

set_option maxRecDepth 20000 in
set_option maxHeartbeats 2000000 in
theorem of_c (w : World) (A : Option Addr) (l c : Nat) (X : List Nat) (hX : RdW w A l c X) (hl : l ≤ 1000000) :
    Calls Tryz.prog 54 #[.slice A l c] w fun e w' => ∃ p m cc, e = .returned (.slice p m cc) ∧ DRes w w' p m cc (val X) := by
  obtain ⟨i0, hi, hz0, hz1, hz2⟩ := info_parts makeI
  have hlen := hX.len
  replace hX := Lib.hid hX
  replace hlen := Lib.hid hlen
  go_enter Tryz.func54, Tryz.ntmps54
  go_wp2
  go_loopw [3, 10] (fun v i wr => ∃ (k : Nat) (p : Option Addr) (cc : Nat), k ≤ l ∧ i = .int .i64 k ∧ v = .slice p (4 * k) cc ∧ Below w.heap.size w wr ∧ wr.ownsRow w.heap.size 3 1 (.slice p (4 * k) cc) (4 * k) ((ws4 (X.take k)).map sw)) (fun _ i _ => l - (intOf i).toNat)
  case atStart => exact ⟨0, _, 0, Nat.zero_le _, rfl, rfl, (Below.refl _ _).alloc (Nat.le_refl _) _, World.ownsRow_made w #[] 0 (Nat.le_refl _) (by decide) rfl⟩
  case round =>
    obtain ⟨k, p, cc, hk, rfl, rfl, hb, hown⟩ := hrel
    by_cases hlt : k < l
    · obtain ⟨ad, rfl, hcs⟩ := hX.out.cells (by omega)
      have hcell := hb.cell (World.block_lt_of_cell? w _ (hcs k hlt)) |>.trans (hcs k hlt)
      have hxk : nth X k < WB := hX.out.wd.nth k
      have htk : X.take (k + 1) = X.take k ++ [nth X k] := take_nth (by rw [hlen.out]; exact hlt)
      replace htk := Lib.hid htk
      replace hown := Lib.hid hown
      replace hb := Lib.hid hb
      replace hxk := Lib.hid hxk
      clear hcs
      go_wp2
      go_loopw [3, 6] (fun v i wi => ∃ (q : Nat) (p2 : Option Addr) (c2 : Nat), q ≤ 4 ∧ i = .int .i64 q ∧ v = .slice p2 (4 * k + q) c2 ∧ Below w.heap.size w wi ∧ wi.ownsRow w.heap.size 3 1 (.slice p2 (4 * k + q) c2) (4 * k + q) ((ws4 (X.take k) ++ (w4 (nth X k)).take q).map sw)) (fun _ i _ => 4 - (intOf i).toNat)
      case atStart => exact ⟨0, p, cc, by omega, rfl, rfl, hb.out, by simpa using hown.out⟩
      case round =>
        obtain ⟨q, p2, c2, hq, rfl, rfl, hb2, hown2⟩ := hrel
        clear hb hown hcell
        by_cases hlq : q < 4
        · have hbs := hb2.size
          have hd := w4_bits hxk.out hlq
          have htq : (w4 (nth X k)).take (q + 1) = (w4 (nth X k)).take q ++ [nth (w4 (nth X k)) q] := take_nth (by simp [w4]; omega)
          replace hd := Lib.hid hd
          replace htq := Lib.hid htq
          replace hown2 := Lib.hid hown2
          replace hb2 := Lib.hid hb2
          go_wp2_with (at_builtin; refine wpList_append_own _ rfl _ _ 28 rfl w.heap.size 3 i0 (.int .i64 0) 1 8 Tryz.underlying28 hi hz0 hz1 hz2 rfl (by decide) _ _ _ rfl (hown2.out.alloc _) ⟨wr.heap.size, 0, none⟩ 1 1 [.int .i64 (wrap64 (bits .and .u64 ((nth X k : Int) / 2 ^ (16 * q)) 65535))] rfl rfl ?c1 ?c2 ?c3 ?c4 ?c5 ?_)
          case c1 => exact cell_one_new _ _ _
          case c2 => intro u hu; simp only [List.mem_cons, List.not_mem_nil, or_false] at hu; subst hu; rfl
          case c3 => unfold maxLen; omega
          case c4 => omega
          case c5 => simp; omega
          intro v' w1 hown' hgrow _
          obtain ⟨p', cc', rfl⟩ := own_slice3 hown'
          replace hown' := Lib.hid hown'
          replace hgrow := Lib.hid hgrow
          go_wp2
          go_roundw
          case rel =>
            refine ⟨q + 1, p', cc', by omega, by go_num, rfl, ?_, ?_⟩
            · exact (hb2.out.alloc hbs _).grown hgrow.out (by simp; omega) (fun g hg => (hown2.out.lt g hg).1)
            · have h := hown'.out
              rw [hd.out] at h
              rw [htq.out, ← List.append_assoc, List.map_append, List.map_append, List.map_take, List.append_assoc]
              exact h
          case measure => simp [intOf]; omega
        · obtain rfl : q = 4 := by omega
          replace hown2 := Lib.hid hown2
          replace hb2 := Lib.hid hb2
          go_wp2
          go_roundw
          case rel =>
            refine ⟨k + 1, p2, c2, by omega, by go_num, by congr 1, hb2.out, ?_⟩
            rw [show 4 * (k + 1) = 4 * k + 4 by omega]
            have h := hown2.out
            rw [htk.out, ws4_snoc]
            simpa [w4] using h
          case measure => simp [intOf]; omega
    · obtain rfl : k = l := by omega
      have htl : X.take k = X := List.take_of_length_le (by rw [hlen.out]; exact Nat.le_refl _)
      rw [htl] at hown
      have hrd : RdD wr p (4 * k) cc (ws4 X) := by
        have hl2 := hlen.out
        rcases hown.2 with ⟨h1, h2⟩ | ⟨g, cap, cur, h1, hg, hgg, hn, hm, hcs, htake⟩
        · have : k = 0 := by omega
          subst this
          injection h1 with h1 h3 h4
          subst h4
          exact ⟨by rw [ws4_len]; omega, Nat.zero_le _, Nat.zero_le _, ws4_dg hX.out.wd, fun h => by omega⟩
        · injection h1 with h1 h3 h4
          subst h1 h4
          refine ⟨by rw [ws4_len]; omega, hn, by unfold maxLen at hm; omega, ws4_dg hX.out.wd, fun _ => ⟨_, rfl, fun j hj => ?_⟩⟩
          have := hown.cells (g := g) rfl j (sw (nth (ws4 X) j)) (by rw [List.getElem?_map, get_nth (by rw [ws4_len]; omega)]; rfl)
          exact this
      have htr := trim_c wr p (4 * k) cc (ws4 X) hrd
      have hloc : ∀ ad, p = some ad → w.heap.size ≤ ad.block := fun ad ha => (hown.lt ad.block (by subst ha; rfl)).1
      rw [ws4_val] at htr
      replace hloc := Lib.hid hloc
      replace htr := Lib.hid htr
      replace hb := Lib.hid hb
      clear hown hrd htl
      go_wp2_with fail
      with_reducible refine htr.out.mono ?_
      rintro e w' ⟨hw, m, rfl, hm⟩
      obtain rfl := hw
      go_wp2
      go_ret
      exact ⟨p, m, cc, rfl, hm, hloc.out, hb.out⟩

theorem own_some {w : World} {base n : Nat} {e : TypeId} {size c : Nat} {A : Option Addr} {xs : List Value} (h : w.ownsRow base e size (.slice A n c) n xs) (hn : 0 < n) : ∃ g, A = some ⟨g, 0, none⟩ ∧ base ≤ g ∧ n ≤ c ∧ c ≤ maxLen := by
  rcases h.2 with ⟨h1, h2⟩ | ⟨g, cap, cur, h1, h2, _, h3, h4, _⟩
  · omega
  · injection h1 with a b c; subst a c; exact ⟨g, rfl, h2, h3, h4⟩
theorem pow16 (q r : Nat) : WB ^ q * 65536 ^ r = 65536 ^ (4 * q + r) := by
  rw [WB_16, ← Nat.pow_mul, ← Nat.pow_add]
theorem or_digit {y d r : Nat} (hy : y < 65536 ^ r) (hd : d < 65536) (hr : r < 4) :
    bits .or .u64 (y : Int) (IntKind.u64.wrap (IntKind.u64.wrap (d : Int) * 2 ^ (16 * r))) = ((y + d * 65536 ^ r : Nat) : Int) ∧ y + d * 65536 ^ r < WB := by
  have e1 : 65536 ^ r = 2 ^ (16 * r) := by rw [Nat.pow_mul]
  have h1 : (y + d * 65536 ^ r) < 65536 ^ (r + 1) := by
    rw [Nat.pow_succ]
    have : d * 65536 ^ r ≤ 65535 * 65536 ^ r := Nat.mul_le_mul_right _ (by omega)
    omega
  have h2 : 65536 ^ (r + 1) ≤ WB := by rw [WB_16]; exact Nat.pow_le_pow_right (by omega) (by omega)
  have h3 : y + d * 65536 ^ r < WB := Nat.lt_of_lt_of_le h1 h2
  refine ⟨?_, h3⟩
  have h4 := WB_eq
  have h5 : IntKind.u64.wrap (d : Int) = (d : Int) := IntWalk.u64_in _ (by omega)
  have e2 : (d : Int) * 2 ^ (16 * r) = ((d * 65536 ^ r : Nat) : Int) := by rw [e1]; simp
  rw [h5, e2]
  have h6 : IntKind.u64.wrap ((d * 65536 ^ r : Nat) : Int) = ((d * 65536 ^ r : Nat) : Int) := IntWalk.u64_in _ (by omega)
  rw [h6, bits_or_u64_nat _ _ (by omega) (by omega)]
  congr 1
  have h7 := Nat.shiftLeft_add_eq_or_of_lt (i := 16 * r) (b := y) (by rw [← e1]; exact hy) d
  rw [Nat.shiftLeft_eq, ← e1] at h7
  rw [Nat.or_comm, ← h7, Nat.add_comm]
theorem add0 (g j : Nat) : (⟨g, 0, none⟩ : Addr).add j = ⟨g, j, none⟩ := by unfold Addr.add; split <;> simp_all
theorem Below.drw {B : Nat} {w W : World} (h : Below B w W) : Below B w W.drew := ⟨h.os, h.tape, h.output, h.size, h.block⟩
/-- A digit is laid into the word that is there. -/
theorem words_step {D W : List Nat} {k : Nat} (hD : DgB 65536 D) (hk : k < D.length) (hW : Wd W) (hl : W.length = k / 4 + 1) (hv : val W = vB 65536 (D.take k)) :
    bits .or .u64 (nth W (k / 4) : Int) (IntKind.u64.wrap (IntKind.u64.wrap (nth D k : Int) * 2 ^ (16 * (k % 4)))) = ((nth W (k / 4) + nth D k * 65536 ^ (k % 4) : Nat) : Int) ∧
      Wd (W.set (k / 4) (nth W (k / 4) + nth D k * 65536 ^ (k % 4))) ∧ val (W.set (k / 4) (nth W (k / 4) + nth D k * 65536 ^ (k % 4))) = vB 65536 (D.take (k + 1)) := by
  have hW1 : W = W.take (k / 4) ++ [nth W (k / 4)] := by
    have := take_nth (l := W) (k := k / 4) (by omega)
    rw [List.take_of_length_le (by omega)] at this; exact this
  have hlt : (W.take (k / 4)).length = k / 4 := by simp; omega
  have hset : ∀ z, W.set (k / 4) z = W.take (k / 4) ++ [z] := by
    intro z
    conv => lhs; rw [hW1]
    rw [List.set_append_right _ _ (by omega), hlt]; simp
  have e1 : WB ^ (k / 4) * 65536 ^ (k % 4) = 65536 ^ k := by rw [pow16]; congr 1; omega
  have e2 : val W = val (W.take (k / 4)) + WB ^ (k / 4) * nth W (k / 4) := by
    have := val_append (W.take (k / 4)) [nth W (k / 4)]
    rw [← hW1, hlt] at this; rw [this]; simp [val]
  have hy : nth W (k / 4) < 65536 ^ (k % 4) := by
    have h1 := vB_lt (hD.take k)
    rw [← hv, List.length_take, Nat.min_eq_left (by omega), ← e1] at h1
    exact Nat.lt_of_mul_lt_mul_left (a := WB ^ (k / 4)) (by omega)
  obtain ⟨h1, h2⟩ := or_digit hy (hD.nth (by omega) k) (Nat.mod_lt k (by omega))
  refine ⟨h1, ?_, ?_⟩
  · rw [hset]; exact (hW.take _).append (fun x hx => by simp at hx; subst hx; exact h2)
  · rw [hset, val_append, hlt, vB_take_succ hk, ← hv, e2, ← e1]
    simp only [val_cons, val_nil]
    rw [Nat.mul_zero, Nat.add_zero, Nat.mul_add, Nat.mul_assoc, Nat.mul_comm (nth D k)]; omega

set_option maxRecDepth 20000 in
set_option maxHeartbeats 2000000 in
theorem words_c (w : World) (A : Option Addr) (l c : Nat) (D : List Nat) (hD : RdD w A l c D) (hl : l ≤ 4000000) :
    Calls Tryz.prog 92 #[.slice A l c] w fun e w' => ∃ p cc W, e = .returned (.slice p ((l + 3) / 4) cc) ∧ Wd W ∧ val W = vB 65536 D ∧ w'.ownsRow w.heap.size 33 1 (.slice p ((l + 3) / 4) cc) ((l + 3) / 4) (W.map uw) ∧ Below w.heap.size w w' := by
  obtain ⟨i0, hi, hz0, hz1, hz2⟩ := info_parts makeU
  have hlen := hD.len
  replace hD := Lib.hid hD
  replace hlen := Lib.hid hlen
  go_enter Tryz.func92, Tryz.ntmps92
  go_wp2
  go_loopw [3, 9] (fun v i wr => ∃ (k : Nat) (p : Option Addr) (cc : Nat) (W : List Nat), k ≤ l ∧ i = .int .i64 k ∧ v = .slice p ((k + 3) / 4) cc ∧ Below w.heap.size w wr ∧ wr.ownsRow w.heap.size 33 1 (.slice p ((k + 3) / 4) cc) ((k + 3) / 4) (W.map uw) ∧ Wd W ∧ val W = vB 65536 (D.take k)) (fun _ i _ => l - (intOf i).toNat)
  case atStart => exact ⟨0, _, 0, [], Nat.zero_le _, rfl, rfl, (Below.refl _ _).alloc (Nat.le_refl _) _, World.ownsRow_made w #[] 0 (Nat.le_refl _) (by decide) rfl, Wd.nil, rfl⟩
  case round =>
    obtain ⟨k, p, cc, W, hk, rfl, rfl, hb, hown, hW, hv⟩ := hrel
    replace hown := Lib.hid hown
    replace hb := Lib.hid hb
    replace hW := Lib.hid hW
    replace hv := Lib.hid hv
    by_cases hlt : k < l
    · obtain ⟨ad, rfl, hcs⟩ := hD.out.cells (by omega)
      have hcell := hb.out.cell (World.block_lt_of_cell? w _ (hcs k hlt)) |>.trans (hcs k hlt)
      clear hcs
      by_cases hr0 : k % 4 = 0
      · have e0 : ((k : Int) % 4 == 0) = true := by simp; omega
        have hWl : W.length = k / 4 := by have := hown.out.1; simp at this; omega
        have hbs := hb.out.size
        go_wp2_with (at_builtin; refine wpList_append_own _ rfl _ _ 22 rfl w.heap.size 33 i0 (.int .u64 0) 1 8 Tryz.underlying22 hi hz0 hz1 hz2 rfl (by decide) _ _ _ rfl (hown.out.alloc _) ⟨wr.heap.size, 0, none⟩ 1 1 [.int .u64 0] rfl rfl ?c1 ?c2 ?c3 ?c4 ?c5 ?_)
        case c1 => exact cell_one_new _ _ _
        case c2 => intro u hu; simp only [List.mem_cons, List.not_mem_nil, or_false] at hu; subst hu; rfl
        case c3 => unfold maxLen; omega
        case c4 => omega
        case c5 => simp; omega
        intro v' w1 hown' hgrow _
        obtain ⟨p', cc', rfl⟩ := own_slice3 hown'
        have e1 : (k + 3) / 4 + 1 = k / 4 + 1 := by omega
        have eW : W.map uw ++ [Value.int .u64 0] = (W ++ [0]).map uw := by simp [uw]
        rw [e1, eW] at hown'
        rw [e1]
        have hb1 : Below w.heap.size w w1 := (hb.out.alloc hbs _).grown hgrow (by simp; omega) (fun g hg => (hown.out.lt g hg).1)
        clear hbs hgrow
        replace hown' := Lib.hid hown'
        replace hb1 := Lib.hid hb1
        have hWl1 : (W ++ [0]).length = k / 4 + 1 := by simp; omega
        have hv1 : val (W ++ [0]) = vB 65536 (D.take k) := by rw [val_append]; simp only [val_cons, val_nil]; rw [← hv.out]; omega
        have hW1 : Wd (W ++ [0]) := hW.out.append (Wd.zeros 1)
        replace hW1 := Lib.hid hW1
        replace hv1 := Lib.hid hv1
        clear e0
        replace hr0 := Lib.hid hr0
        have hst := words_step hD.out.dg (by rw [hlen.out]; exact hlt) (hW1.out) (hWl1) (hv1.out)
        obtain ⟨g, rfl, hg, hc1, hc2⟩ := own_some hown'.out (by omega)
        have hcy : w1.drew.cell? ⟨g, k / 4, none⟩ = some (.int .u64 (nth (W ++ [0]) (k / 4) : Int)) := by
          have := hown'.out.cells (g := g) rfl (k / 4) (uw (nth (W ++ [0]) (k / 4))) (by rw [List.getElem?_map, get_nth (by rw [hWl1]; omega)]; rfl)
          rw [add0] at this; exact this
        have hfy : w1.drew.frozen? ⟨g, k / 4, none⟩ = false := hown'.out.frozenAt (k / 4)
        have hsto := hown'.out.stored (k / 4) (uw (nth (W ++ [0]) (k / 4) + nth D k * 65536 ^ (k % 4)))
        have hbs := hb1.out.size
        replace hst := Lib.hid hst
        replace hsto := Lib.hid hsto
        go_wp2_with fail
        go_region
        rw [hst.out.1]
        go_wp2
        go_roundw
        case rel =>
          have e3 : (k + 1 + 3) / 4 = k / 4 + 1 := by omega
          refine ⟨k + 1, some ⟨g, 0, none⟩, cc', (W ++ [0]).set (k / 4) (nth (W ++ [0]) (k / 4) + nth D k * 65536 ^ (k % 4)), by omega, by go_num, by rw [e3], ?_, ?_, hst.out.2.1, hst.out.2.2⟩
          · exact Below.drw ((hb1.out).grown hsto.out.2 hbs (fun g2 hg2 => by cases hg2; exact hg))
          · rw [e3, List.map_set]; exact hsto.out.1
        case measure => simp [intOf]; omega
      · have e0 : ((k : Int) % 4 == 0) = false := by simp; omega
        have hWl : W.length = k / 4 + 1 := by have := hown.out.1; simp at this; omega
        have e1 : (k + 3) / 4 = k / 4 + 1 := by omega
        rw [e1] at hown ⊢
        have hst := words_step hD.out.dg (by rw [hlen.out]; exact hlt) (hW.out) (hWl) (hv.out)
        obtain ⟨g, rfl, hg, hc1, hc2⟩ := own_some hown.out (by omega)
        have hcy : wr.drew.cell? ⟨g, k / 4, none⟩ = some (.int .u64 (nth W (k / 4) : Int)) := by
          have := hown.out.cells (g := g) rfl (k / 4) (uw (nth W (k / 4))) (by rw [List.getElem?_map, get_nth (by rw [hWl]; omega)]; rfl)
          rw [add0] at this; exact this
        have hfy : wr.drew.frozen? ⟨g, k / 4, none⟩ = false := hown.out.frozenAt (k / 4)
        have hsto := hown.out.stored (k / 4) (uw (nth W (k / 4) + nth D k * 65536 ^ (k % 4)))
        have hbs := hb.out.size
        replace hst := Lib.hid hst
        replace hsto := Lib.hid hsto
        go_wp2_with fail
        go_region
        rw [hst.out.1]
        go_wp2
        go_roundw
        case rel =>
          have e3 : (k + 1 + 3) / 4 = k / 4 + 1 := by omega
          refine ⟨k + 1, some ⟨g, 0, none⟩, cc, W.set (k / 4) (nth W (k / 4) + nth D k * 65536 ^ (k % 4)), by omega, by go_num, by rw [e3], ?_, ?_, hst.out.2.1, hst.out.2.2⟩
          · exact Below.drw ((hb.out).grown hsto.out.2 hbs (fun g2 hg2 => by cases hg2; exact hg))
          · rw [e3, List.map_set]; exact hsto.out.1
        case measure => simp [intOf]; omega
    · obtain rfl : k = l := by omega
      rw [show D.take k = D from List.take_of_length_le (by rw [hlen.out]; exact Nat.le_refl _)] at hv
      go_wp2
      go_ret
      exact ⟨p, cc, W, rfl, hW.out, hv.out, hown.out, hb.out⟩

theorem Below.drwN {B : Nat} {w W : World} (h : Below B w W) (n : Nat) : Below B w (W.drewN n) := ⟨h.os, h.tape, h.output, h.size, h.block⟩
set_option maxRecDepth 20000 in
set_option maxHeartbeats 2000000 in
theorem hasWords_c (w : World) (A B : Option Addr) (l c m c2 N : Nat) (X : List Nat) (hX : RdW w A l c X) (hD : RdD w B m c2 (d16 N)) (hm : m ≤ 4000000) :
    Calls Tryz.prog 55 #[.slice A l c, .slice B m c2] w fun e w' => e = .returned (.bool (decide (X = digs N))) ∧ Below w.heap.size w w' := by
  have hwd := words_c w B m c2 (d16 N) hD hm
  have hlen := hX.len
  have hmlen := hD.len
  have hcl := hX.cap
  have hcm := hX.max
  replace hX := Lib.hid hX
  replace hlen := Lib.hid hlen
  replace hmlen := Lib.hid hmlen
  replace hwd := Lib.hid hwd
  go_enter Tryz.func55, Tryz.ntmps55
  go_wp2_with fail
  with_reducible refine hwd.out.mono ?_
  rintro e w1 ⟨p, cc, W, rfl, hW, hv, hown, hb⟩
  have hWl : W.length = (m + 3) / 4 := by have := hown.1; simpa using this
  have hWe : W = digs N := digs_of_groups hW (by rw [hv]; exact vB_dB two16 N) (by rw [hWl, hmlen.out])
  subst hWe
  clear hv hwd
  have hNm : (d16 N).length = m := hmlen.out
  have hfin : (Ending.returned (.bool (decide (X = digs N))) = .returned (.bool (decide (X = digs N)))) := rfl
  generalize (m + 3) / 4 = L at hWl hown ⊢
  replace hb := Lib.hid hb
  have fin : ∀ b : Bool, (b = true ↔ X = digs N) → Ending.returned (.bool b) = .returned (.bool (decide (X = digs N))) := by
    intro b hb; congr 2; cases b with
    | true => simp [hb.1 rfl]
    | false => symm; rw [decide_eq_false_iff_not]; intro h; exact Bool.false_ne_true (hb.2 h)
  replace fin := Lib.hid fin
  clear hfin hNm
  by_cases hle : l = L
  · subst hle
    have hcw := fun g e j hj => hown.cells (g := g) e j (uw (nth (digs N) j)) (by rw [List.getElem?_map, get_nth hj]; rfl)
    have hsm := fun h0 => own_some hown h0
    clear hown
    replace hcw := Lib.hid hcw
    replace hsm := Lib.hid hsm
    replace hW := Lib.hid hW
    replace hWl := Lib.hid hWl
    have hbs : w.heap.size ≤ w1.heap.size := hb.out.size
    go_wp2
    go_loopw [16] (fun i wr => ∃ (k nn : Nat), k ≤ l ∧ i = .int .i64 k ∧ (∀ j, j < k → nth X j = nth (digs N) j) ∧ wr = w1.drewN nn) (fun i _ => l - (intOf i).toNat)
    case atStart => exact ⟨0, 0, Nat.zero_le _, rfl, (fun j h => by omega), rfl⟩
    case round =>
      obtain ⟨k, nn, hk, rfl, hz, rfl⟩ := hrel
      replace hz := Lib.hid hz
      by_cases hlt : k < l
      · obtain ⟨ad, rfl, hcs⟩ := hX.out.cells (by omega)
        have hcell : w1.cell? (ad.add k) = some (.int .u64 (nth X k : Int)) := (hb.out.cell (World.block_lt_of_cell? w _ (hcs k hlt))).trans (hcs k hlt)
        obtain ⟨g, rfl, hg, hc1, hc2⟩ := hsm.out (by omega)
        have hcl2 : w1.cell? ⟨g, k, none⟩ = some (.int .u64 (nth (digs N) k : Int)) := by
          have := hcw.out g rfl k (by rw [hWl.out]; exact hlt)
          rw [add0] at this; exact this
        clear hcs
        by_cases he : nth X k = nth (digs N) k
        · rw [he] at hcell
          replace he := Lib.hid he
          go_wp2_with fail
          go_quiet (fail)
          go_wp2
          go_roundw
          case rel =>
            refine ⟨k + 1, _, by omega, by go_num, fun j hj => ?_, rfl⟩
            rcases (by omega : j = k ∨ j < k) with h | h
            · subst h; exact he.out
            · exact hz.out j h
          case measure => simp [intOf]; omega
        · have e0 : ((nth X k : Int) != (nth (digs N) k : Int)) = true := by simp; omega
          replace he := Lib.hid he
          go_wp2_with fail
          go_quiet (fail)
          go_wp2
          go_ret
          exact ⟨fin.out false ⟨(fun h => by cases h), fun h => absurd (by rw [h]) he.out⟩, Below.drwN (Below.drwN hb.out nn) _⟩
      · obtain rfl : k = l := by omega
        go_wp2
        go_ret
        exact ⟨fin.out true ⟨fun _ => List.ext_getElem? (fun j => by
          have h1 := hlen.out
          have h2 := hWl.out
          by_cases hj : j < k
          · rw [get_nth (by omega), get_nth (by omega), hz.out j hj]
          · rw [List.getElem?_eq_none (by omega), List.getElem?_eq_none (by omega)]), fun _ => rfl⟩, Below.drwN hb.out nn⟩
  · have e0 : ((l : Int) != (L : Int)) = true := by simp; omega
    have hne : X ≠ digs N := fun h => by have h1 := hlen.out; rw [h] at h1; exact hle (h1.symm.trans hWl)
    replace hne := Lib.hid hne
    replace hle := Lib.hid hle
    replace hown := Lib.hid hown
    go_wp2
    go_ret
    exact ⟨fin.out false ⟨(fun h => by cases h), fun h => absurd h hne.out⟩, hb.out⟩

/-- The box of a decimal as plain data. -/
def Bx1 (s : Nat) (f : Int) (n : Bool) (A : Option Addr) (l c : Nat) (e : Int) (w : World) : Prop := w.heap[s]? = some (.cells #[.int .i64 f, .bool n, .slice A l c, .int .i64 e] 24 (0, 0))
theorem Bx1.cells {s : Nat} {f : Int} {n : Bool} {A : Option Addr} {l c : Nat} {e : Int} {w : World} (h : Bx1 s f n A l c e w) :
    w.cell? ⟨s, 0, none⟩ = some (.int .i64 f) ∧ w.cell? ⟨s, 1, none⟩ = some (.bool n) ∧ w.cell? ⟨s, 2, none⟩ = some (.slice A l c) ∧ w.cell? ⟨s, 3, none⟩ = some (.int .i64 e) :=
  ⟨cellB h rfl, cellB h rfl, cellB h rfl, cellB h rfl⟩
theorem Bx1.chg {s : Nat} {f : Int} {n : Bool} {A : Option Addr} {l c : Nat} {e : Int} {w w' : World} (h : Bx1 s f n A l c e w) (hc : Chg w w' (fun _ => False)) : Bx1 s f n A l c e w' := hc.heapB h (fun h => h)
theorem Bx1.set3 {s : Nat} {f : Int} {n : Bool} {A : Option Addr} {l c : Nat} {e : Int} {w : World} (h : Bx1 s f n A l c e w) (zb : Nat) (h0 : s ≠ zb) (v0 v1 v2 : Value) : Bx1 s f n A l c e (((w.setCell ⟨zb, 0, none⟩ v0).setCell ⟨zb, 1, none⟩ v1).setCell ⟨zb, 2, none⟩ v2) :=
  (chg_setB _ zb 2 v2).heapB ((chg_setB _ zb 1 v1).heapB ((chg_setB _ zb 0 v0).heapB h h0) h0) h0
theorem Bx1.set4 {s : Nat} {f : Int} {n : Bool} {A : Option Addr} {l c : Nat} {e : Int} {w : World} (h : Bx1 s f n A l c e w) (zb : Nat) (h0 : s ≠ zb) (v0 v1 v2 v3 : Value) : Bx1 s f n A l c e ((((w.setCell ⟨zb, 0, none⟩ v0).setCell ⟨zb, 1, none⟩ v1).setCell ⟨zb, 2, none⟩ v2).setCell ⟨zb, 3, none⟩ v3) :=
  (chg_setB _ zb 3 v3).heapB ((chg_setB _ zb 2 v2).heapB ((chg_setB _ zb 1 v1).heapB ((chg_setB _ zb 0 v0).heapB h h0) h0) h0) h0
theorem chg3 (w : World) (zb : Nat) (v0 v1 v2 : Value) : Chg w (((w.setCell ⟨zb, 0, none⟩ v0).setCell ⟨zb, 1, none⟩ v1).setCell ⟨zb, 2, none⟩ v2) (fun k => k = zb) :=
  ((chg_setB w zb 0 v0).trans ((chg_setB _ zb 1 v1).mono (fun _ _ h => .inl h))).trans ((chg_setB _ zb 2 v2).mono (fun _ _ h => .inl h))
theorem end3 {w : World} {k : Nat} {a b c : Value} {T : TypeId} (h : w.heap[k]? = some (.cells #[a, b, c] T (0, 0))) (v0 v1 v2 : Value) :
    (((w.setCell ⟨k, 0, none⟩ v0).setCell ⟨k, 1, none⟩ v1).setCell ⟨k, 2, none⟩ v2).heap[k]? = some (.cells #[v0, v1, v2] T (0, 0)) :=
  setB (i := 2) (v := v2) (setB (i := 1) (v := v1) (setB (i := 0) (v := v0) h))
theorem RdD.chg {w w' : World} {A : Option Addr} {l c : Nat} {D : List Nat} {S : Nat → Prop} (h : RdD w A l c D) (hb : Chg w w' S) (hS : ∀ k, S k → w.heap.size ≤ k) : RdD w' A l c D :=
  ⟨h.len, h.cap, h.max, h.dg, fun hl => by
    obtain ⟨ad, e, hc⟩ := h.cells hl
    exact ⟨ad, e, fun j hj => hb.cell (hc j hj) (fun hs => by have := World.block_lt_of_cell? w _ (hc j hj); have := hS _ hs; omega)⟩⟩
set_option maxRecDepth 20000 in
set_option maxHeartbeats 2000000 in
theorem ofDec_c (w : World) (f : Int) (n : Bool) (A : Option Addr) (l c : Nat) (X : List Nat) (e : Int) (hX : RdW w A l c X) (hl : l ≤ 1000000) :
    Calls Tryz.prog 23 #[.agg #[.int .i64 f, .bool n, .slice A l c, .int .i64 e]] w fun E w' => ∃ p m cc, E = .returned (.tuple #[.agg #[.bool n, .slice p m cc, .int .i64 e], .bool (decide (f = 0 ∧ X = digs (val X)))]) ∧ DRes w w' p m cc (val X) := by
  replace hX := Lib.hid hX
  go_enter Tryz.func23, Tryz.ntmps23
  go_upto_region 1 with (fail)
  generalize hW : (w.alloc (.cells #[.int .i64 f, .bool n, .slice A l c, .int .i64 e] 24 (0, 0))).alloc (.cells #[.bool false, .slice none 0 0, .int .i64 0] 30 (0, 0)) = W
  have hB0 : Below w.heap.size w W := by rw [← hW]; exact ((Below.refl _ _).alloc (Nat.le_refl _) _).alloc (by simp) _
  have hBx : W.heap[w.heap.size]? = some (.cells #[.int .i64 f, .bool n, .slice A l c, .int .i64 e] 24 (0, 0)) := by rw [← hW]; exact allocB_old (allocB _ _)
  have hRs : W.heap[w.heap.size + 1]? = some (.cells #[.bool false, .slice none 0 0, .int .i64 0] 30 (0, 0)) := by rw [← hW]; exact allocB_at _ _ (by simp)
  have hsz : W.heap.size = w.heap.size + 2 := by rw [← hW]; simp
  clear hW
  have c2 := cellB (i := 2) hBx rfl
  have ho := of_c W A l c X (hX.out.below hB0) hl
  replace ho := Lib.hid ho
  replace hB0 := Lib.hid hB0
  replace hBx := Lib.hid hBx
  replace hRs := Lib.hid hRs
  replace hsz := Lib.hid hsz
  replace c2 : W.cell? ⟨w.heap.size, 2, none⟩ = some (.slice A l c) := c2
  go_wp2_with fail
  with_reducible refine ho.out.mono ?_
  rintro E w1 ⟨p, m, cc, rfl, hD⟩
  have hR := hD.rd
  have hb1 := hD.bel
  clear c2 ho
  have hc1 := Below.chg hb1
  have hX1 := hc1.heapB hBx.out (fun h => h)
  have hR1 := hc1.heapB hRs.out (fun h => h)
  have hml : m ≤ 4 * l := by
    rw [← hR.len]
    refine (dB_len_le two16).2 ?_
    have h := val_lt hX.out.wd
    rw [hX.out.len, WB_16, ← Nat.pow_mul] at h
    exact h
  have hB1 : Below w.heap.size w w1 := hB0.out.trans (hb1.mono (by have := hsz.out; omega))
  have hXr1 := hX.out.below hB1
  have hh := fun w2 (hb : Below w1.heap.size w1 w2) => hasWords_c w2 A p l c m cc (val X) X (hXr1.below hb) (hR.below hb) (by omega)
  have hs1 : W.heap.size ≤ w1.heap.size := hb1.size
  have hsz1 : w.heap.size + 2 ≤ w1.heap.size := by have := hsz.out; omega
  clear hml hXr1 hs1
  have c0 : w1.drew.cell? ⟨w.heap.size, 0, none⟩ = some (.int .i64 f) := cellB hX1 rfl
  have c1 : w1.drew.cell? ⟨w.heap.size, 1, none⟩ = some (.bool n) := cellB hX1 rfl
  have c2 : w1.drew.cell? ⟨w.heap.size, 2, none⟩ = some (.slice A l c) := cellB hX1 rfl
  have c3 : w1.drew.cell? ⟨w.heap.size, 3, none⟩ = some (.int .i64 e) := cellB hX1 rfl
  replace hh := Lib.hid hh
  replace hR := Lib.hid hR
  replace hB1 := Lib.hid hB1
  replace hX1 := Lib.hid hX1
  replace hR1 := Lib.hid hR1
  replace hD := Lib.hid hD
  replace hsz1 := Lib.hid hsz1
  clear hb1 hc1
  by_cases hf : f = 0
  · subst hf
    have hS0 := And.intro c0 (And.intro c1 (And.intro c2 c3))
    clear c0 c1 c2 c3
    have ne0 : w.heap.size ≠ w.heap.size + 1 := by omega
    go_wp2_with fail
    go_region_held3 (fun w' => w'.cell? ⟨w.heap.size, 0, none⟩ = some (.int .i64 0) ∧ w'.cell? ⟨w.heap.size, 1, none⟩ = some (.bool n) ∧ w'.cell? ⟨w.heap.size, 2, none⟩ = some (.slice A l c) ∧ w'.cell? ⟨w.heap.size, 3, none⟩ = some (.int .i64 e)) (with_reducible (first | exact hS0 | exact hS1 | exact (Bx1.set3 hX2.out (w.heap.size + 1) ne0 _ _ _).cells)) (
      (go_at_call 55
       with_reducible refine (hh.out w1.drew (Below.drw (Below.refl _ _))).mono ?_
       rintro e' w2 ⟨rfl, hb2⟩
       have hc2 := Below.chg (w := w1.drew) hb2
       have hX2 := hc2.heapB (show w1.drew.heap[w.heap.size]? = _ from hX1.out) (fun h => h)
       have hR2 := hc2.heapB (show w1.drew.heap[w.heap.size + 1]? = _ from hR1.out) (fun h => h)
       have hS1 : w2.cell? ⟨w.heap.size, 0, none⟩ = some (.int .i64 0) ∧ w2.cell? ⟨w.heap.size, 1, none⟩ = some (.bool n) ∧ w2.cell? ⟨w.heap.size, 2, none⟩ = some (.slice A l c) ∧ w2.cell? ⟨w.heap.size, 3, none⟩ = some (.int .i64 e) := ⟨cellB hX2 rfl, cellB hX2 rfl, cellB hX2 rfl, cellB hX2 rfl⟩
       have y0 : w2.frozen? ⟨w.heap.size + 1, 0, none⟩ = false := frozenB hR2 0
       have y1 : w2.frozen? ⟨w.heap.size + 1, 1, none⟩ = false := frozenB hR2 1
       have y2 : w2.frozen? ⟨w.heap.size + 1, 2, none⟩ = false := frozenB hR2 2
       have z0 : w2.cell? ⟨w.heap.size + 1, 0, none⟩ = some (.bool false) := cellB hR2 rfl
       have z1 : w2.cell? ⟨w.heap.size + 1, 1, none⟩ = some (.slice none 0 0) := cellB hR2 rfl
       have z2 : w2.cell? ⟨w.heap.size + 1, 2, none⟩ = some (.int .i64 0) := cellB hR2 rfl
       have hX2 : Bx1 w.heap.size 0 n A l c e w2 := hX2
       replace hX2 := Lib.hid hX2
       replace hR2 := Lib.hid hR2
       replace hb2 := Lib.hid hb2
       replace hc2 := Lib.hid hc2))
    go_wp2
    have hfin := end3 hR2.out (.bool n) (.slice p m cc) (.int .i64 e)
    have hch9 := chg3 w2 (w.heap.size + 1) (.bool n) (.slice p m cc) (.int .i64 e)
    clear hS0 hS1 y0 y1 y2 z0 z1 z2
    generalize ((w2.setCell ⟨w.heap.size + 1, 0, none⟩ (.bool n)).setCell ⟨w.heap.size + 1, 1, none⟩ (.slice p m cc)).setCell ⟨w.heap.size + 1, 2, none⟩ (.int .i64 e) = W9 at hfin hch9 ⊢
    have e0 := cellB hfin (i := 0) (v := .bool n) rfl
    have e1 := cellB hfin (i := 1) (v := .slice p m cc) rfl
    have e2 := cellB hfin (i := 2) (v := .int .i64 e) rfl
    have k1 := hsz1.out
    have hs2 := hc2.out.size
    have hs3 : w1.drew.heap.size = w1.heap.size := rfl
    have hc0 := Below.chg hB1.out
    have a1 : Chg w1 w2 (fun k => k = w.heap.size + 1) := ((Chg.refl w1 (fun _ => False)).drew.trans (hc2.out.mono (fun _ _ h => h.elim))).mono (fun _ _ h => h.elim)
    have q1 : DRes w W9 p m cc (val X) := hD.out.chg (Below.chg hB0.out) (a1.trans (hch9.mono (fun k _ h => .inl h))) (fun k h => ⟨by omega, .inl (by have := hsz.out; omega)⟩)
    exact bodyPost_ret (v := .tuple #[.agg #[.bool n, .slice p m cc, .int .i64 e], .bool (decide (X = digs (val X)))]) (by simp [results, Tryz.results23, go_sem, e0, e1, e2]) rfl ⟨p, m, cc, by simp, q1⟩
  · have e0 : (f == 0) = false := by simpa using hf
    have y0 : w1.drew.frozen? ⟨w.heap.size + 1, 0, none⟩ = false := frozenB hR1.out 0
    have y1 : w1.drew.frozen? ⟨w.heap.size + 1, 1, none⟩ = false := frozenB hR1.out 1
    have y2 : w1.drew.frozen? ⟨w.heap.size + 1, 2, none⟩ = false := frozenB hR1.out 2
    have z0 : w1.drew.cell? ⟨w.heap.size + 1, 0, none⟩ = some (.bool false) := cellB hR1.out rfl
    have z1 : w1.drew.cell? ⟨w.heap.size + 1, 1, none⟩ = some (.slice none 0 0) := cellB hR1.out rfl
    have z2 : w1.drew.cell? ⟨w.heap.size + 1, 2, none⟩ = some (.int .i64 0) := cellB hR1.out rfl
    have yy0 : w1.frozen? ⟨w.heap.size + 1, 0, none⟩ = false := frozenB hR1.out 0
    have yy1 : w1.frozen? ⟨w.heap.size + 1, 1, none⟩ = false := frozenB hR1.out 1
    have yy2 : w1.frozen? ⟨w.heap.size + 1, 2, none⟩ = false := frozenB hR1.out 2
    have zz0 : w1.cell? ⟨w.heap.size + 1, 0, none⟩ = some (.bool false) := cellB hR1.out rfl
    have zz1 : w1.cell? ⟨w.heap.size + 1, 1, none⟩ = some (.slice none 0 0) := cellB hR1.out rfl
    have zz2 : w1.cell? ⟨w.heap.size + 1, 2, none⟩ = some (.int .i64 0) := cellB hR1.out rfl
    replace hf := Lib.hid hf
    go_wp2_with fail
    go_region
    go_wp2
    have hfin := end3 hR1.out (.bool n) (.slice p m cc) (.int .i64 e)
    have hch9 := chg3 w1 (w.heap.size + 1) (.bool n) (.slice p m cc) (.int .i64 e)
    clear y0 y1 y2 z0 z1 z2 yy0 yy1 yy2 zz0 zz1 zz2 c0 c1 c2 c3
    generalize ((w1.setCell ⟨w.heap.size + 1, 0, none⟩ (.bool n)).setCell ⟨w.heap.size + 1, 1, none⟩ (.slice p m cc)).setCell ⟨w.heap.size + 1, 2, none⟩ (.int .i64 e) = W9 at hfin hch9 ⊢
    have e0 := cellB hfin (i := 0) (v := .bool n) rfl
    have e1 := cellB hfin (i := 1) (v := .slice p m cc) rfl
    have e2 := cellB hfin (i := 2) (v := .int .i64 e) rfl
    have q1 : DRes w W9.drew p m cc (val X) := hD.out.chg (Below.chg hB0.out) (hch9.drew) (fun k h => ⟨by omega, .inl (by have := hsz.out; omega)⟩)
    exact bodyPost_ret (v := .tuple #[.agg #[.bool n, .slice p m cc, .int .i64 e], .bool false]) (by simp [results, Tryz.results23, go_sem, e0, e1, e2]) rfl ⟨p, m, cc, by simp [hf.out], q1⟩

theorem fits_c (w : World) (f : Int) (n : Bool) (A : Option Addr) (l c : Nat) (e : Int) :
    Calls Tryz.prog 10 #[.agg #[.int .i64 f, .bool n, .slice A l c, .int .i64 e]] w fun E w' => E = .returned (.bool (decide (l ≤ 2147483647))) ∧ Below w.heap.size w w' := by
  go_enter Tryz.func10, Tryz.ntmps10
  by_cases h : l ≤ 2147483647
  · go_wp2
    go_ret
    exact ⟨by simp [h], (Below.refl _ _).alloc (Nat.le_refl _) _⟩
  · go_wp2
    go_ret
    exact ⟨by simp [h], (Below.refl _ _).alloc (Nat.le_refl _) _⟩

/-- What finite tells of a decimal that it takes. -/
structure FinV (w w' : World) (f : Int) (n : Bool) (l : Nat) (X : List Nat) (e : Int) (a0 : Bool) (p0 : Option Addr) (m0 k0 : Nat) (a2 : Int) : Prop where
  len : l ≤ 3
  lo : -100 ≤ e
  hi : e ≤ 100
  form : f = 0
  norm : X = digs (val X)
  neg : a0 = n
  ex : a2 = e
  coeff : DRes w w' p0 m0 k0 (val X)

def FinRes (w w' : World) (E : Ending) (f : Int) (n : Bool) (l : Nat) (X : List Nat) (e : Int) : Prop :=
  ∃ (a0 : Bool) (p0 : Option Addr) (m0 k0 : Nat) (a2 : Int) (ok : Bool), E = .returned (.tuple #[.agg #[.bool a0, .slice p0 m0 k0, .int .i64 a2], .bool ok]) ∧ Below w.heap.size w w' ∧ (ok = true → FinV w w' f n l X e a0 p0 m0 k0 a2)

set_option maxRecDepth 20000 in
set_option maxHeartbeats 2000000 in
theorem finite_c (w : World) (f : Int) (n : Bool) (A : Option Addr) (l c : Nat) (X : List Nat) (e : Int) (hX : RdW w A l c X) :
    Calls Tryz.prog 11 #[.agg #[.int .i64 f, .bool n, .slice A l c, .int .i64 e]] w fun E w' => FinRes w w' E f n l X e := by
  have hlc := hX.cap
  have hcm := hX.max
  replace hX := Lib.hid hX
  go_enter Tryz.func11, Tryz.ntmps11
  go_upto_region 1 with (fail)
  generalize hW : (w.alloc (.cells #[.int .i64 f, .bool n, .slice A l c, .int .i64 e] 24 (0, 0))).alloc (.cells #[.bool false, .slice none 0 0, .int .i64 0] 30 (0, 0)) = W
  have hB0 : Below w.heap.size w W := by rw [← hW]; exact ((Below.refl _ _).alloc (Nat.le_refl _) _).alloc (by simp) _
  have hBx : W.heap[w.heap.size]? = some (.cells #[.int .i64 f, .bool n, .slice A l c, .int .i64 e] 24 (0, 0)) := by rw [← hW]; exact allocB_old (allocB _ _)
  have hRs : W.heap[w.heap.size + 1]? = some (.cells #[.bool false, .slice none 0 0, .int .i64 0] 30 (0, 0)) := by rw [← hW]; exact allocB_at _ _ (by simp)
  have hsz : W.heap.size = w.heap.size + 2 := by rw [← hW]; simp
  clear hW
  have c0 : W.cell? ⟨w.heap.size, 0, none⟩ = some (.int .i64 f) := cellB hBx rfl
  have c1 : W.cell? ⟨w.heap.size, 1, none⟩ = some (.bool n) := cellB hBx rfl
  have c2 : W.cell? ⟨w.heap.size, 2, none⟩ = some (.slice A l c) := cellB hBx rfl
  have c3 : W.cell? ⟨w.heap.size, 3, none⟩ = some (.int .i64 e) := cellB hBx rfl
  by_cases hok : l ≤ 3 ∧ -100 ≤ e ∧ e ≤ 100
  · obtain ⟨h1, h2, h3⟩ := hok
    have hq : ∀ w1, Below W.heap.size W w1 → Calls Tryz.prog 23 #[.agg #[.int .i64 f, .bool n, .slice A l c, .int .i64 e]] w1 _ := fun w1 hb => ofDec_c w1 f n A l c X e ((hX.out.below hB0).below hb) (by omega)
    replace hq := Lib.hid (hq W (Below.refl _ _))
    replace hB0 := Lib.hid hB0
    replace hBx := Lib.hid hBx
    replace hRs := Lib.hid hRs
    replace hsz := Lib.hid hsz
    go_wp2_with fail
    with_reducible refine hq.out.mono ?_
    rintro E w1 ⟨p, m, cc, rfl, hD⟩
    have hch := Below.chg hD.bel
    have hR1 := hch.heapB hRs.out (fun h => h)
    have y0 : w1.frozen? ⟨w.heap.size + 1, 0, none⟩ = false := frozenB hR1 0
    have y1 : w1.frozen? ⟨w.heap.size + 1, 1, none⟩ = false := frozenB hR1 1
    have y2 : w1.frozen? ⟨w.heap.size + 1, 2, none⟩ = false := frozenB hR1 2
    have z0 : w1.cell? ⟨w.heap.size + 1, 0, none⟩ = some (.bool false) := cellB hR1 rfl
    have z1 : w1.cell? ⟨w.heap.size + 1, 1, none⟩ = some (.slice none 0 0) := cellB hR1 rfl
    have z2 : w1.cell? ⟨w.heap.size + 1, 2, none⟩ = some (.int .i64 0) := cellB hR1 rfl
    replace hR1 := Lib.hid hR1
    replace hD := Lib.hid hD
    replace hch := Lib.hid hch
    go_wp2
    have hfin := end3 hR1.out (.bool n) (.slice p m cc) (.int .i64 e)
    have hch9 := chg3 w1 (w.heap.size + 1) (.bool n) (.slice p m cc) (.int .i64 e)
    clear y0 y1 y2 z0 z1 z2 c0 c1 c2 c3
    generalize ((w1.setCell ⟨w.heap.size + 1, 0, none⟩ (.bool n)).setCell ⟨w.heap.size + 1, 1, none⟩ (.slice p m cc)).setCell ⟨w.heap.size + 1, 2, none⟩ (.int .i64 e) = W9 at hfin hch9 ⊢
    have e0 := cellB hfin (i := 0) (v := .bool n) rfl
    have e1 := cellB hfin (i := 1) (v := .slice p m cc) rfl
    have e2 := cellB hfin (i := 2) (v := .int .i64 e) rfl
    have q1 : DRes w W9 p m cc (val X) := hD.out.chg (Below.chg hB0.out) hch9 (fun k h => ⟨by omega, .inl (by have := hsz.out; omega)⟩)
    exact bodyPost_ret (v := .tuple #[.agg #[.bool n, .slice p m cc, .int .i64 e], .bool (decide (f = 0 ∧ X = digs (val X)))]) (by simp [results, Tryz.results11, go_sem, e0, e1, e2]) rfl ⟨_, _, _, _, _, _, rfl, q1.bel, fun h => by
      rw [decide_eq_true_eq] at h
      exact ⟨h1, h2, h3, h.1, h.2, rfl, rfl, q1⟩⟩
  · have y0 : W.frozen? ⟨w.heap.size + 1, 0, none⟩ = false := frozenB hRs 0
    have y1 : W.frozen? ⟨w.heap.size + 1, 1, none⟩ = false := frozenB hRs 1
    have y2 : W.frozen? ⟨w.heap.size + 1, 2, none⟩ = false := frozenB hRs 2
    have z0 : W.cell? ⟨w.heap.size + 1, 0, none⟩ = some (.bool false) := cellB hRs rfl
    have z1 : W.cell? ⟨w.heap.size + 1, 1, none⟩ = some (.slice none 0 0) := cellB hRs rfl
    have z2 : W.cell? ⟨w.heap.size + 1, 2, none⟩ = some (.int .i64 0) := cellB hRs rfl
    replace hB0 := Lib.hid hB0
    replace hBx := Lib.hid hBx
    replace hRs := Lib.hid hRs
    replace hsz := Lib.hid hsz
    have hno : 3 < l ∨ (l ≤ 3 ∧ e < -100) ∨ (l ≤ 3 ∧ -100 ≤ e ∧ 100 < e) := by omega
    clear hok
    rcases hno with h | ⟨h1, h2⟩ | ⟨h1, h2, h3⟩
    all_goals
      go_wp2
      have hfin := end3 hRs.out (.bool false) (.slice none 0 0) (.int .i64 0)
      have hch9 := chg3 W (w.heap.size + 1) (.bool false) (.slice none 0 0) (.int .i64 0)
      clear y0 y1 y2 z0 z1 z2 c0 c1 c2 c3
      generalize ((W.setCell ⟨w.heap.size + 1, 0, none⟩ (.bool false)).setCell ⟨w.heap.size + 1, 1, none⟩ (.slice none 0 0)).setCell ⟨w.heap.size + 1, 2, none⟩ (.int .i64 0) = W9 at hfin hch9 ⊢
      have e0 := cellB hfin (i := 0) (v := .bool false) rfl
      have e1 := cellB hfin (i := 1) (v := .slice none 0 0) rfl
      have e2 := cellB hfin (i := 2) (v := .int .i64 0) rfl
      have q1 : Chg w W9 (fun _ => False) := (Below.chg hB0.out).trans (hch9.mono (fun k _ h => .inr (by omega)))
      exact bodyPost_ret (v := .tuple #[.agg #[.bool false, .slice none 0 0, .int .i64 0], .bool false]) (by simp [results, Tryz.results11, go_sem, e0, e1, e2]) rfl ⟨_, _, _, _, _, _, rfl, ⟨q1.os, q1.tape, q1.output, q1.size, fun k hk => q1.block k hk (fun h => h)⟩, (fun h => by cases h)⟩
end Go.Proofs.YtcoljeafgiemkaaGreatDoor

namespace Go.Proofs.YtcoljeafgiemkaaGreatDoor
open Go Go.RowKit

theorem RdD.at {w : World} {A : Option Addr} {l c : Nat} {D : List Nat} (h : RdD w A l c D) {w' : World} (hb : Below w.heap.size w w') {k : Nat} (hk : k < l) : ∃ ad, A = some ad ∧ w'.cell? (ad.add k) = some (.int .i64 (nth D k : Int)) := by
  obtain ⟨ad, e, hc⟩ := h.cells (by omega)
  exact ⟨ad, e, (hb.cell (World.block_lt_of_cell? w _ (hc k hk))).trans (hc k hk)⟩
end Go.Proofs.YtcoljeafgiemkaaGreatDoor

namespace Go.Proofs.YtcoljeafgiemkaaGreatDoor
open Go Go.RowKit

end Go.Proofs.YtcoljeafgiemkaaGreatDoor

namespace Go.Proofs.YtcoljeafgiemkaaGreatDoor
open Go Go.RowKit

/-- A block of digits. -/
structure ArrD (w : World) (b : Nat) (D : List Nat) : Prop where
  heap : w.heap[b]? = some (.cells (D.map sw).toArray 3 (0, 0))
  dg : DgB 65536 D
theorem ArrD.cell {w : World} {b : Nat} {D : List Nat} (h : ArrD w b D) {i : Nat} (hi : i < D.length) : w.cell? ⟨b, i, none⟩ = some (.int .i64 (nth D i : Int)) := by
  refine cellB h.heap ?_
  rw [List.getElem?_toArray, List.getElem?_map, get_nth hi]; rfl
theorem ArrD.frozen {w : World} {b : Nat} {D : List Nat} (h : ArrD w b D) (i : Nat) : w.frozen? ⟨b, i, none⟩ = false := frozenB h.heap i
theorem ArrD.lt {w : World} {b : Nat} {D : List Nat} (h : ArrD w b D) : b < w.heap.size := ltB h.heap
theorem ArrD.set {w : World} {b : Nat} {D : List Nat} (h : ArrD w b D) (i : Nat) {s : Int} {x : Nat} (hs : s = (x : Int)) (hx : x < 65536) : ArrD (w.setCell ⟨b, i, none⟩ (.int .i64 s)) b (D.set i x) := by
  subst hs
  refine ⟨?_, h.dg.set i hx⟩
  have h1 := setB (i := i) (v := .int .i64 (x : Int)) h.heap
  rw [h1]
  congr 2
  apply Array.ext'
  simp [List.map_set, sw]
theorem ArrD.rd {w : World} {b n : Nat} {D : List Nat} (h : ArrD w b D) (hn : D.length = n) (hm : n ≤ 100000000) : RdD w (some ⟨b, 0, none⟩) n n D :=
  ⟨hn, Nat.le_refl _, by omega, h.dg, fun _ => ⟨_, rfl, fun j hj => by rw [add0]; exact h.cell (by omega)⟩⟩
def zeroI (c : Nat) : Obj := .cells ((List.replicate c 0).map sw).toArray 3 (0, 0)
end Go.Proofs.YtcoljeafgiemkaaGreatDoor

namespace Go.Proofs.YtcoljeafgiemkaaGreatDoor
open Go Go.RowKit

end Go.Proofs.YtcoljeafgiemkaaGreatDoor

namespace Go.Proofs.YtcoljeafgiemkaaGreatDoor
open Go Go.RowKit

theorem DRes.later {w w1 w2 : World} {p : Option Addr} {m cc N : Nat} (h : DRes w w1 p m cc N) (hb : Below w1.heap.size w1 w2) : DRes w w2 p m cc N := ⟨h.rd.below hb, h.loc, h.bel.trans (hb.mono h.bel.size)⟩
theorem DRes.eq {w w1 : World} {p : Option Addr} {m cc N M : Nat} (h : DRes w w1 p m cc N) (e : N = M) : DRes w w1 p m cc M := by subst e; exact h
theorem brise {w w1 w2 : World} (h : Below w.heap.size w w1) (h' : Below w1.heap.size w1 w2) : Below w.heap.size w w2 := h.trans (h'.mono h.size)
/-- A row that is new, or the old one. -/
def DOr (w w' : World) (A : Option Addr) (l c N : Nat) (p : Option Addr) (m cc R : Nat) : Prop := DRes w w' p m cc R ∨ (p = A ∧ m = l ∧ cc = c ∧ R = N)
theorem DOr.rd {w w' : World} {A : Option Addr} {l c N : Nat} {p : Option Addr} {m cc R : Nat} (h : DOr w w' A l c N p m cc R) (hX : RdD w A l c (d16 N)) (hb : Below w.heap.size w w') : RdD w' p m cc (d16 R) := by
  rcases h with h | ⟨rfl, rfl, rfl, rfl⟩
  · exact h.rd
  · exact hX.below hb
theorem DOr.later {w w1 w2 : World} {A : Option Addr} {l c N : Nat} {p : Option Addr} {m cc R : Nat} (h : DOr w w1 A l c N p m cc R) (hb : Below w1.heap.size w1 w2) : DOr w w2 A l c N p m cc R := by
  rcases h with h | h
  · exact .inl (h.later hb)
  · exact .inr h
/-- What DivMod hands back. -/
def DmRes (w w' : World) (A : Option Addr) (l c N M : Nat) (E : Ending) : Prop :=
  ∃ p n cc q k e, E = .returned (.tuple #[.slice p n cc, .slice q k e]) ∧ DRes w w' p n cc (N / M) ∧ DOr w w' A l c N q k e (N % M)
end Go.Proofs.YtcoljeafgiemkaaGreatDoor

namespace Go.Proofs.YtcoljeafgiemkaaGreatDoor
open Go Go.RowKit

end Go.Proofs.YtcoljeafgiemkaaGreatDoor

namespace Go.Proofs.YtcoljeafgiemkaaGreatDoor
open Go Go.RowKit

theorem bkeep {w w' : World} {k : Nat} {cs : Array Value} {T : TypeId} (hb : Below w.heap.size w w') (h : w.heap[k]? = some (.cells cs T (0, 0))) : w'.heap[k]? = some (.cells cs T (0, 0)) := (Below.chg hb).heapB h (fun h => h)
theorem d16_len0 {n l : Nat} (h : (d16 n).length = l) : l = 0 ↔ n = 0 := by
  rw [← h, List.length_eq_zero_iff]; exact dB_eq_nil two16
/-- A value in new memory, and whether it is not exact. -/
def ValB (w w' : World) (E : Ending) (n : Bool) (e : Int) (R : Nat) (x : Bool) : Prop :=
  ∃ q a b, E = .returned (.tuple #[.agg #[.bool n, .slice q a b, .int .i64 e], .bool x]) ∧ DRes w w' q a b R
end Go.Proofs.YtcoljeafgiemkaaGreatDoor

namespace Go.Proofs.YtcoljeafgiemkaaGreatDoor
open Go Go.RowKit

end Go.Proofs.YtcoljeafgiemkaaGreatDoor

namespace Go.Proofs.YtcoljeafgiemkaaGreatDoor
open Go Go.RowKit

end Go.Proofs.YtcoljeafgiemkaaGreatDoor

namespace Go.Proofs.YtcoljeafgiemkaaGreatDoor
open Go Go.RowKit

/-- The boxes of two values. -/
def Bv2 (k : Nat) (s t : Bool) (p q : Option Addr) (l c a b : Nat) (e f : Int) (w : World) : Prop :=
  w.heap[k]? = some (.cells #[.bool s, .slice p l c, .int .i64 e] 30 (0, 0)) ∧ w.heap[k + 1]? = some (.cells #[.bool t, .slice q a b, .int .i64 f] 30 (0, 0))
theorem Bv2.cells {k : Nat} {s t : Bool} {p q : Option Addr} {l c a b : Nat} {e f : Int} {w : World} (h : Bv2 k s t p q l c a b e f w) : w.cell? ⟨k, 0, none⟩ = some (.bool s) ∧ w.cell? ⟨k, 1, none⟩ = some (.slice p l c) ∧ w.cell? ⟨k, 2, none⟩ = some (.int .i64 e) ∧ w.cell? ⟨k + 1, 0, none⟩ = some (.bool t) ∧ w.cell? ⟨k + 1, 1, none⟩ = some (.slice q a b) ∧ w.cell? ⟨k + 1, 2, none⟩ = some (.int .i64 f) := ⟨cellB h.1 rfl, cellB h.1 rfl, cellB h.1 rfl, cellB h.2 rfl, cellB h.2 rfl, cellB h.2 rfl⟩
theorem Bv2.chg {k : Nat} {s t : Bool} {p q : Option Addr} {l c a b : Nat} {e f : Int} {w w' : World} {S : Nat → Prop} (h : Bv2 k s t p q l c a b e f w) (hc : Chg w w' S) (h0 : ¬ S k) (h1 : ¬ S (k + 1)) : Bv2 k s t p q l c a b e f w' := ⟨hc.heapB h.1 h0, hc.heapB h.2 h1⟩
theorem Bv2.new {k : Nat} {s t : Bool} {p q : Option Addr} {l c a b : Nat} {e f : Int} {w w' : World} (h : Bv2 k s t p q l c a b e f w) (hb : Below w.heap.size w w') : Bv2 k s t p q l c a b e f w' := h.chg (Below.chg hb) (fun h => h) (fun h => h)
/-- A value in new memory. -/
def ValN (w w' : World) (E : Ending) (n : Bool) (e : Int) (R : Nat) : Prop :=
  ∃ q a b, E = .returned (.agg #[.bool n, .slice q a b, .int .i64 e]) ∧ DRes w w' q a b R

/-- The sign of a sum; of one that is 0 it may be any. -/
def sumS (s t : Bool) (A B : Nat) : Bool := if s = t then s else if B ≤ A then s else t
end Go.Proofs.YtcoljeafgiemkaaGreatDoor

namespace Go.Proofs.YtcoljeafgiemkaaGreatDoor
open Go Go.RowKit

theorem FinV.chg {w w1 w2 w3 : World} {f : Int} {n : Bool} {l : Nat} {X : List Nat} {e : Int} {a0 : Bool} {p0 : Option Addr} {m0 k0 : Nat} {a2 : Int} {S : Nat → Prop} (h : FinV w1 w2 f n l X e a0 p0 m0 k0 a2) (hw : Chg w w1 (fun _ => False)) (hc : Chg w2 w3 S) (hS : ∀ k, S k → w.heap.size ≤ k ∧ (k < w1.heap.size ∨ w2.heap.size ≤ k)) : FinV w w3 f n l X e a0 p0 m0 k0 a2 :=
  ⟨h.len, h.lo, h.hi, h.form, h.norm, h.neg, h.ex, h.coeff.chg hw hc hS⟩
/-- What both tells. -/
def BothRes (w w' : World) (E : Ending) (f : Int) (n : Bool) (l : Nat) (X : List Nat) (e : Int) (g : Int) (o : Bool) (r : Nat) (Y : List Nat) (d : Int) : Prop :=
  ∃ (a0 : Bool) (p0 : Option Addr) (m0 k0 : Nat) (a2 : Int) (b0 : Bool) (q0 : Option Addr) (n0 j0 : Nat) (b2 : Int) (ok : Bool),
    E = .returned (.tuple #[.agg #[.bool a0, .slice p0 m0 k0, .int .i64 a2], .agg #[.bool b0, .slice q0 n0 j0, .int .i64 b2], .bool ok]) ∧ Below w.heap.size w w' ∧
      (ok = true → FinV w w' f n l X e a0 p0 m0 k0 a2 ∧ FinV w w' g o r Y d b0 q0 n0 j0 b2)

set_option maxRecDepth 20000 in
set_option maxHeartbeats 4000000 in
theorem both_c (w : World) (f : Int) (n : Bool) (A : Option Addr) (l c : Nat) (X : List Nat) (e : Int) (g : Int) (o : Bool) (B : Option Addr) (r s : Nat) (Y : List Nat) (d : Int) (hX : RdW w A l c X) (hY : RdW w B r s Y) :
    Calls Tryz.prog 28 #[.agg #[.int .i64 f, .bool n, .slice A l c, .int .i64 e], .agg #[.int .i64 g, .bool o, .slice B r s, .int .i64 d]] w fun E w' => BothRes w w' E f n l X e g o r Y d := by
  replace hX := Lib.hid hX
  replace hY := Lib.hid hY
  go_enter Tryz.func28, Tryz.ntmps28
  go_upto_region 1 with (fail)
  generalize hW : (((w.alloc (.cells #[.int .i64 f, .bool n, .slice A l c, .int .i64 e] 24 (0, 0))).alloc (.cells #[.int .i64 g, .bool o, .slice B r s, .int .i64 d] 24 (0, 0))).alloc (.cells #[.bool false, .slice none 0 0, .int .i64 0] 30 (0, 0))).alloc (.cells #[.bool false, .slice none 0 0, .int .i64 0] 30 (0, 0)) = W
  have hC0 : Chg w W (fun _ => False) := by rw [← hW]; exact ((((Chg.refl w (fun _ => False)).alloc _).alloc _).alloc _).alloc _
  have hXa : Bx1 w.heap.size f n A l c e W := by rw [← hW]; exact allocB_old (allocB_old (allocB_old (allocB _ _)))
  have hYa : Bx1 (w.heap.size + 1) g o B r s d W := by rw [← hW]; exact allocB_old (allocB_old (allocB_at _ _ (by simp)))
  have hRa : W.heap[w.heap.size + 2]? = some (.cells #[.bool false, .slice none 0 0, .int .i64 0] 30 (0, 0)) := by rw [← hW]; exact allocB_old (allocB_at _ _ (by simp))
  have hRb : W.heap[w.heap.size + 3]? = some (.cells #[.bool false, .slice none 0 0, .int .i64 0] 30 (0, 0)) := by rw [← hW]; exact allocB_at _ _ (by simp)
  have hsz : W.heap.size = w.heap.size + 4 := by rw [← hW]; simp
  clear hW
  obtain ⟨c0, c1, c2, c3⟩ := hXa.cells
  have bl : ∀ {u v : World}, Chg u v (fun _ => False) → Below u.heap.size u v := fun h => ⟨h.os, h.tape, h.output, h.size, fun k hk => h.block k hk (fun h => h)⟩
  have kq := finite_c W f n A l c X e (hX.out.below (bl hC0))
  replace kq := Lib.hid kq
  replace hC0 := Lib.hid hC0
  replace hYa := Lib.hid hYa
  replace hRa := Lib.hid hRa
  replace hRb := Lib.hid hRb
  replace hsz := Lib.hid hsz
  go_wp2_with fail
  with_reducible refine kq.out.mono ?_
  rintro E w1 ⟨a0, p0, m0, k0, a2, ok1, rfl, hb1, hf1⟩
  clear c0 c1 c2 c3 kq hXa
  go_upto_region 2 with (fail)
  have hc1 := Below.chg hb1
  have hs1 := hb1.size
  obtain ⟨Va, hVa⟩ : ∃ Va, w1.heap.size = Va := ⟨_, rfl⟩
  generalize hW1 : w1.alloc (.cells #[.bool a0, .slice p0 m0 k0, .int .i64 a2] 30 (0, 0)) = W1
  have hC1 : Chg w1 W1 (fun _ => False) := by rw [← hW1]; exact (Chg.refl w1 (fun _ => False)).alloc _
  have hV1 : W1.heap[Va]? = some (.cells #[.bool a0, .slice p0 m0 k0, .int .i64 a2] 30 (0, 0)) := by rw [← hW1, ← hVa]; exact allocB _ _
  have hsz1 : W1.heap.size = Va + 1 := by rw [← hW1, ← hVa]; simp
  clear hW1
  have hC1' : Chg W W1 (fun _ => False) := hc1.trans (hC1.mono (fun _ _ h => h.elim))
  have hY1 := Bx1.chg hYa.out hC1'
  have hRa1 := hC1'.heapB hRa.out (fun h => h)
  have hRb1 := hC1'.heapB hRb.out (fun h => h)
  have hC01 : Chg w W1 (fun _ => False) := hC0.out.trans (hC1'.mono (fun _ _ h => h.elim))
  obtain ⟨c0, c1, c2, c3⟩ := hY1.cells
  have kq := finite_c W1 g o B r s Y d (hY.out.below (bl hC01))
  rw [hVa]
  replace kq := Lib.hid kq
  replace hV1 := Lib.hid hV1
  replace hf1 := Lib.hid hf1
  replace hC1 := Lib.hid hC1
  replace hC01 := Lib.hid hC01
  replace hC1' := Lib.hid hC1'
  replace hRa1 := Lib.hid hRa1
  replace hRb1 := Lib.hid hRb1
  replace hsz1 := Lib.hid hsz1
  replace hs1 := Lib.hid hs1
  replace hVa := Lib.hid hVa
  replace hc1 := Lib.hid hc1
  clear hb1
  go_wp2_with fail
  with_reducible refine kq.out.mono ?_
  rintro E w2 ⟨b0, q0, n0, j0, b2, ok2, rfl, hb2, hf2⟩
  clear c0 c1 c2 c3 kq hY1
  go_upto_region 3 with (fail)
  have hc2 := Below.chg hb2
  have hs2 := hb2.size
  obtain ⟨Vb, hVb⟩ : ∃ Vb, w2.heap.size = Vb := ⟨_, rfl⟩
  generalize hW2 : w2.alloc (.cells #[.bool b0, .slice q0 n0 j0, .int .i64 b2] 30 (0, 0)) = W2
  have hC2 : Chg w2 W2 (fun _ => False) := by rw [← hW2]; exact (Chg.refl w2 (fun _ => False)).alloc _
  have hU : W2.heap[Vb]? = some (.cells #[.bool b0, .slice q0 n0 j0, .int .i64 b2] 30 (0, 0)) := by rw [← hW2, ← hVb]; exact allocB _ _
  have hsz2 : W2.heap.size = Vb + 1 := by rw [← hW2, ← hVb]; simp
  clear hW2
  rw [hVb]
  have hC2' : Chg W1 W2 (fun _ => False) := hc2.trans (hC2.mono (fun _ _ h => h.elim))
  have hV := hC2'.heapB hV1.out (fun h => h)
  have hRa2 := hC2'.heapB hRa1.out (fun h => h)
  have hRb2 := hC2'.heapB hRb1.out (fun h => h)
  have hC02 : Chg w W2 (fun _ => False) := hC01.out.trans (hC2'.mono (fun _ _ h => h.elim))
  have l1 := hsz.out
  have l2 := hsz1.out
  have l3 := hs1.out
  have l4 := hVa.out
  have x0 : W2.cell? ⟨Va, 0, none⟩ = some (.bool a0) := cellB hV rfl
  have x1 : W2.cell? ⟨Va, 1, none⟩ = some (.slice p0 m0 k0) := cellB hV rfl
  have x2 : W2.cell? ⟨Va, 2, none⟩ = some (.int .i64 a2) := cellB hV rfl
  have y0 : W2.cell? ⟨Vb, 0, none⟩ = some (.bool b0) := cellB hU rfl
  have y1 : W2.cell? ⟨Vb, 1, none⟩ = some (.slice q0 n0 j0) := cellB hU rfl
  have y2 : W2.cell? ⟨Vb, 2, none⟩ = some (.int .i64 b2) := cellB hU rfl
  have u0 : W2.cell? ⟨w.heap.size + 2, 0, none⟩ = some (.bool false) := cellB hRa2 rfl
  have u1 : W2.cell? ⟨w.heap.size + 2, 1, none⟩ = some (.slice none 0 0) := cellB hRa2 rfl
  have u2 : W2.cell? ⟨w.heap.size + 2, 2, none⟩ = some (.int .i64 0) := cellB hRa2 rfl
  have t0 : W2.cell? ⟨w.heap.size + 3, 0, none⟩ = some (.bool false) := cellB hRb2 rfl
  have t1 : W2.cell? ⟨w.heap.size + 3, 1, none⟩ = some (.slice none 0 0) := cellB hRb2 rfl
  have t2 : W2.cell? ⟨w.heap.size + 3, 2, none⟩ = some (.int .i64 0) := cellB hRb2 rfl
  have i0 : W2.frozen? ⟨w.heap.size + 2, 0, none⟩ = false := frozenB hRa2 0
  have i1 : W2.frozen? ⟨w.heap.size + 2, 1, none⟩ = false := frozenB hRa2 1
  have i2 : W2.frozen? ⟨w.heap.size + 2, 2, none⟩ = false := frozenB hRa2 2
  have r0 : W2.frozen? ⟨w.heap.size + 3, 0, none⟩ = false := frozenB hRb2 0
  have r1 : W2.frozen? ⟨w.heap.size + 3, 1, none⟩ = false := frozenB hRb2 1
  have r2 : W2.frozen? ⟨w.heap.size + 3, 2, none⟩ = false := frozenB hRb2 2
  have X0 : W2.drew.cell? ⟨Va, 0, none⟩ = some (.bool a0) := cellB hV rfl
  have X1 : W2.drew.cell? ⟨Va, 1, none⟩ = some (.slice p0 m0 k0) := cellB hV rfl
  have X2 : W2.drew.cell? ⟨Va, 2, none⟩ = some (.int .i64 a2) := cellB hV rfl
  have Y0 : W2.drew.cell? ⟨Vb, 0, none⟩ = some (.bool b0) := cellB hU rfl
  have Y1 : W2.drew.cell? ⟨Vb, 1, none⟩ = some (.slice q0 n0 j0) := cellB hU rfl
  have Y2 : W2.drew.cell? ⟨Vb, 2, none⟩ = some (.int .i64 b2) := cellB hU rfl
  have U0 : W2.drew.cell? ⟨w.heap.size + 2, 0, none⟩ = some (.bool false) := cellB hRa2 rfl
  have U1 : W2.drew.cell? ⟨w.heap.size + 2, 1, none⟩ = some (.slice none 0 0) := cellB hRa2 rfl
  have U2 : W2.drew.cell? ⟨w.heap.size + 2, 2, none⟩ = some (.int .i64 0) := cellB hRa2 rfl
  have T0 : W2.drew.cell? ⟨w.heap.size + 3, 0, none⟩ = some (.bool false) := cellB hRb2 rfl
  have T1 : W2.drew.cell? ⟨w.heap.size + 3, 1, none⟩ = some (.slice none 0 0) := cellB hRb2 rfl
  have T2 : W2.drew.cell? ⟨w.heap.size + 3, 2, none⟩ = some (.int .i64 0) := cellB hRb2 rfl
  have I0 : W2.drew.frozen? ⟨w.heap.size + 2, 0, none⟩ = false := frozenB hRa2 0
  have I1 : W2.drew.frozen? ⟨w.heap.size + 2, 1, none⟩ = false := frozenB hRa2 1
  have I2 : W2.drew.frozen? ⟨w.heap.size + 2, 2, none⟩ = false := frozenB hRa2 2
  have R0 : W2.drew.frozen? ⟨w.heap.size + 3, 0, none⟩ = false := frozenB hRb2 0
  have R1 : W2.drew.frozen? ⟨w.heap.size + 3, 1, none⟩ = false := frozenB hRb2 1
  have R2 : W2.drew.frozen? ⟨w.heap.size + 3, 2, none⟩ = false := frozenB hRb2 2
  replace hV := Lib.hid hV
  replace hU := Lib.hid hU
  replace hRa2 := Lib.hid hRa2
  replace hRb2 := Lib.hid hRb2
  replace hC2 := Lib.hid hC2
  replace hC2' := Lib.hid hC2'
  replace hC02 := Lib.hid hC02
  replace hf2 := Lib.hid hf2
  replace hc2 := Lib.hid hc2
  have l5 := hVb
  have o1 : w.heap.size + 3 < Va := by omega
  have o2 : Va < Vb := by omega
  have d1 : Va ≠ w.heap.size + 1 + 1 := by omega
  have d2 : Va ≠ w.heap.size + 1 + 1 + 1 := by omega
  have d3 : Vb ≠ w.heap.size + 1 + 1 := by omega
  have d4 : Vb ≠ w.heap.size + 1 + 1 + 1 := by omega
  have d5 : Va ≠ w.heap.size + 2 := by omega
  have d6 : Va ≠ w.heap.size + 3 := by omega
  have d7 : Vb ≠ w.heap.size + 2 := by omega
  have d8 : Vb ≠ w.heap.size + 3 := by omega
  replace l4 := Lib.hid l4
  replace hVb := Lib.hid hVb
  replace l1 := Lib.hid l1
  replace l2 := Lib.hid l2
  replace l3 := Lib.hid l3
  replace hs2 := Lib.hid hs2
  clear hb2 bl l5
  cases ok1
  all_goals
    go_region
    go_wp2
    clear x0 x1 x2 y0 y1 y2 t0 t1 t2 i0 i1 i2 r0 r1 r2 X0 X1 X2 Y0 Y1 Y2 U0 U1 U2 T0 T1 T2 I0 I1 I2 R0 R1 R2 d1 d2 d3 d4 d5 d6 d7 d8
    have hE1 := end3 hRa2.out (.bool a0) (.slice p0 m0 k0) (.int .i64 a2)
    have hch1 := chg3 W2 (w.heap.size + 2) (.bool a0) (.slice p0 m0 k0) (.int .i64 a2)
    have hRb3 := hch1.heapB hRb2.out (by omega)
    generalize ((W2.setCell ⟨w.heap.size + 2, 0, none⟩ (.bool a0)).setCell ⟨w.heap.size + 2, 1, none⟩ (.slice p0 m0 k0)).setCell ⟨w.heap.size + 2, 2, none⟩ (.int .i64 a2) = V1 at hE1 hch1 hRb3 ⊢
    have hE2 := end3 hRb3 (.bool b0) (.slice q0 n0 j0) (.int .i64 b2)
    have hch2 := chg3 V1 (w.heap.size + 3) (.bool b0) (.slice q0 n0 j0) (.int .i64 b2)
    have hE3 := hch2.heapB hE1 (by omega)
    generalize ((V1.setCell ⟨w.heap.size + 3, 0, none⟩ (.bool b0)).setCell ⟨w.heap.size + 3, 1, none⟩ (.slice q0 n0 j0)).setCell ⟨w.heap.size + 3, 2, none⟩ (.int .i64 b2) = V2 at hE2 hE3 hch2 ⊢
    have g0 : V2.cell? ⟨w.heap.size + 1 + 1, 0, none⟩ = some (.bool a0) := cellB hE3 rfl
    have g1 : V2.cell? ⟨w.heap.size + 1 + 1, 1, none⟩ = some (.slice p0 m0 k0) := cellB hE3 rfl
    have g2 : V2.cell? ⟨w.heap.size + 1 + 1, 2, none⟩ = some (.int .i64 a2) := cellB hE3 rfl
    have g3 : V2.cell? ⟨w.heap.size + 1 + 1 + 1, 0, none⟩ = some (.bool b0) := cellB hE2 rfl
    have g4 : V2.cell? ⟨w.heap.size + 1 + 1 + 1, 1, none⟩ = some (.slice q0 n0 j0) := cellB hE2 rfl
    have g5 : V2.cell? ⟨w.heap.size + 1 + 1 + 1, 2, none⟩ = some (.int .i64 b2) := cellB hE2 rfl
    have k1 := l1.out
    have k2 := l2.out
    have k3 := l3.out
    have k4 := l4.out
    have k5 := hVb.out
    have k6 := hs2.out
    have m0' : Chg W2 V2 (fun k => k = w.heap.size + 2 ∨ k = w.heap.size + 3) := (hch1.mono (fun k _ h => .inl h)).trans (hch2.mono (fun k _ h => .inl (.inr h)))
    have m1 : Chg w2 V2.drew (fun k => k = w.heap.size + 2 ∨ k = w.heap.size + 3) := ((hC2.out.mono (fun _ _ h => h.elim)).trans (m0'.mono (fun k _ h => .inl h))).drew
    have m2 : Chg w1 V2.drew (fun k => k = w.heap.size + 2 ∨ k = w.heap.size + 3) := ((hC1.out.mono (fun _ _ h => h.elim)).trans (hc2.out.mono (fun _ _ h => h.elim))).trans (m1.mono (fun k _ h => .inl h))
    have m3 : Chg w V2.drew (fun _ => False) := (hC02.out.trans (m0'.mono (fun k _ h => .inr (by omega)))).drew
  · exact bodyPost_ret (v := .tuple #[.agg #[.bool a0, .slice p0 m0 k0, .int .i64 a2], .agg #[.bool b0, .slice q0 n0 j0, .int .i64 b2], .bool false]) (by simp [results, Tryz.results28, go_sem, g0, g1, g2, g3, g4, g5]) rfl
      ⟨_, _, _, _, _, _, _, _, _, _, _, rfl, ⟨m3.os, m3.tape, m3.output, m3.size, fun k hk => m3.block k hk (fun h => h)⟩, (fun h => by cases h)⟩
  · exact bodyPost_ret (v := .tuple #[.agg #[.bool a0, .slice p0 m0 k0, .int .i64 a2], .agg #[.bool b0, .slice q0 n0 j0, .int .i64 b2], .bool ok2]) (by simp [results, Tryz.results28, go_sem, g0, g1, g2, g3, g4, g5]) rfl
      ⟨_, _, _, _, _, _, _, _, _, _, _, rfl, ⟨m3.os, m3.tape, m3.output, m3.size, fun k hk => m3.block k hk (fun h => h)⟩, (fun h => ⟨(hf1.out (by simp)).chg hC0.out m2 (fun k h => by omega), (hf2.out h).chg hC01.out m1 (fun k h => by omega)⟩)⟩
end Go.Proofs.YtcoljeafgiemkaaGreatDoor

namespace Go.Proofs.YtcoljeafgiemkaaGreatDoor
open Go Go.RowKit

theorem sign_c (w : World) (n : Bool) (p : Option Addr) (m cc : Nat) (e : Int) :
    Calls Tryz.prog 25 #[.agg #[.bool n, .slice p m cc, .int .i64 e]] w fun E w' => E = .returned (.int .i64 (if m = 0 then 0 else if n then -1 else 1)) ∧ Below w.heap.size w w' := by
  go_enter Tryz.func25, Tryz.ntmps25
  by_cases h : m = 0
  · subst h
    go_wp2
    go_ret
    exact ⟨rfl, (Below.refl _ _).alloc (Nat.le_refl _) _⟩
  · have e0 : ((m : Int) == 0) = false := by simp; omega
    cases n with
    | true =>
      go_wp2
      go_ret
      exact ⟨by simp, (Below.refl _ _).alloc (Nat.le_refl _) _⟩
    | false =>
      go_wp2
      go_ret
      exact ⟨by simp, (Below.refl _ _).alloc (Nat.le_refl _) _⟩
end Go.Proofs.YtcoljeafgiemkaaGreatDoor

namespace Go.Proofs.YtcoljeafgiemkaaGreatDoor
open Go Go.RowKit

/-- Blocks that hold plain data: place, contents, type. -/
def Bxs : List (Nat × Array Value × TypeId) → World → Prop
  | [], _ => True
  | (k, cs, T) :: L, w => w.heap[k]? = some (.cells cs T (0, 0)) ∧ Bxs L w
theorem Bxs.new {w w' : World} (hb : Below w.heap.size w w') : ∀ {L : List (Nat × Array Value × TypeId)}, Bxs L w → Bxs L w'
  | [], _ => trivial
  | (_, _, _) :: _, h => ⟨bkeep hb h.1, Bxs.new hb h.2⟩
theorem Bxs.add {L : List (Nat × Array Value × TypeId)} {w W : World} (h : Bxs L w) {cs : Array Value} {T : TypeId} (hW : w.alloc (.cells cs T (0, 0)) = W) : Bxs ((w.heap.size, cs, T) :: L) W ∧ Below w.heap.size w W ∧ W.heap.size = w.heap.size + 1 := by
  subst hW
  have hb : Below w.heap.size w (w.alloc (.cells cs T (0, 0))) := (Below.refl _ _).alloc (Nat.le_refl _) _
  exact ⟨⟨allocB _ _, Bxs.new hb h⟩, hb, by simp⟩
/-- A block is written. -/
theorem Bxs.chg {w w' : World} {S : Nat → Prop} (hc : Chg w w' S) : ∀ {L : List (Nat × Array Value × TypeId)}, (∀ t, t ∈ L → ¬ S t.1) → Bxs L w → Bxs L w'
  | [], _, _ => trivial
  | (k, cs, T) :: _, hS, h => ⟨hc.heapB h.1 (hS (k, cs, T) (List.mem_cons_self ..)), Bxs.chg hc (fun t ht => hS t (List.mem_cons_of_mem _ ht)) h.2⟩
theorem sgn_ne (o : Bool) {sg : Int} (h : (if o then -1 else 1) = sg) : (sg == 0) = false := by
  subst h; cases o <;> rfl
theorem Bxs.drew {L : List (Nat × Array Value × TypeId)} {w : World} (h : Bxs L w) : Bxs L w.drew := Bxs.new (Below.drw (Below.refl _ _)) h
theorem Bxs.lt {w : World} : ∀ {L : List (Nat × Array Value × TypeId)}, Bxs L w → ∀ t, t ∈ L → t.1 < w.heap.size
  | [], _, _, ht => by cases ht
  | (k, cs, T) :: L, h, t, ht => by
    rcases List.mem_cons.1 ht with rfl | ht
    · exact ltB h.1
    · exact Bxs.lt h.2 t ht
theorem Bxs.box {L : List (Nat × Array Value × TypeId)} {w0 w w' : World} {k : Nat} (h0 : Bxs L w0) (h : Bxs L w) (hc : Chg w w' (fun j => j = k)) (hk : w0.heap.size ≤ k) : Bxs L w' :=
  h.chg hc (fun t ht he => by have := h0.lt t ht; omega)
end Go.Proofs.YtcoljeafgiemkaaGreatDoor
