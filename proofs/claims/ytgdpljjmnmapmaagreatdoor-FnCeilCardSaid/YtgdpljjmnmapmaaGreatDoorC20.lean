/- The reference's natural numbers: bits, a power of 2, times a power of 2. The reference's natural numbers: quotient and remainder; a power. The reference's natural numbers: how many figures; when a magnitude is made one greater. The reference's rounding: Cut, Rounded. The reference's rounding to so many figures. The reference's values: a smaller exponent. The reference's values: the opposite, sums. -/
import Derived.Laws.BytesArg
import Derived.Test.YtgdpljjmnmapmaaGreatDoorC10
import Derived.Test.YtgdpljjmnmapmaaGreatDoorC16
namespace Go.Proofs.YtgdpljjmnmapmaaGreatDoor
open Go Go.RowKit

theorem nbits_half {t : Nat} (h : t ≠ 0) : nbits (t / 2) + 1 = nbits t := by
  have h1 := nbits_lt t
  have h2 := nbits_ge h
  have h3 := nbits_pos h
  obtain ⟨m, hm⟩ : ∃ m, nbits t = m + 1 := ⟨nbits t - 1, by omega⟩
  rw [hm] at h1 h2 ⊢
  rw [Nat.add_sub_cancel] at h2
  rw [Nat.pow_succ] at h1
  by_cases h0 : m = 0
  · subst h0
    obtain rfl : t = 1 := by omega
    rfl
  · obtain ⟨q, rfl⟩ : ∃ q, m = q + 1 := ⟨m - 1, by omega⟩
    have e : nbits (t / 2) = q + 1 := by
      refine nbits_eq (by omega) ?_ (by omega)
      rw [Nat.add_sub_cancel]
      rw [Nat.pow_succ] at h2
      omega
    rw [e]
theorem d16_pos {n : Nat} (h : n ≠ 0) : 0 < (d16 n).length := Nat.pos_of_ne_zero (fun e => h ((dB_eq_nil two16).1 (List.length_eq_zero_iff.1 e)))
theorem d16_top {n : Nat} (h : n ≠ 0) : nth (d16 n) ((d16 n).length - 1) ≠ 0 ∧ n = vB 65536 ((d16 n).take ((d16 n).length - 1)) + 65536 ^ ((d16 n).length - 1) * nth (d16 n) ((d16 n).length - 1) ∧ vB 65536 ((d16 n).take ((d16 n).length - 1)) < 65536 ^ ((d16 n).length - 1) := by
  have hl := d16_pos h
  obtain ⟨k, hk⟩ : ∃ k, (d16 n).length = k + 1 := ⟨(d16 n).length - 1, by omega⟩
  rw [hk, Nat.add_sub_cancel]
  have h1 := vB_take1 (B := 65536) (d16 n) k
  rw [vB_take_all (by omega), d16_val] at h1
  have h2 := vB_lt ((d16_dg n).take k)
  rw [List.length_take, Nat.min_eq_left (by omega)] at h2
  refine ⟨fun h0 => ?_, h1, h2⟩
  rw [h0, Nat.mul_zero, Nat.add_zero] at h1
  have : (d16 n).length ≤ k := (dB_len_le two16 (n := n) (k := k)).2 (by omega)
  omega
theorem nbits_d16 {n : Nat} (h : n ≠ 0) : nbits n = 16 * ((d16 n).length - 1) + nbits (nth (d16 n) ((d16 n).length - 1)) := by
  obtain ⟨h1, h2, h3⟩ := d16_top h
  generalize nth (d16 n) ((d16 n).length - 1) = t at *
  generalize vB 65536 ((d16 n).take ((d16 n).length - 1)) = v at *
  generalize (d16 n).length - 1 = k at *
  have e : 65536 ^ k = 2 ^ (16 * k) := by rw [Nat.pow_mul]
  rw [e] at h2 h3
  have b1 := nbits_lt t
  have b2 := nbits_ge h1
  have b3 := nbits_pos h1
  refine nbits_eq (by omega) ?_ ?_
  · rw [show 16 * k + nbits t - 1 = 16 * k + (nbits t - 1) by omega, Nat.pow_add]
    have := Nat.mul_le_mul_left (2 ^ (16 * k)) b2
    omega
  · rw [Nat.pow_add]
    have := Nat.mul_le_mul_left (2 ^ (16 * k)) (Nat.succ_le_of_lt b1)
    rw [Nat.mul_succ] at this
    omega
theorem nbits_16 {t : Nat} (h : t < 65536) : nbits t ≤ 16 := nbits_le_iff.2 h

set_option maxRecDepth 20000 in
set_option maxHeartbeats 2000000 in
theorem lenD_c (w : World) (A : Option Addr) (l c N : Nat) (hX : RdD w A l c (d16 N)) (hl : l ≤ 1000000) :
    Calls Tryz.prog 80 #[.slice A l c] w fun e w' => e = .returned (.int .i64 (nbits N : Int)) ∧ w = w' := by
  have hlx := hX.len
  by_cases h0 : N = 0
  · subst h0
    have hl0 : l = 0 := by rw [← hlx, show d16 0 = [] from dB_zero two16]; rfl
    subst hl0
    clear hX hlx
    go_enter Tryz.func80, Tryz.ntmps80
    go_wp2
    go_ret
    exact ⟨rfl, rfl⟩
  · have hb := nbits_d16 h0
    have hp := d16_pos h0
    rw [hlx] at hb hp
    obtain ⟨j, rfl⟩ : ∃ j, l = j + 1 := ⟨l - 1, by omega⟩
    rw [Nat.add_sub_cancel] at hb
    obtain ⟨ad, rfl, ca⟩ := hX.at (Below.refl _ w) (k := j) (by omega)
    obtain ⟨x, hx⟩ : ∃ x, nth (d16 N) j = x := ⟨_, rfl⟩
    have hxb : x < 65536 := by rw [← hx]; exact d16_nth N j
    rw [hx] at ca hb
    have hnb := nbits_16 hxb
    obtain ⟨nb, hnbe⟩ : ∃ nb, nbits x = nb := ⟨_, rfl⟩
    rw [hnbe] at hb hnb
    obtain ⟨R, hR⟩ : ∃ R, nbits N = R := ⟨_, rfl⟩
    rw [hR] at hb ⊢
    have e0 : ((j : Int) + 1 == 0) = false := by simp; omega
    replace hx := Lib.hid hx
    replace hR := Lib.hid hR
    replace hb := Lib.hid hb
    replace hnbe := Lib.hid hnbe
    clear hX hlx hp
    go_enter Tryz.func80, Tryz.ntmps80
    go_wp2
    go_loop [3, 4] (fun n t => ∃ q r : Nat, n = .int .i64 ((16 * j + q : Nat) : Int) ∧ t = .int .i64 (r : Int) ∧ q + nbits r = nb ∧ r < 65536) (fun _ t => (intOf t).toNat)
    case atStart => exact ⟨0, x, by simp, rfl, by rw [hnbe.out]; omega, hxb⟩
    case round =>
      obtain ⟨q, r, rfl, rfl, hq, hr⟩ := hrel
      by_cases h : r = 0
      · subst h
        have hq : q = nb := by rw [nbits_zero] at hq; omega
        subst hq
        have e1 : ((16 * j + q : Nat) : Int) = (R : Int) := by rw [hb.out]
        rw [e1]
        replace e1 := Lib.hid e1
        go_wp2
        go_ret
        exact ⟨rfl, rfl⟩
      · have h1 : 1 ≤ r := by omega
        have hh := nbits_half h
        have hq1 : q + 1 + nbits (r / 2) = nb := by omega
        have hq2 : q ≤ nb := by omega
        have hs : ((16 * j + q : Nat) : Int) + 1 = ((16 * j + (q + 1) : Nat) : Int) := by omega
        have hle : ((16 * j + q : Nat) : Int) ≤ 17000000 := by omega
        have hge : 0 ≤ ((16 * j + q : Nat) : Int) := by omega
        generalize ((16 * j + q : Nat) : Int) = s at hs hle hge ⊢
        replace hq1 := Lib.hid hq1
        replace hs := Lib.hid hs
        clear hq hh
        go_wp2
        go_round
        case rel => exact ⟨q + 1, r / 2, by rw [hs.out], by go_num, hq1.out, by omega⟩
        case measure => simp [intOf]; omega

theorem vB_bit (i : Nat) : d16 (2 ^ i) = (List.replicate (i / 16 + 1) 0).set (i / 16) (2 ^ (i % 16)) ∧ 2 ^ (i % 16) < 65536 := by
  have h16 : 2 ^ (i % 16) ≤ 2 ^ 15 := Nat.pow_le_pow_right (by decide) (by omega)
  have hb : 2 ^ (i % 16) < 65536 := by omega
  have h1 := vB_set (B := 65536) (l := List.replicate (i / 16 + 1) 0) (k := i / 16) (by simp) (2 ^ (i % 16))
  rw [nth_zeros, vB_zeros, Nat.mul_zero, Nat.add_zero, Nat.zero_add, two_pow16] at h1
  refine ⟨?_, hb⟩
  rw [← h1]
  refine dB_of two16 ((DgB.zeros (by decide) _).set _ hb) (.inr ?_)
  rw [List.length_set, List.length_replicate, Nat.add_sub_cancel, setD_eq (by simp)]
  exact Nat.pos_iff_ne_zero.1 (Nat.pow_pos (by decide))
set_option maxRecDepth 20000 in
set_option maxHeartbeats 2000000 in
theorem bitD_c (w : World) (i : Nat) (hi : i ≤ 1000000) :
    Calls Tryz.prog 83 #[.int .i64 (i : Int)] w fun e w' => ∃ p n cc, e = .returned (.slice p n cc) ∧ DRes w w' p n cc (2 ^ i) := by
  obtain ⟨hv, hb⟩ := vB_bit i
  obtain ⟨q, hq⟩ : ∃ q, i / 16 = q := ⟨_, rfl⟩
  obtain ⟨r, hr⟩ : ∃ r, i % 16 = r := ⟨_, rfl⟩
  have hq2 : (i : Int) / 16 = (q : Int) := by omega
  have hr2 : (i : Int) % 16 = (r : Int) := by omega
  have hrl : r < 16 := by omega
  rw [hq, hr] at hv
  rw [hr] at hb
  have hmk := fun w => run_makeI w (l := (q : Int) + 1) (l' := q + 1) (by omega) (by omega)
  have haz := arrD_zero w (q + 1)
  have fz := haz.frozen q
  have cz := haz.cell (i := q) (by simp)
  rw [nth_zeros] at cz
  have h2 := haz.set q (s := 2 ^ r) (x := 2 ^ r) (by simp) hb
  have hbl : (1 : Int) * 2 ^ r ≤ 65536 := by
    have : ((2 ^ r : Nat) : Int) ≤ 65536 := by omega
    simpa using this
  have hbg : 0 ≤ (1 : Int) * 2 ^ r := by
    have : 0 ≤ ((2 ^ r : Nat) : Int) := Int.natCast_nonneg _
    simpa using this
  rw [← hv] at h2
  replace hv := Lib.hid hv
  have hwr : IntKind.i64.wrap ((1 : Int) * 2 ^ r) = (1 : Int) * 2 ^ r := IntWalk.i64_in _ (by omega)
  replace h2 := Lib.hid h2
  replace haz := Lib.hid haz
  clear hq hr
  go_enter Tryz.func83, Tryz.ntmps83
  go_wp2
  go_ret
  exact ⟨_, q + 1, _, rfl, h2.out.rd (by rw [hv.out, List.length_set, List.length_replicate]) (by omega), fun ad ha => by cases ha; exact Nat.le_refl _, ((Below.refl _ _).alloc (Nat.le_refl _) _).setCell (Nat.le_refl _) _⟩

set_option maxRecDepth 20000 in
set_option maxHeartbeats 4000000 in
theorem shlD_c (w : World) (A : Option Addr) (l c N i : Nat) (hX : RdD w A l c (d16 N)) (hl : l ≤ 1000000) (hi : i ≤ 1000000) (h0 : N ≠ 0) :
    Calls Tryz.prog 81 #[.slice A l c, .int .i64 (i : Int)] w fun e w' => ∃ p n cc, e = .returned (.slice p n cc) ∧ DRes w w' p n cc (N * 2 ^ i) := by
  have hlx := hX.len
  have hp := d16_pos h0
  rw [hlx] at hp
  have e0 : ((l : Int) == 0) = false := by simp; omega
  have hpow := two_pow16 i
  obtain ⟨q, hq⟩ : ∃ q, i / 16 = q := ⟨_, rfl⟩
  obtain ⟨r, hr⟩ : ∃ r, i % 16 = r := ⟨_, rfl⟩
  have hq2 : (i : Int) / 16 = (q : Int) := by omega
  have hr2 : (i : Int) % 16 = (r : Int) := by omega
  have hrl : r < 16 := by omega
  have hql : q ≤ 1000000 := by omega
  rw [hq, hr] at hpow
  have hmk := fun w => run_makeI w (l := (q : Int) + (l : Int) + 1) (l' := q + l + 1) (by omega) (by omega)
  have haz := arrD_zero w (q + l + 1)
  obtain ⟨g, hge⟩ : ∃ g, w.heap.size = g := ⟨_, rfl⟩
  have hgw : w.heap.size ≤ g := Nat.le_of_eq hge
  replace hge := Lib.hid hge
  replace haz := Lib.hid haz
  replace hX := Lib.hid hX
  replace hlx := Lib.hid hlx
  replace hpow := Lib.hid hpow
  clear hq hr hp
  go_enter Tryz.func81, Tryz.ntmps81
  go_wp2
  rw [hge.out]
  clear hmk
  go_loopw [21] (fun i wr => ∃ (k : Nat) (O : List Nat), k ≤ l ∧ i = .int .i64 k ∧ Below w.heap.size w wr ∧ ArrD wr g O ∧ O.length = q + l + 1 ∧ vB 65536 O = 65536 ^ q * (2 ^ r * vB 65536 ((d16 N).take k)) ∧ nth O (q + k) < 2 ^ r ∧ (∀ j, q + k < j → nth O j = 0)) (fun i _ => l - (intOf i).toNat)
  case atStart =>
    refine ⟨0, List.replicate (q + l + 1) 0, Nat.zero_le _, rfl, (Below.refl _ _).alloc (Nat.le_refl _) _, ?_, by simp, by rw [vB_zeros]; simp, by rw [nth_zeros]; exact Nat.pow_pos (by decide), fun j _ => nth_zeros _ _⟩
    have := haz.out
    rw [hge.out] at this
    exact this
  case round =>
    obtain ⟨k, O, hk, rfl, hb, hO, hOl, hv, hlt2, hz⟩ := hrel
    by_cases hlt : k < l
    · obtain ⟨x, hx⟩ : ∃ x, nth (d16 N) k = x := ⟨_, rfl⟩
      have hxb : x < 65536 := by rw [← hx]; exact d16_nth N k
      obtain ⟨ada, rfl, ca⟩ := hX.out.at hb hlt
      rw [hx] at ca
      obtain ⟨z, hze⟩ : ∃ z, nth O (q + k) = z := ⟨_, rfl⟩
      have cz := hO.cell (i := q + k) (by omega)
      rw [hze] at cz hlt2
      have fz := hO.frozen (q + k)
      have fz1 := hO.frozen (q + k + 1)
      have cz1 := hO.cell (i := q + k + 1) (by omega)
      rw [hz _ (by omega)] at cz1
      obtain ⟨b1, b2, b3, b4⟩ := shlD_bd hrl hxb hlt2
      have hst := shlD_step (a := d16 N) (O := O) (i := k) (q := q) (r := r) (by omega) (hz _ (by omega)) hv
      rw [hze, hx] at hst
      have hset1 := fun (s : Int) hs => hO.set (q + k) (s := s) (x := z + x * 2 ^ r % 65536) hs b1
      have hl3 : ((O.set (q + k) (z + x * 2 ^ r % 65536)).set (q + k + 1) (x * 2 ^ r / 65536)).length = q + l + 1 := by rw [List.length_set, List.length_set]; exact hOl
      have hlt3 : nth ((O.set (q + k) (z + x * 2 ^ r % 65536)).set (q + k + 1) (x * 2 ^ r / 65536)) (q + (k + 1)) < 2 ^ r := by rw [← Nat.add_assoc, setD_eq (by rw [List.length_set]; omega)]; exact b2
      have hz3 : ∀ j, q + (k + 1) < j → nth ((O.set (q + k) (z + x * 2 ^ r % 65536)).set (q + k + 1) (x * 2 ^ r / 65536)) j = 0 := fun j hj => by rw [setD_ne (by omega), setD_ne (by omega)]; exact hz j (by omega)
      have b5 : x * 2 ^ r / 65536 < 65536 := by omega
      have hxe : (x : Int) * 2 ^ r = ((x * 2 ^ r : Nat) : Int) := by simp
      generalize x * 2 ^ r = y at *
      replace hset1 := Lib.hid hset1
      replace hl3 := Lib.hid hl3
      replace hlt3 := Lib.hid hlt3
      replace hz3 := Lib.hid hz3
      replace hst := Lib.hid hst
      replace hx := Lib.hid hx
      replace hze := Lib.hid hze
      replace hb := Lib.hid hb
      replace b5 := Lib.hid b5
      clear hO hOl hv hz hlt2 b2 b4
      go_wp2
      go_roundw
      case rel =>
        exact ⟨k + 1, _, by omega, by go_num, (hb.out.setCell hgw _).setCell hgw _, (hset1.out _ (by omega)).set (q + k + 1) (by omega) b5.out, hl3.out, hst.out, hlt3.out, hz3.out⟩
      case measure => simp [intOf]; omega
    · obtain rfl : k = l := by omega
      have k1 := trimArr hb hO hgw hOl (by omega) (N := N * 2 ^ i) (by rw [hv, vB_take_all (by rw [hlx.out]; exact Nat.le_refl _), d16_val, ← hpow.out, Nat.mul_comm N, Nat.mul_assoc])
      replace k1 := Lib.hid k1
      clear hb hO hOl hv hz hlt2
      go_wp2_with fail
      with_reducible refine k1.out.mono ?_
      rintro E w' ⟨hw, q, rfl, hr⟩
      obtain rfl := hw
      go_wp2
      go_ret
      exact ⟨_, q, _, rfl, hr⟩
end Go.Proofs.YtgdpljjmnmapmaaGreatDoor

namespace Go.Proofs.YtgdpljjmnmapmaaGreatDoor
open Go Go.RowKit

theorem DRes.later {w w1 w2 : World} {p : Option Addr} {m cc N : Nat} (h : DRes w w1 p m cc N) (hb : Below w1.heap.size w1 w2) : DRes w w2 p m cc N := ⟨h.rd.below hb, h.loc, h.bel.trans (hb.mono h.bel.size)⟩
theorem DRes.early {w w1 w2 : World} {p : Option Addr} {m cc N : Nat} (h : DRes w1 w2 p m cc N) (hb : Below w.heap.size w w1) : DRes w w2 p m cc N := ⟨h.rd, fun ad ha => Nat.le_trans hb.size (h.loc ad ha), hb.trans (h.bel.mono hb.size)⟩
theorem DRes.eq {w w1 : World} {p : Option Addr} {m cc N M : Nat} (h : DRes w w1 p m cc N) (e : N = M) : DRes w w1 p m cc M := by subst e; exact h
theorem addz (ad : Addr) : ad.add 0 = ad := by unfold Addr.add; split <;> simp_all
theorem brise {w w1 w2 : World} (h : Below w.heap.size w w1) (h' : Below w1.heap.size w1 w2) : Below w.heap.size w w2 := h.trans (h'.mono h.size)
theorem Below.drwS {w : World} (n : Nat) : Below w.heap.size w (w.drewN n) := Below.drwN (Below.refl _ _) n
/-- A row that is new, or the old one. -/
def DOr (w w' : World) (A : Option Addr) (l c N : Nat) (p : Option Addr) (m cc R : Nat) : Prop := DRes w w' p m cc R ∨ (p = A ∧ m = l ∧ cc = c ∧ R = N)
theorem DOr.rd {w w' : World} {A : Option Addr} {l c N : Nat} {p : Option Addr} {m cc R : Nat} (h : DOr w w' A l c N p m cc R) (hX : RdD w A l c (d16 N)) (hb : Below w.heap.size w w') : RdD w' p m cc (d16 R) := by
  rcases h with h | ⟨rfl, rfl, rfl, rfl⟩
  · exact h.rd
  · exact hX.below hb
theorem DOr.later {w w1 w2 : World} {A : Option Addr} {l c N : Nat} {p : Option Addr} {m cc R : Nat} (h : DOr w w1 A l c N p m cc R) (hb : Below w1.heap.size w1 w2) : DOr w w2 A l c N p m cc R := by
  rcases h with h | h
  · exact .inl (h.later hb)
  · exact .inr h
/-- What DivMod hands back. -/
def DmRes (w w' : World) (A : Option Addr) (l c N M : Nat) (E : Ending) : Prop :=
  ∃ p n cc q k e, E = .returned (.tuple #[.slice p n cc, .slice q k e]) ∧ DRes w w' p n cc (N / M) ∧ DOr w w' A l c N q k e (N % M)
theorem d16_len_pow (b j : Nat) (h : b < 65536) : (d16 (b ^ j)).length ≤ j + 1 := by
  refine (dB_len_le two16).2 (Nat.lt_of_le_of_lt (Nat.pow_le_pow_left (Nat.le_of_lt h) j) ?_)
  exact Nat.pow_lt_pow_right (by decide) (by omega)
theorem d16_len_small {b : Nat} (h : b < 65536) : (d16 b).length ≤ 1 := (dB_len_le two16).2 (by simpa using h)
theorem d16_nbits {n k : Nat} (h : (d16 n).length ≤ k) : nbits n ≤ 16 * k := by
  refine nbits_le_iff.2 (Nat.lt_of_lt_of_le ((dB_len_le two16).1 h) ?_)
  rw [Nat.pow_mul]
  exact Nat.le_refl _
theorem d16_one {M : Nat} (h : (d16 M).length = 1) : M = nth (d16 M) 0 := by
  have h1 := vB_take1 (B := 65536) (d16 M) 0
  rw [vB_take_all (by omega), d16_val] at h1
  simpa using h1
theorem ord3_le {a b : Nat} : ord3 a b ≤ 0 ↔ a ≤ b := by
  unfold ord3; split
  · omega
  · split <;> omega
theorem ord3_zero {a b : Nat} : ord3 a b = 0 ↔ a = b := by
  unfold ord3; split
  · omega
  · split <;> omega

set_option maxRecDepth 20000 in
set_option maxHeartbeats 4000000 in
theorem dm1_c (w : World) (A B : Option Addr) (l c d N M : Nat) (hX : RdD w A l c (d16 N)) (hY : RdD w B 1 d (d16 M)) (hM : M ≠ 0) (hl : l ≤ 1000000) :
    Calls Tryz.prog 44 #[.slice A l c, .slice B 1 d] w fun e w' => DmRes w w' A l c N M e := by
  have hy1 := d16_one hY.len
  obtain ⟨adb, rfl, cb⟩ := hY.at (Below.refl _ w) (k := 0) (by omega)
  rw [← hy1] at cb
  rw [addz] at cb
  have hM2 : M < 65536 := by rw [hy1]; exact d16_nth M 0
  have kb := byD_c w A l c N M hX hl (by omega) hM2
  have hrl := Nat.mod_lt N (show 0 < M by omega)
  unfold DmRes
  generalize N % M = r at hrl kb ⊢
  have ks := fun w => smallD_c w r (by omega)
  replace kb := Lib.hid kb
  replace ks := Lib.hid ks
  replace hy1 := Lib.hid hy1
  clear hX hY
  go_enter Tryz.func44, Tryz.ntmps44
  go_wp2_with fail
  with_reducible refine kb.out.mono ?_
  rintro E w1 ⟨p, n, cc, rfl, h1⟩
  replace h1 := Lib.hid h1
  go_wp2_with fail
  with_reducible refine (ks.out _).mono ?_
  rintro E w2 ⟨q, k, e, rfl, h2⟩
  replace h2 := Lib.hid h2
  go_wp2
  go_ret2
  exact ⟨p, n, cc, q, k, e, rfl, h1.out.later h2.out.bel, .inl (h2.out.early h1.out.bel)⟩

set_option maxRecDepth 20000 in
set_option maxHeartbeats 8000000 in
theorem dm2_c (w : World) (A B : Option Addr) (l c m d N M : Nat) (hX : RdD w A l c (d16 N)) (hY : RdD w B m d (d16 M)) (hM : M ≠ 0) (hm1 : m ≠ 1) (hl : l ≤ 1000) (hm : m ≤ 1000) :
    Calls Tryz.prog 44 #[.slice A l c, .slice B m d] w fun e w' => DmRes w w' A l c N M e := by
  have e1 : ((m : Int) == 1) = false := by simp; omega
  have hlx := hX.len
  have hly := hY.len
  have hNb : nbits N ≤ 16000 := d16_nbits (k := 1000) (by rw [hlx]; exact hl)
  have hMb : nbits M ≤ 16000 := d16_nbits (k := 1000) (by rw [hly]; exact hm)
  have hst : N < M * 2 ^ ((nbits N : Int) - (nbits M : Int) + 1).toNat := by
    have h1 := nbits_lt N
    have h2 := nbits_ge hM
    have h3 := nbits_pos hM
    rcases Nat.lt_or_ge (nbits N) (nbits M) with h | h
    · rw [show ((nbits N : Int) - (nbits M : Int) + 1).toNat = 0 by omega, Nat.pow_zero, Nat.mul_one]
      exact Nat.lt_of_lt_of_le h1 (Nat.le_trans (Nat.pow_le_pow_right (by decide) (by omega)) h2)
    · rw [show ((nbits N : Int) - (nbits M : Int) + 1).toNat = nbits N - nbits M + 1 by omega]
      exact divB_start h1 h2 h h3
  have hmono : ∀ {a}, a ≤ N → (d16 a).length ≤ 1000 := fun h => Nat.le_trans (d16_len_mono h) (by rw [hlx]; exact hl)
  have hM1 : 0 < M := by omega
  have ka := fun W (hb : Below w.heap.size w W) => lenD_c W A l c N (hX.below hb) (by omega)
  have kb := fun W (hb : Below w.heap.size w W) => lenD_c W B m d M (hY.below hb) (by omega)
  have hW1 : Below w.heap.size w (w.alloc (.cells #[] 3 (0, 0))) := (Below.refl _ _).alloc (Nat.le_refl _) _
  have hq0 : DRes w (w.alloc (.cells #[] 3 (0, 0))) (some ⟨w.heap.size, 0, none⟩) 0 0 0 := ⟨⟨by rw [show d16 0 = [] from dB_zero two16]; rfl, Nat.le_refl _, by omega, by rw [show d16 0 = [] from dB_zero two16]; exact DgB.nil, fun h => absurd h (Nat.lt_irrefl _)⟩, fun ad ha => by cases ha; exact Nat.le_refl _, hW1⟩
  obtain ⟨g, hge⟩ : ∃ g, w.heap.size = g := ⟨_, rfl⟩
  rw [hge] at hq0
  generalize hWe : w.alloc (.cells #[] 3 (0, 0)) = W at hq0 hW1
  have ka := ka W hW1
  have kb := kb W hW1
  obtain ⟨nn, hnn⟩ : ∃ nn, nbits N = nn := ⟨_, rfl⟩
  obtain ⟨nm, hnm⟩ : ∃ nm, nbits M = nm := ⟨_, rfl⟩
  rw [hnn] at ka hst hNb
  rw [hnm] at kb hst hMb
  replace ka := Lib.hid ka
  replace kb := Lib.hid kb
  replace hX := Lib.hid hX
  replace hY := Lib.hid hY
  replace hst := Lib.hid hst
  have hmono := fun a h => @hmono a h
  replace hmono := Lib.hid hmono
  replace hlx := Lib.hid hlx
  replace hly := Lib.hid hly
  replace hM := Lib.hid hM
  replace hge := Lib.hid hge
  replace hWe := Lib.hid hWe
  replace hnn := Lib.hid hnn
  replace hnm := Lib.hid hnm
  replace hW1 := Lib.hid hW1
  replace hq0 := Lib.hid hq0
  go_enter Tryz.func44, Tryz.ntmps44
  go_wp2_with fail
  rw [hWe.out, hge.out]
  with_reducible refine (ka.out).mono ?_
  rintro E w' ⟨rfl, hw⟩
  obtain rfl := hw
  go_wp2_with fail
  with_reducible refine (kb.out).mono ?_
  rintro E w' ⟨rfl, hw⟩
  obtain rfl := hw
  go_wp2
  go_loopw [0, 8, 9] (fun a q i wr => ∃ (s : Int) (pa : Option Addr) (la ca Av : Nat) (pq : Option Addr) (lq cq Qv : Nat), i = .int .i64 s ∧ -20000 ≤ s ∧ s ≤ 20000 ∧ a = .slice pa la ca ∧ q = .slice pq lq cq ∧ DOr w wr A l c N pa la ca Av ∧ DRes w wr pq lq cq Qv ∧ Qv * M + Av = N ∧ Av < M * 2 ^ (s + 1).toNat) (fun _ _ i _ => (intOf i + 1).toNat)
  case atStart => exact ⟨(nn : Int) - (nm : Int), A, l, c, N, _, 0, 0, 0, rfl, by omega, by omega, rfl, rfl, .inr ⟨rfl, rfl, rfl, rfl⟩, hq0.out, by omega, hst.out⟩
  case round =>
    obtain ⟨s, pa, la, ca, Av, pq, lq, cq, Qv, rfl, hs1, hs2, rfl, rfl, ha, hq, he, hlt⟩ := hrel
    have hb := hq.bel
    have hAN : Av ≤ N := by omega
    have hQN : Qv ≤ N := by
      have := Nat.mul_le_mul_left Qv hM1
      omega
    by_cases h0 : s < 0
    · rw [show (s + 1).toNat = 0 by omega, Nat.pow_zero, Nat.mul_one] at hlt
      obtain ⟨e2, e3⟩ := divD_end hlt he
      have e2 := e2.symm
      have e3 := e3.symm
      replace e2 := Lib.hid e2
      replace e3 := Lib.hid e3
      replace ha := Lib.hid ha
      replace hq := Lib.hid hq
      replace he := Lib.hid he
      replace hb := Lib.hid hb
      go_wp2
      go_ret2
      exact ⟨pq, lq, cq, pa, la, ca, rfl, hq.out.eq e2.out.symm, by rw [e3.out]; exact ha.out⟩
    · obtain ⟨t, rfl⟩ : ∃ t : Nat, s = (t : Int) := ⟨s.toNat, by omega⟩
      rw [show ((t : Int) + 1).toNat = t + 1 by omega] at hlt
      have hra := ha.rd (hX.out) hb
      have hla : la ≤ 1000 := by have := hmono.out Av hAN; rw [hra.len] at this; exact this
      have hlq : lq ≤ 1000 := by have := hmono.out Qv hQN; rw [hq.rd.len] at this; exact this
      have ks := shlD_c wr B m d M t (hY.out.below hb) (by omega) (by omega) hM.out
      have kbit := fun w => bitD_c w t (by omega)
      replace ks := Lib.hid ks
      replace kbit := Lib.hid kbit
      go_wp2_with fail
      with_reducible refine ks.out.mono ?_
      rintro E w1 ⟨pd, ld, cd, rfl, hd⟩
      have kc := cmpD_c w1 pd pa ld cd la ca (M * 2 ^ t) Av hd.rd (hra.below hd.bel)
      by_cases hle : M * 2 ^ t ≤ Av
      · have hyes := divB_yes he hlt hle
        have hR := ord3_le.2 hle
        generalize ord3 (M * 2 ^ t) Av = R at hR kc
        have hra1 := hra.below (hd.bel)
        have hld : ld ≤ 1000 := by have := hmono.out (M * 2 ^ t) (by omega); rw [hd.rd.len] at this; exact this
        have ksub := fun n => subD_c (w1.drewN n) pa pd la ca ld cd Av (M * 2 ^ t) (hra1.below (Below.drwS n)) (hd.rd.below (Below.drwS n)) (by omega) (by omega) hle
        have hbd := hd.bel
        have hqd := hq.later hd.bel
        replace kc := Lib.hid kc
        replace ksub := Lib.hid ksub
        replace hbd := Lib.hid hbd
        replace hqd := Lib.hid hqd
        replace hyes := Lib.hid hyes
        replace hb := Lib.hid hb
        clear hd hra hra1 ha hq he hlt hle ks
        go_wp2_with fail
        with_reducible refine kc.out.mono ?_
        rintro E w2 ⟨rfl, n, rfl⟩
        go_wp2_with fail
        with_reducible refine (ksub.out n).mono ?_
        rintro E w3 ⟨p3, l3, c3, rfl, h3⟩
        have hb3 : Below w1.heap.size w1 w3 := brise (Below.drwS n) h3.bel
        have hq3 := hqd.out.later hb3
        have h3 := h3.early (brise (brise hb.out hbd.out) (Below.drwS n))
        replace h3 := Lib.hid h3
        replace hq3 := Lib.hid hq3
        clear hb3
        go_wp2_with fail
        with_reducible refine (kbit.out _).mono ?_
        rintro E w4 ⟨p4, l4, c4, rfl, h4⟩
        have hq4 := hq3.out.later h4.bel
        have h34 := h3.out.later h4.bel
        have hl4 : l4 ≤ 20001 := by have := d16_len_pow 2 t (by decide); rw [h4.rd.len] at this; omega
        have kadd := addD_c w4 pq p4 lq cq l4 c4 Qv (2 ^ t) hq4.rd h4.rd (by omega) (by omega)
        have hb4 := hq4.bel
        replace kadd := Lib.hid kadd
        replace h34 := Lib.hid h34
        replace hb4 := Lib.hid hb4
        clear hq4 h4
        go_wp2_with fail
        with_reducible refine kadd.out.mono ?_
        rintro E w5 ⟨p5, l5, c5, rfl, h5⟩
        have h35 := h34.out.later h5.bel
        have hq5 := h5.early hb4.out
        replace h35 := Lib.hid h35
        replace hq5 := Lib.hid hq5
        clear h5
        go_wp2
        go_roundw
        case rel =>
          refine ⟨(t : Int) - 1, p3, l3, c3, _, p5, l5, c5, _, by go_num, by omega, by omega, rfl, rfl, .inl h35.out, hq5.out, hyes.out.1, ?_⟩
          rw [show ((t : Int) - 1 + 1).toNat = t by omega]
          exact hyes.out.2
        case measure => simp [intOf]
      · have hR : 0 < ord3 (M * 2 ^ t) Av := by have := (not_congr (ord3_le (a := M * 2 ^ t) (b := Av))).2 hle; omega
        generalize ord3 (M * 2 ^ t) Av = R at hR kc
        have hlt2 : Av < M * 2 ^ t := by omega
        have ha1 := ha.later hd.bel
        have hq1 := hq.later hd.bel
        replace kc := Lib.hid kc
        replace ha1 := Lib.hid ha1
        replace hq1 := Lib.hid hq1
        replace hlt2 := Lib.hid hlt2
        replace he := Lib.hid he
        replace hb := Lib.hid hb
        clear hd hra ha hq hlt hle ks
        go_wp2_with fail
        with_reducible refine kc.out.mono ?_
        rintro E w2 ⟨rfl, n, rfl⟩
        go_wp2
        go_roundw
        case rel =>
          refine ⟨(t : Int) - 1, pa, la, ca, _, pq, lq, cq, _, by go_num, by omega, by omega, rfl, rfl, ha1.out.later (Below.drwS n), hq1.out.later (Below.drwS n), he.out, ?_⟩
          rw [show ((t : Int) - 1 + 1).toNat = t by omega]
          exact hlt2.out
        case measure => simp [intOf]
theorem divMod_c (w : World) (A B : Option Addr) (l c m d N M : Nat) (hX : RdD w A l c (d16 N)) (hY : RdD w B m d (d16 M)) (hM : M ≠ 0) (hl : l ≤ 1000) (hm : m ≤ 1000) :
    Calls Tryz.prog 44 #[.slice A l c, .slice B m d] w fun e w' => DmRes w w' A l c N M e := by
  by_cases h : m = 1
  · subst h; exact dm1_c w A B l c d N M hX hY hM (by omega)
  · exact dm2_c w A B l c m d N M hX hY hM h hl hm

set_option maxRecDepth 20000 in
set_option maxHeartbeats 4000000 in
theorem powD_c (w : World) (b n : Nat) (hb : b < 65536) (hn : n ≤ 10000) :
    Calls Tryz.prog 43 #[.int .i64 (b : Int), .int .i64 (n : Int)] w fun e w' => ∃ p m cc, e = .returned (.slice p m cc) ∧ DRes w w' p m cc (b ^ n) := by
  have k1 := smallD_c w 1 (by omega)
  have kb := fun w => smallD_c w b (by omega)
  replace k1 := Lib.hid k1
  replace kb := Lib.hid kb
  go_enter Tryz.func43, Tryz.ntmps43
  go_wp2_with fail
  refine k1.out.mono ?_
  rintro E w1 ⟨p, m, cc, rfl, h1⟩
  replace h1 := Lib.hid h1
  go_wp2
  go_loopw [1, 5] (fun i v wr => ∃ (k : Nat) (p : Option Addr) (m cc : Nat), k ≤ n ∧ i = .int .i64 (k : Int) ∧ v = .slice p m cc ∧ DRes w wr p m cc (b ^ (n - k))) (fun i _ _ => (intOf i).toNat)
  case atStart => exact ⟨n, p, m, cc, Nat.le_refl _, rfl, rfl, h1.out.eq (by rw [Nat.sub_self, Nat.pow_zero])⟩
  case round =>
    obtain ⟨k, p, m, cc, hk, rfl, rfl, hr⟩ := hrel
    clear h1
    by_cases h0 : k = 0
    · subst h0
      rw [Nat.sub_zero] at hr
      replace hr := Lib.hid hr
      go_wp2
      go_ret
      exact ⟨p, m, cc, rfl, hr.out⟩
    · obtain ⟨j, rfl⟩ : ∃ j, k = j + 1 := ⟨k - 1, by omega⟩
      have hj : ((j + 1 : Nat) : Int) = (j : Int) + 1 := by omega
      rw [hj]
      clear hj
      have hml : m ≤ 10001 := by
        have := d16_len_pow b (n - (j + 1)) hb
        rw [hr.rd.len] at this
        omega
      replace hr := Lib.hid hr
      go_wp2_with fail
      with_reducible refine (kb.out _).mono ?_
      rintro E w2 ⟨p2, m2, c2, rfl, h2⟩
      have hm2 : m2 ≤ 1 := by have := d16_len_small hb; rw [h2.rd.len] at this; exact this
      have hr2 := hr.out.later h2.bel
      have km := mulD_c w2 p p2 m cc m2 c2 _ _ hr2.rd h2.rd (by omega) (by omega)
      have hb2 := hr2.bel
      replace km := Lib.hid km
      replace hb2 := Lib.hid hb2
      clear hr2 h2 hr
      go_wp2_with fail
      with_reducible refine km.out.mono ?_
      rintro E w3 ⟨p3, m3, c3, rfl, h3⟩
      have h4 := (h3.early hb2.out).eq (M := b ^ (n - j)) (by rw [show n - j = n - (j + 1) + 1 by omega, Nat.pow_succ])
      replace h4 := Lib.hid h4
      clear h3
      go_wp2
      go_roundw
      case rel => exact ⟨j, p3, m3, c3, by omega, by go_num, rfl, h4.out⟩
      case measure => simp [intOf]
end Go.Proofs.YtgdpljjmnmapmaaGreatDoor

namespace Go.Proofs.YtgdpljjmnmapmaaGreatDoor
open Go Go.RowKit

theorem by10_c (w : World) (A : Option Addr) (l c N : Nat) (hX : RdD w A l c (d16 N)) (hl : l ≤ 1000000) :
    Calls Tryz.prog 36 #[.slice A l c, .int .i64 10] w fun e w' => ∃ p n cc, e = .returned (.tuple #[.slice p n cc, .int .i64 ((N % 10 : Nat) : Int)]) ∧ DRes w w' p n cc (N / 10) := byD_c w A l c N 10 hX hl (by decide) (by decide)
set_option maxRecDepth 20000 in
set_option maxHeartbeats 4000000 in
theorem digitsD_c (w : World) (A : Option Addr) (l c N : Nat) (hX : RdD w A l c (d16 N)) (hl : l ≤ 100000) :
    Calls Tryz.prog 25 #[.slice A l c] w fun e w' => ∃ s : ByteArray, e = .returned (.string s) ∧ s.size = figs N ∧ Below w.heap.size w w' := by
  have hlx := hX.len
  by_cases h0 : N = 0
  · subst h0
    have hl0 : l = 0 := by rw [← hlx, show d16 0 = [] from dB_zero two16]; rfl
    subst hl0
    clear hX hlx
    go_enter Tryz.func25, Tryz.ntmps25
    go_wp2
    go_ret
    exact ⟨_, rfl, rfl, Below.refl _ _⟩
  · have hp := d16_pos h0
    rw [hlx] at hp
    have e0 : ((l : Int) == 0) = false := by simp; omega
    have hmono : ∀ a, a ≤ N → (d16 a).length ≤ 100000 := fun a h => Nat.le_trans (d16_len_mono h) (by rw [hlx]; exact hl)
    have hF : figs N ≤ 5 * l := by
      refine (figs_le_iff (by omega)).2 (Nat.lt_of_lt_of_le ((dB_len_le two16 (k := l)).1 (by rw [← hlx]; exact Nat.le_refl _)) ?_)
      rw [Nat.pow_mul]
      exact Nat.pow_le_pow_left (by decide) l
    have hF0 : figs N + 0 = figs N := rfl
    generalize hFe : figs N = F at hF ⊢
    replace hX := Lib.hid hX
    replace hlx := Lib.hid hlx
    replace hmono := Lib.hid hmono
    replace hFe := Lib.hid hFe
    clear hF0
    go_enter Tryz.func25, Tryz.ntmps25
    go_wp2
    go_loopw [0, 3] (fun a s wr => ∃ (pa : Option Addr) (la ca Av k : Nat) (b : ByteArray), a = .slice pa la ca ∧ s = .string b ∧ b.size = k ∧ RdD wr pa la ca (d16 Av) ∧ Av ≤ N ∧ Below w.heap.size w wr ∧ (Av ≠ 0 → figs Av + k = F) ∧ (Av = 0 → k = F)) (fun _ s _ => match s with | .string b => F - b.size | _ => 0)
    case atStart => exact ⟨A, l, c, N, 0, _, rfl, rfl, rfl, hX.out, Nat.le_refl _, Below.refl _ _, fun _ => hFe.out, fun h => absurd h h0⟩
    case round =>
      obtain ⟨pa, la, ca, Av, k, b, rfl, rfl, hbk, hr, hAN, hb, hf1, hf2⟩ := hrel
      by_cases hA : Av = 0
      · have hk := hf2 hA
        have hl0 : la = 0 := by have := hr.len; rw [hA, show d16 0 = [] from dB_zero two16] at this; exact this.symm
        subst hl0
        replace hk := Lib.hid hk
        replace hb := Lib.hid hb
        replace hbk := Lib.hid hbk
        clear hr hf1 hf2
        go_wp2
        go_ret
        exact ⟨b, rfl, by rw [hbk.out, hk.out], hb.out⟩
      · have hf := hf1 hA
        have hfp := figs_pos Av
        have hstep1 : Av / 10 ≠ 0 → figs (Av / 10) + (k + 1) = F := fun h => by have := figs_step (n := Av) (by omega); omega
        have hstep0 : Av / 10 = 0 → k + 1 = F := fun h => by have := figs_small (n := Av) (by omega); omega
        have hkF : k + 1 ≤ F := by omega
        replace hstep1 := Lib.hid hstep1
        replace hstep0 := Lib.hid hstep0
        clear hfp
        have hla := d16_pos hA
        rw [hr.len] at hla
        have hlb : la ≤ 100000 := by have := hmono.out Av hAN; rw [hr.len] at this; exact this
        have kb := by10_c wr pa la ca Av hr (by omega)
        have hrl := Nat.mod_lt Av (show 0 < 10 by decide)
        have hlen2 : (d16 (Av / 10)).length ≤ la := by have := d16_len_mono (Nat.div_le_self Av 10); rw [hr.len] at this; exact this
        generalize hr10 : Av % 10 = r at kb hrl
        replace kb := Lib.hid kb
        replace hf := Lib.hid hf
        replace hb := Lib.hid hb
        replace hr10 := Lib.hid hr10
        clear hr hf1 hf2
        go_wp2_with fail
        with_reducible refine kb.out.mono ?_
        rintro E w1 ⟨p2, l2, c2, rfl, h2⟩
        have hb2 := h2.bel
        replace h2 := Lib.hid h2
        replace hb2 := Lib.hid hb2
        replace hbk := Lib.hid hbk
        have hcv := run_convert_bytes_arg (P := Tryz.prog) (w1.alloc (.cells #[.int .u8 (48 + (r : Int))] 5 (0, 0))) 85 5 Tryz.underlying85 Tryz.underlying5 w1.heap.size 0 1 1 [48 + (r : Int)] (by simp) (by
          intro j hj
          obtain rfl : j = 0 := by omega
          exact cellB (allocB _ _) rfl) 9 Tryz.underlying9
        have hts : (strOfNums [48 + (r : Int)]).size = 1 := by rw [strOfNums_size]; rfl
        generalize strOfNums [48 + (r : Int)] = t at hcv hts
        have hwb : Below w1.heap.size w1 (w1.alloc (.cells #[.int .u8 (48 + (r : Int))] 5 (0, 0))) := (Below.refl _ _).alloc (Nat.le_refl _) _
        have hng : ¬ 9223372036854775807 < t.size + b.size := by rw [hts, hbk.out]; omega
        have hsz : (t ++ b).size = k + 1 := by rw [ByteArray.size_append, hts, hbk.out]; omega
        replace hsz := Lib.hid hsz
        replace hts := Lib.hid hts
        replace hwb := Lib.hid hwb
        go_wp2
        go_roundw
        case rel =>
          exact ⟨p2, l2, c2, Av / 10, k + 1, t ++ b, rfl, rfl, hsz.out, h2.out.rd.below hwb.out, by omega, brise (brise hb.out hb2.out) hwb.out, hstep1.out, hstep0.out⟩
        case measure =>
          have k1 := hsz.out
          have k2 := hbk.out
          show F - (t ++ b).size < F - b.size
          omega
theorem figuresD_c (w : World) (A : Option Addr) (l c N : Nat) (hX : RdD w A l c (d16 N)) (hl : l ≤ 100000) :
    Calls Tryz.prog 10 #[.slice A l c] w fun e w' => e = .returned (.int .i64 (figs N : Int)) ∧ Below w.heap.size w w' := by
  have kd := digitsD_c w A l c N hX hl
  generalize figs N = F at kd ⊢
  replace kd := Lib.hid kd
  clear hX
  go_enter Tryz.func10, Tryz.ntmps10
  go_wp2_with fail
  with_reducible refine kd.out.mono ?_
  rintro E w1 ⟨s, rfl, hs, hb⟩
  replace hb := Lib.hid hb
  replace hs := Lib.hid hs
  go_wp2
  go_ret
  exact ⟨ret_i (by rw [hs.out]), hb.out⟩

/-- The mode that says nothing is the one that cuts. -/
theorem awayD_c (w : World) (n : Bool) (last : Nat) (half : Int) (m : Nat) (hl : last < 10) (hm : m < 8) :
    Calls Tryz.prog 45 #[.bool n, .int .i64 (last : Int), .int .i64 half, .int .i64 (m : Int)] w fun e w' => e = .returned (.bool (awayN n last half m)) ∧ w = w' := by
  rcases (by omega : m = 0 ∨ m = 1 ∨ m = 2 ∨ m = 3 ∨ m = 4 ∨ m = 5 ∨ m = 6 ∨ m = 7) with rfl | rfl | rfl | rfl | rfl | rfl | rfl | rfl
  · go_enter Tryz.func45, Tryz.ntmps45
    go_wp2
    go_ret
    exact ⟨rfl, rfl⟩
  · go_enter Tryz.func45, Tryz.ntmps45
    go_wp2
    go_ret
    exact ⟨rfl, rfl⟩
  · rcases (by omega : 0 < half ∨ half = 0 ∨ half < 0) with h | h | h
    · have e0 : awayN n last half 2 = true := by simp [awayN, h]
      rw [e0]
      clear e0
      go_enter Tryz.func45, Tryz.ntmps45
      go_wp2
      go_ret
      exact ⟨rfl, rfl⟩
    · subst h
      have e0 : awayN n last 0 2 = ((last : Int) % 2 == 1) := by
        unfold awayN
        rcases (by omega : last % 2 = 0 ∨ last % 2 = 1) with h | h
        · have h2 : (last : Int) % 2 = 0 := by omega
          simp [h, h2]
        · have h2 : (last : Int) % 2 = 1 := by omega
          simp [h, h2]
      rw [e0]
      clear e0
      go_enter Tryz.func45, Tryz.ntmps45
      go_wp2
      go_ret
      exact ⟨rfl, rfl⟩
    · have e0 : awayN n last half 2 = false := by unfold awayN; simp; omega
      have e1 : (half == 0) = false := by simp; omega
      have e2 : decide (0 < half) = false := by simp; omega
      rw [e0]
      clear e0
      go_enter Tryz.func45, Tryz.ntmps45
      go_wp2
      go_ret
      exact ⟨rfl, rfl⟩
  · go_enter Tryz.func45, Tryz.ntmps45
    go_wp2
    go_ret
    exact ⟨rfl, rfl⟩
  · go_enter Tryz.func45, Tryz.ntmps45
    go_wp2
    go_ret
    exact ⟨rfl, rfl⟩
  · go_enter Tryz.func45, Tryz.ntmps45
    go_wp2
    go_ret
    exact ⟨rfl, rfl⟩
  · go_enter Tryz.func45, Tryz.ntmps45
    go_wp2
    go_ret
    exact ⟨rfl, rfl⟩
  · have e0 : awayN n last half 7 = ((last : Int) % 5 == 0) := by
      unfold awayN
      rw [Bool.eq_iff_iff]
      simp
      omega
    rw [e0]
    clear e0
    go_enter Tryz.func45, Tryz.ntmps45
    go_wp2
    go_ret
    exact ⟨rfl, rfl⟩
end Go.Proofs.YtgdpljjmnmapmaaGreatDoor

namespace Go.Proofs.YtgdpljjmnmapmaaGreatDoor
open Go Go.RowKit

theorem pow10_c (w : World) (n : Nat) (hn : n ≤ 10000) :
    Calls Tryz.prog 43 #[.int .i64 10, .int .i64 (n : Int)] w fun e w' => ∃ p m cc, e = .returned (.slice p m cc) ∧ DRes w w' p m cc (10 ^ n) := powD_c w 10 n (by decide) hn
theorem small1_c (w : World) : Calls Tryz.prog 47 #[.int .i64 1] w fun e w' => ∃ p n cc, e = .returned (.slice p n cc) ∧ DRes w w' p n cc 1 := smallD_c w 1 (by decide)
theorem bkeep {w w' : World} {k : Nat} {cs : Array Value} {T : TypeId} (hb : Below w.heap.size w w') (h : w.heap[k]? = some (.cells cs T (0, 0))) : w'.heap[k]? = some (.cells cs T (0, 0)) := (Below.chg hb).heapB h (fun h => h)
theorem d16_len0 {n l : Nat} (h : (d16 n).length = l) : l = 0 ↔ n = 0 := by
  rw [← h, List.length_eq_zero_iff]; exact dB_eq_nil two16
/-- A value in new memory, and whether it is not exact. -/
def ValB (w w' : World) (E : Ending) (n : Bool) (e : Int) (R : Nat) (x : Bool) : Prop :=
  ∃ q a b, E = .returned (.tuple #[.agg #[.bool n, .slice q a b, .int .i64 e], .bool x]) ∧ DRes w w' q a b R
theorem bundrew {w w' : World} (h : Below w.drew.heap.size w.drew w') : Below w.heap.size w w' := ⟨h.os, h.tape, h.output, h.size, h.block⟩
theorem cutN_lt (n : Bool) (N k m : Nat) : cutN n N k m ≤ N + 1 := Nat.le_trans (cutN_le n N k m).2 (Nat.succ_le_succ (Nat.div_le_self _ _))

set_option maxRecDepth 20000 in
set_option maxHeartbeats 8000000 in
theorem cutV_c (w : World) (n : Bool) (p : Option Addr) (l c : Nat) (e : Int) (N k m : Nat) (hX : RdD w p l c (d16 N)) (hl : l ≤ 950) (hk : k ≤ 900) (hm : m < 8) (he : -1000000 ≤ e ∧ e ≤ 1000000) :
    Calls Tryz.prog 26 #[.agg #[.bool n, .slice p l c, .int .i64 e], .int .i64 (k : Int), .int .i64 (m : Int)] w fun E w' => ValB w w' E n (e + (k : Int)) (cutN n N k m) (inexN N k) := by
  have hlx := hX.len
  have hc0 : N % 10 ^ k = 0 → cutN n N k m = N / 10 ^ k ∧ inexN N k = false := fun hz => ⟨by unfold cutN; rw [if_pos hz], by unfold inexN; rw [decide_eq_true hz]; rfl⟩
  have hc1 : N % 10 ^ k ≠ 0 → awayN n (N / 10 ^ k % 10) (ord3 (N % 10 ^ k + N % 10 ^ k) (10 ^ k)) m = true → cutN n N k m = N / 10 ^ k + 1 ∧ inexN N k = true := fun hz ha => by
    rw [← Nat.two_mul] at ha
    exact ⟨by unfold cutN; rw [if_neg hz, if_pos ha], by unfold inexN; rw [decide_eq_false hz]; rfl⟩
  have hc2 : N % 10 ^ k ≠ 0 → awayN n (N / 10 ^ k % 10) (ord3 (N % 10 ^ k + N % 10 ^ k) (10 ^ k)) m = false → cutN n N k m = N / 10 ^ k ∧ inexN N k = true := fun hz ha => by
    rw [← Nat.two_mul] at ha
    exact ⟨by unfold cutN; rw [if_neg hz, if_neg (by rw [ha]; decide)], by unfold inexN; rw [decide_eq_false hz]; rfl⟩
  generalize cutN n N k m = R at hc0 hc1 hc2 ⊢
  generalize inexN N k = x at hc0 hc1 hc2 ⊢
  replace hX := Lib.hid hX
  replace hlx := Lib.hid hlx
  replace hc0 := Lib.hid hc0
  replace hc1 := Lib.hid hc1
  replace hc2 := Lib.hid hc2
  go_enter Tryz.func26, Tryz.ntmps26
  go_upto_region 1 with (fail)
  generalize hW : (w.alloc (.cells #[.bool n, .slice p l c, .int .i64 e] 29 (0, 0))).alloc (.cells #[.bool false, .slice none 0 0, .int .i64 0] 29 (0, 0)) = W
  have hB0 : Below w.heap.size w W := by rw [← hW]; exact ((Below.refl _ _).alloc (Nat.le_refl _) _).alloc (by simp) _
  have hV0 : W.heap[w.heap.size]? = some (.cells #[.bool n, .slice p l c, .int .i64 e] 29 (0, 0)) := by rw [← hW]; exact allocB_old (allocB _ _)
  have hR0 : W.heap[w.heap.size + 1]? = some (.cells #[.bool false, .slice none 0 0, .int .i64 0] 29 (0, 0)) := by rw [← hW]; exact allocB_at _ _ (by simp)
  have hsz : W.heap.size = w.heap.size + 2 := by rw [← hW]; simp
  clear hW
  have hXW := hX.out.below hB0
  have kp := pow10_c W k (by omega)
  have fin : ∀ (w9 : World) (q : Option Addr) (a b R : Nat), DRes W w9 q a b R → DRes w (((w9.setCell ⟨w.heap.size + 1, 0, none⟩ (.bool n)).setCell ⟨w.heap.size + 1, 1, none⟩ (.slice q a b)).setCell ⟨w.heap.size + 1, 2, none⟩ (.int .i64 (e + (k : Int)))) q a b R := fun w9 q a b R h =>
    h.chg (Below.chg hB0) (chg3 w9 (w.heap.size + 1) (.bool n) (.slice q a b) (.int .i64 (e + (k : Int)))) (fun j hj => ⟨by omega, .inl (by omega)⟩)
  have hew : IntKind.i64.wrap (e + (k : Int)) = e + (k : Int) := IntWalk.i64_in _ (by omega)
  replace kp := Lib.hid kp
  replace hB0 := Lib.hid hB0
  replace hV0 := Lib.hid hV0
  replace hR0 := Lib.hid hR0
  replace hsz := Lib.hid hsz
  replace hXW := Lib.hid hXW
  replace fin := Lib.hid fin
  go_wp2_with fail
  with_reducible refine kp.out.mono ?_
  rintro E w1 ⟨pp, lp, cp, rfl, hp⟩
  have hb1 := hp.bel
  have hV1 := bkeep hb1 hV0.out
  have v1 := cellB hV1 (i := 1) rfl
  have hlp : lp ≤ 901 := by have := d16_len_pow 10 k (by decide); rw [hp.rd.len] at this; omega
  have kd := divMod_c w1 p pp l c lp cp N (10 ^ k) (hXW.out.below hb1) hp.rd (Nat.pos_iff_ne_zero.1 (ten_pos k)) (by omega) (by omega)
  replace kd := Lib.hid kd
  replace hp := Lib.hid hp
  replace hb1 := Lib.hid hb1
  clear hV1 kp
  go_wp2_with fail
  with_reducible refine kd.out.mono ?_
  rintro E w2 ⟨pq, lq, cq, pr, lr, cr, rfl, hq, hr⟩
  have hb2' := hq.bel
  have hrd := hr.rd (hXW.out.below hb1.out) hb2'
  have hrl := d16_len0 hrd.len
  have hb2 := brise hb1.out hb2'
  have hqW := hq.early hb1.out
  have hpd := hp.out.rd.below hb2'
  have hV2 := bkeep hb2 hV0.out
  have hR2 := bkeep hb2 hR0.out
  clear v1 kd hp hq hr hb2'
  by_cases hz : N % 10 ^ k = 0
  · have hlr0 := hrl.2 hz
    subst hlr0
    obtain ⟨hc, hi⟩ := hc0.out hz
    replace hc := Lib.hid hc
    replace hi := Lib.hid hi
    have v0 := cellB hV2 (i := 0) rfl
    have v2 := cellB hV2 (i := 2) rfl
    have r0 := cellB hR2 (i := 0) rfl
    have r1 := cellB hR2 (i := 1) rfl
    have r2 := cellB hR2 (i := 2) rfl
    have y0 := frozenB hR2 0
    have y1 := frozenB hR2 1
    have y2 := frozenB hR2 2
    have hE := end3 hR2 (.bool n) (.slice pq lq cq) (.int .i64 (e + (k : Int)))
    have hf := fin.out w2 pq lq cq _ hqW
    replace hE := Lib.hid hE
    replace hf := Lib.hid hf
    replace hz := Lib.hid hz
    clear hV2 hR2 hqW hpd hrd hrl hb2
    go_wp2
    clear v0 v2 r0 r1 r2 y0 y1 y2
    have hE := hE.out
    have hf := hf.out
    generalize ((w2.setCell ⟨w.heap.size + 1, 0, none⟩ (.bool n)).setCell ⟨w.heap.size + 1, 1, none⟩ (.slice pq lq cq)).setCell ⟨w.heap.size + 1, 2, none⟩ (.int .i64 (e + (k : Int))) = W9 at hE hf ⊢
    have e0 := cellB hE (i := 0) (v := .bool n) rfl
    have e1 := cellB hE (i := 1) (v := .slice pq lq cq) rfl
    have e2 := cellB hE (i := 2) (v := .int .i64 (e + (k : Int))) rfl
    exact bodyPost_ret (v := .tuple #[.agg #[.bool n, .slice pq lq cq, .int .i64 (e + (k : Int))], .bool false]) (by simp [results, Tryz.results26, go_sem, e0, e1, e2]) rfl ⟨pq, lq, cq, by rw [hi.out], hf.eq hc.out.symm⟩
  · have e0 : ((lr : Int) == 0) = false := by
      have := mt hrl.1 hz
      simp; omega
    have hlq : lq ≤ 950 := by
      have h1 := d16_len_mono (Nat.div_le_self N (10 ^ k))
      rw [hlx.out, hqW.rd.len] at h1
      omega
    have hlr : lr ≤ 950 := by
      have h1 := d16_len_mono (Nat.mod_le N (10 ^ k))
      rw [hlx.out, hrd.len] at h1
      omega
    have kb := by10_c w2 pq lq cq _ hqW.rd (by omega)
    obtain ⟨la, hla⟩ : ∃ la, N / 10 ^ k % 10 = la := ⟨_, rfl⟩
    have hlal : la < 10 := by rw [← hla]; exact Nat.mod_lt _ (by decide)
    rw [hla] at kb
    have hc1 := hc1.out hz
    have hc2 := hc2.out hz
    rw [hla] at hc1 hc2
    obtain ⟨r, hre⟩ : ∃ r, N % 10 ^ k = r := ⟨_, rfl⟩
    rw [hre] at hc1 hc2 hrd
    obtain ⟨Q, hQ⟩ : ∃ Q, N / 10 ^ k = Q := ⟨_, rfl⟩
    rw [hQ] at hc1 hc2 hqW
    replace kb := Lib.hid kb
    replace hc1 := Lib.hid hc1
    replace hc2 := Lib.hid hc2
    replace hz := Lib.hid hz
    replace hla := Lib.hid hla
    replace hre := Lib.hid hre
    replace hQ := Lib.hid hQ
    replace hrl := Lib.hid hrl
    replace hqW := Lib.hid hqW
    replace hpd := Lib.hid hpd
    replace hrd := Lib.hid hrd
    replace hb2 := Lib.hid hb2
    replace hV2 := Lib.hid hV2
    replace hR2 := Lib.hid hR2
    clear hc0
    go_wp2_with fail
    with_reducible refine kb.out.mono ?_
    rintro E w3 ⟨p3, l3, c3, rfl, h3⟩
    have hb23 := h3.bel
    have hq3 := hqW.out.later hb23
    have hp3 := hpd.out.below hb23
    have hr3 := hrd.out.below hb23
    have hV3 := bkeep hb23 hV2.out
    have hR3 := bkeep hb23 hR2.out
    have hb3 := brise hb2.out hb23
    have kadd := addD_c w3.drew pr pr lr cr lr cr r r (hr3.below (Below.drw (Below.refl _ _))) (hr3.below (Below.drw (Below.refl _ _))) (by omega) (by omega)
    have hS0 : w3.drew.cell? ⟨w.heap.size, 0, none⟩ = some (.bool n) := cellB hV3 rfl
    replace kadd := Lib.hid kadd
    replace hq3 := Lib.hid hq3
    replace hp3 := Lib.hid hp3
    replace hV3 := Lib.hid hV3
    replace hR3 := Lib.hid hR3
    replace hb3 := Lib.hid hb3
    clear h3 hb23 hr3 kb hqW hpd hrd hV2 hR2 hb2
    have kaw := fun w half => awayD_c w n la half m hlal hm
    replace kaw := Lib.hid kaw
    go_wp2_with fail
    go_region_held3 (fun w' => w'.cell? ⟨w.heap.size, 0, none⟩ = some (.bool n)) (first | exact hS0 | exact hS1 | exact hS2) (first
      | (go_at_call 46
         with_reducible refine kadd.out.mono ?_
         rintro E w4 ⟨p4, l4, c4, rfl, h4⟩
         have hb34 := bundrew h4.bel
         have hS1 := cellB (bkeep hb34 hV3.out) (i := 0) rfl
         have kc := cmpD_c w4 p4 pp l4 c4 lp cp (r + r) (10 ^ k) h4.rd (hp3.out.below hb34)
         replace kc := Lib.hid kc
         replace hb34 := Lib.hid hb34
         clear h4)
      | (go_at_call 38
         with_reducible refine kc.out.mono ?_
         rintro E w5 ⟨rfl, nd, rfl⟩
         have hS2 : (w4.drewN nd).cell? ⟨w.heap.size, 0, none⟩ = some (.bool n) := hS1)
      | (go_at_call 45
         with_reducible refine (kaw.out _ _).mono ?_
         rintro E w6 ⟨rfl, hw⟩
         obtain rfl := hw))
    have hb4 := brise hb34.out (Below.drwS nd)
    have hq4 := hq3.out.later hb4
    have hV4 := bkeep hb4 hV3.out
    have hR4 := bkeep hb4 hR3.out
    clear hS0 hS1 hS2 kadd kc kaw hq3 hp3 hV3 hR3
    generalize w4.drewN nd = w5 at hb4 hq4 hV4 hR4 ⊢
    obtain ⟨aw, haw⟩ : ∃ aw, awayN n la (ord3 (r + r) (10 ^ k)) m = aw := ⟨_, rfl⟩
    rw [haw] at hc1 hc2 ⊢
    replace haw := Lib.hid haw
    cases aw with
    | false =>
      obtain ⟨hc, hi⟩ := hc2.out rfl
      replace hc := Lib.hid hc
      replace hi := Lib.hid hi
      clear hc1 hc2 hb4
      have hV9 := hV4
      have hR9 := hR4
      have hq9 := hq4
      clear hV4 hR4 hq4
      have v0 := cellB hV9 (i := 0) rfl
      have v2 := cellB hV9 (i := 2) rfl
      have r0 := cellB hR9 (i := 0) rfl
      have r1 := cellB hR9 (i := 1) rfl
      have r2 := cellB hR9 (i := 2) rfl
      have y0 := frozenB hR9 0
      have y1 := frozenB hR9 1
      have y2 := frozenB hR9 2
      have hE := end3 hR9 (.bool n) (.slice pq lq cq) (.int .i64 (e + (k : Int)))
      have hf := fin.out w5 pq lq cq _ hq9
      replace hE := Lib.hid hE
      replace hf := Lib.hid hf
      clear hV9 hR9 hq9
      go_wp2
      clear v0 v2 r0 r1 r2 y0 y1 y2
      have hE := hE.out
      have hf := hf.out
      generalize ((w5.setCell ⟨w.heap.size + 1, 0, none⟩ (.bool n)).setCell ⟨w.heap.size + 1, 1, none⟩ (.slice pq lq cq)).setCell ⟨w.heap.size + 1, 2, none⟩ (.int .i64 (e + (k : Int))) = W9 at hE hf ⊢
      have e0 := cellB hE (i := 0) (v := .bool n) rfl
      have e1 := cellB hE (i := 1) (v := .slice pq lq cq) rfl
      have e2 := cellB hE (i := 2) (v := .int .i64 (e + (k : Int))) rfl
      exact bodyPost_ret (v := .tuple #[.agg #[.bool n, .slice pq lq cq, .int .i64 (e + (k : Int))], .bool true]) (by simp [results, Tryz.results26, go_sem, e0, e1, e2]) rfl ⟨pq, lq, cq, by rw [hi.out], hf.eq hc.out.symm⟩
    | true =>
      obtain ⟨hc, hi⟩ := hc1.out rfl
      replace hc := Lib.hid hc
      replace hi := Lib.hid hi
      clear hc1 hc2 hb4
      have k1 := small1_c w5
      replace k1 := Lib.hid k1
      replace hV4 := Lib.hid hV4
      replace hR4 := Lib.hid hR4
      replace hq4 := Lib.hid hq4
      go_wp2_with fail
      with_reducible refine k1.out.mono ?_
      rintro E w6 ⟨p6, l6, c6, rfl, h6⟩
      have hl6 : l6 ≤ 1 := by have := d16_len_small (b := 1) (by decide); rw [h6.rd.len] at this; exact this
      have hq6 := hq4.out.later h6.bel
      have kadd := addD_c w6 pq p6 lq cq l6 c6 Q 1 hq6.rd h6.rd (by omega) (by omega)
      have hV6 := bkeep h6.bel hV4.out
      have hR6 := bkeep h6.bel hR4.out
      have hb6 := hq6.bel
      replace kadd := Lib.hid kadd
      replace hV6 := Lib.hid hV6
      replace hR6 := Lib.hid hR6
      replace hb6 := Lib.hid hb6
      clear h6 hq6 hq4 hV4 hR4 k1
      go_wp2_with fail
      with_reducible refine kadd.out.mono ?_
      rintro E w7 ⟨p7, l7, c7, rfl, h7⟩
      have hV9 := bkeep h7.bel hV6.out
      have hR9 := bkeep h7.bel hR6.out
      have hq9 := h7.early hb6.out
      clear h7 hV6 hR6 hb6 kadd
      have v0 := cellB hV9 (i := 0) rfl
      have v2 := cellB hV9 (i := 2) rfl
      have r0 := cellB hR9 (i := 0) rfl
      have r1 := cellB hR9 (i := 1) rfl
      have r2 := cellB hR9 (i := 2) rfl
      have y0 := frozenB hR9 0
      have y1 := frozenB hR9 1
      have y2 := frozenB hR9 2
      have hE := end3 hR9 (.bool n) (.slice p7 l7 c7) (.int .i64 (e + (k : Int)))
      have hf := fin.out w7 p7 l7 c7 _ hq9
      replace hE := Lib.hid hE
      replace hf := Lib.hid hf
      clear hV9 hR9 hq9
      go_wp2
      clear v0 v2 r0 r1 r2 y0 y1 y2
      have hE := hE.out
      have hf := hf.out
      generalize ((w7.setCell ⟨w.heap.size + 1, 0, none⟩ (.bool n)).setCell ⟨w.heap.size + 1, 1, none⟩ (.slice p7 l7 c7)).setCell ⟨w.heap.size + 1, 2, none⟩ (.int .i64 (e + (k : Int))) = W9 at hE hf ⊢
      have e0 := cellB hE (i := 0) (v := .bool n) rfl
      have e1 := cellB hE (i := 1) (v := .slice p7 l7 c7) rfl
      have e2 := cellB hE (i := 2) (v := .int .i64 (e + (k : Int))) rfl
      exact bodyPost_ret (v := .tuple #[.agg #[.bool n, .slice p7 l7 c7, .int .i64 (e + (k : Int))], .bool true]) (by simp [results, Tryz.results26, go_sem, e0, e1, e2]) rfl ⟨p7, l7, c7, by rw [hi.out], hf.eq hc.out.symm⟩
end Go.Proofs.YtgdpljjmnmapmaaGreatDoor

namespace Go.Proofs.YtgdpljjmnmapmaaGreatDoor
open Go Go.RowKit

theorem bbox {w W w9 w10 : World} {box : Nat} (hB : Below w.heap.size w W) (h9 : Below W.heap.size W w9) (hc : Chg w9 w10 (fun k => k = box)) (hb : w.heap.size ≤ box) : Below w.heap.size w w10 := by
  have h1 := (Below.chg (brise hB h9)).trans (hc.mono (fun k _ e => .inr (by omega)))
  exact ⟨h1.os, h1.tape, h1.output, h1.size, fun k hk => h1.block k hk (fun h => h)⟩
theorem d16_len_add {N j : Nat} (h : (d16 N).length ≤ j) : (d16 (N + 1)).length ≤ j + 1 := by
  have h1 := (dB_len_le two16 (n := N) (k := j)).1 h
  refine (dB_len_le two16).2 ?_
  rw [Nat.pow_succ]
  omega
theorem cut1 (n : Bool) (C : Nat) : cutN n C 1 0 = C / 10 := by
  unfold cutN; split <;> rfl
theorem cut10_c (w : World) (n : Bool) (p : Option Addr) (l c : Nat) (e : Int) (N : Nat) (hX : RdD w p l c (d16 N)) (hl : l ≤ 950) (he : -1000000 ≤ e ∧ e ≤ 1000000) :
    Calls Tryz.prog 26 #[.agg #[.bool n, .slice p l c, .int .i64 e], .int .i64 1, .int .i64 0] w fun E w' => ValB w w' E n (e + 1) (N / 10) (inexN N 1) := by
  rw [← cut1 n N]; exact cutV_c w n p l c e N 1 0 hX hl (by decide) (by decide) he
theorem DRes.chgBox {w W w9 w10 : World} {q : Option Addr} {a b R box : Nat} (h : DRes W w9 q a b R) (hB : Below w.heap.size w W) (hc : Chg w9 w10 (fun k => k = box)) (hb : w.heap.size ≤ box) (hb2 : box < W.heap.size) : DRes w w10 q a b R :=
  h.chg (Below.chg hB) hc (fun j hj => ⟨by omega, .inl (by omega)⟩)
end Go.Proofs.YtgdpljjmnmapmaaGreatDoor

namespace Go.Proofs.YtgdpljjmnmapmaaGreatDoor
open Go Go.RowKit

theorem len0_of {w : World} {p : Option Addr} {a b N : Nat} (h : RdD w p a b (d16 N)) (h0 : N = 0) : a = 0 := (d16_len0 h.len).2 h0
set_option maxRecDepth 20000 in
set_option maxHeartbeats 4000000 in
theorem wideV_c (w : World) (n : Bool) (p : Option Addr) (l c : Nat) (e : Int) (N : Nat) (ex : Int) (j : Nat) (hX : RdD w p l c (d16 N)) (hl : l ≤ 1000000) (hj : e - ex = (j : Int)) (hj2 : j ≤ 10000) (_he : -1000000 ≤ e ∧ e ≤ 1000000) :
    Calls Tryz.prog 93 #[.agg #[.bool n, .slice p l c, .int .i64 e], .int .i64 ex] w fun E w' => ∃ q a b, E = .returned (.slice q a b) ∧ DRes w w' q a b (N * 10 ^ j) := by
  have hj3 : IntKind.i64.wrap (e - ex) = (j : Int) := by rw [hj]; exact IntWalk.i64_in _ (by omega)
  have hj4 : IntKind.i64.wrap (j : Int) = (j : Int) := IntWalk.i64_in _ (by omega)
  have kp := fun w => pow10_c w j hj2
  have hpl := d16_len_pow 10 j (by decide)
  replace hX := Lib.hid hX
  replace kp := Lib.hid kp
  replace hpl := Lib.hid hpl
  go_enter Tryz.func93, Tryz.ntmps93
  go_upto_region 1 with (fail)
  have hB0 : Below w.heap.size w (w.alloc (.cells #[.bool n, .slice p l c, .int .i64 e] 29 (0, 0))) := (Below.refl _ _).alloc (Nat.le_refl _) _
  have hV0 : (w.alloc (.cells #[.bool n, .slice p l c, .int .i64 e] 29 (0, 0))).heap[w.heap.size]? = some (.cells #[.bool n, .slice p l c, .int .i64 e] 29 (0, 0)) := allocB _ _
  generalize w.alloc (.cells #[.bool n, .slice p l c, .int .i64 e] 29 (0, 0)) = W at hB0 hV0 ⊢
  have hS0 : W.drew.cell? ⟨w.heap.size, 1, none⟩ = some (.slice p l c) ∧ W.drew.cell? ⟨w.heap.size, 2, none⟩ = some (.int .i64 e) := ⟨cellB hV0 rfl, cellB hV0 rfl⟩
  replace hB0 := Lib.hid hB0
  replace hV0 := Lib.hid hV0
  go_region_held3 (fun w' => w'.cell? ⟨w.heap.size, 1, none⟩ = some (.slice p l c) ∧ w'.cell? ⟨w.heap.size, 2, none⟩ = some (.int .i64 e)) (first | exact hS0 | exact hS1 | exact hS2) (first
    | (go_at_call 43
       with_reducible refine (kp.out _).mono ?_
       rintro E w1 ⟨q1, a1, b1, rfl, h1⟩
       have hb1 := bundrew h1.bel
       have hV1 := bkeep hb1 hV0.out
       have hS1 : w1.cell? ⟨w.heap.size, 1, none⟩ = some (.slice p l c) ∧ w1.cell? ⟨w.heap.size, 2, none⟩ = some (.int .i64 e) := ⟨cellB hV1 rfl, cellB hV1 rfl⟩
       have km := mulD_c w1 p q1 l c a1 b1 N (10 ^ j) (hX.out.below (brise hB0.out hb1)) h1.rd hl (by have h3 := hpl.out; rw [h1.rd.len] at h3; omega)
       replace km := Lib.hid km
       replace hb1 := Lib.hid hb1
       clear h1 hV1)
    | (go_at_call 79
       with_reducible refine km.out.mono ?_
       rintro E w2 ⟨q2, a2, b2, rfl, h2⟩
       have hS2 : w2.cell? ⟨w.heap.size, 1, none⟩ = some (.slice p l c) ∧ w2.cell? ⟨w.heap.size, 2, none⟩ = some (.int .i64 e) := ⟨cellB (bkeep (brise hb1.out h2.bel) hV0.out) rfl, cellB (bkeep (brise hb1.out h2.bel) hV0.out) rfl⟩
       replace h2 := Lib.hid h2))
  go_wp2
  go_ret
  exact ⟨q2, a2, b2, rfl, h2.out.early (brise hB0.out hb1.out)⟩
end Go.Proofs.YtgdpljjmnmapmaaGreatDoor

namespace Go.Proofs.YtgdpljjmnmapmaaGreatDoor
open Go Go.RowKit

theorem opp_c (w : World) (n : Bool) (p : Option Addr) (l c : Nat) (e : Int) (N : Nat) (_hX : RdD w p l c (d16 N)) :
    Calls Tryz.prog 58 #[.agg #[.bool n, .slice p l c, .int .i64 e]] w fun E w' => E = .returned (.agg #[.bool (!n), .slice p l c, .int .i64 e]) ∧ Below w.heap.size w w' := by
  clear _hX
  go_enter Tryz.func58, Tryz.ntmps58
  go_upto_region 1 with (fail)
  generalize hW : (w.alloc (.cells #[.bool n, .slice p l c, .int .i64 e] 29 (0, 0))).alloc (.cells #[.bool false, .slice none 0 0, .int .i64 0] 29 (0, 0)) = W
  have hB0 : Below w.heap.size w W := by rw [← hW]; exact ((Below.refl _ _).alloc (Nat.le_refl _) _).alloc (by simp) _
  have hV0 : W.heap[w.heap.size]? = some (.cells #[.bool n, .slice p l c, .int .i64 e] 29 (0, 0)) := by rw [← hW]; exact allocB_old (allocB _ _)
  have hR0 : W.heap[w.heap.size + 1]? = some (.cells #[.bool false, .slice none 0 0, .int .i64 0] 29 (0, 0)) := by rw [← hW]; exact allocB_at _ _ (by simp)
  clear hW
  have v0 := cellB hV0 (i := 0) rfl
  have v1 := cellB hV0 (i := 1) rfl
  have v2 := cellB hV0 (i := 2) rfl
  have z0 := cellB hR0 (i := 0) rfl
  have z1 := cellB hR0 (i := 1) rfl
  have z2 := cellB hR0 (i := 2) rfl
  have y0 := frozenB hR0 0
  have y1 := frozenB hR0 1
  have y2 := frozenB hR0 2
  replace hB0 := Lib.hid hB0
  replace hR0 := Lib.hid hR0
  clear hV0
  go_wp2
  clear v0 v1 v2 z0 z1 z2 y0 y1 y2
  have hE := end3 hR0.out (.bool (!n)) (.slice p l c) (.int .i64 e)
  have hch := chg3 W (w.heap.size + 1) (.bool (!n)) (.slice p l c) (.int .i64 e)
  generalize ((W.setCell ⟨w.heap.size + 1, 0, none⟩ (.bool (!n))).setCell ⟨w.heap.size + 1, 1, none⟩ (.slice p l c)).setCell ⟨w.heap.size + 1, 2, none⟩ (.int .i64 e) = W9 at hE hch ⊢
  have e0 : W9.cell? ⟨w.heap.size + 1, 0, none⟩ = some (.bool (!n)) := cellB hE rfl
  have e1 : W9.cell? ⟨w.heap.size + 1, 1, none⟩ = some (.slice p l c) := cellB hE rfl
  have e2 : W9.cell? ⟨w.heap.size + 1, 2, none⟩ = some (.int .i64 e) := cellB hE rfl
  exact bodyPost_ret (v := .agg #[.bool (!n), .slice p l c, .int .i64 e]) (by simp [results, Tryz.results58, go_sem, e0, e1, e2]) rfl ⟨rfl, by have h1 := (Below.chg hB0.out).trans (hch.mono (fun k _ h => .inr (by omega))); exact ⟨h1.os, h1.tape, h1.output, h1.size, fun k hk => h1.block k hk (fun h => h)⟩⟩

/-- The boxes of two values. -/
def Bv2 (k : Nat) (s t : Bool) (p q : Option Addr) (l c a b : Nat) (e f : Int) (w : World) : Prop :=
  w.heap[k]? = some (.cells #[.bool s, .slice p l c, .int .i64 e] 29 (0, 0)) ∧ w.heap[k + 1]? = some (.cells #[.bool t, .slice q a b, .int .i64 f] 29 (0, 0))
theorem Bv2.cells {k : Nat} {s t : Bool} {p q : Option Addr} {l c a b : Nat} {e f : Int} {w : World} (h : Bv2 k s t p q l c a b e f w) : w.cell? ⟨k, 0, none⟩ = some (.bool s) ∧ w.cell? ⟨k, 1, none⟩ = some (.slice p l c) ∧ w.cell? ⟨k, 2, none⟩ = some (.int .i64 e) ∧ w.cell? ⟨k + 1, 0, none⟩ = some (.bool t) ∧ w.cell? ⟨k + 1, 1, none⟩ = some (.slice q a b) ∧ w.cell? ⟨k + 1, 2, none⟩ = some (.int .i64 f) := ⟨cellB h.1 rfl, cellB h.1 rfl, cellB h.1 rfl, cellB h.2 rfl, cellB h.2 rfl, cellB h.2 rfl⟩
theorem Bv2.chg {k : Nat} {s t : Bool} {p q : Option Addr} {l c a b : Nat} {e f : Int} {w w' : World} {S : Nat → Prop} (h : Bv2 k s t p q l c a b e f w) (hc : Chg w w' S) (h0 : ¬ S k) (h1 : ¬ S (k + 1)) : Bv2 k s t p q l c a b e f w' := ⟨hc.heapB h.1 h0, hc.heapB h.2 h1⟩
theorem Bv2.new {k : Nat} {s t : Bool} {p q : Option Addr} {l c a b : Nat} {e f : Int} {w w' : World} (h : Bv2 k s t p q l c a b e f w) (hb : Below w.heap.size w w') : Bv2 k s t p q l c a b e f w' := h.chg (Below.chg hb) (fun h => h) (fun h => h)
/-- A value in new memory. -/
def ValN (w w' : World) (E : Ending) (n : Bool) (e : Int) (R : Nat) : Prop :=
  ∃ q a b, E = .returned (.agg #[.bool n, .slice q a b, .int .i64 e]) ∧ DRes w w' q a b R

/-- The sign of a sum; of one that is 0 it may be any. -/
def sumS (s t : Bool) (A B : Nat) : Bool := if s = t then s else if B ≤ A then s else t
theorem d16_len_wide {N l i : Nat} (h : (d16 N).length = l) : (d16 (N * 10 ^ i)).length ≤ l + i := by
  refine (dB_len_le two16).2 ?_
  have h1 := (dB_len_le two16 (n := N) (k := l)).1 (by rw [← h]; exact Nat.le_refl _)
  have h2 : 10 ^ i ≤ 65536 ^ i := Nat.pow_le_pow_left (by decide) i
  rw [Nat.pow_add]
  exact Nat.lt_of_lt_of_le (Nat.mul_lt_mul_of_pos_right h1 (ten_pos i)) (Nat.mul_le_mul_left _ h2)
theorem ord3_ge {a b : Nat} : 0 ≤ ord3 a b ↔ b ≤ a := by
  unfold ord3; split
  · omega
  · split <;> omega
theorem bundrewN {w w' : World} {n : Nat} (h : Below (w.drewN n).heap.size (w.drewN n) w') : Below w.heap.size w w' := ⟨h.os, h.tape, h.output, h.size, h.block⟩
set_option maxRecDepth 20000 in
set_option maxHeartbeats 8000000 in
theorem sumV_c (w : World) (s t : Bool) (p q : Option Addr) (l c a b : Nat) (e f : Int) (N M : Nat) (g : Int) (i j A B : Nat) (hX : RdD w p l c (d16 N)) (hY : RdD w q a b (d16 M)) (hl : l ≤ 1000) (ha : a ≤ 1000) (he : -1000 ≤ e ∧ e ≤ 1000) (hf : -1000 ≤ f ∧ f ≤ 1000)
    (hg : min e f = g) (hi : e - g = (i : Int)) (hj : f - g = (j : Int)) (hA : A = N * 10 ^ i) (hB : B = M * 10 ^ j) :
    Calls Tryz.prog 57 #[.agg #[.bool s, .slice p l c, .int .i64 e], .agg #[.bool t, .slice q a b, .int .i64 f]] w fun E w' => ValN w w' E (sumS s t A B) g (if s = t then A + B else if B ≤ A then A - B else B - A) := by
  have hs1 : s = t → sumS s t A B = s ∧ (if s = t then A + B else if B ≤ A then A - B else B - A) = A + B := fun h => ⟨by unfold sumS; rw [if_pos h], by rw [if_pos h]⟩
  have hs2 : ¬ s = t → B ≤ A → sumS s t A B = s ∧ (if s = t then A + B else if B ≤ A then A - B else B - A) = A - B := fun h h' => ⟨by unfold sumS; rw [if_neg h, if_pos h'], by rw [if_neg h, if_pos h']⟩
  have hs3 : ¬ s = t → ¬ B ≤ A → sumS s t A B = t ∧ (if s = t then A + B else if B ≤ A then A - B else B - A) = B - A := fun h h' => ⟨by unfold sumS; rw [if_neg h, if_neg h'], by rw [if_neg h, if_neg h']⟩
  generalize sumS s t A B = SG at hs1 hs2 hs3 ⊢
  generalize (if s = t then A + B else if B ≤ A then A - B else B - A) = RR at hs1 hs2 hs3 ⊢
  replace hs1 := Lib.hid hs1
  replace hs2 := Lib.hid hs2
  replace hs3 := Lib.hid hs3
  have hlA : (d16 A).length ≤ 4000 := by rw [hA]; exact Nat.le_trans (d16_len_wide hX.len) (by omega)
  have hlB : (d16 B).length ≤ 4000 := by rw [hB]; exact Nat.le_trans (d16_len_wide hY.len) (by omega)
  have kA := fun W (hb : Below w.heap.size w W) => wideV_c W s p l c e N g i (hX.below hb) (by omega) hi (by omega) (by omega)
  have kB := fun W (hb : Below w.heap.size w W) => wideV_c W t q a b f M g j (hY.below hb) (by omega) hj (by omega) (by omega)
  rw [← hA] at kA
  rw [← hB] at kB
  replace kA := Lib.hid kA
  replace kB := Lib.hid kB
  replace hX := Lib.hid hX
  replace hY := Lib.hid hY
  replace hA := Lib.hid hA
  replace hB := Lib.hid hB
  replace hi := Lib.hid hi
  replace hj := Lib.hid hj
  go_enter Tryz.func57, Tryz.ntmps57
  go_upto_region 1 with (fail)
  generalize hW : ((w.alloc (.cells #[.bool s, .slice p l c, .int .i64 e] 29 (0, 0))).alloc (.cells #[.bool t, .slice q a b, .int .i64 f] 29 (0, 0))).alloc (.cells #[.bool false, .slice none 0 0, .int .i64 0] 29 (0, 0)) = W
  have hB0 : Below w.heap.size w W := by rw [← hW]; exact (((Below.refl _ _).alloc (Nat.le_refl _) _).alloc (by simp) _).alloc (by simp; omega) _
  have hP0 : W.heap[w.heap.size]? = some (.cells #[.bool s, .slice p l c, .int .i64 e] 29 (0, 0)) := by rw [← hW]; exact allocB_old (allocB_old (allocB _ _))
  have hQ0 : W.heap[w.heap.size + 1]? = some (.cells #[.bool t, .slice q a b, .int .i64 f] 29 (0, 0)) := by rw [← hW]; exact allocB_old (allocB_at _ _ (by simp))
  have hR0 : W.heap[w.heap.size + 2]? = some (.cells #[.bool false, .slice none 0 0, .int .i64 0] 29 (0, 0)) := by rw [← hW]; exact allocB_at _ _ (by simp)
  have hsz : W.heap.size = w.heap.size + 3 := by rw [← hW]; simp
  clear hW
  have hBv : Bv2 w.heap.size s t p q l c a b e f W := ⟨hP0, hQ0⟩
  have e2 := cellB hP0 (i := 2) rfl
  have f2 := cellB hQ0 (i := 2) rfl
  replace hBv := Lib.hid hBv
  replace hB0 := Lib.hid hB0
  replace hR0 := Lib.hid hR0
  replace hsz := Lib.hid hsz
  clear hP0 hQ0
  go_upto_region 2 with (fail)
  clear e2 f2
  have hS0 := (show Bv2 w.heap.size s t p q l c a b e f W.drew from hBv.out).cells
  go_region_held3 (fun w' => w'.cell? ⟨w.heap.size, 0, none⟩ = some (.bool s) ∧ w'.cell? ⟨w.heap.size, 1, none⟩ = some (.slice p l c) ∧ w'.cell? ⟨w.heap.size, 2, none⟩ = some (.int .i64 e) ∧ w'.cell? ⟨w.heap.size + 1, 0, none⟩ = some (.bool t) ∧ w'.cell? ⟨w.heap.size + 1, 1, none⟩ = some (.slice q a b) ∧ w'.cell? ⟨w.heap.size + 1, 2, none⟩ = some (.int .i64 f)) (first | exact hS0 | exact hS1 | exact hS2) (first
    | (go_at_call 93
       with_reducible refine (kA.out W.drew (Below.drw hB0.out)).mono ?_
       rintro E w1 ⟨p1, l1, c1, rfl, h1⟩
       have hb1 := bundrew h1.bel
       have hBv1 := hBv.out.new hb1
       have hS1 := hBv1.cells
       replace h1 := Lib.hid h1
       replace hb1 := Lib.hid hb1
       replace hBv1 := Lib.hid hBv1)
    | (go_at_call 93
       with_reducible refine (kB.out w1 (brise hB0.out hb1.out)).mono ?_
       rintro E w2 ⟨q1, a1, b1, rfl, h2⟩
       have hBv2 := hBv1.out.new h2.bel
       have hS2 := hBv2.cells
       replace h2 := Lib.hid h2
       replace hBv2 := Lib.hid hBv2))
  have hrA := h1.out.rd.below h2.out.bel
  have hrB := h2.out.rd
  have hb2 := brise hb1.out h2.out.bel
  have hR2 := bkeep hb2 hR0.out
  have hl1 : l1 ≤ 4000 := by rw [← hrA.len]; exact hlA
  have ha1 : a1 ≤ 4000 := by rw [← hrB.len]; exact hlB
  have c0 := hBv2.out.cells.1
  have d0 := hBv2.out.cells.2.2.2.1
  replace hrA := Lib.hid hrA
  replace hrB := Lib.hid hrB
  replace hb2 := Lib.hid hb2
  replace hR2 := Lib.hid hR2
  replace hlA := Lib.hid hlA
  replace hlB := Lib.hid hlB
  clear hS0 hS1 hS2 h1 h2 kA kB hBv1 hb1 hBv hR0
  by_cases hst : s = t
  · subst hst
    obtain ⟨hsg, hrr⟩ := hs1.out rfl
    replace hsg := Lib.hid hsg
    replace hrr := Lib.hid hrr
    go_upto_region 4 with (fail)
    clear c0 d0
    have k3 := addD_c (w2).drew p1 q1 l1 c1 a1 b1 A B (hrA.out.below (Below.drw (Below.refl _ _))) (hrB.out.below (Below.drw (Below.refl _ _))) (by omega) (by omega)
    replace k3 := Lib.hid k3
    have hS0 : (w2).drew.cell? ⟨w.heap.size, 0, none⟩ = some (.bool s) := hBv2.out.cells.1
    go_region_held3 (fun w' => w'.cell? ⟨w.heap.size, 0, none⟩ = some (.bool s)) (first | exact hS0 | exact hS1 | exact (hBv3.out.chg (chg3 w4 _ _ _ _) (by omega) (by omega)).cells.1) (
      (go_at_call 46
       with_reducible refine k3.out.mono ?_
       rintro E w4 ⟨r, lr, cr, rfl, h4⟩
       have hb4 := bundrew h4.bel
       have hBv3 := hBv2.out.new hb4
       have hR4 := bkeep hb4 hR2.out
       have hS1 := hBv3.cells.1
       have z0 := cellB hR4 (i := 0) rfl
       have z1 := cellB hR4 (i := 1) rfl
       have z2 := cellB hR4 (i := 2) rfl
       have y0 := frozenB hR4 0
       have y1 := frozenB hR4 1
       have y2 := frozenB hR4 2
       replace hR4 := Lib.hid hR4
       replace h4 := Lib.hid h4
       replace hb4 := Lib.hid hb4
       replace hBv3 := Lib.hid hBv3))
    go_wp2
    clear hS0 hS1 z0 z1 z2 y0 y1 y2
    have hE := end3 hR4.out (.bool s) (.slice r lr cr) (.int .i64 g)
    have hch := chg3 w4 (w.heap.size + 2) (.bool s) (.slice r lr cr) (.int .i64 g)
    generalize ((w4.setCell ⟨w.heap.size + 2, 0, none⟩ (.bool s)).setCell ⟨w.heap.size + 2, 1, none⟩ (.slice r lr cr)).setCell ⟨w.heap.size + 2, 2, none⟩ (.int .i64 g) = W9 at hE hch ⊢
    have e0 : W9.cell? ⟨w.heap.size + 1 + 1, 0, none⟩ = some (.bool s) := cellB hE rfl
    have e1 : W9.cell? ⟨w.heap.size + 1 + 1, 1, none⟩ = some (.slice r lr cr) := cellB hE rfl
    have e2 : W9.cell? ⟨w.heap.size + 1 + 1, 2, none⟩ = some (.int .i64 g) := cellB hE rfl
    exact bodyPost_ret (v := .agg #[.bool s, .slice r lr cr, .int .i64 g]) (by simp [results, Tryz.results57, go_sem, e0, e1, e2]) rfl ⟨r, lr, cr, by rw [hsg.out], ((DRes.early (w := W) (w1 := (w2).drew) h4.out (Below.drw hb2.out)).chgBox hB0.out hch (by omega) (by have := hsz.out; omega)).eq hrr.out.symm⟩
  · have hst2 : (s == t) = false := by simpa using hst
    replace hst := Lib.hid hst
    go_upto_region 5 with (fail)
    have kc := cmpD_c w2 p1 q1 l1 c1 a1 b1 A B hrA.out hrB.out
    by_cases hle : B ≤ A
    · have hR := ord3_ge.2 hle
      obtain ⟨hsg, hrr⟩ := hs2.out hst.out hle
      replace hrr := Lib.hid hrr
      generalize ord3 A B = R at hR kc
      replace kc := Lib.hid kc
      replace hsg := Lib.hid hsg
      replace hle := Lib.hid hle
      go_wp2_with fail
      with_reducible refine kc.out.mono ?_
      rintro E w3 ⟨rfl, n, rfl⟩
      have hbn := Below.drwS (w := w2) n
      have hrA := hrA.out.below hbn
      have hrB := hrB.out.below hbn
      have hR2 := bkeep hbn hR2.out
      have hb2 := brise hb2.out hbn
      have hBv2 := hBv2.out.new hbn
      generalize w2.drewN n = w3 at hrA hrB hR2 hb2 hBv2 ⊢
      replace hrA := Lib.hid hrA
      replace hrB := Lib.hid hrB
      replace hR2 := Lib.hid hR2
      replace hb2 := Lib.hid hb2
      replace hBv2 := Lib.hid hBv2
      clear hbn
      go_upto_region 6 with (fail)
      clear c0 d0 kc
      have k3 := subD_c (w3).drew p1 q1 l1 c1 a1 b1 A B (hrA.out.below (Below.drw (Below.refl _ _))) (hrB.out.below (Below.drw (Below.refl _ _))) (by omega) (by omega) hle.out
      replace k3 := Lib.hid k3
      have hS0 : (w3).drew.cell? ⟨w.heap.size, 0, none⟩ = some (.bool s) := hBv2.out.cells.1
      go_region_held3 (fun w' => w'.cell? ⟨w.heap.size, 0, none⟩ = some (.bool s)) (first | exact hS0 | exact hS1 | exact (hBv3.out.chg (chg3 w4 _ _ _ _) (by omega) (by omega)).cells.1) (
        (go_at_call 82
         with_reducible refine k3.out.mono ?_
         rintro E w4 ⟨r, lr, cr, rfl, h4⟩
         have hb4 := bundrew h4.bel
         have hBv3 := hBv2.out.new hb4
         have hR4 := bkeep hb4 hR2.out
         have hS1 := hBv3.cells.1
         have z0 := cellB hR4 (i := 0) rfl
         have z1 := cellB hR4 (i := 1) rfl
         have z2 := cellB hR4 (i := 2) rfl
         have y0 := frozenB hR4 0
         have y1 := frozenB hR4 1
         have y2 := frozenB hR4 2
         replace hR4 := Lib.hid hR4
         replace h4 := Lib.hid h4
         replace hb4 := Lib.hid hb4
         replace hBv3 := Lib.hid hBv3))
      go_wp2
      clear hS0 hS1 z0 z1 z2 y0 y1 y2
      have hE := end3 hR4.out (.bool s) (.slice r lr cr) (.int .i64 g)
      have hch := chg3 w4 (w.heap.size + 2) (.bool s) (.slice r lr cr) (.int .i64 g)
      generalize ((w4.setCell ⟨w.heap.size + 2, 0, none⟩ (.bool s)).setCell ⟨w.heap.size + 2, 1, none⟩ (.slice r lr cr)).setCell ⟨w.heap.size + 2, 2, none⟩ (.int .i64 g) = W9 at hE hch ⊢
      have e0 : W9.cell? ⟨w.heap.size + 1 + 1, 0, none⟩ = some (.bool s) := cellB hE rfl
      have e1 : W9.cell? ⟨w.heap.size + 1 + 1, 1, none⟩ = some (.slice r lr cr) := cellB hE rfl
      have e2 : W9.cell? ⟨w.heap.size + 1 + 1, 2, none⟩ = some (.int .i64 g) := cellB hE rfl
      exact bodyPost_ret (v := .agg #[.bool s, .slice r lr cr, .int .i64 g]) (by simp [results, Tryz.results57, go_sem, e0, e1, e2]) rfl ⟨r, lr, cr, by rw [hsg.out], ((DRes.early (w := W) (w1 := (w3).drew) h4.out (Below.drw hb2.out)).chgBox hB0.out hch (by omega) (by have := hsz.out; omega)).eq hrr.out.symm⟩
    · have hR : ¬ 0 ≤ ord3 A B := fun h => hle (ord3_ge.1 h)
      obtain ⟨hsg, hrr⟩ := hs3.out hst.out hle
      replace hrr := Lib.hid hrr
      generalize ord3 A B = R at hR kc
      have hR : R < 0 := by omega
      have hRd : decide (0 ≤ R) = false := by simp; omega
      replace kc := Lib.hid kc
      replace hsg := Lib.hid hsg
      have hle2 : A ≤ B := by omega
      replace hle := Lib.hid hle
      replace hle2 := Lib.hid hle2
      go_wp2_with fail
      with_reducible refine kc.out.mono ?_
      rintro E w3 ⟨rfl, n, rfl⟩
      have hbn := Below.drwS (w := w2) n
      have hrA := hrA.out.below hbn
      have hrB := hrB.out.below hbn
      have hR2 := bkeep hbn hR2.out
      have hb2 := brise hb2.out hbn
      have hBv2 := hBv2.out.new hbn
      generalize w2.drewN n = w3 at hrA hrB hR2 hb2 hBv2 ⊢
      replace hrA := Lib.hid hrA
      replace hrB := Lib.hid hrB
      replace hR2 := Lib.hid hR2
      replace hb2 := Lib.hid hb2
      replace hBv2 := Lib.hid hBv2
      clear hbn
      go_upto_region 7 with (fail)
      clear c0 d0 kc
      have k3 := subD_c (w3).drew q1 p1 a1 b1 l1 c1 B A (hrB.out.below (Below.drw (Below.refl _ _))) (hrA.out.below (Below.drw (Below.refl _ _))) (by omega) (by omega) hle2.out
      replace k3 := Lib.hid k3
      have hS0 : (w3).drew.cell? ⟨w.heap.size + 1, 0, none⟩ = some (.bool t) := hBv2.out.cells.2.2.2.1
      go_region_held3 (fun w' => w'.cell? ⟨w.heap.size + 1, 0, none⟩ = some (.bool t)) (first | exact hS0 | exact hS1 | exact (hBv3.out.chg (chg3 w4 _ _ _ _) (by omega) (by omega)).cells.2.2.2.1) (
        (go_at_call 82
         with_reducible refine k3.out.mono ?_
         rintro E w4 ⟨r, lr, cr, rfl, h4⟩
         have hb4 := bundrew h4.bel
         have hBv3 := hBv2.out.new hb4
         have hR4 := bkeep hb4 hR2.out
         have hS1 := hBv3.cells.2.2.2.1
         have z0 := cellB hR4 (i := 0) rfl
         have z1 := cellB hR4 (i := 1) rfl
         have z2 := cellB hR4 (i := 2) rfl
         have y0 := frozenB hR4 0
         have y1 := frozenB hR4 1
         have y2 := frozenB hR4 2
         replace hR4 := Lib.hid hR4
         replace h4 := Lib.hid h4
         replace hb4 := Lib.hid hb4
         replace hBv3 := Lib.hid hBv3))
      go_wp2
      clear hS0 hS1 z0 z1 z2 y0 y1 y2
      have hE := end3 hR4.out (.bool t) (.slice r lr cr) (.int .i64 g)
      have hch := chg3 w4 (w.heap.size + 2) (.bool t) (.slice r lr cr) (.int .i64 g)
      generalize ((w4.setCell ⟨w.heap.size + 2, 0, none⟩ (.bool t)).setCell ⟨w.heap.size + 2, 1, none⟩ (.slice r lr cr)).setCell ⟨w.heap.size + 2, 2, none⟩ (.int .i64 g) = W9 at hE hch ⊢
      have e0 : W9.cell? ⟨w.heap.size + 1 + 1, 0, none⟩ = some (.bool t) := cellB hE rfl
      have e1 : W9.cell? ⟨w.heap.size + 1 + 1, 1, none⟩ = some (.slice r lr cr) := cellB hE rfl
      have e2 : W9.cell? ⟨w.heap.size + 1 + 1, 2, none⟩ = some (.int .i64 g) := cellB hE rfl
      exact bodyPost_ret (v := .agg #[.bool t, .slice r lr cr, .int .i64 g]) (by simp [results, Tryz.results57, go_sem, e0, e1, e2]) rfl ⟨r, lr, cr, by rw [hsg.out], ((DRes.early (w := W) (w1 := (w3).drew) h4.out (Below.drw hb2.out)).chgBox hB0.out hch (by omega) (by have := hsz.out; omega)).eq hrr.out.symm⟩
end Go.Proofs.YtgdpljjmnmapmaaGreatDoor
