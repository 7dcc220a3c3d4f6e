/- The reference's natural numbers: quotient and remainder; a power. The reference's natural numbers: how many figures; when a magnitude is made one greater. -/
import Derived.Laws.BytesArg
import Derived.Test.YtlnillnngckegaaGreatDoorM42
namespace Go.Proofs.YtlnillnngckegaaGreatDoor
open Go Go.RowKit

theorem DRes.later {w w1 w2 : World} {p : Option Addr} {m cc N : Nat} (h : DRes w w1 p m cc N) (hb : Below w1.heap.size w1 w2) : DRes w w2 p m cc N := ⟨h.rd.below hb, h.loc, h.bel.trans (hb.mono h.bel.size)⟩
theorem DRes.early {w w1 w2 : World} {p : Option Addr} {m cc N : Nat} (h : DRes w1 w2 p m cc N) (hb : Below w.heap.size w w1) : DRes w w2 p m cc N := ⟨h.rd, fun ad ha => Nat.le_trans hb.size (h.loc ad ha), hb.trans (h.bel.mono hb.size)⟩
theorem DRes.eq {w w1 : World} {p : Option Addr} {m cc N M : Nat} (h : DRes w w1 p m cc N) (e : N = M) : DRes w w1 p m cc M := by subst e; exact h
theorem addz (ad : Addr) : ad.add 0 = ad := by unfold Addr.add; split <;> simp_all
theorem brise {w w1 w2 : World} (h : Below w.heap.size w w1) (h' : Below w1.heap.size w1 w2) : Below w.heap.size w w2 := h.trans (h'.mono h.size)
theorem Below.drwS {w : World} (n : Nat) : Below w.heap.size w (w.drewN n) := Below.drwN (Below.refl _ _) n
/-- A row that is new, or the old one. -/
def DOr (w w' : World) (A : Option Addr) (l c N : Nat) (p : Option Addr) (m cc R : Nat) : Prop := DRes w w' p m cc R ∨ (p = A ∧ m = l ∧ cc = c ∧ R = N)
theorem DOr.rd {w w' : World} {A : Option Addr} {l c N : Nat} {p : Option Addr} {m cc R : Nat} (h : DOr w w' A l c N p m cc R) (hX : RdD w A l c (d16 N)) (hb : Below w.heap.size w w') : RdD w' p m cc (d16 R) := by
  rcases h with h | ⟨rfl, rfl, rfl, rfl⟩
  · exact h.rd
  · exact hX.below hb
theorem DOr.later {w w1 w2 : World} {A : Option Addr} {l c N : Nat} {p : Option Addr} {m cc R : Nat} (h : DOr w w1 A l c N p m cc R) (hb : Below w1.heap.size w1 w2) : DOr w w2 A l c N p m cc R := by
  rcases h with h | h
  · exact .inl (h.later hb)
  · exact .inr h
/-- What DivMod hands back. -/
def DmRes (w w' : World) (A : Option Addr) (l c N M : Nat) (E : Ending) : Prop :=
  ∃ p n cc q k e, E = .returned (.tuple #[.slice p n cc, .slice q k e]) ∧ DRes w w' p n cc (N / M) ∧ DOr w w' A l c N q k e (N % M)
theorem d16_len_pow (b j : Nat) (h : b < 65536) : (d16 (b ^ j)).length ≤ j + 1 := by
  refine (dB_len_le two16).2 (Nat.lt_of_le_of_lt (Nat.pow_le_pow_left (Nat.le_of_lt h) j) ?_)
  exact Nat.pow_lt_pow_right (by decide) (by omega)
theorem d16_len_small {b : Nat} (h : b < 65536) : (d16 b).length ≤ 1 := (dB_len_le two16).2 (by simpa using h)
theorem d16_nbits {n k : Nat} (h : (d16 n).length ≤ k) : nbits n ≤ 16 * k := by
  refine nbits_le_iff.2 (Nat.lt_of_lt_of_le ((dB_len_le two16).1 h) ?_)
  rw [Nat.pow_mul]
  exact Nat.le_refl _
theorem d16_one {M : Nat} (h : (d16 M).length = 1) : M = nth (d16 M) 0 := by
  have h1 := vB_take1 (B := 65536) (d16 M) 0
  rw [vB_take_all (by omega), d16_val] at h1
  simpa using h1
theorem ord3_le {a b : Nat} : ord3 a b ≤ 0 ↔ a ≤ b := by
  unfold ord3; split
  · omega
  · split <;> omega
theorem ord3_zero {a b : Nat} : ord3 a b = 0 ↔ a = b := by
  unfold ord3; split
  · omega
  · split <;> omega

set_option maxRecDepth 20000 in
set_option maxHeartbeats 4000000 in
theorem dm1_c (w : World) (A B : Option Addr) (l c d N M : Nat) (hX : RdD w A l c (d16 N)) (hY : RdD w B 1 d (d16 M)) (hM : M ≠ 0) (hl : l ≤ 1000000) :
    Calls Tryz.prog 74 #[.slice A l c, .slice B 1 d] w fun e w' => DmRes w w' A l c N M e := by
  have hy1 := d16_one hY.len
  obtain ⟨adb, rfl, cb⟩ := hY.at (Below.refl _ w) (k := 0) (by omega)
  rw [← hy1] at cb
  rw [addz] at cb
  have hM2 : M < 65536 := by rw [hy1]; exact d16_nth M 0
  have kb := byD_c w A l c N M hX hl (by omega) hM2
  have hrl := Nat.mod_lt N (show 0 < M by omega)
  unfold DmRes
  generalize N % M = r at hrl kb ⊢
  have ks := fun w => smallD_c w r (by omega)
  replace kb := Lib.hid kb
  replace ks := Lib.hid ks
  replace hy1 := Lib.hid hy1
  clear hX hY
  go_enter Tryz.func74, Tryz.ntmps74
  go_wp2_with fail
  with_reducible refine kb.out.mono ?_
  rintro E w1 ⟨p, n, cc, rfl, h1⟩
  replace h1 := Lib.hid h1
  go_wp2_with fail
  with_reducible refine (ks.out _).mono ?_
  rintro E w2 ⟨q, k, e, rfl, h2⟩
  replace h2 := Lib.hid h2
  go_wp2
  go_ret2
  exact ⟨p, n, cc, q, k, e, rfl, h1.out.later h2.out.bel, .inl (h2.out.early h1.out.bel)⟩

set_option maxRecDepth 20000 in
set_option maxHeartbeats 8000000 in
theorem dm2_c (w : World) (A B : Option Addr) (l c m d N M : Nat) (hX : RdD w A l c (d16 N)) (hY : RdD w B m d (d16 M)) (hM : M ≠ 0) (hm1 : m ≠ 1) (hl : l ≤ 1000) (hm : m ≤ 1000) :
    Calls Tryz.prog 74 #[.slice A l c, .slice B m d] w fun e w' => DmRes w w' A l c N M e := by
  have e1 : ((m : Int) == 1) = false := by simp; omega
  have hlx := hX.len
  have hly := hY.len
  have hNb : nbits N ≤ 16000 := d16_nbits (k := 1000) (by rw [hlx]; exact hl)
  have hMb : nbits M ≤ 16000 := d16_nbits (k := 1000) (by rw [hly]; exact hm)
  have hst : N < M * 2 ^ ((nbits N : Int) - (nbits M : Int) + 1).toNat := by
    have h1 := nbits_lt N
    have h2 := nbits_ge hM
    have h3 := nbits_pos hM
    rcases Nat.lt_or_ge (nbits N) (nbits M) with h | h
    · rw [show ((nbits N : Int) - (nbits M : Int) + 1).toNat = 0 by omega, Nat.pow_zero, Nat.mul_one]
      exact Nat.lt_of_lt_of_le h1 (Nat.le_trans (Nat.pow_le_pow_right (by decide) (by omega)) h2)
    · rw [show ((nbits N : Int) - (nbits M : Int) + 1).toNat = nbits N - nbits M + 1 by omega]
      exact divB_start h1 h2 h h3
  have hmono : ∀ {a}, a ≤ N → (d16 a).length ≤ 1000 := fun h => Nat.le_trans (d16_len_mono h) (by rw [hlx]; exact hl)
  have hM1 : 0 < M := by omega
  have ka := fun W (hb : Below w.heap.size w W) => lenD_c W A l c N (hX.below hb) (by omega)
  have kb := fun W (hb : Below w.heap.size w W) => lenD_c W B m d M (hY.below hb) (by omega)
  have hW1 : Below w.heap.size w (w.alloc (.cells #[] 3 (0, 0))) := (Below.refl _ _).alloc (Nat.le_refl _) _
  have hq0 : DRes w (w.alloc (.cells #[] 3 (0, 0))) (some ⟨w.heap.size, 0, none⟩) 0 0 0 := ⟨⟨by rw [show d16 0 = [] from dB_zero two16]; rfl, Nat.le_refl _, by omega, by rw [show d16 0 = [] from dB_zero two16]; exact DgB.nil, fun h => absurd h (Nat.lt_irrefl _)⟩, fun ad ha => by cases ha; exact Nat.le_refl _, hW1⟩
  obtain ⟨g, hge⟩ : ∃ g, w.heap.size = g := ⟨_, rfl⟩
  rw [hge] at hq0
  generalize hWe : w.alloc (.cells #[] 3 (0, 0)) = W at hq0 hW1
  have ka := ka W hW1
  have kb := kb W hW1
  obtain ⟨nn, hnn⟩ : ∃ nn, nbits N = nn := ⟨_, rfl⟩
  obtain ⟨nm, hnm⟩ : ∃ nm, nbits M = nm := ⟨_, rfl⟩
  rw [hnn] at ka hst hNb
  rw [hnm] at kb hst hMb
  replace ka := Lib.hid ka
  replace kb := Lib.hid kb
  replace hX := Lib.hid hX
  replace hY := Lib.hid hY
  replace hst := Lib.hid hst
  have hmono := fun a h => @hmono a h
  replace hmono := Lib.hid hmono
  replace hlx := Lib.hid hlx
  replace hly := Lib.hid hly
  replace hM := Lib.hid hM
  replace hge := Lib.hid hge
  replace hWe := Lib.hid hWe
  replace hnn := Lib.hid hnn
  replace hnm := Lib.hid hnm
  replace hW1 := Lib.hid hW1
  replace hq0 := Lib.hid hq0
  go_enter Tryz.func74, Tryz.ntmps74
  go_wp2_with fail
  rw [hWe.out, hge.out]
  with_reducible refine (ka.out).mono ?_
  rintro E w' ⟨rfl, hw⟩
  obtain rfl := hw
  go_wp2_with fail
  with_reducible refine (kb.out).mono ?_
  rintro E w' ⟨rfl, hw⟩
  obtain rfl := hw
  go_wp2
  go_loopw [0, 8, 9] (fun a q i wr => ∃ (s : Int) (pa : Option Addr) (la ca Av : Nat) (pq : Option Addr) (lq cq Qv : Nat), i = .int .i64 s ∧ -20000 ≤ s ∧ s ≤ 20000 ∧ a = .slice pa la ca ∧ q = .slice pq lq cq ∧ DOr w wr A l c N pa la ca Av ∧ DRes w wr pq lq cq Qv ∧ Qv * M + Av = N ∧ Av < M * 2 ^ (s + 1).toNat) (fun _ _ i _ => (intOf i + 1).toNat)
  case atStart => exact ⟨(nn : Int) - (nm : Int), A, l, c, N, _, 0, 0, 0, rfl, by omega, by omega, rfl, rfl, .inr ⟨rfl, rfl, rfl, rfl⟩, hq0.out, by omega, hst.out⟩
  case round =>
    obtain ⟨s, pa, la, ca, Av, pq, lq, cq, Qv, rfl, hs1, hs2, rfl, rfl, ha, hq, he, hlt⟩ := hrel
    have hb := hq.bel
    have hAN : Av ≤ N := by omega
    have hQN : Qv ≤ N := by
      have := Nat.mul_le_mul_left Qv hM1
      omega
    by_cases h0 : s < 0
    · rw [show (s + 1).toNat = 0 by omega, Nat.pow_zero, Nat.mul_one] at hlt
      obtain ⟨e2, e3⟩ := divD_end hlt he
      have e2 := e2.symm
      have e3 := e3.symm
      replace e2 := Lib.hid e2
      replace e3 := Lib.hid e3
      replace ha := Lib.hid ha
      replace hq := Lib.hid hq
      replace he := Lib.hid he
      replace hb := Lib.hid hb
      go_wp2
      go_ret2
      exact ⟨pq, lq, cq, pa, la, ca, rfl, hq.out.eq e2.out.symm, by rw [e3.out]; exact ha.out⟩
    · obtain ⟨t, rfl⟩ : ∃ t : Nat, s = (t : Int) := ⟨s.toNat, by omega⟩
      rw [show ((t : Int) + 1).toNat = t + 1 by omega] at hlt
      have hra := ha.rd (hX.out) hb
      have hla : la ≤ 1000 := by have := hmono.out Av hAN; rw [hra.len] at this; exact this
      have hlq : lq ≤ 1000 := by have := hmono.out Qv hQN; rw [hq.rd.len] at this; exact this
      have ks := shlD_c wr B m d M t (hY.out.below hb) (by omega) (by omega) hM.out
      have kbit := fun w => bitD_c w t (by omega)
      replace ks := Lib.hid ks
      replace kbit := Lib.hid kbit
      go_wp2_with fail
      with_reducible refine ks.out.mono ?_
      rintro E w1 ⟨pd, ld, cd, rfl, hd⟩
      have kc := cmpD_c w1 pd pa ld cd la ca (M * 2 ^ t) Av hd.rd (hra.below hd.bel)
      by_cases hle : M * 2 ^ t ≤ Av
      · have hyes := divB_yes he hlt hle
        have hR := ord3_le.2 hle
        generalize ord3 (M * 2 ^ t) Av = R at hR kc
        have hra1 := hra.below (hd.bel)
        have hld : ld ≤ 1000 := by have := hmono.out (M * 2 ^ t) (by omega); rw [hd.rd.len] at this; exact this
        have ksub := fun n => subD_c (w1.drewN n) pa pd la ca ld cd Av (M * 2 ^ t) (hra1.below (Below.drwS n)) (hd.rd.below (Below.drwS n)) (by omega) (by omega) hle
        have hbd := hd.bel
        have hqd := hq.later hd.bel
        replace kc := Lib.hid kc
        replace ksub := Lib.hid ksub
        replace hbd := Lib.hid hbd
        replace hqd := Lib.hid hqd
        replace hyes := Lib.hid hyes
        replace hb := Lib.hid hb
        clear hd hra hra1 ha hq he hlt hle ks
        go_wp2_with fail
        with_reducible refine kc.out.mono ?_
        rintro E w2 ⟨rfl, n, rfl⟩
        go_wp2_with fail
        with_reducible refine (ksub.out n).mono ?_
        rintro E w3 ⟨p3, l3, c3, rfl, h3⟩
        have hb3 : Below w1.heap.size w1 w3 := brise (Below.drwS n) h3.bel
        have hq3 := hqd.out.later hb3
        have h3 := h3.early (brise (brise hb.out hbd.out) (Below.drwS n))
        replace h3 := Lib.hid h3
        replace hq3 := Lib.hid hq3
        clear hb3
        go_wp2_with fail
        with_reducible refine (kbit.out _).mono ?_
        rintro E w4 ⟨p4, l4, c4, rfl, h4⟩
        have hq4 := hq3.out.later h4.bel
        have h34 := h3.out.later h4.bel
        have hl4 : l4 ≤ 20001 := by have := d16_len_pow 2 t (by decide); rw [h4.rd.len] at this; omega
        have kadd := addD_c w4 pq p4 lq cq l4 c4 Qv (2 ^ t) hq4.rd h4.rd (by omega) (by omega)
        have hb4 := hq4.bel
        replace kadd := Lib.hid kadd
        replace h34 := Lib.hid h34
        replace hb4 := Lib.hid hb4
        clear hq4 h4
        go_wp2_with fail
        with_reducible refine kadd.out.mono ?_
        rintro E w5 ⟨p5, l5, c5, rfl, h5⟩
        have h35 := h34.out.later h5.bel
        have hq5 := h5.early hb4.out
        replace h35 := Lib.hid h35
        replace hq5 := Lib.hid hq5
        clear h5
        go_wp2
        go_roundw
        case rel =>
          refine ⟨(t : Int) - 1, p3, l3, c3, _, p5, l5, c5, _, by go_num, by omega, by omega, rfl, rfl, .inl h35.out, hq5.out, hyes.out.1, ?_⟩
          rw [show ((t : Int) - 1 + 1).toNat = t by omega]
          exact hyes.out.2
        case measure => simp [intOf]
      · have hR : 0 < ord3 (M * 2 ^ t) Av := by have := (not_congr (ord3_le (a := M * 2 ^ t) (b := Av))).2 hle; omega
        generalize ord3 (M * 2 ^ t) Av = R at hR kc
        have hlt2 : Av < M * 2 ^ t := by omega
        have ha1 := ha.later hd.bel
        have hq1 := hq.later hd.bel
        replace kc := Lib.hid kc
        replace ha1 := Lib.hid ha1
        replace hq1 := Lib.hid hq1
        replace hlt2 := Lib.hid hlt2
        replace he := Lib.hid he
        replace hb := Lib.hid hb
        clear hd hra ha hq hlt hle ks
        go_wp2_with fail
        with_reducible refine kc.out.mono ?_
        rintro E w2 ⟨rfl, n, rfl⟩
        go_wp2
        go_roundw
        case rel =>
          refine ⟨(t : Int) - 1, pa, la, ca, _, pq, lq, cq, _, by go_num, by omega, by omega, rfl, rfl, ha1.out.later (Below.drwS n), hq1.out.later (Below.drwS n), he.out, ?_⟩
          rw [show ((t : Int) - 1 + 1).toNat = t by omega]
          exact hlt2.out
        case measure => simp [intOf]
theorem divMod_c (w : World) (A B : Option Addr) (l c m d N M : Nat) (hX : RdD w A l c (d16 N)) (hY : RdD w B m d (d16 M)) (hM : M ≠ 0) (hl : l ≤ 1000) (hm : m ≤ 1000) :
    Calls Tryz.prog 74 #[.slice A l c, .slice B m d] w fun e w' => DmRes w w' A l c N M e := by
  by_cases h : m = 1
  · subst h; exact dm1_c w A B l c d N M hX hY hM (by omega)
  · exact dm2_c w A B l c m d N M hX hY hM h hl hm

set_option maxRecDepth 20000 in
set_option maxHeartbeats 4000000 in
theorem powD_c (w : World) (b n : Nat) (hb : b < 65536) (hn : n ≤ 10000) :
    Calls Tryz.prog 64 #[.int .i64 (b : Int), .int .i64 (n : Int)] w fun e w' => ∃ p m cc, e = .returned (.slice p m cc) ∧ DRes w w' p m cc (b ^ n) := by
  have k1 := smallD_c w 1 (by omega)
  have kb := fun w => smallD_c w b (by omega)
  replace k1 := Lib.hid k1
  replace kb := Lib.hid kb
  go_enter Tryz.func64, Tryz.ntmps64
  go_wp2_with fail
  refine k1.out.mono ?_
  rintro E w1 ⟨p, m, cc, rfl, h1⟩
  replace h1 := Lib.hid h1
  go_wp2
  go_loopw [1, 5] (fun i v wr => ∃ (k : Nat) (p : Option Addr) (m cc : Nat), k ≤ n ∧ i = .int .i64 (k : Int) ∧ v = .slice p m cc ∧ DRes w wr p m cc (b ^ (n - k))) (fun i _ _ => (intOf i).toNat)
  case atStart => exact ⟨n, p, m, cc, Nat.le_refl _, rfl, rfl, h1.out.eq (by rw [Nat.sub_self, Nat.pow_zero])⟩
  case round =>
    obtain ⟨k, p, m, cc, hk, rfl, rfl, hr⟩ := hrel
    clear h1
    by_cases h0 : k = 0
    · subst h0
      rw [Nat.sub_zero] at hr
      replace hr := Lib.hid hr
      go_wp2
      go_ret
      exact ⟨p, m, cc, rfl, hr.out⟩
    · obtain ⟨j, rfl⟩ : ∃ j, k = j + 1 := ⟨k - 1, by omega⟩
      have hj : ((j + 1 : Nat) : Int) = (j : Int) + 1 := by omega
      rw [hj]
      clear hj
      have hml : m ≤ 10001 := by
        have := d16_len_pow b (n - (j + 1)) hb
        rw [hr.rd.len] at this
        omega
      replace hr := Lib.hid hr
      go_wp2_with fail
      with_reducible refine (kb.out _).mono ?_
      rintro E w2 ⟨p2, m2, c2, rfl, h2⟩
      have hm2 : m2 ≤ 1 := by have := d16_len_small hb; rw [h2.rd.len] at this; exact this
      have hr2 := hr.out.later h2.bel
      have km := mulD_c w2 p p2 m cc m2 c2 _ _ hr2.rd h2.rd (by omega) (by omega)
      have hb2 := hr2.bel
      replace km := Lib.hid km
      replace hb2 := Lib.hid hb2
      clear hr2 h2 hr
      go_wp2_with fail
      with_reducible refine km.out.mono ?_
      rintro E w3 ⟨p3, m3, c3, rfl, h3⟩
      have h4 := (h3.early hb2.out).eq (M := b ^ (n - j)) (by rw [show n - j = n - (j + 1) + 1 by omega, Nat.pow_succ])
      replace h4 := Lib.hid h4
      clear h3
      go_wp2
      go_roundw
      case rel => exact ⟨j, p3, m3, c3, by omega, by go_num, rfl, h4.out⟩
      case measure => simp [intOf]
end Go.Proofs.YtlnillnngckegaaGreatDoor

namespace Go.Proofs.YtlnillnngckegaaGreatDoor
open Go Go.RowKit

theorem by10_c (w : World) (A : Option Addr) (l c N : Nat) (hX : RdD w A l c (d16 N)) (hl : l ≤ 1000000) :
    Calls Tryz.prog 75 #[.slice A l c, .int .i64 10] w fun e w' => ∃ p n cc, e = .returned (.tuple #[.slice p n cc, .int .i64 ((N % 10 : Nat) : Int)]) ∧ DRes w w' p n cc (N / 10) := byD_c w A l c N 10 hX hl (by decide) (by decide)
set_option maxRecDepth 20000 in
set_option maxHeartbeats 4000000 in
theorem digitsD_c (w : World) (A : Option Addr) (l c N : Nat) (hX : RdD w A l c (d16 N)) (hl : l ≤ 100000) :
    Calls Tryz.prog 73 #[.slice A l c] w fun e w' => ∃ s : ByteArray, e = .returned (.string s) ∧ s.size = figs N ∧ Below w.heap.size w w' := by
  have hlx := hX.len
  by_cases h0 : N = 0
  · subst h0
    have hl0 : l = 0 := by rw [← hlx, show d16 0 = [] from dB_zero two16]; rfl
    subst hl0
    clear hX hlx
    go_enter Tryz.func73, Tryz.ntmps73
    go_wp2
    go_ret
    exact ⟨_, rfl, rfl, Below.refl _ _⟩
  · have hp := d16_pos h0
    rw [hlx] at hp
    have e0 : ((l : Int) == 0) = false := by simp; omega
    have hmono : ∀ a, a ≤ N → (d16 a).length ≤ 100000 := fun a h => Nat.le_trans (d16_len_mono h) (by rw [hlx]; exact hl)
    have hF : figs N ≤ 5 * l := by
      refine (figs_le_iff (by omega)).2 (Nat.lt_of_lt_of_le ((dB_len_le two16 (k := l)).1 (by rw [← hlx]; exact Nat.le_refl _)) ?_)
      rw [Nat.pow_mul]
      exact Nat.pow_le_pow_left (by decide) l
    have hF0 : figs N + 0 = figs N := rfl
    generalize hFe : figs N = F at hF ⊢
    replace hX := Lib.hid hX
    replace hlx := Lib.hid hlx
    replace hmono := Lib.hid hmono
    replace hFe := Lib.hid hFe
    clear hF0
    go_enter Tryz.func73, Tryz.ntmps73
    go_wp2
    go_loopw [0, 3] (fun a s wr => ∃ (pa : Option Addr) (la ca Av k : Nat) (b : ByteArray), a = .slice pa la ca ∧ s = .string b ∧ b.size = k ∧ RdD wr pa la ca (d16 Av) ∧ Av ≤ N ∧ Below w.heap.size w wr ∧ (Av ≠ 0 → figs Av + k = F) ∧ (Av = 0 → k = F)) (fun _ s _ => match s with | .string b => F - b.size | _ => 0)
    case atStart => exact ⟨A, l, c, N, 0, _, rfl, rfl, rfl, hX.out, Nat.le_refl _, Below.refl _ _, fun _ => hFe.out, fun h => absurd h h0⟩
    case round =>
      obtain ⟨pa, la, ca, Av, k, b, rfl, rfl, hbk, hr, hAN, hb, hf1, hf2⟩ := hrel
      by_cases hA : Av = 0
      · have hk := hf2 hA
        have hl0 : la = 0 := by have := hr.len; rw [hA, show d16 0 = [] from dB_zero two16] at this; exact this.symm
        subst hl0
        replace hk := Lib.hid hk
        replace hb := Lib.hid hb
        replace hbk := Lib.hid hbk
        clear hr hf1 hf2
        go_wp2
        go_ret
        exact ⟨b, rfl, by rw [hbk.out, hk.out], hb.out⟩
      · have hf := hf1 hA
        have hfp := figs_pos Av
        have hstep1 : Av / 10 ≠ 0 → figs (Av / 10) + (k + 1) = F := fun h => by have := figs_step (n := Av) (by omega); omega
        have hstep0 : Av / 10 = 0 → k + 1 = F := fun h => by have := figs_small (n := Av) (by omega); omega
        have hkF : k + 1 ≤ F := by omega
        replace hstep1 := Lib.hid hstep1
        replace hstep0 := Lib.hid hstep0
        clear hfp
        have hla := d16_pos hA
        rw [hr.len] at hla
        have hlb : la ≤ 100000 := by have := hmono.out Av hAN; rw [hr.len] at this; exact this
        have kb := by10_c wr pa la ca Av hr (by omega)
        have hrl := Nat.mod_lt Av (show 0 < 10 by decide)
        have hlen2 : (d16 (Av / 10)).length ≤ la := by have := d16_len_mono (Nat.div_le_self Av 10); rw [hr.len] at this; exact this
        generalize hr10 : Av % 10 = r at kb hrl
        replace kb := Lib.hid kb
        replace hf := Lib.hid hf
        replace hb := Lib.hid hb
        replace hr10 := Lib.hid hr10
        clear hr hf1 hf2
        go_wp2_with fail
        with_reducible refine kb.out.mono ?_
        rintro E w1 ⟨p2, l2, c2, rfl, h2⟩
        have hb2 := h2.bel
        replace h2 := Lib.hid h2
        replace hb2 := Lib.hid hb2
        replace hbk := Lib.hid hbk
        have hcv := run_convert_bytes_arg (P := Tryz.prog) (w1.alloc (.cells #[.int .u8 (48 + (r : Int))] 5 (0, 0))) 135 5 Tryz.underlying135 Tryz.underlying5 w1.heap.size 0 1 1 [48 + (r : Int)] (by simp) (by
          intro j hj
          obtain rfl : j = 0 := by omega
          exact cellB (allocB _ _) rfl) 9 Tryz.underlying9
        have hts : (strOfNums [48 + (r : Int)]).size = 1 := by rw [strOfNums_size]; rfl
        generalize strOfNums [48 + (r : Int)] = t at hcv hts
        have hwb : Below w1.heap.size w1 (w1.alloc (.cells #[.int .u8 (48 + (r : Int))] 5 (0, 0))) := (Below.refl _ _).alloc (Nat.le_refl _) _
        have hng : ¬ 9223372036854775807 < t.size + b.size := by rw [hts, hbk.out]; omega
        have hsz : (t ++ b).size = k + 1 := by rw [ByteArray.size_append, hts, hbk.out]; omega
        replace hsz := Lib.hid hsz
        replace hts := Lib.hid hts
        replace hwb := Lib.hid hwb
        go_wp2
        go_roundw
        case rel =>
          exact ⟨p2, l2, c2, Av / 10, k + 1, t ++ b, rfl, rfl, hsz.out, h2.out.rd.below hwb.out, by omega, brise (brise hb.out hb2.out) hwb.out, hstep1.out, hstep0.out⟩
        case measure =>
          have k1 := hsz.out
          have k2 := hbk.out
          show F - (t ++ b).size < F - b.size
          omega
theorem figuresD_c (w : World) (A : Option Addr) (l c N : Nat) (hX : RdD w A l c (d16 N)) (hl : l ≤ 100000) :
    Calls Tryz.prog 50 #[.slice A l c] w fun e w' => e = .returned (.int .i64 (figs N : Int)) ∧ Below w.heap.size w w' := by
  have kd := digitsD_c w A l c N hX hl
  generalize figs N = F at kd ⊢
  replace kd := Lib.hid kd
  clear hX
  go_enter Tryz.func50, Tryz.ntmps50
  go_wp2_with fail
  with_reducible refine kd.out.mono ?_
  rintro E w1 ⟨s, rfl, hs, hb⟩
  replace hb := Lib.hid hb
  replace hs := Lib.hid hs
  go_wp2
  go_ret
  exact ⟨ret_i (by rw [hs.out]), hb.out⟩

/-- The mode that says nothing is the one that cuts. -/
theorem awayD_c (w : World) (n : Bool) (last : Nat) (half : Int) (m : Nat) (hl : last < 10) (hm : m < 8) :
    Calls Tryz.prog 76 #[.bool n, .int .i64 (last : Int), .int .i64 half, .int .i64 (m : Int)] w fun e w' => e = .returned (.bool (awayN n last half m)) ∧ w = w' := by
  rcases (by omega : m = 0 ∨ m = 1 ∨ m = 2 ∨ m = 3 ∨ m = 4 ∨ m = 5 ∨ m = 6 ∨ m = 7) with rfl | rfl | rfl | rfl | rfl | rfl | rfl | rfl
  · go_enter Tryz.func76, Tryz.ntmps76
    go_wp2
    go_ret
    exact ⟨rfl, rfl⟩
  · go_enter Tryz.func76, Tryz.ntmps76
    go_wp2
    go_ret
    exact ⟨rfl, rfl⟩
  · rcases (by omega : 0 < half ∨ half = 0 ∨ half < 0) with h | h | h
    · have e0 : awayN n last half 2 = true := by simp [awayN, h]
      rw [e0]
      clear e0
      go_enter Tryz.func76, Tryz.ntmps76
      go_wp2
      go_ret
      exact ⟨rfl, rfl⟩
    · subst h
      have e0 : awayN n last 0 2 = ((last : Int) % 2 == 1) := by
        unfold awayN
        rcases (by omega : last % 2 = 0 ∨ last % 2 = 1) with h | h
        · have h2 : (last : Int) % 2 = 0 := by omega
          simp [h, h2]
        · have h2 : (last : Int) % 2 = 1 := by omega
          simp [h, h2]
      rw [e0]
      clear e0
      go_enter Tryz.func76, Tryz.ntmps76
      go_wp2
      go_ret
      exact ⟨rfl, rfl⟩
    · have e0 : awayN n last half 2 = false := by unfold awayN; simp; omega
      have e1 : (half == 0) = false := by simp; omega
      have e2 : decide (0 < half) = false := by simp; omega
      rw [e0]
      clear e0
      go_enter Tryz.func76, Tryz.ntmps76
      go_wp2
      go_ret
      exact ⟨rfl, rfl⟩
  · go_enter Tryz.func76, Tryz.ntmps76
    go_wp2
    go_ret
    exact ⟨rfl, rfl⟩
  · go_enter Tryz.func76, Tryz.ntmps76
    go_wp2
    go_ret
    exact ⟨rfl, rfl⟩
  · go_enter Tryz.func76, Tryz.ntmps76
    go_wp2
    go_ret
    exact ⟨rfl, rfl⟩
  · go_enter Tryz.func76, Tryz.ntmps76
    go_wp2
    go_ret
    exact ⟨rfl, rfl⟩
  · have e0 : awayN n last half 7 = ((last : Int) % 5 == 0) := by
      unfold awayN
      rw [Bool.eq_iff_iff]
      simp
      omega
    rw [e0]
    clear e0
    go_enter Tryz.func76, Tryz.ntmps76
    go_wp2
    go_ret
    exact ⟨rfl, rfl⟩
end Go.Proofs.YtlnillnngckegaaGreatDoor
