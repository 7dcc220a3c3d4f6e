/- The reference's natural numbers: a product; by one digit. The reference's natural numbers: bits, a power of 2, times a power of 2. The reference's natural numbers: quotient and remainder; a power. The reference's natural numbers: how many figures; when a magnitude is made one greater. The reference's rounding: Cut, Rounded. The reference's rounding to so many figures. The reference's values: a smaller exponent. The reference's values: the opposite, sums. The reference's values: products. The reference's order of two values that are not below 0. -/
import Derived.Laws.BytesArg
import Derived.Test.YtonepclpllelfaaGreatDoorC09
import Derived.Test.YtonepclpllelfaaGreatDoorC16
import Derived.Test.YtonepclpllelfaaGreatDoorC18
namespace Go.Proofs.YtonepclpllelfaaGreatDoor
open Go Go.RowKit

/-- A block of digits. -/
structure ArrD (w : World) (b : Nat) (D : List Nat) : Prop where
  heap : w.heap[b]? = some (.cells (D.map sw).toArray 3 (0, 0))
  dg : DgB 65536 D
theorem ArrD.cell {w : World} {b : Nat} {D : List Nat} (h : ArrD w b D) {i : Nat} (hi : i < D.length) : w.cell? ⟨b, i, none⟩ = some (.int .i64 (nth D i : Int)) := by
  refine cellB h.heap ?_
  rw [List.getElem?_toArray, List.getElem?_map, get_nth hi]; rfl
theorem ArrD.frozen {w : World} {b : Nat} {D : List Nat} (h : ArrD w b D) (i : Nat) : w.frozen? ⟨b, i, none⟩ = false := frozenB h.heap i
theorem ArrD.lt {w : World} {b : Nat} {D : List Nat} (h : ArrD w b D) : b < w.heap.size := ltB h.heap
theorem ArrD.set {w : World} {b : Nat} {D : List Nat} (h : ArrD w b D) (i : Nat) {s : Int} {x : Nat} (hs : s = (x : Int)) (hx : x < 65536) : ArrD (w.setCell ⟨b, i, none⟩ (.int .i64 s)) b (D.set i x) := by
  subst hs
  refine ⟨?_, h.dg.set i hx⟩
  have h1 := setB (i := i) (v := .int .i64 (x : Int)) h.heap
  rw [h1]
  congr 2
  apply Array.ext'
  simp [List.map_set, sw]
theorem ArrD.rd {w : World} {b n : Nat} {D : List Nat} (h : ArrD w b D) (hn : D.length = n) (hm : n ≤ 100000000) : RdD w (some ⟨b, 0, none⟩) n n D :=
  ⟨hn, Nat.le_refl _, by omega, h.dg, fun _ => ⟨_, rfl, fun j hj => by rw [add0]; exact h.cell (by omega)⟩⟩
def zeroI (c : Nat) : Obj := .cells ((List.replicate c 0).map sw).toArray 3 (0, 0)
theorem arrD_zero (w : World) (c : Nat) : ArrD (w.alloc (zeroI c)) w.heap.size (List.replicate c 0) := ⟨allocB _ _, DgB.zeros (by decide) c⟩
theorem run_makeI (w : World) {l : Int} {l' : Nat} (hl : l = l') (hcap : l' ≤ 100000000) :
    (Instr.makeSlice 27 (.int .i64 l) (.int .i64 l)).run Tryz.prog w = .ok (.slice (some ⟨w.heap.size, 0, none⟩) l' l') (w.alloc (zeroI l')) := by
  have h := makeI
  cases hi : Tryz.prog.info? 3 with
  | none => rw [hi] at h; cases h
  | some i =>
    rw [hi] at h
    simp only [Option.map_some, Option.some.injEq, Prod.mk.injEq] at h
    obtain ⟨h1, h2, h3⟩ := h
    subst hl
    rw [run_make (P := Tryz.prog) w 27 3 i (.int .i64 0) Tryz.underlying27 hi h1 .i64 .i64 l' l' (by omega) (by omega) (by rw [h3]; omega) (by omega)]
    simp only [Int.toNat_natCast]
    have e : madeCells (Value.int .i64 0).cells (l' * i.size) = ((List.replicate l' 0).map sw).toArray := by
      rw [h2, Nat.mul_one]
      unfold madeCells
      apply Array.ext
      · simp
      · intro j h1 h2
        simp [Value.cells, sw]
        have : j % 1 = 0 := Nat.mod_one j
        simp [Nat.mod_one]
    unfold zeroI
    rw [e]
/-- A block that is handed back is trimmed. -/
theorem trimArr {w wr : World} {b n N : Nat} {D : List Nat} (hb : Below w.heap.size w wr) (h : ArrD wr b D) (hg : w.heap.size ≤ b) (hn : D.length = n) (hm : n ≤ 100000000) (hv : vB 65536 D = N) :
    Calls Tryz.prog 47 #[.slice (some ⟨b, 0, none⟩) n n] wr fun e w' => wr = w' ∧ ∃ m, e = .returned (.slice (some ⟨b, 0, none⟩) m n) ∧ DRes w wr (some ⟨b, 0, none⟩) m n N := by
  subst hv
  exact (trim_c wr _ n n D (h.rd hn hm)).mono fun e w' ⟨hw, m, he, hr⟩ => ⟨hw, m, he, hr, fun ad ha => by cases ha; exact hg, hb⟩

set_option maxRecDepth 20000 in
set_option maxHeartbeats 4000000 in
theorem mulD_c (w : World) (A B : Option Addr) (l c m d N M : Nat) (hX : RdD w A l c (d16 N)) (hY : RdD w B m d (d16 M)) (hl : l ≤ 1000000) (hm : m ≤ 1000000) :
    Calls Tryz.prog 28 #[.slice A l c, .slice B m d] w fun e w' => ∃ p n cc, e = .returned (.slice p n cc) ∧ DRes w w' p n cc (N * M) := by
  have hlx := hX.len
  have hly := hY.len
  have hmk := fun w => run_makeI w (l := (l : Int) + (m : Int)) (l' := l + m) (by omega) (by omega)
  have haz := arrD_zero w (l + m)
  obtain ⟨g, hge⟩ : ∃ g, w.heap.size = g := ⟨_, rfl⟩
  have hgw : w.heap.size ≤ g := Nat.le_of_eq hge
  replace hge := Lib.hid hge
  replace haz := Lib.hid haz
  replace hX := Lib.hid hX
  replace hY := Lib.hid hY
  replace hlx := Lib.hid hlx
  replace hly := Lib.hid hly
  go_enter Tryz.func28, Tryz.ntmps28
  go_wp2
  rw [hge.out]
  clear hmk
  go_loopw [19] (fun i wr => ∃ (k : Nat) (O : List Nat), k ≤ l ∧ i = .int .i64 k ∧ Below w.heap.size w wr ∧ ArrD wr g O ∧ O.length = l + m ∧ vB 65536 O = vB 65536 ((d16 N).take k) * M ∧ (∀ j, k + m ≤ j → nth O j = 0)) (fun i _ => l - (intOf i).toNat)
  case atStart =>
    refine ⟨0, List.replicate (l + m) 0, Nat.zero_le _, rfl, (Below.refl _ _).alloc (Nat.le_refl _) _, ?_, by simp, by rw [vB_zeros]; simp, fun j _ => nth_zeros _ _⟩
    have := haz.out
    rw [hge.out] at this
    exact this
  case round =>
    obtain ⟨k, O, hk, rfl, hb, hO, hOl, hv, hz⟩ := hrel
    by_cases hlt : k < l
    · obtain ⟨x, hx⟩ : ∃ x, nth (d16 N) k = x := ⟨_, rfl⟩
      have hxb : x < 65536 := by rw [← hx]; exact d16_nth N k
      obtain ⟨ada, rfl, ca⟩ := hX.out.at hb hlt
      rw [hx] at ca
      replace hx := Lib.hid hx
      replace hb := Lib.hid hb
      replace hO := Lib.hid hO
      replace hOl := Lib.hid hOl
      replace hv := Lib.hid hv
      replace hz := Lib.hid hz
      go_wp2
      go_loopw [8, 26] (fun cy i wi => ∃ (q t : Nat) (P : List Nat), q ≤ m ∧ i = .int .i64 q ∧ cy = .int .i64 t ∧ t < 65536 ∧ Below w.heap.size w wi ∧ ArrD wi g P ∧ P.length = l + m ∧ vB 65536 P + 65536 ^ (k + q) * t = vB 65536 ((d16 N).take k) * M + 65536 ^ k * (x * vB 65536 ((d16 M).take q)) ∧ (∀ j, k + m ≤ j → nth P j = 0)) (fun _ i _ => m - (intOf i).toNat)
      case atStart => exact ⟨0, 0, O, Nat.zero_le _, rfl, rfl, by omega, hb.out, hO.out, hOl.out, by rw [hv.out]; simp, hz.out⟩
      case round =>
        obtain ⟨q, t, P, hq, rfl, rfl, ht, hb2, hP, hPl, hv2, hz2⟩ := hrel
        clear hb hO hOl hv hz ca
        by_cases hlq : q < m
        · obtain ⟨y, hy⟩ : ∃ y, nth (d16 M) q = y := ⟨_, rfl⟩
          obtain ⟨z, hz⟩ : ∃ z, nth P (k + q) = z := ⟨_, rfl⟩
          have hyb : y < 65536 := by rw [← hy]; exact d16_nth M q
          have hzb : z < 65536 := by rw [← hz]; exact hP.dg.nth (by decide) _
          obtain ⟨adb, rfl, cb⟩ := hY.out.at hb2 hlq
          rw [hy] at cb
          have cz := hP.cell (i := k + q) (by omega)
          rw [hz] at cz
          have fz := hP.frozen (k + q)
          have hst := mulD_step (b := d16 M) (O := P) (i := k) (k := q) (c := t) (x := x) (by omega) hv2
          rw [hz, hy] at hst
          obtain ⟨b1, b2, b3⟩ := mulD_bd ht hzb hxb hyb
          have hpe : (x : Int) * (y : Int) = ((x * y : Nat) : Int) := by simp
          generalize x * y = pr at hpe hst b1 b2 b3
          have hset : ∀ s : Int, s = (((t + (z + pr)) % 65536 : Nat) : Int) → ArrD (wr.setCell ⟨g, k + q, none⟩ (.int .i64 s)) g (P.set (k + q) ((t + (z + pr)) % 65536)) := fun s hs => hP.set (k + q) hs (Nat.mod_lt _ (by decide))
          have hz3 : ∀ j, k + m ≤ j → nth (P.set (k + q) ((t + (z + pr)) % 65536)) j = 0 := fun j hj => by rw [setD_ne (by omega)]; exact hz2 j hj
          have hPl3 : (P.set (k + q) ((t + (z + pr)) % 65536)).length = l + m := by rw [List.length_set]; exact hPl
          replace hset := Lib.hid hset
          replace hz3 := Lib.hid hz3
          replace hPl3 := Lib.hid hPl3
          replace hst := Lib.hid hst
          replace hz := Lib.hid hz
          replace hy := Lib.hid hy
          replace hb2 := Lib.hid hb2
          replace b1 := Lib.hid b1
          clear hP hPl hv2 hz2
          go_wp2
          go_roundw
          case rel =>
            refine ⟨q + 1, (t + (z + pr)) / 65536, _, by omega, by go_num, by go_num, b1.out, hb2.out.setCell hgw _, hset.out _ (by omega), hPl3.out, hst.out, hz3.out⟩
          case measure => simp [intOf]; omega
        · obtain rfl : q = m := by omega
          have hend := mulD_end (a := d16 N) (b := d16 M) (O := P) (i := k) (c := t) (by rw [hly.out]; omega) (by rw [hly.out]; exact hz2 _ (Nat.le_refl _)) (by rw [hly.out, hx.out, d16_val]; exact hv2)
          rw [hly.out, d16_val] at hend
          have fz := hP.frozen (k + q)
          have cz := hP.cell (i := k + q) (by omega)
          have hset := hP.set (k + q) (s := (t : Int)) rfl ht
          have hz3 : ∀ j, k + 1 + q ≤ j → nth (P.set (k + q) t) j = 0 := fun j hj => by rw [setD_ne (by omega)]; exact hz2 j (by omega)
          have hPl3 : (P.set (k + q) t).length = l + q := by rw [List.length_set]; exact hPl
          replace hset := Lib.hid hset
          replace hz3 := Lib.hid hz3
          replace hPl3 := Lib.hid hPl3
          replace hend := Lib.hid hend
          replace hb2 := Lib.hid hb2
          clear hP hPl hv2 hz2
          go_wp2
          go_roundw
          case rel => exact ⟨k + 1, _, by omega, by go_num, hb2.out.setCell hgw _, hset.out, hPl3.out, hend.out, hz3.out⟩
          case measure => simp [intOf]; omega
    · obtain rfl : k = l := by omega
      have k1 := trimArr hb hO hgw hOl (by omega) (N := N * M) (by rw [hv, vB_take_all (by rw [hlx.out]; exact Nat.le_refl _), d16_val])
      replace k1 := Lib.hid k1
      clear hb hO hOl hv hz
      go_wp2_with fail
      with_reducible refine k1.out.mono ?_
      rintro E w' ⟨hw, q, rfl, hr⟩
      obtain rfl := hw
      go_wp2
      go_ret
      exact ⟨_, q, _, rfl, hr⟩

set_option maxRecDepth 20000 in
set_option maxHeartbeats 4000000 in
theorem byD_c (w : World) (A : Option Addr) (l c N d : Nat) (hX : RdD w A l c (d16 N)) (hl : l ≤ 1000000) (hd : 0 < d) (hd2 : d < 65536) :
    Calls Tryz.prog 49 #[.slice A l c, .int .i64 (d : Int)] w fun e w' => ∃ p n cc, e = .returned (.tuple #[.slice p n cc, .int .i64 ((N % d : Nat) : Int)]) ∧ DRes w w' p n cc (N / d) := by
  have hlx := hX.len
  have hmk := fun w => run_makeI w (l := (l : Int)) (l' := l) rfl (by omega)
  have haz := arrD_zero w l
  obtain ⟨g, hge⟩ : ∃ g, w.heap.size = g := ⟨_, rfl⟩
  have hgw : w.heap.size ≤ g := Nat.le_of_eq hge
  have hdne : ((d : Int) == 0) = false := by simp; omega
  replace hge := Lib.hid hge
  replace haz := Lib.hid haz
  replace hX := Lib.hid hX
  replace hlx := Lib.hid hlx
  go_enter Tryz.func49, Tryz.ntmps49
  go_wp2
  rw [hge.out]
  clear hmk
  go_loopw [7, 8] (fun rs i wr => ∃ (k r : Nat) (O : List Nat), k ≤ l ∧ i = .int .i64 ((k : Int) - 1) ∧ rs = .int .i64 (r : Int) ∧ r < d ∧ Below w.heap.size w wr ∧ ArrD wr g O ∧ O.length = l ∧ vB 65536 (O.drop k) * d + r = vB 65536 ((d16 N).drop k)) (fun _ i _ => (intOf i + 1).toNat)
  case atStart =>
    refine ⟨l, 0, List.replicate l 0, Nat.le_refl _, rfl, rfl, hd, (Below.refl _ _).alloc (Nat.le_refl _) _, ?_, by simp, ?_⟩
    · have := haz.out
      rw [hge.out] at this
      exact this
    · rw [List.drop_eq_nil_of_le (by simp), List.drop_eq_nil_of_le (by rw [hlx.out]; exact Nat.le_refl _)]; simp
  case round =>
    obtain ⟨k, r, O, hk, rfl, rfl, hr, hb, hO, hOl, hv⟩ := hrel
    by_cases hk0 : k = 0
    · subst hk0
      rw [List.drop_zero, List.drop_zero, d16_val] at hv
      obtain ⟨e1, e2⟩ := divD_end hr hv
      have k1 := trimArr hb hO hgw hOl (by omega) e1
      replace k1 := Lib.hid k1
      subst e2
      clear hb hO hOl hv e1
      go_wp2_with fail
      with_reducible refine k1.out.mono ?_
      rintro E w' ⟨hw, q, rfl, hr⟩
      obtain rfl := hw
      go_wp2
      go_ret2
      exact ⟨_, q, _, rfl, hr⟩
    · obtain ⟨j, rfl⟩ : ∃ j, k = j + 1 := ⟨k - 1, by omega⟩
      have hj : ((j + 1 : Nat) : Int) - 1 = (j : Int) := by omega
      rw [hj]
      clear hj
      obtain ⟨x, hx⟩ : ∃ x, nth (d16 N) j = x := ⟨_, rfl⟩
      have hxb : x < 65536 := by rw [← hx]; exact d16_nth N j
      obtain ⟨ada, rfl, ca⟩ := hX.out.at hb (k := j) (by omega)
      rw [hx] at ca
      obtain ⟨b1, b2, b3⟩ := divD_step (D := d16 N) (O := O) (i := j) (d := d) (r := r) (by rw [hOl, hlx.out]) (by rw [hlx.out]; omega) hd hr (by rw [hx]; exact hxb) hv
      rw [hx] at b1 b2 b3
      have cz := hO.cell (i := j) (by omega)
      have fz := hO.frozen j
      have hset : ∀ s : Int, s = (((r * 65536 + x) / d : Nat) : Int) → ArrD (wr.setCell ⟨g, j, none⟩ (.int .i64 s)) g (O.set j ((r * 65536 + x) / d)) := fun s hs => hO.set j hs b1
      have hOl3 : (O.set j ((r * 65536 + x) / d)).length = l := by rw [List.length_set]; exact hOl
      have hv1 : (r : Int) * 65536 + (x : Int) ≤ 4294967295 := by omega
      replace hset := Lib.hid hset
      replace hOl3 := Lib.hid hOl3
      replace hx := Lib.hid hx
      replace hb := Lib.hid hb
      replace b1 := Lib.hid b1
      replace b2 := Lib.hid b2
      replace b3 := Lib.hid b3
      clear hO hOl hv
      go_wp2
      go_roundw
      case rel =>
        exact ⟨j, (r * 65536 + x) % d, _, by omega, rfl, by go_num, b2.out, hb.out.setCell hgw _, hset.out _ (by simp), hOl3.out, b3.out⟩
      case measure => simp [intOf]
end Go.Proofs.YtonepclpllelfaaGreatDoor

namespace Go.Proofs.YtonepclpllelfaaGreatDoor
open Go Go.RowKit

theorem d16_pos {n : Nat} (h : n ≠ 0) : 0 < (d16 n).length := Nat.pos_of_ne_zero (fun e => h ((dB_eq_nil two16).1 (List.length_eq_zero_iff.1 e)))
end Go.Proofs.YtonepclpllelfaaGreatDoor

namespace Go.Proofs.YtonepclpllelfaaGreatDoor
open Go Go.RowKit

theorem DRes.later {w w1 w2 : World} {p : Option Addr} {m cc N : Nat} (h : DRes w w1 p m cc N) (hb : Below w1.heap.size w1 w2) : DRes w w2 p m cc N := ⟨h.rd.below hb, h.loc, h.bel.trans (hb.mono h.bel.size)⟩
theorem DRes.early {w w1 w2 : World} {p : Option Addr} {m cc N : Nat} (h : DRes w1 w2 p m cc N) (hb : Below w.heap.size w w1) : DRes w w2 p m cc N := ⟨h.rd, fun ad ha => Nat.le_trans hb.size (h.loc ad ha), hb.trans (h.bel.mono hb.size)⟩
theorem DRes.eq {w w1 : World} {p : Option Addr} {m cc N M : Nat} (h : DRes w w1 p m cc N) (e : N = M) : DRes w w1 p m cc M := by subst e; exact h
theorem addz (ad : Addr) : ad.add 0 = ad := by unfold Addr.add; split <;> simp_all
theorem brise {w w1 w2 : World} (h : Below w.heap.size w w1) (h' : Below w1.heap.size w1 w2) : Below w.heap.size w w2 := h.trans (h'.mono h.size)
theorem Below.drwS {w : World} (n : Nat) : Below w.heap.size w (w.drewN n) := Below.drwN (Below.refl _ _) n
/-- A row that is new, or the old one. -/
def DOr (w w' : World) (A : Option Addr) (l c N : Nat) (p : Option Addr) (m cc R : Nat) : Prop := DRes w w' p m cc R ∨ (p = A ∧ m = l ∧ cc = c ∧ R = N)
theorem DOr.rd {w w' : World} {A : Option Addr} {l c N : Nat} {p : Option Addr} {m cc R : Nat} (h : DOr w w' A l c N p m cc R) (hX : RdD w A l c (d16 N)) (hb : Below w.heap.size w w') : RdD w' p m cc (d16 R) := by
  rcases h with h | ⟨rfl, rfl, rfl, rfl⟩
  · exact h.rd
  · exact hX.below hb
theorem DOr.later {w w1 w2 : World} {A : Option Addr} {l c N : Nat} {p : Option Addr} {m cc R : Nat} (h : DOr w w1 A l c N p m cc R) (hb : Below w1.heap.size w1 w2) : DOr w w2 A l c N p m cc R := by
  rcases h with h | h
  · exact .inl (h.later hb)
  · exact .inr h
/-- What DivMod hands back. -/
def DmRes (w w' : World) (A : Option Addr) (l c N M : Nat) (E : Ending) : Prop :=
  ∃ p n cc q k e, E = .returned (.tuple #[.slice p n cc, .slice q k e]) ∧ DRes w w' p n cc (N / M) ∧ DOr w w' A l c N q k e (N % M)
theorem d16_len_pow (b j : Nat) (h : b < 65536) : (d16 (b ^ j)).length ≤ j + 1 := by
  refine (dB_len_le two16).2 (Nat.lt_of_le_of_lt (Nat.pow_le_pow_left (Nat.le_of_lt h) j) ?_)
  exact Nat.pow_lt_pow_right (by decide) (by omega)
theorem d16_len_small {b : Nat} (h : b < 65536) : (d16 b).length ≤ 1 := (dB_len_le two16).2 (by simpa using h)
theorem d16_nbits {n k : Nat} (h : (d16 n).length ≤ k) : nbits n ≤ 16 * k := by
  refine nbits_le_iff.2 (Nat.lt_of_lt_of_le ((dB_len_le two16).1 h) ?_)
  rw [Nat.pow_mul]
  exact Nat.le_refl _
theorem d16_one {M : Nat} (h : (d16 M).length = 1) : M = nth (d16 M) 0 := by
  have h1 := vB_take1 (B := 65536) (d16 M) 0
  rw [vB_take_all (by omega), d16_val] at h1
  simpa using h1
theorem ord3_le {a b : Nat} : ord3 a b ≤ 0 ↔ a ≤ b := by
  unfold ord3; split
  · omega
  · split <;> omega
theorem ord3_zero {a b : Nat} : ord3 a b = 0 ↔ a = b := by
  unfold ord3; split
  · omega
  · split <;> omega

set_option maxRecDepth 20000 in
set_option maxHeartbeats 4000000 in
theorem powD_c (w : World) (b n : Nat) (hb : b < 65536) (hn : n ≤ 10000) :
    Calls Tryz.prog 50 #[.int .i64 (b : Int), .int .i64 (n : Int)] w fun e w' => ∃ p m cc, e = .returned (.slice p m cc) ∧ DRes w w' p m cc (b ^ n) := by
  have k1 := smallD_c w 1 (by omega)
  have kb := fun w => smallD_c w b (by omega)
  replace k1 := Lib.hid k1
  replace kb := Lib.hid kb
  go_enter Tryz.func50, Tryz.ntmps50
  go_wp2_with fail
  refine k1.out.mono ?_
  rintro E w1 ⟨p, m, cc, rfl, h1⟩
  replace h1 := Lib.hid h1
  go_wp2
  go_loopw [1, 5] (fun i v wr => ∃ (k : Nat) (p : Option Addr) (m cc : Nat), k ≤ n ∧ i = .int .i64 (k : Int) ∧ v = .slice p m cc ∧ DRes w wr p m cc (b ^ (n - k))) (fun i _ _ => (intOf i).toNat)
  case atStart => exact ⟨n, p, m, cc, Nat.le_refl _, rfl, rfl, h1.out.eq (by rw [Nat.sub_self, Nat.pow_zero])⟩
  case round =>
    obtain ⟨k, p, m, cc, hk, rfl, rfl, hr⟩ := hrel
    clear h1
    by_cases h0 : k = 0
    · subst h0
      rw [Nat.sub_zero] at hr
      replace hr := Lib.hid hr
      go_wp2
      go_ret
      exact ⟨p, m, cc, rfl, hr.out⟩
    · obtain ⟨j, rfl⟩ : ∃ j, k = j + 1 := ⟨k - 1, by omega⟩
      have hj : ((j + 1 : Nat) : Int) = (j : Int) + 1 := by omega
      rw [hj]
      clear hj
      have hml : m ≤ 10001 := by
        have := d16_len_pow b (n - (j + 1)) hb
        rw [hr.rd.len] at this
        omega
      replace hr := Lib.hid hr
      go_wp2_with fail
      with_reducible refine (kb.out _).mono ?_
      rintro E w2 ⟨p2, m2, c2, rfl, h2⟩
      have hm2 : m2 ≤ 1 := by have := d16_len_small hb; rw [h2.rd.len] at this; exact this
      have hr2 := hr.out.later h2.bel
      have km := mulD_c w2 p p2 m cc m2 c2 _ _ hr2.rd h2.rd (by omega) (by omega)
      have hb2 := hr2.bel
      replace km := Lib.hid km
      replace hb2 := Lib.hid hb2
      clear hr2 h2 hr
      go_wp2_with fail
      with_reducible refine km.out.mono ?_
      rintro E w3 ⟨p3, m3, c3, rfl, h3⟩
      have h4 := (h3.early hb2.out).eq (M := b ^ (n - j)) (by rw [show n - j = n - (j + 1) + 1 by omega, Nat.pow_succ])
      replace h4 := Lib.hid h4
      clear h3
      go_wp2
      go_roundw
      case rel => exact ⟨j, p3, m3, c3, by omega, by go_num, rfl, h4.out⟩
      case measure => simp [intOf]
end Go.Proofs.YtonepclpllelfaaGreatDoor

namespace Go.Proofs.YtonepclpllelfaaGreatDoor
open Go Go.RowKit

theorem by10_c (w : World) (A : Option Addr) (l c N : Nat) (hX : RdD w A l c (d16 N)) (hl : l ≤ 1000000) :
    Calls Tryz.prog 49 #[.slice A l c, .int .i64 10] w fun e w' => ∃ p n cc, e = .returned (.tuple #[.slice p n cc, .int .i64 ((N % 10 : Nat) : Int)]) ∧ DRes w w' p n cc (N / 10) := byD_c w A l c N 10 hX hl (by decide) (by decide)
set_option maxRecDepth 20000 in
set_option maxHeartbeats 4000000 in
theorem digitsD_c (w : World) (A : Option Addr) (l c N : Nat) (hX : RdD w A l c (d16 N)) (hl : l ≤ 100000) :
    Calls Tryz.prog 23 #[.slice A l c] w fun e w' => ∃ s : ByteArray, e = .returned (.string s) ∧ s.size = figs N ∧ Below w.heap.size w w' := by
  have hlx := hX.len
  by_cases h0 : N = 0
  · subst h0
    have hl0 : l = 0 := by rw [← hlx, show d16 0 = [] from dB_zero two16]; rfl
    subst hl0
    clear hX hlx
    go_enter Tryz.func23, Tryz.ntmps23
    go_wp2
    go_ret
    exact ⟨_, rfl, rfl, Below.refl _ _⟩
  · have hp := d16_pos h0
    rw [hlx] at hp
    have e0 : ((l : Int) == 0) = false := by simp; omega
    have hmono : ∀ a, a ≤ N → (d16 a).length ≤ 100000 := fun a h => Nat.le_trans (d16_len_mono h) (by rw [hlx]; exact hl)
    have hF : figs N ≤ 5 * l := by
      refine (figs_le_iff (by omega)).2 (Nat.lt_of_lt_of_le ((dB_len_le two16 (k := l)).1 (by rw [← hlx]; exact Nat.le_refl _)) ?_)
      rw [Nat.pow_mul]
      exact Nat.pow_le_pow_left (by decide) l
    have hF0 : figs N + 0 = figs N := rfl
    generalize hFe : figs N = F at hF ⊢
    replace hX := Lib.hid hX
    replace hlx := Lib.hid hlx
    replace hmono := Lib.hid hmono
    replace hFe := Lib.hid hFe
    clear hF0
    go_enter Tryz.func23, Tryz.ntmps23
    go_wp2
    go_loopw [0, 3] (fun a s wr => ∃ (pa : Option Addr) (la ca Av k : Nat) (b : ByteArray), a = .slice pa la ca ∧ s = .string b ∧ b.size = k ∧ RdD wr pa la ca (d16 Av) ∧ Av ≤ N ∧ Below w.heap.size w wr ∧ (Av ≠ 0 → figs Av + k = F) ∧ (Av = 0 → k = F)) (fun _ s _ => match s with | .string b => F - b.size | _ => 0)
    case atStart => exact ⟨A, l, c, N, 0, _, rfl, rfl, rfl, hX.out, Nat.le_refl _, Below.refl _ _, fun _ => hFe.out, fun h => absurd h h0⟩
    case round =>
      obtain ⟨pa, la, ca, Av, k, b, rfl, rfl, hbk, hr, hAN, hb, hf1, hf2⟩ := hrel
      by_cases hA : Av = 0
      · have hk := hf2 hA
        have hl0 : la = 0 := by have := hr.len; rw [hA, show d16 0 = [] from dB_zero two16] at this; exact this.symm
        subst hl0
        replace hk := Lib.hid hk
        replace hb := Lib.hid hb
        replace hbk := Lib.hid hbk
        clear hr hf1 hf2
        go_wp2
        go_ret
        exact ⟨b, rfl, by rw [hbk.out, hk.out], hb.out⟩
      · have hf := hf1 hA
        have hfp := figs_pos Av
        have hstep1 : Av / 10 ≠ 0 → figs (Av / 10) + (k + 1) = F := fun h => by have := figs_step (n := Av) (by omega); omega
        have hstep0 : Av / 10 = 0 → k + 1 = F := fun h => by have := figs_small (n := Av) (by omega); omega
        have hkF : k + 1 ≤ F := by omega
        replace hstep1 := Lib.hid hstep1
        replace hstep0 := Lib.hid hstep0
        clear hfp
        have hla := d16_pos hA
        rw [hr.len] at hla
        have hlb : la ≤ 100000 := by have := hmono.out Av hAN; rw [hr.len] at this; exact this
        have kb := by10_c wr pa la ca Av hr (by omega)
        have hrl := Nat.mod_lt Av (show 0 < 10 by decide)
        have hlen2 : (d16 (Av / 10)).length ≤ la := by have := d16_len_mono (Nat.div_le_self Av 10); rw [hr.len] at this; exact this
        generalize hr10 : Av % 10 = r at kb hrl
        replace kb := Lib.hid kb
        replace hf := Lib.hid hf
        replace hb := Lib.hid hb
        replace hr10 := Lib.hid hr10
        clear hr hf1 hf2
        go_wp2_with fail
        with_reducible refine kb.out.mono ?_
        rintro E w1 ⟨p2, l2, c2, rfl, h2⟩
        have hb2 := h2.bel
        replace h2 := Lib.hid h2
        replace hb2 := Lib.hid hb2
        replace hbk := Lib.hid hbk
        have hcv := run_convert_bytes_arg (P := Tryz.prog) (w1.alloc (.cells #[.int .u8 (48 + (r : Int))] 5 (0, 0))) 100 5 Tryz.underlying100 Tryz.underlying5 w1.heap.size 0 1 1 [48 + (r : Int)] (by simp) (by
          intro j hj
          obtain rfl : j = 0 := by omega
          exact cellB (allocB _ _) rfl) 9 Tryz.underlying9
        have hts : (strOfNums [48 + (r : Int)]).size = 1 := by rw [strOfNums_size]; rfl
        generalize strOfNums [48 + (r : Int)] = t at hcv hts
        have hwb : Below w1.heap.size w1 (w1.alloc (.cells #[.int .u8 (48 + (r : Int))] 5 (0, 0))) := (Below.refl _ _).alloc (Nat.le_refl _) _
        have hng : ¬ 9223372036854775807 < t.size + b.size := by rw [hts, hbk.out]; omega
        have hsz : (t ++ b).size = k + 1 := by rw [ByteArray.size_append, hts, hbk.out]; omega
        replace hsz := Lib.hid hsz
        replace hts := Lib.hid hts
        replace hwb := Lib.hid hwb
        go_wp2
        go_roundw
        case rel =>
          exact ⟨p2, l2, c2, Av / 10, k + 1, t ++ b, rfl, rfl, hsz.out, h2.out.rd.below hwb.out, by omega, brise (brise hb.out hb2.out) hwb.out, hstep1.out, hstep0.out⟩
        case measure =>
          have k1 := hsz.out
          have k2 := hbk.out
          show F - (t ++ b).size < F - b.size
          omega
theorem figuresD_c (w : World) (A : Option Addr) (l c N : Nat) (hX : RdD w A l c (d16 N)) (hl : l ≤ 100000) :
    Calls Tryz.prog 10 #[.slice A l c] w fun e w' => e = .returned (.int .i64 (figs N : Int)) ∧ Below w.heap.size w w' := by
  have kd := digitsD_c w A l c N hX hl
  generalize figs N = F at kd ⊢
  replace kd := Lib.hid kd
  clear hX
  go_enter Tryz.func10, Tryz.ntmps10
  go_wp2_with fail
  with_reducible refine kd.out.mono ?_
  rintro E w1 ⟨s, rfl, hs, hb⟩
  replace hb := Lib.hid hb
  replace hs := Lib.hid hs
  go_wp2
  go_ret
  exact ⟨ret_i (by rw [hs.out]), hb.out⟩

end Go.Proofs.YtonepclpllelfaaGreatDoor

namespace Go.Proofs.YtonepclpllelfaaGreatDoor
open Go Go.RowKit

theorem pow10_c (w : World) (n : Nat) (hn : n ≤ 10000) :
    Calls Tryz.prog 50 #[.int .i64 10, .int .i64 (n : Int)] w fun e w' => ∃ p m cc, e = .returned (.slice p m cc) ∧ DRes w w' p m cc (10 ^ n) := powD_c w 10 n (by decide) hn
theorem small1_c (w : World) : Calls Tryz.prog 11 #[.int .i64 1] w fun e w' => ∃ p n cc, e = .returned (.slice p n cc) ∧ DRes w w' p n cc 1 := smallD_c w 1 (by decide)
theorem bkeep {w w' : World} {k : Nat} {cs : Array Value} {T : TypeId} (hb : Below w.heap.size w w') (h : w.heap[k]? = some (.cells cs T (0, 0))) : w'.heap[k]? = some (.cells cs T (0, 0)) := (Below.chg hb).heapB h (fun h => h)
theorem d16_len0 {n l : Nat} (h : (d16 n).length = l) : l = 0 ↔ n = 0 := by
  rw [← h, List.length_eq_zero_iff]; exact dB_eq_nil two16
/-- A value in new memory, and whether it is not exact. -/
def ValB (w w' : World) (E : Ending) (n : Bool) (e : Int) (R : Nat) (x : Bool) : Prop :=
  ∃ q a b, E = .returned (.tuple #[.agg #[.bool n, .slice q a b, .int .i64 e], .bool x]) ∧ DRes w w' q a b R
theorem bundrew {w w' : World} (h : Below w.drew.heap.size w.drew w') : Below w.heap.size w w' := ⟨h.os, h.tape, h.output, h.size, h.block⟩
end Go.Proofs.YtonepclpllelfaaGreatDoor

namespace Go.Proofs.YtonepclpllelfaaGreatDoor
open Go Go.RowKit

theorem bbox {w W w9 w10 : World} {box : Nat} (hB : Below w.heap.size w W) (h9 : Below W.heap.size W w9) (hc : Chg w9 w10 (fun k => k = box)) (hb : w.heap.size ≤ box) : Below w.heap.size w w10 := by
  have h1 := (Below.chg (brise hB h9)).trans (hc.mono (fun k _ e => .inr (by omega)))
  exact ⟨h1.os, h1.tape, h1.output, h1.size, fun k hk => h1.block k hk (fun h => h)⟩
theorem DRes.chgBox {w W w9 w10 : World} {q : Option Addr} {a b R box : Nat} (h : DRes W w9 q a b R) (hB : Below w.heap.size w W) (hc : Chg w9 w10 (fun k => k = box)) (hb : w.heap.size ≤ box) (hb2 : box < W.heap.size) : DRes w w10 q a b R :=
  h.chg (Below.chg hB) hc (fun j hj => ⟨by omega, .inl (by omega)⟩)
end Go.Proofs.YtonepclpllelfaaGreatDoor

namespace Go.Proofs.YtonepclpllelfaaGreatDoor
open Go Go.RowKit

set_option maxRecDepth 20000 in
set_option maxHeartbeats 4000000 in
theorem wideV_c (w : World) (n : Bool) (p : Option Addr) (l c : Nat) (e : Int) (N : Nat) (ex : Int) (j : Nat) (hX : RdD w p l c (d16 N)) (hl : l ≤ 1000000) (hj : e - ex = (j : Int)) (hj2 : j ≤ 10000) (_he : -1000000 ≤ e ∧ e ≤ 1000000) :
    Calls Tryz.prog 24 #[.agg #[.bool n, .slice p l c, .int .i64 e], .int .i64 ex] w fun E w' => ∃ q a b, E = .returned (.slice q a b) ∧ DRes w w' q a b (N * 10 ^ j) := by
  have hj3 : IntKind.i64.wrap (e - ex) = (j : Int) := by rw [hj]; exact IntWalk.i64_in _ (by omega)
  have hj4 : IntKind.i64.wrap (j : Int) = (j : Int) := IntWalk.i64_in _ (by omega)
  have kp := fun w => pow10_c w j hj2
  have hpl := d16_len_pow 10 j (by decide)
  replace hX := Lib.hid hX
  replace kp := Lib.hid kp
  replace hpl := Lib.hid hpl
  go_enter Tryz.func24, Tryz.ntmps24
  go_upto_region 1 with (fail)
  have hB0 : Below w.heap.size w (w.alloc (.cells #[.bool n, .slice p l c, .int .i64 e] 29 (0, 0))) := (Below.refl _ _).alloc (Nat.le_refl _) _
  have hV0 : (w.alloc (.cells #[.bool n, .slice p l c, .int .i64 e] 29 (0, 0))).heap[w.heap.size]? = some (.cells #[.bool n, .slice p l c, .int .i64 e] 29 (0, 0)) := allocB _ _
  generalize w.alloc (.cells #[.bool n, .slice p l c, .int .i64 e] 29 (0, 0)) = W at hB0 hV0 ⊢
  have hS0 : W.drew.cell? ⟨w.heap.size, 1, none⟩ = some (.slice p l c) ∧ W.drew.cell? ⟨w.heap.size, 2, none⟩ = some (.int .i64 e) := ⟨cellB hV0 rfl, cellB hV0 rfl⟩
  replace hB0 := Lib.hid hB0
  replace hV0 := Lib.hid hV0
  go_region_held3 (fun w' => w'.cell? ⟨w.heap.size, 1, none⟩ = some (.slice p l c) ∧ w'.cell? ⟨w.heap.size, 2, none⟩ = some (.int .i64 e)) (first | exact hS0 | exact hS1 | exact hS2) (first
    | (go_at_call 50
       with_reducible refine (kp.out _).mono ?_
       rintro E w1 ⟨q1, a1, b1, rfl, h1⟩
       have hb1 := bundrew h1.bel
       have hV1 := bkeep hb1 hV0.out
       have hS1 : w1.cell? ⟨w.heap.size, 1, none⟩ = some (.slice p l c) ∧ w1.cell? ⟨w.heap.size, 2, none⟩ = some (.int .i64 e) := ⟨cellB hV1 rfl, cellB hV1 rfl⟩
       have km := mulD_c w1 p q1 l c a1 b1 N (10 ^ j) (hX.out.below (brise hB0.out hb1)) h1.rd hl (by have h3 := hpl.out; rw [h1.rd.len] at h3; omega)
       replace km := Lib.hid km
       replace hb1 := Lib.hid hb1
       clear h1 hV1)
    | (go_at_call 28
       with_reducible refine km.out.mono ?_
       rintro E w2 ⟨q2, a2, b2, rfl, h2⟩
       have hS2 : w2.cell? ⟨w.heap.size, 1, none⟩ = some (.slice p l c) ∧ w2.cell? ⟨w.heap.size, 2, none⟩ = some (.int .i64 e) := ⟨cellB (bkeep (brise hb1.out h2.bel) hV0.out) rfl, cellB (bkeep (brise hb1.out h2.bel) hV0.out) rfl⟩
       replace h2 := Lib.hid h2))
  go_wp2
  go_ret
  exact ⟨q2, a2, b2, rfl, h2.out.early (brise hB0.out hb1.out)⟩
end Go.Proofs.YtonepclpllelfaaGreatDoor

namespace Go.Proofs.YtonepclpllelfaaGreatDoor
open Go Go.RowKit

theorem opp_c (w : World) (n : Bool) (p : Option Addr) (l c : Nat) (e : Int) (N : Nat) (_hX : RdD w p l c (d16 N)) :
    Calls Tryz.prog 13 #[.agg #[.bool n, .slice p l c, .int .i64 e]] w fun E w' => E = .returned (.agg #[.bool (!n), .slice p l c, .int .i64 e]) ∧ Below w.heap.size w w' := by
  clear _hX
  go_enter Tryz.func13, Tryz.ntmps13
  go_upto_region 1 with (fail)
  generalize hW : (w.alloc (.cells #[.bool n, .slice p l c, .int .i64 e] 29 (0, 0))).alloc (.cells #[.bool false, .slice none 0 0, .int .i64 0] 29 (0, 0)) = W
  have hB0 : Below w.heap.size w W := by rw [← hW]; exact ((Below.refl _ _).alloc (Nat.le_refl _) _).alloc (by simp) _
  have hV0 : W.heap[w.heap.size]? = some (.cells #[.bool n, .slice p l c, .int .i64 e] 29 (0, 0)) := by rw [← hW]; exact allocB_old (allocB _ _)
  have hR0 : W.heap[w.heap.size + 1]? = some (.cells #[.bool false, .slice none 0 0, .int .i64 0] 29 (0, 0)) := by rw [← hW]; exact allocB_at _ _ (by simp)
  clear hW
  have v0 := cellB hV0 (i := 0) rfl
  have v1 := cellB hV0 (i := 1) rfl
  have v2 := cellB hV0 (i := 2) rfl
  have z0 := cellB hR0 (i := 0) rfl
  have z1 := cellB hR0 (i := 1) rfl
  have z2 := cellB hR0 (i := 2) rfl
  have y0 := frozenB hR0 0
  have y1 := frozenB hR0 1
  have y2 := frozenB hR0 2
  replace hB0 := Lib.hid hB0
  replace hR0 := Lib.hid hR0
  clear hV0
  go_wp2
  clear v0 v1 v2 z0 z1 z2 y0 y1 y2
  have hE := end3 hR0.out (.bool (!n)) (.slice p l c) (.int .i64 e)
  have hch := chg3 W (w.heap.size + 1) (.bool (!n)) (.slice p l c) (.int .i64 e)
  generalize ((W.setCell ⟨w.heap.size + 1, 0, none⟩ (.bool (!n))).setCell ⟨w.heap.size + 1, 1, none⟩ (.slice p l c)).setCell ⟨w.heap.size + 1, 2, none⟩ (.int .i64 e) = W9 at hE hch ⊢
  have e0 : W9.cell? ⟨w.heap.size + 1, 0, none⟩ = some (.bool (!n)) := cellB hE rfl
  have e1 : W9.cell? ⟨w.heap.size + 1, 1, none⟩ = some (.slice p l c) := cellB hE rfl
  have e2 : W9.cell? ⟨w.heap.size + 1, 2, none⟩ = some (.int .i64 e) := cellB hE rfl
  exact bodyPost_ret (v := .agg #[.bool (!n), .slice p l c, .int .i64 e]) (by simp [results, Tryz.results13, go_sem, e0, e1, e2]) rfl ⟨rfl, by have h1 := (Below.chg hB0.out).trans (hch.mono (fun k _ h => .inr (by omega))); exact ⟨h1.os, h1.tape, h1.output, h1.size, fun k hk => h1.block k hk (fun h => h)⟩⟩

/-- The boxes of two values. -/
def Bv2 (k : Nat) (s t : Bool) (p q : Option Addr) (l c a b : Nat) (e f : Int) (w : World) : Prop :=
  w.heap[k]? = some (.cells #[.bool s, .slice p l c, .int .i64 e] 29 (0, 0)) ∧ w.heap[k + 1]? = some (.cells #[.bool t, .slice q a b, .int .i64 f] 29 (0, 0))
theorem Bv2.cells {k : Nat} {s t : Bool} {p q : Option Addr} {l c a b : Nat} {e f : Int} {w : World} (h : Bv2 k s t p q l c a b e f w) : w.cell? ⟨k, 0, none⟩ = some (.bool s) ∧ w.cell? ⟨k, 1, none⟩ = some (.slice p l c) ∧ w.cell? ⟨k, 2, none⟩ = some (.int .i64 e) ∧ w.cell? ⟨k + 1, 0, none⟩ = some (.bool t) ∧ w.cell? ⟨k + 1, 1, none⟩ = some (.slice q a b) ∧ w.cell? ⟨k + 1, 2, none⟩ = some (.int .i64 f) := ⟨cellB h.1 rfl, cellB h.1 rfl, cellB h.1 rfl, cellB h.2 rfl, cellB h.2 rfl, cellB h.2 rfl⟩
theorem Bv2.chg {k : Nat} {s t : Bool} {p q : Option Addr} {l c a b : Nat} {e f : Int} {w w' : World} {S : Nat → Prop} (h : Bv2 k s t p q l c a b e f w) (hc : Chg w w' S) (h0 : ¬ S k) (h1 : ¬ S (k + 1)) : Bv2 k s t p q l c a b e f w' := ⟨hc.heapB h.1 h0, hc.heapB h.2 h1⟩
theorem Bv2.new {k : Nat} {s t : Bool} {p q : Option Addr} {l c a b : Nat} {e f : Int} {w w' : World} (h : Bv2 k s t p q l c a b e f w) (hb : Below w.heap.size w w') : Bv2 k s t p q l c a b e f w' := h.chg (Below.chg hb) (fun h => h) (fun h => h)
/-- A value in new memory. -/
def ValN (w w' : World) (E : Ending) (n : Bool) (e : Int) (R : Nat) : Prop :=
  ∃ q a b, E = .returned (.agg #[.bool n, .slice q a b, .int .i64 e]) ∧ DRes w w' q a b R

/-- The sign of a sum; of one that is 0 it may be any. -/
def sumS (s t : Bool) (A B : Nat) : Bool := if s = t then s else if B ≤ A then s else t
theorem d16_len_wide {N l i : Nat} (h : (d16 N).length = l) : (d16 (N * 10 ^ i)).length ≤ l + i := by
  refine (dB_len_le two16).2 ?_
  have h1 := (dB_len_le two16 (n := N) (k := l)).1 (by rw [← h]; exact Nat.le_refl _)
  have h2 : 10 ^ i ≤ 65536 ^ i := Nat.pow_le_pow_left (by decide) i
  rw [Nat.pow_add]
  exact Nat.lt_of_lt_of_le (Nat.mul_lt_mul_of_pos_right h1 (ten_pos i)) (Nat.mul_le_mul_left _ h2)
theorem ord3_ge {a b : Nat} : 0 ≤ ord3 a b ↔ b ≤ a := by
  unfold ord3; split
  · omega
  · split <;> omega
set_option maxRecDepth 20000 in
set_option maxHeartbeats 8000000 in
theorem sumV_c (w : World) (s t : Bool) (p q : Option Addr) (l c a b : Nat) (e f : Int) (N M : Nat) (g : Int) (i j A B : Nat) (hX : RdD w p l c (d16 N)) (hY : RdD w q a b (d16 M)) (hl : l ≤ 1000) (ha : a ≤ 1000) (he : -1000 ≤ e ∧ e ≤ 1000) (hf : -1000 ≤ f ∧ f ≤ 1000)
    (hg : min e f = g) (hi : e - g = (i : Int)) (hj : f - g = (j : Int)) (hA : A = N * 10 ^ i) (hB : B = M * 10 ^ j) :
    Calls Tryz.prog 12 #[.agg #[.bool s, .slice p l c, .int .i64 e], .agg #[.bool t, .slice q a b, .int .i64 f]] w fun E w' => ValN w w' E (sumS s t A B) g (if s = t then A + B else if B ≤ A then A - B else B - A) := by
  have hs1 : s = t → sumS s t A B = s ∧ (if s = t then A + B else if B ≤ A then A - B else B - A) = A + B := fun h => ⟨by unfold sumS; rw [if_pos h], by rw [if_pos h]⟩
  have hs2 : ¬ s = t → B ≤ A → sumS s t A B = s ∧ (if s = t then A + B else if B ≤ A then A - B else B - A) = A - B := fun h h' => ⟨by unfold sumS; rw [if_neg h, if_pos h'], by rw [if_neg h, if_pos h']⟩
  have hs3 : ¬ s = t → ¬ B ≤ A → sumS s t A B = t ∧ (if s = t then A + B else if B ≤ A then A - B else B - A) = B - A := fun h h' => ⟨by unfold sumS; rw [if_neg h, if_neg h'], by rw [if_neg h, if_neg h']⟩
  generalize sumS s t A B = SG at hs1 hs2 hs3 ⊢
  generalize (if s = t then A + B else if B ≤ A then A - B else B - A) = RR at hs1 hs2 hs3 ⊢
  replace hs1 := Lib.hid hs1
  replace hs2 := Lib.hid hs2
  replace hs3 := Lib.hid hs3
  have hlA : (d16 A).length ≤ 4000 := by rw [hA]; exact Nat.le_trans (d16_len_wide hX.len) (by omega)
  have hlB : (d16 B).length ≤ 4000 := by rw [hB]; exact Nat.le_trans (d16_len_wide hY.len) (by omega)
  have kA := fun W (hb : Below w.heap.size w W) => wideV_c W s p l c e N g i (hX.below hb) (by omega) hi (by omega) (by omega)
  have kB := fun W (hb : Below w.heap.size w W) => wideV_c W t q a b f M g j (hY.below hb) (by omega) hj (by omega) (by omega)
  rw [← hA] at kA
  rw [← hB] at kB
  replace kA := Lib.hid kA
  replace kB := Lib.hid kB
  replace hX := Lib.hid hX
  replace hY := Lib.hid hY
  replace hA := Lib.hid hA
  replace hB := Lib.hid hB
  replace hi := Lib.hid hi
  replace hj := Lib.hid hj
  go_enter Tryz.func12, Tryz.ntmps12
  go_upto_region 1 with (fail)
  generalize hW : ((w.alloc (.cells #[.bool s, .slice p l c, .int .i64 e] 29 (0, 0))).alloc (.cells #[.bool t, .slice q a b, .int .i64 f] 29 (0, 0))).alloc (.cells #[.bool false, .slice none 0 0, .int .i64 0] 29 (0, 0)) = W
  have hB0 : Below w.heap.size w W := by rw [← hW]; exact (((Below.refl _ _).alloc (Nat.le_refl _) _).alloc (by simp) _).alloc (by simp; omega) _
  have hP0 : W.heap[w.heap.size]? = some (.cells #[.bool s, .slice p l c, .int .i64 e] 29 (0, 0)) := by rw [← hW]; exact allocB_old (allocB_old (allocB _ _))
  have hQ0 : W.heap[w.heap.size + 1]? = some (.cells #[.bool t, .slice q a b, .int .i64 f] 29 (0, 0)) := by rw [← hW]; exact allocB_old (allocB_at _ _ (by simp))
  have hR0 : W.heap[w.heap.size + 2]? = some (.cells #[.bool false, .slice none 0 0, .int .i64 0] 29 (0, 0)) := by rw [← hW]; exact allocB_at _ _ (by simp)
  have hsz : W.heap.size = w.heap.size + 3 := by rw [← hW]; simp
  clear hW
  have hBv : Bv2 w.heap.size s t p q l c a b e f W := ⟨hP0, hQ0⟩
  have e2 := cellB hP0 (i := 2) rfl
  have f2 := cellB hQ0 (i := 2) rfl
  replace hBv := Lib.hid hBv
  replace hB0 := Lib.hid hB0
  replace hR0 := Lib.hid hR0
  replace hsz := Lib.hid hsz
  clear hP0 hQ0
  go_upto_region 2 with (fail)
  clear e2 f2
  have hS0 := (show Bv2 w.heap.size s t p q l c a b e f W.drew from hBv.out).cells
  go_region_held3 (fun w' => w'.cell? ⟨w.heap.size, 0, none⟩ = some (.bool s) ∧ w'.cell? ⟨w.heap.size, 1, none⟩ = some (.slice p l c) ∧ w'.cell? ⟨w.heap.size, 2, none⟩ = some (.int .i64 e) ∧ w'.cell? ⟨w.heap.size + 1, 0, none⟩ = some (.bool t) ∧ w'.cell? ⟨w.heap.size + 1, 1, none⟩ = some (.slice q a b) ∧ w'.cell? ⟨w.heap.size + 1, 2, none⟩ = some (.int .i64 f)) (first | exact hS0 | exact hS1 | exact hS2) (first
    | (go_at_call 24
       with_reducible refine (kA.out W.drew (Below.drw hB0.out)).mono ?_
       rintro E w1 ⟨p1, l1, c1, rfl, h1⟩
       have hb1 := bundrew h1.bel
       have hBv1 := hBv.out.new hb1
       have hS1 := hBv1.cells
       replace h1 := Lib.hid h1
       replace hb1 := Lib.hid hb1
       replace hBv1 := Lib.hid hBv1)
    | (go_at_call 24
       with_reducible refine (kB.out w1 (brise hB0.out hb1.out)).mono ?_
       rintro E w2 ⟨q1, a1, b1, rfl, h2⟩
       have hBv2 := hBv1.out.new h2.bel
       have hS2 := hBv2.cells
       replace h2 := Lib.hid h2
       replace hBv2 := Lib.hid hBv2))
  have hrA := h1.out.rd.below h2.out.bel
  have hrB := h2.out.rd
  have hb2 := brise hb1.out h2.out.bel
  have hR2 := bkeep hb2 hR0.out
  have hl1 : l1 ≤ 4000 := by rw [← hrA.len]; exact hlA
  have ha1 : a1 ≤ 4000 := by rw [← hrB.len]; exact hlB
  have c0 := hBv2.out.cells.1
  have d0 := hBv2.out.cells.2.2.2.1
  replace hrA := Lib.hid hrA
  replace hrB := Lib.hid hrB
  replace hb2 := Lib.hid hb2
  replace hR2 := Lib.hid hR2
  replace hlA := Lib.hid hlA
  replace hlB := Lib.hid hlB
  clear hS0 hS1 hS2 h1 h2 kA kB hBv1 hb1 hBv hR0
  by_cases hst : s = t
  · subst hst
    obtain ⟨hsg, hrr⟩ := hs1.out rfl
    replace hsg := Lib.hid hsg
    replace hrr := Lib.hid hrr
    go_upto_region 4 with (fail)
    clear c0 d0
    have k3 := addD_c (w2).drew p1 q1 l1 c1 a1 b1 A B (hrA.out.below (Below.drw (Below.refl _ _))) (hrB.out.below (Below.drw (Below.refl _ _))) (by omega) (by omega)
    replace k3 := Lib.hid k3
    have hS0 : (w2).drew.cell? ⟨w.heap.size, 0, none⟩ = some (.bool s) := hBv2.out.cells.1
    go_region_held3 (fun w' => w'.cell? ⟨w.heap.size, 0, none⟩ = some (.bool s)) (first | exact hS0 | exact hS1 | exact (hBv3.out.chg (chg3 w4 _ _ _ _) (by omega) (by omega)).cells.1) (
      (go_at_call 25
       with_reducible refine k3.out.mono ?_
       rintro E w4 ⟨r, lr, cr, rfl, h4⟩
       have hb4 := bundrew h4.bel
       have hBv3 := hBv2.out.new hb4
       have hR4 := bkeep hb4 hR2.out
       have hS1 := hBv3.cells.1
       have z0 := cellB hR4 (i := 0) rfl
       have z1 := cellB hR4 (i := 1) rfl
       have z2 := cellB hR4 (i := 2) rfl
       have y0 := frozenB hR4 0
       have y1 := frozenB hR4 1
       have y2 := frozenB hR4 2
       replace hR4 := Lib.hid hR4
       replace h4 := Lib.hid h4
       replace hb4 := Lib.hid hb4
       replace hBv3 := Lib.hid hBv3))
    go_wp2
    clear hS0 hS1 z0 z1 z2 y0 y1 y2
    have hE := end3 hR4.out (.bool s) (.slice r lr cr) (.int .i64 g)
    have hch := chg3 w4 (w.heap.size + 2) (.bool s) (.slice r lr cr) (.int .i64 g)
    generalize ((w4.setCell ⟨w.heap.size + 2, 0, none⟩ (.bool s)).setCell ⟨w.heap.size + 2, 1, none⟩ (.slice r lr cr)).setCell ⟨w.heap.size + 2, 2, none⟩ (.int .i64 g) = W9 at hE hch ⊢
    have e0 : W9.cell? ⟨w.heap.size + 1 + 1, 0, none⟩ = some (.bool s) := cellB hE rfl
    have e1 : W9.cell? ⟨w.heap.size + 1 + 1, 1, none⟩ = some (.slice r lr cr) := cellB hE rfl
    have e2 : W9.cell? ⟨w.heap.size + 1 + 1, 2, none⟩ = some (.int .i64 g) := cellB hE rfl
    exact bodyPost_ret (v := .agg #[.bool s, .slice r lr cr, .int .i64 g]) (by simp [results, Tryz.results12, go_sem, e0, e1, e2]) rfl ⟨r, lr, cr, by rw [hsg.out], ((DRes.early (w := W) (w1 := (w2).drew) h4.out (Below.drw hb2.out)).chgBox hB0.out hch (by omega) (by have := hsz.out; omega)).eq hrr.out.symm⟩
  · have hst2 : (s == t) = false := by simpa using hst
    replace hst := Lib.hid hst
    go_upto_region 5 with (fail)
    have kc := cmpD_c w2 p1 q1 l1 c1 a1 b1 A B hrA.out hrB.out
    by_cases hle : B ≤ A
    · have hR := ord3_ge.2 hle
      obtain ⟨hsg, hrr⟩ := hs2.out hst.out hle
      replace hrr := Lib.hid hrr
      generalize ord3 A B = R at hR kc
      replace kc := Lib.hid kc
      replace hsg := Lib.hid hsg
      replace hle := Lib.hid hle
      go_wp2_with fail
      with_reducible refine kc.out.mono ?_
      rintro E w3 ⟨rfl, n, rfl⟩
      have hbn := Below.drwS (w := w2) n
      have hrA := hrA.out.below hbn
      have hrB := hrB.out.below hbn
      have hR2 := bkeep hbn hR2.out
      have hb2 := brise hb2.out hbn
      have hBv2 := hBv2.out.new hbn
      generalize w2.drewN n = w3 at hrA hrB hR2 hb2 hBv2 ⊢
      replace hrA := Lib.hid hrA
      replace hrB := Lib.hid hrB
      replace hR2 := Lib.hid hR2
      replace hb2 := Lib.hid hb2
      replace hBv2 := Lib.hid hBv2
      clear hbn
      go_upto_region 6 with (fail)
      clear c0 d0 kc
      have k3 := subD_c (w3).drew p1 q1 l1 c1 a1 b1 A B (hrA.out.below (Below.drw (Below.refl _ _))) (hrB.out.below (Below.drw (Below.refl _ _))) (by omega) (by omega) hle.out
      replace k3 := Lib.hid k3
      have hS0 : (w3).drew.cell? ⟨w.heap.size, 0, none⟩ = some (.bool s) := hBv2.out.cells.1
      go_region_held3 (fun w' => w'.cell? ⟨w.heap.size, 0, none⟩ = some (.bool s)) (first | exact hS0 | exact hS1 | exact (hBv3.out.chg (chg3 w4 _ _ _ _) (by omega) (by omega)).cells.1) (
        (go_at_call 27
         with_reducible refine k3.out.mono ?_
         rintro E w4 ⟨r, lr, cr, rfl, h4⟩
         have hb4 := bundrew h4.bel
         have hBv3 := hBv2.out.new hb4
         have hR4 := bkeep hb4 hR2.out
         have hS1 := hBv3.cells.1
         have z0 := cellB hR4 (i := 0) rfl
         have z1 := cellB hR4 (i := 1) rfl
         have z2 := cellB hR4 (i := 2) rfl
         have y0 := frozenB hR4 0
         have y1 := frozenB hR4 1
         have y2 := frozenB hR4 2
         replace hR4 := Lib.hid hR4
         replace h4 := Lib.hid h4
         replace hb4 := Lib.hid hb4
         replace hBv3 := Lib.hid hBv3))
      go_wp2
      clear hS0 hS1 z0 z1 z2 y0 y1 y2
      have hE := end3 hR4.out (.bool s) (.slice r lr cr) (.int .i64 g)
      have hch := chg3 w4 (w.heap.size + 2) (.bool s) (.slice r lr cr) (.int .i64 g)
      generalize ((w4.setCell ⟨w.heap.size + 2, 0, none⟩ (.bool s)).setCell ⟨w.heap.size + 2, 1, none⟩ (.slice r lr cr)).setCell ⟨w.heap.size + 2, 2, none⟩ (.int .i64 g) = W9 at hE hch ⊢
      have e0 : W9.cell? ⟨w.heap.size + 1 + 1, 0, none⟩ = some (.bool s) := cellB hE rfl
      have e1 : W9.cell? ⟨w.heap.size + 1 + 1, 1, none⟩ = some (.slice r lr cr) := cellB hE rfl
      have e2 : W9.cell? ⟨w.heap.size + 1 + 1, 2, none⟩ = some (.int .i64 g) := cellB hE rfl
      exact bodyPost_ret (v := .agg #[.bool s, .slice r lr cr, .int .i64 g]) (by simp [results, Tryz.results12, go_sem, e0, e1, e2]) rfl ⟨r, lr, cr, by rw [hsg.out], ((DRes.early (w := W) (w1 := (w3).drew) h4.out (Below.drw hb2.out)).chgBox hB0.out hch (by omega) (by have := hsz.out; omega)).eq hrr.out.symm⟩
    · have hR : ¬ 0 ≤ ord3 A B := fun h => hle (ord3_ge.1 h)
      obtain ⟨hsg, hrr⟩ := hs3.out hst.out hle
      replace hrr := Lib.hid hrr
      generalize ord3 A B = R at hR kc
      have hR : R < 0 := by omega
      have hRd : decide (0 ≤ R) = false := by simp; omega
      replace kc := Lib.hid kc
      replace hsg := Lib.hid hsg
      have hle2 : A ≤ B := by omega
      replace hle := Lib.hid hle
      replace hle2 := Lib.hid hle2
      go_wp2_with fail
      with_reducible refine kc.out.mono ?_
      rintro E w3 ⟨rfl, n, rfl⟩
      have hbn := Below.drwS (w := w2) n
      have hrA := hrA.out.below hbn
      have hrB := hrB.out.below hbn
      have hR2 := bkeep hbn hR2.out
      have hb2 := brise hb2.out hbn
      have hBv2 := hBv2.out.new hbn
      generalize w2.drewN n = w3 at hrA hrB hR2 hb2 hBv2 ⊢
      replace hrA := Lib.hid hrA
      replace hrB := Lib.hid hrB
      replace hR2 := Lib.hid hR2
      replace hb2 := Lib.hid hb2
      replace hBv2 := Lib.hid hBv2
      clear hbn
      go_upto_region 7 with (fail)
      clear c0 d0 kc
      have k3 := subD_c (w3).drew q1 p1 a1 b1 l1 c1 B A (hrB.out.below (Below.drw (Below.refl _ _))) (hrA.out.below (Below.drw (Below.refl _ _))) (by omega) (by omega) hle2.out
      replace k3 := Lib.hid k3
      have hS0 : (w3).drew.cell? ⟨w.heap.size + 1, 0, none⟩ = some (.bool t) := hBv2.out.cells.2.2.2.1
      go_region_held3 (fun w' => w'.cell? ⟨w.heap.size + 1, 0, none⟩ = some (.bool t)) (first | exact hS0 | exact hS1 | exact (hBv3.out.chg (chg3 w4 _ _ _ _) (by omega) (by omega)).cells.2.2.2.1) (
        (go_at_call 27
         with_reducible refine k3.out.mono ?_
         rintro E w4 ⟨r, lr, cr, rfl, h4⟩
         have hb4 := bundrew h4.bel
         have hBv3 := hBv2.out.new hb4
         have hR4 := bkeep hb4 hR2.out
         have hS1 := hBv3.cells.2.2.2.1
         have z0 := cellB hR4 (i := 0) rfl
         have z1 := cellB hR4 (i := 1) rfl
         have z2 := cellB hR4 (i := 2) rfl
         have y0 := frozenB hR4 0
         have y1 := frozenB hR4 1
         have y2 := frozenB hR4 2
         replace hR4 := Lib.hid hR4
         replace h4 := Lib.hid h4
         replace hb4 := Lib.hid hb4
         replace hBv3 := Lib.hid hBv3))
      go_wp2
      clear hS0 hS1 z0 z1 z2 y0 y1 y2
      have hE := end3 hR4.out (.bool t) (.slice r lr cr) (.int .i64 g)
      have hch := chg3 w4 (w.heap.size + 2) (.bool t) (.slice r lr cr) (.int .i64 g)
      generalize ((w4.setCell ⟨w.heap.size + 2, 0, none⟩ (.bool t)).setCell ⟨w.heap.size + 2, 1, none⟩ (.slice r lr cr)).setCell ⟨w.heap.size + 2, 2, none⟩ (.int .i64 g) = W9 at hE hch ⊢
      have e0 : W9.cell? ⟨w.heap.size + 1 + 1, 0, none⟩ = some (.bool t) := cellB hE rfl
      have e1 : W9.cell? ⟨w.heap.size + 1 + 1, 1, none⟩ = some (.slice r lr cr) := cellB hE rfl
      have e2 : W9.cell? ⟨w.heap.size + 1 + 1, 2, none⟩ = some (.int .i64 g) := cellB hE rfl
      exact bodyPost_ret (v := .agg #[.bool t, .slice r lr cr, .int .i64 g]) (by simp [results, Tryz.results12, go_sem, e0, e1, e2]) rfl ⟨r, lr, cr, by rw [hsg.out], ((DRes.early (w := W) (w1 := (w3).drew) h4.out (Below.drw hb2.out)).chgBox hB0.out hch (by omega) (by have := hsz.out; omega)).eq hrr.out.symm⟩
end Go.Proofs.YtonepclpllelfaaGreatDoor

namespace Go.Proofs.YtonepclpllelfaaGreatDoor
open Go Go.RowKit

set_option maxRecDepth 20000 in
set_option maxHeartbeats 4000000 in
theorem prodV_c (w : World) (s t : Bool) (p q : Option Addr) (l c a b : Nat) (e f : Int) (N M : Nat) (hX : RdD w p l c (d16 N)) (hY : RdD w q a b (d16 M)) (hl : l ≤ 1000000) (ha : a ≤ 1000000) (he : -1000000 ≤ e ∧ e ≤ 1000000) (hf : -1000000 ≤ f ∧ f ≤ 1000000) :
    Calls Tryz.prog 15 #[.agg #[.bool s, .slice p l c, .int .i64 e], .agg #[.bool t, .slice q a b, .int .i64 f]] w fun E w' => ValN w w' E (s != t) (e + f) (N * M) := by
  have hef : IntKind.i64.wrap (e + f) = e + f := IntWalk.i64_in _ (by omega)
  replace hX := Lib.hid hX
  replace hY := Lib.hid hY
  go_enter Tryz.func15, Tryz.ntmps15
  go_upto_region 1 with (fail)
  generalize hW : ((w.alloc (.cells #[.bool s, .slice p l c, .int .i64 e] 29 (0, 0))).alloc (.cells #[.bool t, .slice q a b, .int .i64 f] 29 (0, 0))).alloc (.cells #[.bool false, .slice none 0 0, .int .i64 0] 29 (0, 0)) = W
  have hB0 : Below w.heap.size w W := by rw [← hW]; exact (((Below.refl _ _).alloc (Nat.le_refl _) _).alloc (by simp) _).alloc (by simp; omega) _
  have hP0 : W.heap[w.heap.size]? = some (.cells #[.bool s, .slice p l c, .int .i64 e] 29 (0, 0)) := by rw [← hW]; exact allocB_old (allocB_old (allocB _ _))
  have hQ0 : W.heap[w.heap.size + 1]? = some (.cells #[.bool t, .slice q a b, .int .i64 f] 29 (0, 0)) := by rw [← hW]; exact allocB_old (allocB_at _ _ (by simp))
  have hR0 : W.heap[w.heap.size + 2]? = some (.cells #[.bool false, .slice none 0 0, .int .i64 0] 29 (0, 0)) := by rw [← hW]; exact allocB_at _ _ (by simp)
  have hsz : W.heap.size = w.heap.size + 3 := by rw [← hW]; simp
  clear hW
  have hS0 : W.drew.cell? ⟨w.heap.size, 0, none⟩ = some (.bool s) ∧ W.drew.cell? ⟨w.heap.size, 1, none⟩ = some (.slice p l c) ∧ W.drew.cell? ⟨w.heap.size, 2, none⟩ = some (.int .i64 e) ∧ W.drew.cell? ⟨w.heap.size + 1, 0, none⟩ = some (.bool t) ∧ W.drew.cell? ⟨w.heap.size + 1, 1, none⟩ = some (.slice q a b) ∧ W.drew.cell? ⟨w.heap.size + 1, 2, none⟩ = some (.int .i64 f) := ⟨cellB hP0 rfl, cellB hP0 rfl, cellB hP0 rfl, cellB hQ0 rfl, cellB hQ0 rfl, cellB hQ0 rfl⟩
  have km := mulD_c W.drew p q l c a b N M ((hX.out.below hB0).below (Below.drw (Below.refl _ _))) ((hY.out.below hB0).below (Below.drw (Below.refl _ _))) hl ha
  replace km := Lib.hid km
  replace hB0 := Lib.hid hB0
  replace hP0 := Lib.hid hP0
  replace hQ0 := Lib.hid hQ0
  replace hR0 := Lib.hid hR0
  replace hsz := Lib.hid hsz
  go_region_held3 (fun w' => w'.cell? ⟨w.heap.size, 0, none⟩ = some (.bool s) ∧ w'.cell? ⟨w.heap.size, 1, none⟩ = some (.slice p l c) ∧ w'.cell? ⟨w.heap.size, 2, none⟩ = some (.int .i64 e) ∧ w'.cell? ⟨w.heap.size + 1, 0, none⟩ = some (.bool t) ∧ w'.cell? ⟨w.heap.size + 1, 1, none⟩ = some (.slice q a b) ∧ w'.cell? ⟨w.heap.size + 1, 2, none⟩ = some (.int .i64 f)) (first | exact hS0 | exact hS1 | exact (hB1.out.chg (chg3 w1 _ _ _ _) (by omega) (by omega)).cells) (
    (go_at_call 28
     with_reducible refine km.out.mono ?_
     rintro E w1 ⟨r, lr, cr, rfl, h1⟩
     have hb1 := bundrew h1.bel
     have hP1 := bkeep hb1 hP0.out
     have hQ1 := bkeep hb1 hQ0.out
     have hR1 := bkeep hb1 hR0.out
     have hS1 : w1.cell? ⟨w.heap.size, 0, none⟩ = some (.bool s) ∧ w1.cell? ⟨w.heap.size, 1, none⟩ = some (.slice p l c) ∧ w1.cell? ⟨w.heap.size, 2, none⟩ = some (.int .i64 e) ∧ w1.cell? ⟨w.heap.size + 1, 0, none⟩ = some (.bool t) ∧ w1.cell? ⟨w.heap.size + 1, 1, none⟩ = some (.slice q a b) ∧ w1.cell? ⟨w.heap.size + 1, 2, none⟩ = some (.int .i64 f) := ⟨cellB hP1 rfl, cellB hP1 rfl, cellB hP1 rfl, cellB hQ1 rfl, cellB hQ1 rfl, cellB hQ1 rfl⟩
     have z0 := cellB hR1 (i := 0) rfl
     have z1 := cellB hR1 (i := 1) rfl
     have z2 := cellB hR1 (i := 2) rfl
     have y0 := frozenB hR1 0
     have y1 := frozenB hR1 1
     have y2 := frozenB hR1 2
     have hB1 : Bv2 w.heap.size s t p q l c a b e f w1 := ⟨hP1, hQ1⟩
     replace hB1 := Lib.hid hB1
     replace hR1 := Lib.hid hR1
     replace h1 := Lib.hid h1
     replace hb1 := Lib.hid hb1
     clear hP1 hQ1))
  go_wp2
  clear hS0 hS1 z0 z1 z2 y0 y1 y2
  have hE := end3 hR1.out (.bool (!(s == t))) (.slice r lr cr) (.int .i64 (e + f))
  have hch := chg3 w1 (w.heap.size + 2) (.bool (!(s == t))) (.slice r lr cr) (.int .i64 (e + f))
  generalize ((w1.setCell ⟨w.heap.size + 2, 0, none⟩ (.bool (!(s == t)))).setCell ⟨w.heap.size + 2, 1, none⟩ (.slice r lr cr)).setCell ⟨w.heap.size + 2, 2, none⟩ (.int .i64 (e + f)) = W9 at hE hch ⊢
  have e0 : W9.cell? ⟨w.heap.size + 1 + 1, 0, none⟩ = some (.bool (!(s == t))) := cellB hE rfl
  have e1 : W9.cell? ⟨w.heap.size + 1 + 1, 1, none⟩ = some (.slice r lr cr) := cellB hE rfl
  have e2 : W9.cell? ⟨w.heap.size + 1 + 1, 2, none⟩ = some (.int .i64 (e + f)) := cellB hE rfl
  exact bodyPost_ret (v := .agg #[.bool (!(s == t)), .slice r lr cr, .int .i64 (e + f)]) (by simp [results, Tryz.results15, go_sem, e0, e1, e2]) rfl ⟨r, lr, cr, rfl, (DRes.early (w := W) (w1 := W.drew) h1.out (Below.drw (Below.refl _ _))).chgBox hB0.out hch (by omega) (by have := hsz.out; omega)⟩
end Go.Proofs.YtonepclpllelfaaGreatDoor


namespace Go.Proofs.YtonepclpllelfaaGreatDoor
open Go Go.RowKit

set_option maxRecDepth 20000 in
set_option maxHeartbeats 4000000 in
theorem orderP_c (w : World) (p q : Option Addr) (l c a b : Nat) (e f : Int) (N M : Nat) (g : Int) (i j A B : Nat) (hX : RdD w p l c (d16 N)) (hY : RdD w q a b (d16 M)) (hl : l ≤ 1000) (ha : a ≤ 1000) (he : -1000 ≤ e ∧ e ≤ 1000) (hf : -1000 ≤ f ∧ f ≤ 1000)
    (hg : min e f = g) (hi : e - g = (i : Int)) (hj : f - g = (j : Int)) (hA : A = N * 10 ^ i) (hB : B = M * 10 ^ j) :
    Calls Tryz.prog 14 #[.agg #[.bool false, .slice p l c, .int .i64 e], .agg #[.bool false, .slice q a b, .int .i64 f]] w fun E w' => E = .returned (.int .i64 (ord3 A B)) ∧ Below w.heap.size w w' := by
  have ks := fun W (hb : Below w.heap.size w W) => sumV_c W false true p q l c a b e f N M g i j A B (hX.below hb) (hY.below hb) hl ha he hf hg hi hj hA hB
  rw [if_neg (by decide)] at ks
  obtain ⟨SG, hSG⟩ : ∃ SG, sumS false true A B = SG := ⟨_, rfl⟩
  obtain ⟨R, hR⟩ : ∃ R, (if B ≤ A then A - B else B - A) = R := ⟨_, rfl⟩
  have hv : ∀ lr : Nat, (lr = 0 ↔ R = 0) → (if lr = 0 then (0 : Int) else if SG then -1 else 1) = ord3 A B := by
    intro lr hl0
    rw [← hSG]
    rw [← hR] at hl0
    unfold sumS ord3
    rw [if_neg (show ¬ false = true by decide)]
    by_cases h1 : B ≤ A
    · rw [if_pos h1] at hl0
      rw [if_pos h1]
      by_cases h2 : A = B
      · rw [if_pos (hl0.2 (by omega))]; simp [h2]
      · rw [if_neg (fun h => by have := hl0.1 h; omega)]; simp; omega
    · rw [if_neg h1] at hl0
      rw [if_neg h1, if_neg (fun h => by have := hl0.1 h; omega)]; simp; omega
  obtain ⟨rv, hrv⟩ : ∃ rv, ord3 A B = rv := ⟨_, rfl⟩
  rw [hrv] at hv ⊢
  rw [hSG, hR] at ks
  replace hv := Lib.hid hv
  replace hrv := Lib.hid hrv
  replace hR := Lib.hid hR
  replace ks := Lib.hid ks
  replace hSG := Lib.hid hSG
  replace hX := Lib.hid hX
  replace hY := Lib.hid hY
  clear hA hB hg hi hj
  go_enter Tryz.func14, Tryz.ntmps14
  go_upto_region 1 with (fail)
  generalize hW : (w.alloc (.cells #[.bool false, .slice p l c, .int .i64 e] 29 (0, 0))).alloc (.cells #[.bool false, .slice q a b, .int .i64 f] 29 (0, 0)) = W
  have hB0 : Below w.heap.size w W := by rw [← hW]; exact ((Below.refl _ _).alloc (Nat.le_refl _) _).alloc (by simp) _
  have hBv : Bv2 w.heap.size false false p q l c a b e f W := by rw [← hW]; exact ⟨allocB_old (allocB _ _), allocB_at _ _ (by simp)⟩
  clear hW
  have ko := opp_c W.drew false q a b f M ((hY.out.below hB0).below (Below.drw (Below.refl _ _)))
  have hS0 := (show Bv2 w.heap.size false false p q l c a b e f W.drew from hBv).cells
  replace ko := Lib.hid ko
  replace hB0 := Lib.hid hB0
  replace hBv := Lib.hid hBv
  go_region_held3 (fun w' => w'.cell? ⟨w.heap.size, 0, none⟩ = some (.bool false) ∧ w'.cell? ⟨w.heap.size, 1, none⟩ = some (.slice p l c) ∧ w'.cell? ⟨w.heap.size, 2, none⟩ = some (.int .i64 e) ∧ w'.cell? ⟨w.heap.size + 1, 0, none⟩ = some (.bool false) ∧ w'.cell? ⟨w.heap.size + 1, 1, none⟩ = some (.slice q a b) ∧ w'.cell? ⟨w.heap.size + 1, 2, none⟩ = some (.int .i64 f)) (first | exact hS0 | exact hS1 | exact hS2 | exact hS3) (first
    | (go_at_call 13
       with_reducible refine ko.out.mono ?_
       rintro E w1 ⟨rfl, hbo⟩
       have hb1 := bundrew hbo
       have hS1 := (hBv.out.new hb1).cells
       replace hb1 := Lib.hid hb1
       clear hbo)
    | (go_at_call 12
       with_reducible refine (ks.out w1 (brise hB0.out hb1.out)).mono ?_
       rintro E w2 ⟨r, lr, cr, rfl, h2⟩
       have ksg := sign_c w2 SG r lr cr g
       rw [hv.out lr (d16_len0 h2.rd.len)] at ksg
       replace ksg := Lib.hid ksg
       have hb2 := brise hb1.out h2.bel
       have hS2 := (hBv.out.new hb2).cells
       replace hb2 := Lib.hid hb2
       clear h2)
    | (go_at_call 6
       with_reducible refine ksg.out.mono ?_
       rintro E w3 ⟨rfl, hb3'⟩
       have hb3 := brise hb2.out hb3'
       have hS3 := (hBv.out.new hb3).cells
       replace hb3 := Lib.hid hb3
       clear hb3'))
  go_wp2
  go_ret
  exact ⟨rfl, brise hB0.out hb3.out⟩
end Go.Proofs.YtonepclpllelfaaGreatDoor
