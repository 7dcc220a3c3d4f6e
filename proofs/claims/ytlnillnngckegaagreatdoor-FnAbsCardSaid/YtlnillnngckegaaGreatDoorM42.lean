/- The reference's natural numbers: a product; by one digit. The reference's natural numbers: bits, a power of 2, times a power of 2. -/
import Derived.Test.YtlnillnngckegaaGreatDoorM06
import Derived.Test.YtlnillnngckegaaGreatDoorM41
namespace Go.Proofs.YtlnillnngckegaaGreatDoor
open Go Go.RowKit

/-- A block of digits. -/
structure ArrD (w : World) (b : Nat) (D : List Nat) : Prop where
  heap : w.heap[b]? = some (.cells (D.map sw).toArray 3 (0, 0))
  dg : DgB 65536 D
theorem ArrD.cell {w : World} {b : Nat} {D : List Nat} (h : ArrD w b D) {i : Nat} (hi : i < D.length) : w.cell? ⟨b, i, none⟩ = some (.int .i64 (nth D i : Int)) := by
  refine cellB h.heap ?_
  rw [List.getElem?_toArray, List.getElem?_map, get_nth hi]; rfl
theorem ArrD.frozen {w : World} {b : Nat} {D : List Nat} (h : ArrD w b D) (i : Nat) : w.frozen? ⟨b, i, none⟩ = false := frozenB h.heap i
theorem ArrD.lt {w : World} {b : Nat} {D : List Nat} (h : ArrD w b D) : b < w.heap.size := ltB h.heap
theorem ArrD.set {w : World} {b : Nat} {D : List Nat} (h : ArrD w b D) (i : Nat) {s : Int} {x : Nat} (hs : s = (x : Int)) (hx : x < 65536) : ArrD (w.setCell ⟨b, i, none⟩ (.int .i64 s)) b (D.set i x) := by
  subst hs
  refine ⟨?_, h.dg.set i hx⟩
  have h1 := setB (i := i) (v := .int .i64 (x : Int)) h.heap
  rw [h1]
  congr 2
  apply Array.ext'
  simp [List.map_set, sw]
theorem ArrD.rd {w : World} {b n : Nat} {D : List Nat} (h : ArrD w b D) (hn : D.length = n) (hm : n ≤ 100000000) : RdD w (some ⟨b, 0, none⟩) n n D :=
  ⟨hn, Nat.le_refl _, by omega, h.dg, fun _ => ⟨_, rfl, fun j hj => by rw [add0]; exact h.cell (by omega)⟩⟩
def zeroI (c : Nat) : Obj := .cells ((List.replicate c 0).map sw).toArray 3 (0, 0)
theorem arrD_zero (w : World) (c : Nat) : ArrD (w.alloc (zeroI c)) w.heap.size (List.replicate c 0) := ⟨allocB _ _, DgB.zeros (by decide) c⟩
theorem run_makeI (w : World) {l : Int} {l' : Nat} (hl : l = l') (hcap : l' ≤ 100000000) :
    (Instr.makeSlice 27 (.int .i64 l) (.int .i64 l)).run Tryz.prog w = .ok (.slice (some ⟨w.heap.size, 0, none⟩) l' l') (w.alloc (zeroI l')) := by
  have h := makeI
  cases hi : Tryz.prog.info? 3 with
  | none => rw [hi] at h; cases h
  | some i =>
    rw [hi] at h
    simp only [Option.map_some, Option.some.injEq, Prod.mk.injEq] at h
    obtain ⟨h1, h2, h3⟩ := h
    subst hl
    rw [run_make (P := Tryz.prog) w 27 3 i (.int .i64 0) Tryz.underlying27 hi h1 .i64 .i64 l' l' (by omega) (by omega) (by rw [h3]; omega) (by omega)]
    simp only [Int.toNat_natCast]
    have e : madeCells (Value.int .i64 0).cells (l' * i.size) = ((List.replicate l' 0).map sw).toArray := by
      rw [h2, Nat.mul_one]
      unfold madeCells
      apply Array.ext
      · simp
      · intro j h1 h2
        simp [Value.cells, sw]
        have : j % 1 = 0 := Nat.mod_one j
        simp [Nat.mod_one]
    unfold zeroI
    rw [e]
/-- A block that is handed back is trimmed. -/
theorem trimArr {w wr : World} {b n N : Nat} {D : List Nat} (hb : Below w.heap.size w wr) (h : ArrD wr b D) (hg : w.heap.size ≤ b) (hn : D.length = n) (hm : n ≤ 100000000) (hv : vB 65536 D = N) :
    Calls Tryz.prog 62 #[.slice (some ⟨b, 0, none⟩) n n] wr fun e w' => wr = w' ∧ ∃ m, e = .returned (.slice (some ⟨b, 0, none⟩) m n) ∧ DRes w wr (some ⟨b, 0, none⟩) m n N := by
  subst hv
  exact (trim_c wr _ n n D (h.rd hn hm)).mono fun e w' ⟨hw, m, he, hr⟩ => ⟨hw, m, he, hr, fun ad ha => by cases ha; exact hg, hb⟩

set_option maxRecDepth 20000 in
set_option maxHeartbeats 4000000 in
theorem mulD_c (w : World) (A B : Option Addr) (l c m d N M : Nat) (hX : RdD w A l c (d16 N)) (hY : RdD w B m d (d16 M)) (hl : l ≤ 1000000) (hm : m ≤ 1000000) :
    Calls Tryz.prog 35 #[.slice A l c, .slice B m d] w fun e w' => ∃ p n cc, e = .returned (.slice p n cc) ∧ DRes w w' p n cc (N * M) := by
  have hlx := hX.len
  have hly := hY.len
  have hmk := fun w => run_makeI w (l := (l : Int) + (m : Int)) (l' := l + m) (by omega) (by omega)
  have haz := arrD_zero w (l + m)
  obtain ⟨g, hge⟩ : ∃ g, w.heap.size = g := ⟨_, rfl⟩
  have hgw : w.heap.size ≤ g := Nat.le_of_eq hge
  replace hge := Lib.hid hge
  replace haz := Lib.hid haz
  replace hX := Lib.hid hX
  replace hY := Lib.hid hY
  replace hlx := Lib.hid hlx
  replace hly := Lib.hid hly
  go_enter Tryz.func35, Tryz.ntmps35
  go_wp2
  rw [hge.out]
  clear hmk
  go_loopw [19] (fun i wr => ∃ (k : Nat) (O : List Nat), k ≤ l ∧ i = .int .i64 k ∧ Below w.heap.size w wr ∧ ArrD wr g O ∧ O.length = l + m ∧ vB 65536 O = vB 65536 ((d16 N).take k) * M ∧ (∀ j, k + m ≤ j → nth O j = 0)) (fun i _ => l - (intOf i).toNat)
  case atStart =>
    refine ⟨0, List.replicate (l + m) 0, Nat.zero_le _, rfl, (Below.refl _ _).alloc (Nat.le_refl _) _, ?_, by simp, by rw [vB_zeros]; simp, fun j _ => nth_zeros _ _⟩
    have := haz.out
    rw [hge.out] at this
    exact this
  case round =>
    obtain ⟨k, O, hk, rfl, hb, hO, hOl, hv, hz⟩ := hrel
    by_cases hlt : k < l
    · obtain ⟨x, hx⟩ : ∃ x, nth (d16 N) k = x := ⟨_, rfl⟩
      have hxb : x < 65536 := by rw [← hx]; exact d16_nth N k
      obtain ⟨ada, rfl, ca⟩ := hX.out.at hb hlt
      rw [hx] at ca
      replace hx := Lib.hid hx
      replace hb := Lib.hid hb
      replace hO := Lib.hid hO
      replace hOl := Lib.hid hOl
      replace hv := Lib.hid hv
      replace hz := Lib.hid hz
      go_wp2
      go_loopw [8, 26] (fun cy i wi => ∃ (q t : Nat) (P : List Nat), q ≤ m ∧ i = .int .i64 q ∧ cy = .int .i64 t ∧ t < 65536 ∧ Below w.heap.size w wi ∧ ArrD wi g P ∧ P.length = l + m ∧ vB 65536 P + 65536 ^ (k + q) * t = vB 65536 ((d16 N).take k) * M + 65536 ^ k * (x * vB 65536 ((d16 M).take q)) ∧ (∀ j, k + m ≤ j → nth P j = 0)) (fun _ i _ => m - (intOf i).toNat)
      case atStart => exact ⟨0, 0, O, Nat.zero_le _, rfl, rfl, by omega, hb.out, hO.out, hOl.out, by rw [hv.out]; simp, hz.out⟩
      case round =>
        obtain ⟨q, t, P, hq, rfl, rfl, ht, hb2, hP, hPl, hv2, hz2⟩ := hrel
        clear hb hO hOl hv hz ca
        by_cases hlq : q < m
        · obtain ⟨y, hy⟩ : ∃ y, nth (d16 M) q = y := ⟨_, rfl⟩
          obtain ⟨z, hz⟩ : ∃ z, nth P (k + q) = z := ⟨_, rfl⟩
          have hyb : y < 65536 := by rw [← hy]; exact d16_nth M q
          have hzb : z < 65536 := by rw [← hz]; exact hP.dg.nth (by decide) _
          obtain ⟨adb, rfl, cb⟩ := hY.out.at hb2 hlq
          rw [hy] at cb
          have cz := hP.cell (i := k + q) (by omega)
          rw [hz] at cz
          have fz := hP.frozen (k + q)
          have hst := mulD_step (b := d16 M) (O := P) (i := k) (k := q) (c := t) (x := x) (by omega) hv2
          rw [hz, hy] at hst
          obtain ⟨b1, b2, b3⟩ := mulD_bd ht hzb hxb hyb
          have hpe : (x : Int) * (y : Int) = ((x * y : Nat) : Int) := by simp
          generalize x * y = pr at hpe hst b1 b2 b3
          have hset : ∀ s : Int, s = (((t + (z + pr)) % 65536 : Nat) : Int) → ArrD (wr.setCell ⟨g, k + q, none⟩ (.int .i64 s)) g (P.set (k + q) ((t + (z + pr)) % 65536)) := fun s hs => hP.set (k + q) hs (Nat.mod_lt _ (by decide))
          have hz3 : ∀ j, k + m ≤ j → nth (P.set (k + q) ((t + (z + pr)) % 65536)) j = 0 := fun j hj => by rw [setD_ne (by omega)]; exact hz2 j hj
          have hPl3 : (P.set (k + q) ((t + (z + pr)) % 65536)).length = l + m := by rw [List.length_set]; exact hPl
          replace hset := Lib.hid hset
          replace hz3 := Lib.hid hz3
          replace hPl3 := Lib.hid hPl3
          replace hst := Lib.hid hst
          replace hz := Lib.hid hz
          replace hy := Lib.hid hy
          replace hb2 := Lib.hid hb2
          replace b1 := Lib.hid b1
          clear hP hPl hv2 hz2
          go_wp2
          go_roundw
          case rel =>
            refine ⟨q + 1, (t + (z + pr)) / 65536, _, by omega, by go_num, by go_num, b1.out, hb2.out.setCell hgw _, hset.out _ (by omega), hPl3.out, hst.out, hz3.out⟩
          case measure => simp [intOf]; omega
        · obtain rfl : q = m := by omega
          have hend := mulD_end (a := d16 N) (b := d16 M) (O := P) (i := k) (c := t) (by rw [hly.out]; omega) (by rw [hly.out]; exact hz2 _ (Nat.le_refl _)) (by rw [hly.out, hx.out, d16_val]; exact hv2)
          rw [hly.out, d16_val] at hend
          have fz := hP.frozen (k + q)
          have cz := hP.cell (i := k + q) (by omega)
          have hset := hP.set (k + q) (s := (t : Int)) rfl ht
          have hz3 : ∀ j, k + 1 + q ≤ j → nth (P.set (k + q) t) j = 0 := fun j hj => by rw [setD_ne (by omega)]; exact hz2 j (by omega)
          have hPl3 : (P.set (k + q) t).length = l + q := by rw [List.length_set]; exact hPl
          replace hset := Lib.hid hset
          replace hz3 := Lib.hid hz3
          replace hPl3 := Lib.hid hPl3
          replace hend := Lib.hid hend
          replace hb2 := Lib.hid hb2
          clear hP hPl hv2 hz2
          go_wp2
          go_roundw
          case rel => exact ⟨k + 1, _, by omega, by go_num, hb2.out.setCell hgw _, hset.out, hPl3.out, hend.out, hz3.out⟩
          case measure => simp [intOf]; omega
    · obtain rfl : k = l := by omega
      have k1 := trimArr hb hO hgw hOl (by omega) (N := N * M) (by rw [hv, vB_take_all (by rw [hlx.out]; exact Nat.le_refl _), d16_val])
      replace k1 := Lib.hid k1
      clear hb hO hOl hv hz
      go_wp2_with fail
      with_reducible refine k1.out.mono ?_
      rintro E w' ⟨hw, q, rfl, hr⟩
      obtain rfl := hw
      go_wp2
      go_ret
      exact ⟨_, q, _, rfl, hr⟩

set_option maxRecDepth 20000 in
set_option maxHeartbeats 4000000 in
theorem byD_c (w : World) (A : Option Addr) (l c N d : Nat) (hX : RdD w A l c (d16 N)) (hl : l ≤ 1000000) (hd : 0 < d) (hd2 : d < 65536) :
    Calls Tryz.prog 75 #[.slice A l c, .int .i64 (d : Int)] w fun e w' => ∃ p n cc, e = .returned (.tuple #[.slice p n cc, .int .i64 ((N % d : Nat) : Int)]) ∧ DRes w w' p n cc (N / d) := by
  have hlx := hX.len
  have hmk := fun w => run_makeI w (l := (l : Int)) (l' := l) rfl (by omega)
  have haz := arrD_zero w l
  obtain ⟨g, hge⟩ : ∃ g, w.heap.size = g := ⟨_, rfl⟩
  have hgw : w.heap.size ≤ g := Nat.le_of_eq hge
  have hdne : ((d : Int) == 0) = false := by simp; omega
  replace hge := Lib.hid hge
  replace haz := Lib.hid haz
  replace hX := Lib.hid hX
  replace hlx := Lib.hid hlx
  go_enter Tryz.func75, Tryz.ntmps75
  go_wp2
  rw [hge.out]
  clear hmk
  go_loopw [7, 8] (fun rs i wr => ∃ (k r : Nat) (O : List Nat), k ≤ l ∧ i = .int .i64 ((k : Int) - 1) ∧ rs = .int .i64 (r : Int) ∧ r < d ∧ Below w.heap.size w wr ∧ ArrD wr g O ∧ O.length = l ∧ vB 65536 (O.drop k) * d + r = vB 65536 ((d16 N).drop k)) (fun _ i _ => (intOf i + 1).toNat)
  case atStart =>
    refine ⟨l, 0, List.replicate l 0, Nat.le_refl _, rfl, rfl, hd, (Below.refl _ _).alloc (Nat.le_refl _) _, ?_, by simp, ?_⟩
    · have := haz.out
      rw [hge.out] at this
      exact this
    · rw [List.drop_eq_nil_of_le (by simp), List.drop_eq_nil_of_le (by rw [hlx.out]; exact Nat.le_refl _)]; simp
  case round =>
    obtain ⟨k, r, O, hk, rfl, rfl, hr, hb, hO, hOl, hv⟩ := hrel
    by_cases hk0 : k = 0
    · subst hk0
      rw [List.drop_zero, List.drop_zero, d16_val] at hv
      obtain ⟨e1, e2⟩ := divD_end hr hv
      have k1 := trimArr hb hO hgw hOl (by omega) e1
      replace k1 := Lib.hid k1
      subst e2
      clear hb hO hOl hv e1
      go_wp2_with fail
      with_reducible refine k1.out.mono ?_
      rintro E w' ⟨hw, q, rfl, hr⟩
      obtain rfl := hw
      go_wp2
      go_ret2
      exact ⟨_, q, _, rfl, hr⟩
    · obtain ⟨j, rfl⟩ : ∃ j, k = j + 1 := ⟨k - 1, by omega⟩
      have hj : ((j + 1 : Nat) : Int) - 1 = (j : Int) := by omega
      rw [hj]
      clear hj
      obtain ⟨x, hx⟩ : ∃ x, nth (d16 N) j = x := ⟨_, rfl⟩
      have hxb : x < 65536 := by rw [← hx]; exact d16_nth N j
      obtain ⟨ada, rfl, ca⟩ := hX.out.at hb (k := j) (by omega)
      rw [hx] at ca
      obtain ⟨b1, b2, b3⟩ := divD_step (D := d16 N) (O := O) (i := j) (d := d) (r := r) (by rw [hOl, hlx.out]) (by rw [hlx.out]; omega) hd hr (by rw [hx]; exact hxb) hv
      rw [hx] at b1 b2 b3
      have cz := hO.cell (i := j) (by omega)
      have fz := hO.frozen j
      have hset : ∀ s : Int, s = (((r * 65536 + x) / d : Nat) : Int) → ArrD (wr.setCell ⟨g, j, none⟩ (.int .i64 s)) g (O.set j ((r * 65536 + x) / d)) := fun s hs => hO.set j hs b1
      have hOl3 : (O.set j ((r * 65536 + x) / d)).length = l := by rw [List.length_set]; exact hOl
      have hv1 : (r : Int) * 65536 + (x : Int) ≤ 4294967295 := by omega
      replace hset := Lib.hid hset
      replace hOl3 := Lib.hid hOl3
      replace hx := Lib.hid hx
      replace hb := Lib.hid hb
      replace b1 := Lib.hid b1
      replace b2 := Lib.hid b2
      replace b3 := Lib.hid b3
      clear hO hOl hv
      go_wp2
      go_roundw
      case rel =>
        exact ⟨j, (r * 65536 + x) % d, _, by omega, rfl, by go_num, b2.out, hb.out.setCell hgw _, hset.out _ (by simp), hOl3.out, b3.out⟩
      case measure => simp [intOf]
end Go.Proofs.YtlnillnngckegaaGreatDoor

namespace Go.Proofs.YtlnillnngckegaaGreatDoor
open Go Go.RowKit

theorem nbits_half {t : Nat} (h : t ≠ 0) : nbits (t / 2) + 1 = nbits t := by
  have h1 := nbits_lt t
  have h2 := nbits_ge h
  have h3 := nbits_pos h
  obtain ⟨m, hm⟩ : ∃ m, nbits t = m + 1 := ⟨nbits t - 1, by omega⟩
  rw [hm] at h1 h2 ⊢
  rw [Nat.add_sub_cancel] at h2
  rw [Nat.pow_succ] at h1
  by_cases h0 : m = 0
  · subst h0
    obtain rfl : t = 1 := by omega
    rfl
  · obtain ⟨q, rfl⟩ : ∃ q, m = q + 1 := ⟨m - 1, by omega⟩
    have e : nbits (t / 2) = q + 1 := by
      refine nbits_eq (by omega) ?_ (by omega)
      rw [Nat.add_sub_cancel]
      rw [Nat.pow_succ] at h2
      omega
    rw [e]
theorem d16_pos {n : Nat} (h : n ≠ 0) : 0 < (d16 n).length := Nat.pos_of_ne_zero (fun e => h ((dB_eq_nil two16).1 (List.length_eq_zero_iff.1 e)))
theorem d16_top {n : Nat} (h : n ≠ 0) : nth (d16 n) ((d16 n).length - 1) ≠ 0 ∧ n = vB 65536 ((d16 n).take ((d16 n).length - 1)) + 65536 ^ ((d16 n).length - 1) * nth (d16 n) ((d16 n).length - 1) ∧ vB 65536 ((d16 n).take ((d16 n).length - 1)) < 65536 ^ ((d16 n).length - 1) := by
  have hl := d16_pos h
  obtain ⟨k, hk⟩ : ∃ k, (d16 n).length = k + 1 := ⟨(d16 n).length - 1, by omega⟩
  rw [hk, Nat.add_sub_cancel]
  have h1 := vB_take1 (B := 65536) (d16 n) k
  rw [vB_take_all (by omega), d16_val] at h1
  have h2 := vB_lt ((d16_dg n).take k)
  rw [List.length_take, Nat.min_eq_left (by omega)] at h2
  refine ⟨fun h0 => ?_, h1, h2⟩
  rw [h0, Nat.mul_zero, Nat.add_zero] at h1
  have : (d16 n).length ≤ k := (dB_len_le two16 (n := n) (k := k)).2 (by omega)
  omega
theorem nbits_d16 {n : Nat} (h : n ≠ 0) : nbits n = 16 * ((d16 n).length - 1) + nbits (nth (d16 n) ((d16 n).length - 1)) := by
  obtain ⟨h1, h2, h3⟩ := d16_top h
  generalize nth (d16 n) ((d16 n).length - 1) = t at *
  generalize vB 65536 ((d16 n).take ((d16 n).length - 1)) = v at *
  generalize (d16 n).length - 1 = k at *
  have e : 65536 ^ k = 2 ^ (16 * k) := by rw [Nat.pow_mul]
  rw [e] at h2 h3
  have b1 := nbits_lt t
  have b2 := nbits_ge h1
  have b3 := nbits_pos h1
  refine nbits_eq (by omega) ?_ ?_
  · rw [show 16 * k + nbits t - 1 = 16 * k + (nbits t - 1) by omega, Nat.pow_add]
    have := Nat.mul_le_mul_left (2 ^ (16 * k)) b2
    omega
  · rw [Nat.pow_add]
    have := Nat.mul_le_mul_left (2 ^ (16 * k)) (Nat.succ_le_of_lt b1)
    rw [Nat.mul_succ] at this
    omega
theorem nbits_16 {t : Nat} (h : t < 65536) : nbits t ≤ 16 := nbits_le_iff.2 h

set_option maxRecDepth 20000 in
set_option maxHeartbeats 2000000 in
theorem lenD_c (w : World) (A : Option Addr) (l c N : Nat) (hX : RdD w A l c (d16 N)) (hl : l ≤ 1000000) :
    Calls Tryz.prog 101 #[.slice A l c] w fun e w' => e = .returned (.int .i64 (nbits N : Int)) ∧ w = w' := by
  have hlx := hX.len
  by_cases h0 : N = 0
  · subst h0
    have hl0 : l = 0 := by rw [← hlx, show d16 0 = [] from dB_zero two16]; rfl
    subst hl0
    clear hX hlx
    go_enter Tryz.func101, Tryz.ntmps101
    go_wp2
    go_ret
    exact ⟨rfl, rfl⟩
  · have hb := nbits_d16 h0
    have hp := d16_pos h0
    rw [hlx] at hb hp
    obtain ⟨j, rfl⟩ : ∃ j, l = j + 1 := ⟨l - 1, by omega⟩
    rw [Nat.add_sub_cancel] at hb
    obtain ⟨ad, rfl, ca⟩ := hX.at (Below.refl _ w) (k := j) (by omega)
    obtain ⟨x, hx⟩ : ∃ x, nth (d16 N) j = x := ⟨_, rfl⟩
    have hxb : x < 65536 := by rw [← hx]; exact d16_nth N j
    rw [hx] at ca hb
    have hnb := nbits_16 hxb
    obtain ⟨nb, hnbe⟩ : ∃ nb, nbits x = nb := ⟨_, rfl⟩
    rw [hnbe] at hb hnb
    obtain ⟨R, hR⟩ : ∃ R, nbits N = R := ⟨_, rfl⟩
    rw [hR] at hb ⊢
    have e0 : ((j : Int) + 1 == 0) = false := by simp; omega
    replace hx := Lib.hid hx
    replace hR := Lib.hid hR
    replace hb := Lib.hid hb
    replace hnbe := Lib.hid hnbe
    clear hX hlx hp
    go_enter Tryz.func101, Tryz.ntmps101
    go_wp2
    go_loop [3, 4] (fun n t => ∃ q r : Nat, n = .int .i64 ((16 * j + q : Nat) : Int) ∧ t = .int .i64 (r : Int) ∧ q + nbits r = nb ∧ r < 65536) (fun _ t => (intOf t).toNat)
    case atStart => exact ⟨0, x, by simp, rfl, by rw [hnbe.out]; omega, hxb⟩
    case round =>
      obtain ⟨q, r, rfl, rfl, hq, hr⟩ := hrel
      by_cases h : r = 0
      · subst h
        have hq : q = nb := by rw [nbits_zero] at hq; omega
        subst hq
        have e1 : ((16 * j + q : Nat) : Int) = (R : Int) := by rw [hb.out]
        rw [e1]
        replace e1 := Lib.hid e1
        go_wp2
        go_ret
        exact ⟨rfl, rfl⟩
      · have h1 : 1 ≤ r := by omega
        have hh := nbits_half h
        have hq1 : q + 1 + nbits (r / 2) = nb := by omega
        have hq2 : q ≤ nb := by omega
        have hs : ((16 * j + q : Nat) : Int) + 1 = ((16 * j + (q + 1) : Nat) : Int) := by omega
        have hle : ((16 * j + q : Nat) : Int) ≤ 17000000 := by omega
        have hge : 0 ≤ ((16 * j + q : Nat) : Int) := by omega
        generalize ((16 * j + q : Nat) : Int) = s at hs hle hge ⊢
        replace hq1 := Lib.hid hq1
        replace hs := Lib.hid hs
        clear hq hh
        go_wp2
        go_round
        case rel => exact ⟨q + 1, r / 2, by rw [hs.out], by go_num, hq1.out, by omega⟩
        case measure => simp [intOf]; omega

theorem vB_bit (i : Nat) : d16 (2 ^ i) = (List.replicate (i / 16 + 1) 0).set (i / 16) (2 ^ (i % 16)) ∧ 2 ^ (i % 16) < 65536 := by
  have h16 : 2 ^ (i % 16) ≤ 2 ^ 15 := Nat.pow_le_pow_right (by decide) (by omega)
  have hb : 2 ^ (i % 16) < 65536 := by omega
  have h1 := vB_set (B := 65536) (l := List.replicate (i / 16 + 1) 0) (k := i / 16) (by simp) (2 ^ (i % 16))
  rw [nth_zeros, vB_zeros, Nat.mul_zero, Nat.add_zero, Nat.zero_add, two_pow16] at h1
  refine ⟨?_, hb⟩
  rw [← h1]
  refine dB_of two16 ((DgB.zeros (by decide) _).set _ hb) (.inr ?_)
  rw [List.length_set, List.length_replicate, Nat.add_sub_cancel, setD_eq (by simp)]
  exact Nat.pos_iff_ne_zero.1 (Nat.pow_pos (by decide))
set_option maxRecDepth 20000 in
set_option maxHeartbeats 2000000 in
theorem bitD_c (w : World) (i : Nat) (hi : i ≤ 1000000) :
    Calls Tryz.prog 103 #[.int .i64 (i : Int)] w fun e w' => ∃ p n cc, e = .returned (.slice p n cc) ∧ DRes w w' p n cc (2 ^ i) := by
  obtain ⟨hv, hb⟩ := vB_bit i
  obtain ⟨q, hq⟩ : ∃ q, i / 16 = q := ⟨_, rfl⟩
  obtain ⟨r, hr⟩ : ∃ r, i % 16 = r := ⟨_, rfl⟩
  have hq2 : (i : Int) / 16 = (q : Int) := by omega
  have hr2 : (i : Int) % 16 = (r : Int) := by omega
  have hrl : r < 16 := by omega
  rw [hq, hr] at hv
  rw [hr] at hb
  have hmk := fun w => run_makeI w (l := (q : Int) + 1) (l' := q + 1) (by omega) (by omega)
  have haz := arrD_zero w (q + 1)
  have fz := haz.frozen q
  have cz := haz.cell (i := q) (by simp)
  rw [nth_zeros] at cz
  have h2 := haz.set q (s := 2 ^ r) (x := 2 ^ r) (by simp) hb
  have hbl : (1 : Int) * 2 ^ r ≤ 65536 := by
    have : ((2 ^ r : Nat) : Int) ≤ 65536 := by omega
    simpa using this
  have hbg : 0 ≤ (1 : Int) * 2 ^ r := by
    have : 0 ≤ ((2 ^ r : Nat) : Int) := Int.natCast_nonneg _
    simpa using this
  rw [← hv] at h2
  replace hv := Lib.hid hv
  have hwr : IntKind.i64.wrap ((1 : Int) * 2 ^ r) = (1 : Int) * 2 ^ r := IntWalk.i64_in _ (by omega)
  replace h2 := Lib.hid h2
  replace haz := Lib.hid haz
  clear hq hr
  go_enter Tryz.func103, Tryz.ntmps103
  go_wp2
  go_ret
  exact ⟨_, q + 1, _, rfl, h2.out.rd (by rw [hv.out, List.length_set, List.length_replicate]) (by omega), fun ad ha => by cases ha; exact Nat.le_refl _, ((Below.refl _ _).alloc (Nat.le_refl _) _).setCell (Nat.le_refl _) _⟩

set_option maxRecDepth 20000 in
set_option maxHeartbeats 4000000 in
theorem shlD_c (w : World) (A : Option Addr) (l c N i : Nat) (hX : RdD w A l c (d16 N)) (hl : l ≤ 1000000) (hi : i ≤ 1000000) (h0 : N ≠ 0) :
    Calls Tryz.prog 102 #[.slice A l c, .int .i64 (i : Int)] w fun e w' => ∃ p n cc, e = .returned (.slice p n cc) ∧ DRes w w' p n cc (N * 2 ^ i) := by
  have hlx := hX.len
  have hp := d16_pos h0
  rw [hlx] at hp
  have e0 : ((l : Int) == 0) = false := by simp; omega
  have hpow := two_pow16 i
  obtain ⟨q, hq⟩ : ∃ q, i / 16 = q := ⟨_, rfl⟩
  obtain ⟨r, hr⟩ : ∃ r, i % 16 = r := ⟨_, rfl⟩
  have hq2 : (i : Int) / 16 = (q : Int) := by omega
  have hr2 : (i : Int) % 16 = (r : Int) := by omega
  have hrl : r < 16 := by omega
  have hql : q ≤ 1000000 := by omega
  rw [hq, hr] at hpow
  have hmk := fun w => run_makeI w (l := (q : Int) + (l : Int) + 1) (l' := q + l + 1) (by omega) (by omega)
  have haz := arrD_zero w (q + l + 1)
  obtain ⟨g, hge⟩ : ∃ g, w.heap.size = g := ⟨_, rfl⟩
  have hgw : w.heap.size ≤ g := Nat.le_of_eq hge
  replace hge := Lib.hid hge
  replace haz := Lib.hid haz
  replace hX := Lib.hid hX
  replace hlx := Lib.hid hlx
  replace hpow := Lib.hid hpow
  clear hq hr hp
  go_enter Tryz.func102, Tryz.ntmps102
  go_wp2
  rw [hge.out]
  clear hmk
  go_loopw [21] (fun i wr => ∃ (k : Nat) (O : List Nat), k ≤ l ∧ i = .int .i64 k ∧ Below w.heap.size w wr ∧ ArrD wr g O ∧ O.length = q + l + 1 ∧ vB 65536 O = 65536 ^ q * (2 ^ r * vB 65536 ((d16 N).take k)) ∧ nth O (q + k) < 2 ^ r ∧ (∀ j, q + k < j → nth O j = 0)) (fun i _ => l - (intOf i).toNat)
  case atStart =>
    refine ⟨0, List.replicate (q + l + 1) 0, Nat.zero_le _, rfl, (Below.refl _ _).alloc (Nat.le_refl _) _, ?_, by simp, by rw [vB_zeros]; simp, by rw [nth_zeros]; exact Nat.pow_pos (by decide), fun j _ => nth_zeros _ _⟩
    have := haz.out
    rw [hge.out] at this
    exact this
  case round =>
    obtain ⟨k, O, hk, rfl, hb, hO, hOl, hv, hlt2, hz⟩ := hrel
    by_cases hlt : k < l
    · obtain ⟨x, hx⟩ : ∃ x, nth (d16 N) k = x := ⟨_, rfl⟩
      have hxb : x < 65536 := by rw [← hx]; exact d16_nth N k
      obtain ⟨ada, rfl, ca⟩ := hX.out.at hb hlt
      rw [hx] at ca
      obtain ⟨z, hze⟩ : ∃ z, nth O (q + k) = z := ⟨_, rfl⟩
      have cz := hO.cell (i := q + k) (by omega)
      rw [hze] at cz hlt2
      have fz := hO.frozen (q + k)
      have fz1 := hO.frozen (q + k + 1)
      have cz1 := hO.cell (i := q + k + 1) (by omega)
      rw [hz _ (by omega)] at cz1
      obtain ⟨b1, b2, b3, b4⟩ := shlD_bd hrl hxb hlt2
      have hst := shlD_step (a := d16 N) (O := O) (i := k) (q := q) (r := r) (by omega) (hz _ (by omega)) hv
      rw [hze, hx] at hst
      have hset1 := fun (s : Int) hs => hO.set (q + k) (s := s) (x := z + x * 2 ^ r % 65536) hs b1
      have hl3 : ((O.set (q + k) (z + x * 2 ^ r % 65536)).set (q + k + 1) (x * 2 ^ r / 65536)).length = q + l + 1 := by rw [List.length_set, List.length_set]; exact hOl
      have hlt3 : nth ((O.set (q + k) (z + x * 2 ^ r % 65536)).set (q + k + 1) (x * 2 ^ r / 65536)) (q + (k + 1)) < 2 ^ r := by rw [← Nat.add_assoc, setD_eq (by rw [List.length_set]; omega)]; exact b2
      have hz3 : ∀ j, q + (k + 1) < j → nth ((O.set (q + k) (z + x * 2 ^ r % 65536)).set (q + k + 1) (x * 2 ^ r / 65536)) j = 0 := fun j hj => by rw [setD_ne (by omega), setD_ne (by omega)]; exact hz j (by omega)
      have b5 : x * 2 ^ r / 65536 < 65536 := by omega
      have hxe : (x : Int) * 2 ^ r = ((x * 2 ^ r : Nat) : Int) := by simp
      generalize x * 2 ^ r = y at *
      replace hset1 := Lib.hid hset1
      replace hl3 := Lib.hid hl3
      replace hlt3 := Lib.hid hlt3
      replace hz3 := Lib.hid hz3
      replace hst := Lib.hid hst
      replace hx := Lib.hid hx
      replace hze := Lib.hid hze
      replace hb := Lib.hid hb
      replace b5 := Lib.hid b5
      clear hO hOl hv hz hlt2 b2 b4
      go_wp2
      go_roundw
      case rel =>
        exact ⟨k + 1, _, by omega, by go_num, (hb.out.setCell hgw _).setCell hgw _, (hset1.out _ (by omega)).set (q + k + 1) (by omega) b5.out, hl3.out, hst.out, hlt3.out, hz3.out⟩
      case measure => simp [intOf]; omega
    · obtain rfl : k = l := by omega
      have k1 := trimArr hb hO hgw hOl (by omega) (N := N * 2 ^ i) (by rw [hv, vB_take_all (by rw [hlx.out]; exact Nat.le_refl _), d16_val, ← hpow.out, Nat.mul_comm N, Nat.mul_assoc])
      replace k1 := Lib.hid k1
      clear hb hO hOl hv hz hlt2
      go_wp2_with fail
      with_reducible refine k1.out.mono ?_
      rintro E w' ⟨hw, q, rfl, hr⟩
      obtain rfl := hw
      go_wp2
      go_ret
      exact ⟨_, q, _, rfl, hr⟩
end Go.Proofs.YtlnillnngckegaaGreatDoor
