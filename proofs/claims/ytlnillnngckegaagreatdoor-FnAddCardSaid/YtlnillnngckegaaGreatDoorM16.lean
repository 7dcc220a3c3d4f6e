/- Rows of bytes; figures of a number, one by one. nat.convertWords at 10, without a table. math.Log2 of 10; quotients of floats that count figures. -/
import Derived.Laws.BytesArg
import Derived.Laws.Externs
import Derived.WalkLawsBesides
import Derived.Test.YtlnillnngckegaaGreatDoorM06
import Derived.Test.YtlnillnngckegaaGreatDoorM11
import Derived.Test.YtlnillnngckegaaGreatDoorM13
import Derived.Test.YtlnillnngckegaaGreatDoorM15
namespace Go.Proofs.YtlnillnngckegaaGreatDoor
open Go Go.RowKit

/-- A byte as a value. -/
def yw (x : Nat) : Value := .int .u8 (x : Int)
structure ArrY (w : World) (b : Nat) (D : List Nat) : Prop where
  heap : w.heap[b]? = some (.cells (D.map yw).toArray 5 (0, 0))
  by_ : ∀ x, x ∈ D → x < 256
theorem ArrY.cell {w : World} {b : Nat} {D : List Nat} (h : ArrY w b D) {i : Nat} (hi : i < D.length) : w.cell? ⟨b, i, none⟩ = some (.int .u8 (nth D i : Int)) := by
  refine cellB h.heap ?_
  rw [List.getElem?_toArray, List.getElem?_map, get_nth hi]; rfl
theorem ArrY.frozen {w : World} {b : Nat} {D : List Nat} (h : ArrY w b D) (i : Nat) : w.frozen? ⟨b, i, none⟩ = false := frozenB h.heap i
theorem ArrY.lt {w : World} {b : Nat} {D : List Nat} (h : ArrY w b D) : b < w.heap.size := ltB h.heap
theorem ArrY.chg {w w' : World} {S : Nat → Prop} {b : Nat} {D : List Nat} (h : ArrY w b D) (hc : Chg w w' S) (hn : ¬ S b) : ArrY w' b D := ⟨hc.heapB h.heap hn, h.by_⟩
theorem ArrY.set {w : World} {b : Nat} {D : List Nat} (h : ArrY w b D) (i x : Nat) (hx : x < 256) : ArrY (w.setCell ⟨b, i, none⟩ (.int .u8 (x : Int))) b (D.set i x) := by
  refine ⟨?_, fun y hy => ?_⟩
  · have h1 := setB (i := i) (v := .int .u8 (x : Int)) h.heap
    rw [h1]
    congr 2
    apply Array.ext'
    simp [List.map_set, yw]
  · rcases List.mem_or_eq_of_mem_set hy with h' | h'
    · exact h.by_ y h'
    · omega
theorem ArrY.neArr {w : World} {b k : Nat} {D C : List Nat} (h : ArrY w b D) (hk : Arr w k C) : k ≠ b := hk.ne2 h.heap (by decide)
theorem nth_set {l : List Nat} {i x : Nat} (h : i < l.length) : nth (l.set i x) i = x := by unfold nth; simp [h]
theorem nth_set_ne {l : List Nat} {i j x : Nat} (h : i ≠ j) : nth (l.set i x) j = nth l j := by unfold nth; rw [List.getElem?_set_ne h]

/-- The figures of Q stand in D from i on. -/
def FigsFrom (D : List Nat) (Q n i : Nat) : Prop := D.length = n ∧ i ≤ n ∧ ∀ j, i ≤ j → j < n → nth D j = 48 + Q / 10 ^ (n - 1 - j) % 10
theorem FigsFrom.step {D : List Nat} {Q n i : Nat} (h : FigsFrom D Q n (i + 1)) : FigsFrom (D.set i (48 + Q / 10 ^ (n - 1 - i) % 10)) Q n i := by
  obtain ⟨h1, h2, h3⟩ := h
  refine ⟨by rw [List.length_set]; exact h1, by omega, fun j hj hn => ?_⟩
  by_cases e : i = j
  · subst e; exact nth_set (by omega)
  · rw [nth_set_ne e]; exact h3 j (by omega) hn
theorem mod_tens (a m : Nat) : a % 10 ^ (m + 1) / 10 = a / 10 % 10 ^ m := by
  rw [ten_succ, Nat.mod_mul_right_div_self]
theorem mod_ten (a m : Nat) : a % 10 ^ (m + 1) % 10 = a % 10 := by
  rw [ten_succ]; exact Nat.mod_mod_of_dvd _ (Nat.dvd_mul_right _ _)
theorem div_tens (a k : Nat) : a / 10 ^ k / 10 = a / 10 ^ (k + 1) := by rw [Nat.div_div_eq_div_mul, Nat.pow_succ]

theorem infoY : (Tryz.prog.info? 5).map (fun i => (i.zero, i.size, i.bytes)) = some (some (.int .u8 0), 1, 1) := by kernel_rfl
theorem run_makeY (w : World) {l : Int} {l' : Nat} (hl : l = l') (hcap : l' ≤ 1000000) :
    (Instr.makeSlice 135 (.int .i64 l) (.int .i64 l)).run Tryz.prog w = .ok (.slice (some ⟨w.heap.size, 0, none⟩) l' l') (w.alloc (.cells ((List.replicate l' 0).map yw).toArray 5 (0, 0))) := by
  have h := infoY
  cases hi : Tryz.prog.info? 5 with
  | none => rw [hi] at h; cases h
  | some i =>
    rw [hi] at h
    simp only [Option.map_some, Option.some.injEq, Prod.mk.injEq] at h
    obtain ⟨h1, h2, h3⟩ := h
    subst hl
    rw [run_make (P := Tryz.prog) w 135 5 i (.int .u8 0) Tryz.underlying135 hi h1 .i64 .i64 l' l' (by omega) (by omega) (by rw [h3]; omega) (by omega)]
    simp only [Int.toNat_natCast]
    have e : madeCells (Value.int .u8 0).cells (l' * i.size) = ((List.replicate l' 0).map yw).toArray := by
      rw [h2, Nat.mul_one]
      unfold madeCells
      apply Array.ext
      · simp
      · intro j h1 h2
        simp [Value.cells, yw]
        have : j % 1 = 0 := Nat.mod_one j
        simp [Nat.mod_one]
    rw [e]
theorem arrY_zero (w : World) (c : Nat) : ArrY (w.alloc (.cells ((List.replicate c 0).map yw).toArray 5 (0, 0))) w.heap.size (List.replicate c 0) :=
  ⟨allocB _ _, fun x hx => by rw [List.eq_of_mem_replicate hx]; omega⟩

theorem maxPow_c (w : World) : Calls Tryz.prog 243 #[.int .u64 10] w fun e w' => e = .returned (.tuple #[.int .u64 10000000000000000000, .int .i64 19]) ∧ w = w' := by
  go_enter Tryz.func243, Tryz.ntmps243
  go_wp2
  go_loop [2, 3] (fun p n => ∃ k : Nat, 1 ≤ k ∧ k ≤ 19 ∧ p = .int .u64 ((10 ^ k : Nat) : Int) ∧ n = .int .i64 (k : Int)) (fun _ n => 19 - (intOf n).toNat)
  case atStart => exact ⟨1, by omega, by omega, rfl, rfl⟩
  case round =>
    obtain ⟨k, h1, h2, rfl, rfl⟩ := hrel
    by_cases hk : k < 19
    · have hp : 10 ^ k ≤ 1000000000000000000 := by have := ten_le (show k ≤ 18 by omega); exact this
      have hs : 10 ^ (k + 1) = 10 * 10 ^ k := ten_succ k
      generalize 10 ^ k = p at *
      have hn : IntKind.u64.wrap ((p : Int) * 10) = ((10 * p : Nat) : Int) := by rw [show (p : Int) * 10 = ((10 * p : Nat) : Int) by omega]; exact IntWalk.u64_in _ (by omega)
      have hn2 : (p : Int) * 10 = ((10 * p : Nat) : Int) := by omega
      have hle : (p : Int) ≤ 1844674407370955161 := by omega
      replace hs := Lib.hid hs
      go_wp2
      go_round
      case rel => exact ⟨k + 1, by omega, by omega, by rw [hs.out]; congr 1, by go_num⟩
      case measure => simp [intOf]; omega
    · obtain rfl : k = 19 := by omega
      have hgt : ¬ ((10 ^ 19 : Nat) : Int) ≤ 1844674407370955161 := by decide
      have e : ((10 ^ 19 : Nat) : Int) = 10000000000000000000 := by decide
      rw [e] at hgt ⊢
      clear e
      go_wp2
      go_ret2
      exact ⟨rfl, rfl⟩
theorem divisors_c (w : World) (stk : Value) (hG : Glob w) (m : Nat) (n : Int) (hm : m ≤ 8) (b c : Int) : Calls Tryz.prog 244 #[stk, .int .i64 (m : Int), .int .u64 b, .int .i64 n, .int .u64 c] w fun e w' => e = .returned (.slice none 0 0) ∧ w = w' := by
  have g := hG.g6
  have hle : (m : Int) ≤ 8 := by omega
  go_enter Tryz.func244, Tryz.ntmps244
  go_wp2
  go_ret
  exact ⟨rfl, rfl⟩
end Go.Proofs.YtlnillnngckegaaGreatDoor

namespace Go.Proofs.YtlnillnngckegaaGreatDoor
open Go Go.RowKit

set_option maxRecDepth 100000 in
set_option maxHeartbeats 4000000 in
theorem convWords_c (w : World) (stk q : Value) (Q : Nat) (oq : Option Nat) (hq : IsNat w q Q oq) (hQl : (digs Q).length ≤ 900) (bs n cap : Nat) (D : List Nat) (hD : ArrY w bs D) (hn : D.length = n) (hn1 : n ≤ 100000) (hQ : Q < 10 ^ n) :
    Calls Tryz.prog 245 #[q, stk, .slice (some ⟨bs, 0, none⟩) n cap, .int .u64 10, .int .i64 19, .int .u64 10000000000000000000, .slice none 0 0] w fun e w' =>
      e = .returned (.tuple #[]) ∧ ∃ D', ArrY w' bs D' ∧ FigsFrom D' Q n 0 ∧ Chg w w' (fun k => k = bs ∨ some k = oq) := by
  have hbb : (10000000000000000000 : Nat) < WB := by rw [WB_eq]; omega
  have hbs := hD.lt
  have hoq : oq ≠ some bs := by
    rcases hq with ⟨_, _, h⟩ | ⟨b, _, C, h, _, ha, _⟩
    · rw [h]; simp
    · rw [h]; exact fun e => hD.neArr ha (by injection e)
  obtain ⟨pq, cq, rfl, _, _⟩ := hq.shape
  replace hq := Lib.hid hq
  replace hD := Lib.hid hD
  replace hn := Lib.hid hn
  replace hQ := Lib.hid hQ
  go_enter Tryz.func245, Tryz.ntmps245
  go_wp2
  go_loopw [0, 19] (fun a i wr => ∃ (v : Value) (k : Nat) (o : Option Nat) (E : List Nat), v = a ∧ k ≤ n ∧ i = .int .i64 ((n - k : Nat) : Int) ∧ IsNat wr v (Q / 10 ^ k) o ∧ (o = oq ∨ o = none ∨ ∃ b, o = some b ∧ w.heap.size ≤ b) ∧ ArrY wr bs E ∧ FigsFrom E Q n (n - k) ∧ Chg w wr (fun k => k = bs ∨ some k = oq)) (fun _ i _ => (intOf i).toNat)
  case atStart => exact ⟨_, 0, oq, D, rfl, Nat.zero_le _, rfl, by rw [Nat.pow_zero, Nat.div_one]; exact hq.out, .inl rfl, hD.out, ⟨hn.out, by omega, fun j h1 h2 => by omega⟩, Chg.refl _ _⟩
  case round =>
    obtain ⟨v, k, o, E, rfl, hk, rfl, hv, ho, hE, hF, hch⟩ := hrel
    obtain ⟨wo, hwo⟩ : ∃ wo : World, wo = wr := ⟨_, rfl⟩
    replace hwo := Lib.hid hwo
    by_cases h0 : Q / 10 ^ k = 0
    · -- nothing is left: noughts ahead
      obtain ⟨pv, cv, rfl, _, _⟩ := hv.shape
      have hdz : digs (Q / 10 ^ k) = [] := by rw [h0]; exact digs_zero
      rw [hdz]
      have hz : ∀ j, k ≤ j → Q / 10 ^ j % 10 = 0 := by
        intro j hj
        have : Q / 10 ^ j ≤ Q / 10 ^ k := Nat.div_le_div_left (ten_le hj) (ten_pos k)
        rw [h0] at this
        rw [Nat.eq_zero_of_le_zero this]
      replace hz := Lib.hid hz
      clear h0 hv hdz ho
      replace hch := Lib.hid hch
      replace hE := Lib.hid hE
      replace hF := Lib.hid hF
      go_wp2
      go_loopw [19] (fun i wi => ∃ (m : Nat) (G : List Nat), m ≤ n - k ∧ i = .int .i64 (m : Int) ∧ ArrY wi bs G ∧ FigsFrom G Q n m ∧ Chg w wi (fun k => k = bs ∨ some k = oq)) (fun i _ => (intOf i).toNat)
      case atStart => exact ⟨n - k, E, Nat.le_refl _, rfl, hE.out, hF.out, hch.out⟩
      case round =>
        obtain ⟨m, G, hm, rfl, hG, hFG, hcw⟩ := hrel
        by_cases hm0 : m = 0
        · subst hm0
          replace hG := Lib.hid hG
          replace hFG := Lib.hid hFG
          replace hcw := Lib.hid hcw
          go_wp2
          go_end0
          exact ⟨rfl, G, hG.out, hFG.out, hcw.out⟩
        · obtain ⟨m', rfl⟩ : ∃ m', m = m' + 1 := ⟨m - 1, by omega⟩
          have hlen : G.length = n := hFG.1
          have hc := hG.cell (i := m') (by omega)
          have hf := hG.frozen m'
          have hG2 := hG.set m' 48 (by omega)
          have hst := hFG.step
          rw [hz.out _ (by omega)] at hst
          have hcw2 : Chg w _ (fun k => k = bs ∨ some k = oq) := hcw.trans ((chg_setB wr bs m' (.int .u8 ((48 : Nat) : Int))).mono (fun k _ h => .inl (.inl h)))
          have hG3 : ArrY (wr.setCell ⟨bs, m', none⟩ (.int .u8 48)) bs (G.set m' 48) := hG2
          have hcw3 : Chg w (wr.setCell ⟨bs, m', none⟩ (.int .u8 48)) (fun k => k = bs ∨ some k = oq) := hcw2
          replace hG3 := Lib.hid hG3
          replace hst := Lib.hid hst
          replace hcw3 := Lib.hid hcw3
          replace hlen := Lib.hid hlen
          clear hG hFG hcw hG2 hcw2
          go_wp2
          go_roundw
          case rel => exact ⟨m', _, by omega, by go_num, hG3.out, hst.out, hcw3.out⟩
          case measure => simp [intOf]
    · have hkn : k < n := by
        rcases Nat.lt_or_ge k n with h | h
        · exact h
        · exact absurd (Nat.div_eq_of_lt (Nat.lt_of_lt_of_le hQ.out (ten_le h))) h0
      have hkl : (digs (Q / 10 ^ k)).length ≤ 900 := Nat.le_trans (digs_len_mono (Nat.div_le_self _ _)) hQl
      have kd : Calls Tryz.prog 176 #[v, v, .int .u64 10000000000000000000] wr (fun e w' => ∃ r, e = .returned (.tuple #[r, .int .u64 ((Q / 10 ^ k % 10000000000000000000 : Nat) : Int)]) ∧ NatRes wr w' o r (Q / 10 ^ k / 10000000000000000000)) := divW_c wr v v (Q / 10 ^ k) 10000000000000000000 o o hv.stor hv hkl hbb (by omega)
      have hdp := digs_len_pos h0
      have e19 : Q / 10 ^ k / 10000000000000000000 = Q / 10 ^ (k + 19) := by
        rw [Nat.pow_add, ← Nat.div_div_eq_div_mul]
      rw [e19] at kd
      obtain ⟨pv, cv, rfl, _, _⟩ := hv.shape
      generalize hL : (digs (Q / 10 ^ k)).length = L at *
      have hrem : Q / 10 ^ k % 10000000000000000000 = Q / 10 ^ (k + 0) % 10 ^ (19 - 0) := rfl
      rw [hrem] at kd
      replace hL := Lib.hid hL
      replace e19 := Lib.hid e19
      replace hrem := Lib.hid hrem
      replace kd := Lib.hid kd
      replace hch := Lib.hid hch
      replace hE := Lib.hid hE
      replace hF := Lib.hid hF
      replace ho := Lib.hid ho
      replace h0 := Lib.hid h0
      clear hv hkl
      go_wp2_with fail
      with_reducible refine kd.out.mono ?_
      rintro e w4 ⟨r4, rfl, o4, hr4, ho4, hc4⟩
      have sz4 := hch.out.size
      have hnbs : ∀ kk, some kk = o → kk ≠ bs := by
        rintro kk e rfl
        rcases ho.out with h | h | ⟨b, h, hb⟩
        · exact hoq (h ▸ e.symm)
        · rw [h] at e; cases e
        · rw [h] at e; cases e; omega
      have hE4 : ArrY w4 bs E := hE.out.chg hc4 (fun e => hnbs _ e rfl)
      have hch4 : Chg w w4 (fun k => k = bs ∨ some k = oq) := hch.out.trans (hc4.mono (fun kk _ e => by
        rcases ho.out with h | h | ⟨b, h, hb⟩
        · exact .inl (.inr (e.trans h))
        · rw [h] at e; cases e
        · rw [h] at e; cases e; exact .inr hb))
      have ho4' : o4 = oq ∨ o4 = none ∨ ∃ b, o4 = some b ∧ w.heap.size ≤ b := by
        rcases ho4 with h | h | ⟨b, h, hb⟩
        · rw [h]; exact ho.out
        · exact .inr (.inl h)
        · exact .inr (.inr ⟨b, h, by omega⟩)
      have hs4 : bs < w4.heap.size := hE4.lt
      have hnb4 : o4 ≠ some bs := by
        intro e
        rcases ho4' with h | h | ⟨b, h, hb⟩
        · exact hoq (h ▸ e)
        · rw [h] at e; cases e
        · rw [h] at e; cases e; omega
      replace hr4 := Lib.hid hr4
      replace ho4' := Lib.hid ho4'
      replace hE4 := Lib.hid hE4
      replace hch4 := Lib.hid hch4
      replace hnb4 := Lib.hid hnb4
      replace hnbs := Lib.hid hnbs
      clear ho4 hc4 kd
      go_wp2
      go_loopw [19, 20, 21] (fun i r j wi => ∃ (m : Nat) (G : List Nat), m ≤ 19 ∧ k + m ≤ n ∧ i = .int .i64 ((n - (k + m) : Nat) : Int) ∧ r = .int .u64 ((Q / 10 ^ (k + m) % 10 ^ (19 - m) : Nat) : Int) ∧ j = .int .i64 (m : Int) ∧ ArrY wi bs G ∧ FigsFrom G Q n (n - (k + m)) ∧ Chg w4 wi (fun k => k = bs)) (fun i _ _ _ => (intOf i).toNat)
      case atStart => exact ⟨0, E, by omega, by omega, rfl, rfl, rfl, hE4.out, hF.out, Chg.refl _ _⟩
      case round =>
        obtain ⟨m, G, hm, hkm, rfl, rfl, rfl, hG, hFG, hcw⟩ := hrel
        obtain ⟨wo2, hwo2⟩ : ∃ wo2 : World, wo2 = wr := ⟨_, rfl⟩
        replace hwo2 := Lib.hid hwo2
        by_cases hgo : m < 19 ∧ k + m < n
        · obtain ⟨hm19, hkmn⟩ := hgo
          obtain ⟨t, ht⟩ : ∃ t, n - (k + m) = t + 1 := ⟨n - (k + m) - 1, by omega⟩
          have ht2 : n - (k + (m + 1)) = t := by omega
          have htn : t < n := by omega
          have hpe : n - 1 - t = k + m := by omega
          rw [ht] at hFG ⊢
          have hlen : G.length = n := hFG.1
          obtain ⟨r, hr⟩ : ∃ r, Q / 10 ^ (k + m) % 10 ^ (19 - m) = r := ⟨_, rfl⟩
          obtain ⟨u, hu⟩ : ∃ u, 19 - m = u + 1 := ⟨18 - m, by omega⟩
          have hu2 : 19 - (m + 1) = u := by omega
          have hr10 : r % 10 = Q / 10 ^ (k + m) % 10 := by rw [← hr, hu]; exact mod_ten _ _
          have hrq : r / 10 = Q / 10 ^ (k + (m + 1)) % 10 ^ (19 - (m + 1)) := by rw [← hr, hu, hu2, mod_tens, div_tens]; rfl
          have hrb : r < 10000000000000000000 := by
            have h1 : r < 10 ^ (19 - m) := by rw [← hr]; exact Nat.mod_lt _ (ten_pos _)
            exact Nat.lt_of_lt_of_le h1 (ten_le (show 19 - m ≤ 19 by omega))
          rw [hr]
          have hst := hFG.step
          rw [hpe, ← hr10] at hst
          have hc := hG.cell (i := t) (by omega)
          have hf := hG.frozen t
          have hG2 := hG.set t (48 + r % 10) (by omega)
          have hcw2 : Chg w4 _ (fun k => k = bs) := hcw.trans ((chg_setB wr bs t (.int .u8 ((48 + r % 10 : Nat) : Int))).mono (fun k _ h => .inl h))
          have hmul : IntKind.u64.wrap ((r : Int) / 10 * 10) = (r : Int) / 10 * 10 := IntWalk.u64_in _ (by omega)
          have hsub : (r : Int) - (r : Int) / 10 * 10 = ((r % 10 : Nat) : Int) := by omega
          have hsub2 : IntKind.u64.wrap ((r : Int) - (r : Int) / 10 * 10) = ((r % 10 : Nat) : Int) := by rw [hsub]; exact IntWalk.u64_in _ (by omega)
          obtain ⟨dg, hdg⟩ : ∃ dg, r % 10 = dg := ⟨_, rfl⟩
          have hdl : dg < 10 := by omega
          rw [hdg] at hst hG2 hcw2 hsub hsub2
          have hcv : IntKind.u8.wrap (dg : Int) = (dg : Int) := IntWalk.u8_in _ (by omega)
          have had : IntKind.u8.wrap (48 + (dg : Int)) = ((48 + dg : Nat) : Int) := by rw [show (48 : Int) + (dg : Int) = ((48 + dg : Nat) : Int) by omega]; exact IntWalk.u8_in _ (by omega)
          replace hr := Lib.hid hr
          replace hu := Lib.hid hu
          replace hu2 := Lib.hid hu2
          replace hr10 := Lib.hid hr10
          replace hrq := Lib.hid hrq
          replace ht := Lib.hid ht
          replace ht2 := Lib.hid ht2
          replace hpe := Lib.hid hpe
          replace hdg := Lib.hid hdg
          replace hG2 := Lib.hid hG2
          replace hst := Lib.hid hst
          replace hcw2 := Lib.hid hcw2
          replace hlen := Lib.hid hlen
          clear hG hFG hcw
          go_wp2
          go_roundw
          case rel => exact ⟨m + 1, _, by omega, by omega, by rw [ht2.out], by rw [← hrq.out]; go_num, by go_num, hG2.out, by rw [ht2.out]; exact hst.out, hcw2.out⟩
          case measure => simp [intOf]
        · have hk2 : ∃ k', k < k' ∧ k' ≤ n ∧ n - (k + m) = n - k' ∧ Q / 10 ^ (k + 19) = Q / 10 ^ k' := by
            rcases (by omega : m = 19 ∨ (m < 19 ∧ k + m = n)) with h | ⟨h1, h2⟩
            · exact ⟨k + 19, by omega, by omega, by rw [h], rfl⟩
            · refine ⟨n, hkn, Nat.le_refl _, by rw [h2], ?_⟩
              rw [Nat.div_eq_of_lt hQ.out, Nat.div_eq_of_lt (Nat.lt_of_lt_of_le hQ.out (ten_le (by omega)))]
          obtain ⟨k', hk'1, hk'2, hk'3, hk'4⟩ := hk2
          have hnat : IsNat wr r4 (Q / 10 ^ k') o4 := by
            rw [← hk'4]
            exact hr4.out.chg hcw (fun b hb e => hnb4.out (by rw [hb, e]))
          have hcwf : Chg w wr (fun k => k = bs ∨ some k = oq) := hch4.out.trans (hcw.mono (fun kk _ e => .inl (.inl e)))
          rw [hk'3] at hFG ⊢
          have hgo2 : 19 ≤ m ∨ (m < 19 ∧ n - k' = 0) := by omega
          replace hk'4 := Lib.hid hk'4
          replace hk'3 := Lib.hid hk'3
          replace hnat := Lib.hid hnat
          replace hcwf := Lib.hid hcwf
          replace hG := Lib.hid hG
          replace hFG := Lib.hid hFG
          clear hgo hcw
          rcases hgo2 with hx | ⟨hm9, hx⟩
          · go_wp2
            go_roundw
            case rel => exact ⟨_, k', o4, G, rfl, hk'2, rfl, hnat.out, ho4'.out, hG.out, hFG.out, hcwf.out⟩
            case measure => simp [intOf]; omega
          · have hfin : FigsFrom G Q n (n - k') := hFG.out
            have hkk : k < n := hkn
            replace hfin := Lib.hid hfin
            rw [hx]
            have hkn' : k' = n := by omega
            replace hx := Lib.hid hx
            replace hkn' := Lib.hid hkn'
            go_wp2
            go_roundw
            case rel => exact ⟨_, k', o4, G, rfl, hk'2, by rw [hx.out]; rfl, hnat.out, ho4'.out, hG.out, hfin.out, hcwf.out⟩
            case measure => have := hx.out; simp [intOf]; omega
end Go.Proofs.YtlnillnngckegaaGreatDoor

namespace Go.Proofs.YtlnillnngckegaaGreatDoor
open Go Go.RowKit

theorem run_f64bits (x : Nat) (w : World) : (callFunc 274 #[.float .f64 x]).run Tryz.prog w = .ok (.value (.int .u64 (x : Int))) w := by
  rw [run_callFunc_extern Tryz.func274 (by kernel_rfl) (by kernel_rfl) (by kernel_rfl) (e := Extern.MathFloatBits.float64bits) (by kernel_rfl)]
  rfl
theorem run_f64from (x : Int) (w : World) : (callFunc 275 #[.int .u64 x]).run Tryz.prog w = .ok (.value (.float .f64 x.toNat)) w := by
  rw [run_callFunc_extern Tryz.func275 (by kernel_rfl) (by kernel_rfl) (by kernel_rfl) (e := Extern.MathFloatBits.float64frombits) (by kernel_rfl)]
  rfl
theorem run_archLog (w : World) : (callFunc 269 #[.float .f64 4603804719079489536]).run Tryz.prog w = .ok (.value (.float .f64 13825510489450817230)) w := by
  rw [run_callFunc_extern Tryz.func269 (by kernel_rfl) (by kernel_rfl) (by kernel_rfl) (e := Extern.MathLog.archLog) (by kernel_rfl)]
  have h : (Extern.MathLog.archLog #[.float .f64 4603804719079489536]).run Tryz.prog w = .ok (.float .f64 13825510489450817230) w := by kernel_rfl
  rw [h]; rfl
theorem abs10 (w : World) : Calls Tryz.prog 278 #[.float .f64 4621819117588971520] w fun e w' => e = .returned (.float .f64 4621819117588971520) ∧ w = w' := by
  have h1 := run_f64bits
  have h2 := run_f64from
  have h3 : bits .andNot .u64 (4621819117588971520 : Int) 9223372036854775808 = 4621819117588971520 := by kernel_rfl
  go_enter Tryz.func278, Tryz.ntmps278
  go_wp2
  go_ret
  exact ⟨rfl, rfl⟩
theorem isInf10 (w : World) : Calls Tryz.prog 271 #[.float .f64 4621819117588971520, .int .i64 0] w fun e w' => e = .returned (.bool false) ∧ w = w' := by
  have k := abs10
  have h1 : (FloatKind.f64.format.order 4621819117588971520 9218868437227405311 == some .gt) = false := by kernel_rfl
  replace k := Lib.hid k
  go_enter Tryz.func271, Tryz.ntmps271
  go_wp2_with (with_reducible refine (k.out _).mono ?_; rintro e w' ⟨rfl, rfl⟩)
  go_ret
  exact ⟨rfl, rfl⟩
theorem isNaN10 (w : World) : Calls Tryz.prog 272 #[.float .f64 4621819117588971520] w fun e w' => e = .returned (.bool false) ∧ w = w' := by
  have h1 : (FloatKind.f64.format.order 4621819117588971520 4621819117588971520 != some .eq) = false := by kernel_rfl
  go_enter Tryz.func272, Tryz.ntmps272
  go_wp2
  go_ret
  exact ⟨rfl, rfl⟩
theorem normalize10 (w : World) : Calls Tryz.prog 273 #[.float .f64 4621819117588971520] w fun e w' => e = .returned (.tuple #[.float .f64 4621819117588971520, .int .i64 0]) ∧ w = w' := by
  have k := abs10
  have h1 : (FloatKind.f64.format.order 4621819117588971520 4503599627370496 == some .lt) = false := by kernel_rfl
  replace k := Lib.hid k
  go_enter Tryz.func273, Tryz.ntmps273
  go_wp2_with (with_reducible refine (k.out _).mono ?_; rintro e w' ⟨rfl, rfl⟩)
  go_ret2
  exact ⟨rfl, rfl⟩
theorem frexp10 (w : World) : Calls Tryz.prog 268 #[.float .f64 4621819117588971520] w fun e w' => e = .returned (.tuple #[.float .f64 4603804719079489536, .int .i64 4]) ∧ w = w' := by
  have k1 := isInf10
  have k2 := isNaN10
  have k3 := normalize10
  have h0 : (FloatKind.f64.format.order 4621819117588971520 0 == some .eq) = false := by kernel_rfl
  have h1 := run_f64bits
  have h2 := run_f64from
  have h3 : bits .and .u64 1026 2047 = 1026 := by kernel_rfl
  have h4 : bits .andNot .u64 4621819117588971520 9218868437227405312 = 1125899906842624 := by kernel_rfl
  have h5 : bits .or .u64 1125899906842624 4602678819172646912 = 4603804719079489536 := by kernel_rfl
  replace k1 := Lib.hid k1
  replace k2 := Lib.hid k2
  replace k3 := Lib.hid k3
  go_enter Tryz.func268, Tryz.ntmps268
  go_wp2_with fail
  with_reducible refine (k1.out _).mono ?_
  rintro e w' ⟨rfl, rfl⟩
  go_wp2_with fail
  with_reducible refine (k2.out _).mono ?_
  rintro e w' ⟨rfl, rfl⟩
  go_wp2_with fail
  with_reducible refine (k3.out _).mono ?_
  rintro e w' ⟨rfl, rfl⟩
  go_wp2
  go_ret2
  exact ⟨rfl, rfl⟩
theorem Frexp10 (w : World) : Calls Tryz.prog 265 #[.float .f64 4621819117588971520] w fun e w' => e = .returned (.tuple #[.float .f64 4603804719079489536, .int .i64 4]) ∧ w = w' := by
  have k := frexp10
  replace k := Lib.hid k
  go_enter Tryz.func265, Tryz.ntmps265
  go_wp2_with (with_reducible refine (k.out _).mono ?_; rintro e w' ⟨rfl, rfl⟩)
  go_ret2
  exact ⟨rfl, rfl⟩
theorem Log0 (w : World) : Calls Tryz.prog 266 #[.float .f64 4603804719079489536] w fun e w' => e = .returned (.float .f64 13825510489450817230) ∧ w = w' := by
  have h := run_archLog
  go_enter Tryz.func266, Tryz.ntmps266
  go_wp2
  go_ret
  exact ⟨rfl, rfl⟩
theorem log2_10 (w : World) : Calls Tryz.prog 256 #[.float .f64 4621819117588971520] w fun e w' => e = .returned (.float .f64 4614662735865160561) ∧ w = w' := by
  have k1 := Frexp10
  have k2 := Log0
  have h0 : (FloatKind.f64.format.order 4603804719079489536 4602678819172646912 == some .eq) = false := by kernel_rfl
  have hr1 : floatBits .mul .f64 13825510489450817230 4609176140021203710 = some 13827654785158443579 := by kernel_rfl
  have hr2 : floatBits .add .f64 13827654785158443579 (floatOfInt .f64 4) = some 4614662735865160561 := by kernel_rfl
  have g1 := fun (w : World) (t : TypeId) => run_float_arith (P := Tryz.prog) w .mul t .f64 _ _ _ hr1
  have g2 := fun (w : World) (t : TypeId) => run_float_arith (P := Tryz.prog) w .add t .f64 _ _ _ hr2
  replace k1 := Lib.hid k1
  replace k2 := Lib.hid k2
  replace hr1 := Lib.hid hr1
  replace hr2 := Lib.hid hr2
  go_enter Tryz.func256, Tryz.ntmps256
  go_wp2_with fail
  with_reducible refine (k1.out _).mono ?_
  rintro e w' ⟨rfl, rfl⟩
  go_wp2_with fail
  with_reducible refine (k2.out _).mono ?_
  rintro e w' ⟨rfl, rfl⟩
  go_wp2
  go_ret
  exact ⟨rfl, rfl⟩
theorem Log2_10 (w : World) : Calls Tryz.prog 241 #[.float .f64 4621819117588971520] w fun e w' => e = .returned (.float .f64 4614662735865160561) ∧ w = w' := by
  have k := log2_10
  replace k := Lib.hid k
  go_enter Tryz.func241, Tryz.ntmps241
  go_wp2_with (with_reducible refine (k.out _).mono ?_; rintro e w' ⟨rfl, rfl⟩)
  go_ret
  exact ⟨rfl, rfl⟩

/-- The guess of figures by bits: what the code's quotient comes to. -/
def fguess (b : Nat) : Nat := match floatBits .quo .f64 (floatOfInt .f64 (b : Int)) 4614662735865160561 with
  | some q => (match floatToIntVal .f64 q .i64 with | some n => n.toNat | none => 0)
  | none => 0
def fgood (b : Nat) : Bool := match floatBits .quo .f64 (floatOfInt .f64 (b : Int)) 4614662735865160561 with
  | some q => (match floatToIntVal .f64 q .i64 with | some n => decide (0 ≤ n ∧ n ≤ 400 ∧ 2 ^ b ≤ 10 ^ (n.toNat + 1) ∧ (b = 0 ∨ 10 ^ (n.toNat - 1) ≤ 2 ^ (b - 1))) | none => false)
  | none => false
theorem fgood_all : (List.range 1200).all fgood = true := by kernel_rfl
theorem fguess_spec {b : Nat} (h : b < 1200) : ∃ q, floatBits .quo .f64 (floatOfInt .f64 (b : Int)) 4614662735865160561 = some q ∧ floatToIntVal .f64 q .i64 = some (fguess b : Int) ∧ fguess b ≤ 400 ∧ 2 ^ b ≤ 10 ^ (fguess b + 1) ∧ (b = 0 ∨ 10 ^ (fguess b - 1) ≤ 2 ^ (b - 1)) := by
  have h1 := List.all_eq_true.1 fgood_all b (List.mem_range.2 h)
  unfold fgood at h1
  unfold fguess
  cases hq : floatBits .quo .f64 (floatOfInt .f64 (b : Int)) 4614662735865160561 with
  | none => rw [hq] at h1; cases h1
  | some q =>
    rw [hq] at h1
    simp only at h1 ⊢
    cases hn : floatToIntVal .f64 q .i64 with
    | none => rw [hn] at h1; cases h1
    | some n =>
      rw [hn] at h1
      simp only at h1 ⊢
      have h2 := of_decide_eq_true h1
      exact ⟨q, rfl, by rw [Int.toNat_of_nonneg h2.1]; exact hn, by omega, h2.2.2.1, h2.2.2.2⟩
end Go.Proofs.YtlnillnngckegaaGreatDoor
