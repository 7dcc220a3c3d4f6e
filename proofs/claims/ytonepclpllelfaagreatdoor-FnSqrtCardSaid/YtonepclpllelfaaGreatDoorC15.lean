/- nat.convertWords at 10, without a table. -/
import Derived.Test.YtonepclpllelfaaGreatDoorC14
namespace Go.Proofs.YtonepclpllelfaaGreatDoor
open Go Go.RowKit

set_option maxRecDepth 100000 in
set_option maxHeartbeats 4000000 in
theorem convWords_c (w : World) (stk q : Value) (Q : Nat) (oq : Option Nat) (hq : IsNat w q Q oq) (hQl : (digs Q).length ≤ 900) (bs n cap : Nat) (D : List Nat) (hD : ArrY w bs D) (hn : D.length = n) (hn1 : n ≤ 100000) (hQ : Q < 10 ^ n) :
    Calls Tryz.prog 203 #[q, stk, .slice (some ⟨bs, 0, none⟩) n cap, .int .u64 10, .int .i64 19, .int .u64 10000000000000000000, .slice none 0 0] w fun e w' =>
      e = .returned (.tuple #[]) ∧ ∃ D', ArrY w' bs D' ∧ FigsFrom D' Q n 0 ∧ Chg w w' (fun k => k = bs ∨ some k = oq) := by
  have hbb : (10000000000000000000 : Nat) < WB := by rw [WB_eq]; omega
  have hbs := hD.lt
  have hoq : oq ≠ some bs := by
    rcases hq with ⟨_, _, h⟩ | ⟨b, _, C, h, _, ha, _⟩
    · rw [h]; simp
    · rw [h]; exact fun e => hD.neArr ha (by injection e)
  obtain ⟨pq, cq, rfl, _, _⟩ := hq.shape
  replace hq := Lib.hid hq
  replace hD := Lib.hid hD
  replace hn := Lib.hid hn
  replace hQ := Lib.hid hQ
  go_enter Tryz.func203, Tryz.ntmps203
  go_wp2
  go_loopw [0, 19] (fun a i wr => ∃ (v : Value) (k : Nat) (o : Option Nat) (E : List Nat), v = a ∧ k ≤ n ∧ i = .int .i64 ((n - k : Nat) : Int) ∧ IsNat wr v (Q / 10 ^ k) o ∧ (o = oq ∨ o = none ∨ ∃ b, o = some b ∧ w.heap.size ≤ b) ∧ ArrY wr bs E ∧ FigsFrom E Q n (n - k) ∧ Chg w wr (fun k => k = bs ∨ some k = oq)) (fun _ i _ => (intOf i).toNat)
  case atStart => exact ⟨_, 0, oq, D, rfl, Nat.zero_le _, rfl, by rw [Nat.pow_zero, Nat.div_one]; exact hq.out, .inl rfl, hD.out, ⟨hn.out, by omega, fun j h1 h2 => by omega⟩, Chg.refl _ _⟩
  case round =>
    obtain ⟨v, k, o, E, rfl, hk, rfl, hv, ho, hE, hF, hch⟩ := hrel
    obtain ⟨wo, hwo⟩ : ∃ wo : World, wo = wr := ⟨_, rfl⟩
    replace hwo := Lib.hid hwo
    by_cases h0 : Q / 10 ^ k = 0
    · -- nothing is left: noughts ahead
      obtain ⟨pv, cv, rfl, _, _⟩ := hv.shape
      have hdz : digs (Q / 10 ^ k) = [] := by rw [h0]; exact digs_zero
      rw [hdz]
      have hz : ∀ j, k ≤ j → Q / 10 ^ j % 10 = 0 := by
        intro j hj
        have : Q / 10 ^ j ≤ Q / 10 ^ k := Nat.div_le_div_left (ten_le hj) (ten_pos k)
        rw [h0] at this
        rw [Nat.eq_zero_of_le_zero this]
      replace hz := Lib.hid hz
      clear h0 hv hdz ho
      replace hch := Lib.hid hch
      replace hE := Lib.hid hE
      replace hF := Lib.hid hF
      go_wp2
      go_loopw [19] (fun i wi => ∃ (m : Nat) (G : List Nat), m ≤ n - k ∧ i = .int .i64 (m : Int) ∧ ArrY wi bs G ∧ FigsFrom G Q n m ∧ Chg w wi (fun k => k = bs ∨ some k = oq)) (fun i _ => (intOf i).toNat)
      case atStart => exact ⟨n - k, E, Nat.le_refl _, rfl, hE.out, hF.out, hch.out⟩
      case round =>
        obtain ⟨m, G, hm, rfl, hG, hFG, hcw⟩ := hrel
        by_cases hm0 : m = 0
        · subst hm0
          replace hG := Lib.hid hG
          replace hFG := Lib.hid hFG
          replace hcw := Lib.hid hcw
          go_wp2
          go_end0
          exact ⟨rfl, G, hG.out, hFG.out, hcw.out⟩
        · obtain ⟨m', rfl⟩ : ∃ m', m = m' + 1 := ⟨m - 1, by omega⟩
          have hlen : G.length = n := hFG.1
          have hc := hG.cell (i := m') (by omega)
          have hf := hG.frozen m'
          have hG2 := hG.set m' 48 (by omega)
          have hst := hFG.step
          rw [hz.out _ (by omega)] at hst
          have hcw2 : Chg w _ (fun k => k = bs ∨ some k = oq) := hcw.trans ((chg_setB wr bs m' (.int .u8 ((48 : Nat) : Int))).mono (fun k _ h => .inl (.inl h)))
          have hG3 : ArrY (wr.setCell ⟨bs, m', none⟩ (.int .u8 48)) bs (G.set m' 48) := hG2
          have hcw3 : Chg w (wr.setCell ⟨bs, m', none⟩ (.int .u8 48)) (fun k => k = bs ∨ some k = oq) := hcw2
          replace hG3 := Lib.hid hG3
          replace hst := Lib.hid hst
          replace hcw3 := Lib.hid hcw3
          replace hlen := Lib.hid hlen
          clear hG hFG hcw hG2 hcw2
          go_wp2
          go_roundw
          case rel => exact ⟨m', _, by omega, by go_num, hG3.out, hst.out, hcw3.out⟩
          case measure => simp [intOf]
    · have hkn : k < n := by
        rcases Nat.lt_or_ge k n with h | h
        · exact h
        · exact absurd (Nat.div_eq_of_lt (Nat.lt_of_lt_of_le hQ.out (ten_le h))) h0
      have hkl : (digs (Q / 10 ^ k)).length ≤ 900 := Nat.le_trans (digs_len_mono (Nat.div_le_self _ _)) hQl
      have kd : Calls Tryz.prog 154 #[v, v, .int .u64 10000000000000000000] wr (fun e w' => ∃ r, e = .returned (.tuple #[r, .int .u64 ((Q / 10 ^ k % 10000000000000000000 : Nat) : Int)]) ∧ NatRes wr w' o r (Q / 10 ^ k / 10000000000000000000)) := divW_c wr v v (Q / 10 ^ k) 10000000000000000000 o o hv.stor hv hkl hbb (by omega)
      have hdp := digs_len_pos h0
      have e19 : Q / 10 ^ k / 10000000000000000000 = Q / 10 ^ (k + 19) := by
        rw [Nat.pow_add, ← Nat.div_div_eq_div_mul]
      rw [e19] at kd
      obtain ⟨pv, cv, rfl, _, _⟩ := hv.shape
      generalize hL : (digs (Q / 10 ^ k)).length = L at *
      have hrem : Q / 10 ^ k % 10000000000000000000 = Q / 10 ^ (k + 0) % 10 ^ (19 - 0) := rfl
      rw [hrem] at kd
      replace hL := Lib.hid hL
      replace e19 := Lib.hid e19
      replace hrem := Lib.hid hrem
      replace kd := Lib.hid kd
      replace hch := Lib.hid hch
      replace hE := Lib.hid hE
      replace hF := Lib.hid hF
      replace ho := Lib.hid ho
      replace h0 := Lib.hid h0
      clear hv hkl
      go_wp2_with fail
      with_reducible refine kd.out.mono ?_
      rintro e w4 ⟨r4, rfl, o4, hr4, ho4, hc4⟩
      have sz4 := hch.out.size
      have hnbs : ∀ kk, some kk = o → kk ≠ bs := by
        rintro kk e rfl
        rcases ho.out with h | h | ⟨b, h, hb⟩
        · exact hoq (h ▸ e.symm)
        · rw [h] at e; cases e
        · rw [h] at e; cases e; omega
      have hE4 : ArrY w4 bs E := hE.out.chg hc4 (fun e => hnbs _ e rfl)
      have hch4 : Chg w w4 (fun k => k = bs ∨ some k = oq) := hch.out.trans (hc4.mono (fun kk _ e => by
        rcases ho.out with h | h | ⟨b, h, hb⟩
        · exact .inl (.inr (e.trans h))
        · rw [h] at e; cases e
        · rw [h] at e; cases e; exact .inr hb))
      have ho4' : o4 = oq ∨ o4 = none ∨ ∃ b, o4 = some b ∧ w.heap.size ≤ b := by
        rcases ho4 with h | h | ⟨b, h, hb⟩
        · rw [h]; exact ho.out
        · exact .inr (.inl h)
        · exact .inr (.inr ⟨b, h, by omega⟩)
      have hs4 : bs < w4.heap.size := hE4.lt
      have hnb4 : o4 ≠ some bs := by
        intro e
        rcases ho4' with h | h | ⟨b, h, hb⟩
        · exact hoq (h ▸ e)
        · rw [h] at e; cases e
        · rw [h] at e; cases e; omega
      replace hr4 := Lib.hid hr4
      replace ho4' := Lib.hid ho4'
      replace hE4 := Lib.hid hE4
      replace hch4 := Lib.hid hch4
      replace hnb4 := Lib.hid hnb4
      replace hnbs := Lib.hid hnbs
      clear ho4 hc4 kd
      go_wp2
      go_loopw [19, 20, 21] (fun i r j wi => ∃ (m : Nat) (G : List Nat), m ≤ 19 ∧ k + m ≤ n ∧ i = .int .i64 ((n - (k + m) : Nat) : Int) ∧ r = .int .u64 ((Q / 10 ^ (k + m) % 10 ^ (19 - m) : Nat) : Int) ∧ j = .int .i64 (m : Int) ∧ ArrY wi bs G ∧ FigsFrom G Q n (n - (k + m)) ∧ Chg w4 wi (fun k => k = bs)) (fun i _ _ _ => (intOf i).toNat)
      case atStart => exact ⟨0, E, by omega, by omega, rfl, rfl, rfl, hE4.out, hF.out, Chg.refl _ _⟩
      case round =>
        obtain ⟨m, G, hm, hkm, rfl, rfl, rfl, hG, hFG, hcw⟩ := hrel
        obtain ⟨wo2, hwo2⟩ : ∃ wo2 : World, wo2 = wr := ⟨_, rfl⟩
        replace hwo2 := Lib.hid hwo2
        by_cases hgo : m < 19 ∧ k + m < n
        · obtain ⟨hm19, hkmn⟩ := hgo
          obtain ⟨t, ht⟩ : ∃ t, n - (k + m) = t + 1 := ⟨n - (k + m) - 1, by omega⟩
          have ht2 : n - (k + (m + 1)) = t := by omega
          have htn : t < n := by omega
          have hpe : n - 1 - t = k + m := by omega
          rw [ht] at hFG ⊢
          have hlen : G.length = n := hFG.1
          obtain ⟨r, hr⟩ : ∃ r, Q / 10 ^ (k + m) % 10 ^ (19 - m) = r := ⟨_, rfl⟩
          obtain ⟨u, hu⟩ : ∃ u, 19 - m = u + 1 := ⟨18 - m, by omega⟩
          have hu2 : 19 - (m + 1) = u := by omega
          have hr10 : r % 10 = Q / 10 ^ (k + m) % 10 := by rw [← hr, hu]; exact mod_ten _ _
          have hrq : r / 10 = Q / 10 ^ (k + (m + 1)) % 10 ^ (19 - (m + 1)) := by rw [← hr, hu, hu2, mod_tens, div_tens]; rfl
          have hrb : r < 10000000000000000000 := by
            have h1 : r < 10 ^ (19 - m) := by rw [← hr]; exact Nat.mod_lt _ (ten_pos _)
            exact Nat.lt_of_lt_of_le h1 (ten_le (show 19 - m ≤ 19 by omega))
          rw [hr]
          have hst := hFG.step
          rw [hpe, ← hr10] at hst
          have hc := hG.cell (i := t) (by omega)
          have hf := hG.frozen t
          have hG2 := hG.set t (48 + r % 10) (by omega)
          have hcw2 : Chg w4 _ (fun k => k = bs) := hcw.trans ((chg_setB wr bs t (.int .u8 ((48 + r % 10 : Nat) : Int))).mono (fun k _ h => .inl h))
          have hmul : IntKind.u64.wrap ((r : Int) / 10 * 10) = (r : Int) / 10 * 10 := IntWalk.u64_in _ (by omega)
          have hsub : (r : Int) - (r : Int) / 10 * 10 = ((r % 10 : Nat) : Int) := by omega
          have hsub2 : IntKind.u64.wrap ((r : Int) - (r : Int) / 10 * 10) = ((r % 10 : Nat) : Int) := by rw [hsub]; exact IntWalk.u64_in _ (by omega)
          obtain ⟨dg, hdg⟩ : ∃ dg, r % 10 = dg := ⟨_, rfl⟩
          have hdl : dg < 10 := by omega
          rw [hdg] at hst hG2 hcw2 hsub hsub2
          have hcv : IntKind.u8.wrap (dg : Int) = (dg : Int) := IntWalk.u8_in _ (by omega)
          have had : IntKind.u8.wrap (48 + (dg : Int)) = ((48 + dg : Nat) : Int) := by rw [show (48 : Int) + (dg : Int) = ((48 + dg : Nat) : Int) by omega]; exact IntWalk.u8_in _ (by omega)
          replace hr := Lib.hid hr
          replace hu := Lib.hid hu
          replace hu2 := Lib.hid hu2
          replace hr10 := Lib.hid hr10
          replace hrq := Lib.hid hrq
          replace ht := Lib.hid ht
          replace ht2 := Lib.hid ht2
          replace hpe := Lib.hid hpe
          replace hdg := Lib.hid hdg
          replace hG2 := Lib.hid hG2
          replace hst := Lib.hid hst
          replace hcw2 := Lib.hid hcw2
          replace hlen := Lib.hid hlen
          clear hG hFG hcw
          go_wp2
          go_roundw
          case rel => exact ⟨m + 1, _, by omega, by omega, by rw [ht2.out], by rw [← hrq.out]; go_num, by go_num, hG2.out, by rw [ht2.out]; exact hst.out, hcw2.out⟩
          case measure => simp [intOf]
        · have hk2 : ∃ k', k < k' ∧ k' ≤ n ∧ n - (k + m) = n - k' ∧ Q / 10 ^ (k + 19) = Q / 10 ^ k' := by
            rcases (by omega : m = 19 ∨ (m < 19 ∧ k + m = n)) with h | ⟨h1, h2⟩
            · exact ⟨k + 19, by omega, by omega, by rw [h], rfl⟩
            · refine ⟨n, hkn, Nat.le_refl _, by rw [h2], ?_⟩
              rw [Nat.div_eq_of_lt hQ.out, Nat.div_eq_of_lt (Nat.lt_of_lt_of_le hQ.out (ten_le (by omega)))]
          obtain ⟨k', hk'1, hk'2, hk'3, hk'4⟩ := hk2
          have hnat : IsNat wr r4 (Q / 10 ^ k') o4 := by
            rw [← hk'4]
            exact hr4.out.chg hcw (fun b hb e => hnb4.out (by rw [hb, e]))
          have hcwf : Chg w wr (fun k => k = bs ∨ some k = oq) := hch4.out.trans (hcw.mono (fun kk _ e => .inl (.inl e)))
          rw [hk'3] at hFG ⊢
          have hgo2 : 19 ≤ m ∨ (m < 19 ∧ n - k' = 0) := by omega
          replace hk'4 := Lib.hid hk'4
          replace hk'3 := Lib.hid hk'3
          replace hnat := Lib.hid hnat
          replace hcwf := Lib.hid hcwf
          replace hG := Lib.hid hG
          replace hFG := Lib.hid hFG
          clear hgo hcw
          rcases hgo2 with hx | ⟨hm9, hx⟩
          · go_wp2
            go_roundw
            case rel => exact ⟨_, k', o4, G, rfl, hk'2, rfl, hnat.out, ho4'.out, hG.out, hFG.out, hcwf.out⟩
            case measure => simp [intOf]; omega
          · have hfin : FigsFrom G Q n (n - k') := hFG.out
            have hkk : k < n := hkn
            replace hfin := Lib.hid hfin
            rw [hx]
            have hkn' : k' = n := by omega
            replace hx := Lib.hid hx
            replace hkn' := Lib.hid hkn'
            go_wp2
            go_roundw
            case rel => exact ⟨_, k', o4, G, rfl, hk'2, by rw [hx.out]; rfl, hnat.out, ho4'.out, hG.out, hfin.out, hcwf.out⟩
            case measure => have := hx.out; simp [intOf]; omega
end Go.Proofs.YtonepclpllelfaaGreatDoor
