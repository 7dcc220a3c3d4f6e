/- nat: expNN, a power of a word by a word. -/
import Derived.Test.YtonepclpllelfaaGreatDoorC09
import Derived.Test.YtonepclpllelfaaGreatDoorC17
namespace Go.Proofs.YtonepclpllelfaaGreatDoor
open Go Go.RowKit

theorem shlw_one (v : Nat) : shlw v 1 = v * 2 % WB := by unfold shlw; rw [Nat.pow_one]
theorem getStackE (w : World) : Calls Tryz.prog 155 #[] w fun e w' => ∃ s, e = .returned (.pointer (some ⟨s, 0, none⟩)) ∧ w.heap.size = s ∧ Stk0 w' s ∧ Chg w w' (fun _ => False) :=
  (getStack_c w).mono fun _ _ ⟨h1, h2, h3⟩ => ⟨_, h1, rfl, h2, h3⟩

set_option maxRecDepth 200000 in
set_option maxHeartbeats 8000000 in
theorem expNN_a (w : World) (pz : Option Addr) (lz cz : Nat) (x y : Value) (X Y : Nat) (oz ox oy : Option Nat) (hG : Glob w) (hz : Stor w (.slice pz lz cz) oz) (hx : IsNat w x X ox) (hy : IsNat w y Y oy) (hX2 : 2 ≤ X) (hXW : X < WB) (hY2 : 2 ≤ Y) (hYW : Y < WB) (hXY : X ^ Y < WB ^ 22)
    (hd1 : decide (oz = ox ∧ oz ≠ none) = true) (z1 : Value) (o1 : Option Nat) (hz1 : z1 = .slice none 0 0) (hst : Stor w z1 o1) (hoz : o1 = oz ∨ o1 = none) (hsx : ∀ b, o1 = some b → ox ≠ some b) (hsy : ∀ b, o1 = some b → oy ≠ some b) :
    Calls Tryz.prog 173 #[.slice pz lz cz, .pointer none, x, y, .slice none 0 0, .bool false] w fun e w' => ∃ r, e = .returned r ∧ NatRes w w' oz r (X ^ Y) := by
  have ka := fun w2 (hc : Chg w w2 (fun _ => False)) => alias_c w2 (.slice pz lz cz) x oz ox (hz.chg hc (fun _ _ h => h)) (hx.stor.chg hc (fun _ _ h => h))
  have kb := fun w2 (hc : Chg w w2 (fun _ => False)) => alias_c w2 (.slice pz lz cz) y oz oy (hz.chg hc (fun _ _ h => h)) (hy.stor.chg hc (fun _ _ h => h))
  rw [hd1] at ka
  have hX0 : X ≠ 0 := by omega
  have hY0 : Y ≠ 0 := by omega
  have eX := digs_word hXW (by omega)
  have eY := digs_word hYW (by omega)
  obtain ⟨bx, cx, Cx, rfl, rfl, hax, _, _, htx, hlx, _⟩ := hx.pos hX0
  obtain ⟨by_, cy, Cy, rfl, rfl, hay, _, _, hty, hly, _⟩ := hy.pos hY0
  rw [eX] at htx hlx
  rw [eY] at hty hly
  simp only [List.length_cons, List.length_nil, Nat.zero_add] at htx hlx hty hly
  have eX0 : nth Cx 0 = X := by have := nth_take (l := Cx) (i := 0) (k := 1) (by omega); rw [htx] at this; rw [← this]; rfl
  have eY0 : nth Cy 0 = Y := by have := nth_take (l := Cy) (i := 0) (k := 1) (by omega); rw [hty] at this; rw [← this]; rfl
  have x0 := hax.cellN (i := 0) (by omega)
  have y0 := hay.cellN (i := 0) (by omega)
  rw [eX0] at x0
  rw [eY0] at y0
  have hx' := hx
  have hy' := hy
  rw [eX, eY]
  simp only [List.length_cons, List.length_nil, Nat.zero_add]
  rw [eX] at hx' ka
  rw [eY] at hy' kb
  simp only [List.length_cons, List.length_nil, Nat.zero_add] at hx' hy' ka kb
  have bX1 : ((X : Int) == 1) = false := by rw [beq_eq_false_iff_ne]; omega
  have bY1 : ((Y : Int) == 1) = false := by rw [beq_eq_false_iff_ne]; omega
  have hnb := nbits_pos hY0
  have hbl : blen Y = nbits Y := (nbits_blen hYW).symm
  have hb2 : 2 ≤ nbits Y := by
    have h1 := nbits_lt Y
    rcases Nat.lt_or_ge (nbits Y) 2 with h | h
    · obtain h : nbits Y = 1 := by omega
      rw [h] at h1; omega
    · exact h
  have hble := blen_le hYW
  obtain ⟨nb, hnbe⟩ : ∃ nb, nbits Y = nb + 1 := ⟨nbits Y - 1, by omega⟩
  have hnl : nlzN Y = 63 - nb := by unfold nlzN; omega
  have htop : Y / 2 ^ nb = 1 := by
    have h1 := nbits_lt Y
    have h2 := nbits_ge hY0
    rw [hnbe] at h1 h2
    rw [Nat.add_sub_cancel] at h2
    rw [Nat.pow_succ] at h1
    exact Nat.div_eq_of_lt_le (by omega) (by omega)
  have kn := fun w2 => nlz_c Y hYW w2
  rw [hnl] at kn
  have hnb63 : nb ≤ 63 := by omega
  have hnb1 : 1 ≤ nb := by omega
  clear hbl hb2 hble hnbe hnl hnb hlx hly htx hty hx hy
  replace hax := Lib.hid hax
  replace hay := Lib.hid hay
  replace ka := Lib.hid ka
  replace kb := Lib.hid kb
  replace kn := Lib.hid kn
  replace hx' := Lib.hid hx'
  replace hy' := Lib.hid hy'
  replace hst := Lib.hid hst
  replace hoz := Lib.hid hoz
  replace hsx := Lib.hid hsx
  replace hsy := Lib.hid hsy
  replace hz1 := Lib.hid hz1
  replace htop := Lib.hid htop
  replace hG := Lib.hid hG
  replace hXY := Lib.hid hXY
  clear hz eX eY eX0 eY0
  go_enter_defers Tryz.func173, Tryz.ntmps173
  go_wp2_with fail
  with_reducible refine (ka.out _ (by exact ⟨rfl, rfl, rfl, Nat.le_refl _, fun _ _ _ => rfl⟩)).mono ?_
  rintro e w1 ⟨rfl, n1, rfl⟩
  go_wp2_with fail
  with_reducible refine (getStackE _).mono ?_
  rintro e w2 ⟨s, rfl, hse', hs, hc2'⟩
  have hse : w.heap.size = s := hse'
  have hc2 : Chg w w2 (fun _ => False) := (show Chg w _ (fun _ => False) from (by exact ⟨rfl, rfl, rfl, Nat.le_refl _, fun _ _ _ => rfl⟩)).trans (hc2'.mono (fun _ _ h => h.elim))
  clear hse'
  have hsl : s < w2.heap.size := lt_of_heap hs
  have hst2 := hst.out.chg hc2 (fun _ _ h => h)
  have hx2 := hx'.out.chg hc2 (fun _ _ h => h)
  have hay2 := hc2.arr hay.out (fun h => h)
  have hax2 := hc2.arr hax.out (fun h => h)
  have hG2 := hG.out.chg hc2 (fun _ _ h => h)
  have hos : ∀ b, o1 = some b → b < s := fun b hb => by rw [← hse]; have := hst.out; rw [hb] at this; exact this.lt
  have kset := set_c w2 z1 _ X o1 _ hst2 hx2 (by rw [digs_word hXW (by omega)]; simp)
  have xs0 : w2.cell? ⟨bx, 0, none⟩ = some (.int .u64 (X : Int)) := hc2.cell x0 (fun h => h)
  have ys0 : w2.cell? ⟨by_, 0, none⟩ = some (.int .u64 (Y : Int)) := hc2.cell y0 (fun h => h)
  rw [hz1.out] at kset
  have hse' := hse
  replace hse' := Lib.hid hse'
  replace hs := Lib.hid hs
  replace hc2 := Lib.hid hc2
  replace hay2 := Lib.hid hay2
  replace hax2 := Lib.hid hax2
  replace hst2 := Lib.hid hst2
  replace hG2 := Lib.hid hG2
  replace hos := Lib.hid hos
  replace hsl := Lib.hid hsl
  replace kset := Lib.hid kset
  clear hse hc2' x0 y0 hx2
  go_wp2_with fail
  with_reducible refine kset.out.mono ?_
  rintro e w3 ⟨r0, rfl, q0, hr0, hq0, hc3⟩
  have ys3 : w3.cell? ⟨by_, 0, none⟩ = some (.int .u64 (Y : Int)) := hc3.cell ys0 (fun e => hsy.out _ e.symm rfl)
  have hx3 : IsNat w3 (.slice (some ⟨bx, 0, none⟩) 1 cx) X (some bx) := (hx'.out.chg hc2.out (fun _ _ h => h)).chg hc3 (fun b e h => hsx.out b h.symm e)
  replace hr0 := Lib.hid hr0
  replace hq0 := Lib.hid hq0
  replace hc3 := Lib.hid hc3
  replace hx3 := Lib.hid hx3
  clear xs0 ys0 kset
  go_wp2_with fail
  with_reducible refine (kn.out _).mono ?_
  rintro e w' ⟨rfl, hw⟩
  obtain rfl := hw
  have hsh : IntKind.u64.wrap (((63 - nb : Nat) : Int) + 1) = ((64 - nb : Nat) : Int) := by rw [show ((63 - nb : Nat) : Int) + 1 = ((64 - nb : Nat) : Int) by omega]; exact IntWalk.u64_in _ (by omega)
  have hi1 : IntKind.i64.wrap ((64 - nb : Nat) : Int) = ((64 - nb : Nat) : Int) := IntWalk.i64_in _ (by omega)
  have hw1 : IntKind.i64.wrap (64 - ((64 - nb : Nat) : Int)) = (nb : Int) := by rw [show (64 : Int) - ((64 - nb : Nat) : Int) = (nb : Int) by omega]; exact IntWalk.i64_in _ (by omega)
  have hw2 : (64 : Int) - ((64 - nb : Nat) : Int) = (nb : Int) := by omega
  have hsh2 : ((63 - nb : Nat) : Int) + 1 = ((64 - nb : Nat) : Int) := by omega
  have hv0 : IntKind.u64.wrap ((Y : Int) * 2 ^ (64 - nb)) = ((shlw Y (64 - nb + 0) : Nat) : Int) := by
    have h1 := wrap_u64_mod (Y * 2 ^ (64 - nb))
    unfold shlw
    rw [Nat.add_zero, ← h1]; congr 1
  go_wp2
  replace hsh := Lib.hid hsh
  replace hi1 := Lib.hid hi1
  replace hw1 := Lib.hid hw1
  replace hw2 := Lib.hid hw2
  replace hsh2 := Lib.hid hsh2
  replace hv0 := Lib.hid hv0
  clear bX1 bY1 ys3
  go_loopw [0, 15, 19, 21] (fun zv v zz j wr => ∃ (a c : Value) (k : Nat) (op oq : Option Nat), a = zv ∧ c = zz ∧ k ≤ nb ∧ j = .int .i64 k ∧ v = .int .u64 ((shlw Y (64 - nb + k) : Nat) : Int) ∧ IsNat wr a (X ^ (Y / 2 ^ (nb - k))) op ∧ Stor wr c oq ∧ (op = o1 ∨ op = none ∨ ∃ b, op = some b ∧ w2.heap.size ≤ b) ∧ (oq = o1 ∨ oq = none ∨ ∃ b, oq = some b ∧ w2.heap.size ≤ b) ∧ (∀ b, op = some b → oq ≠ some b) ∧ Chg w2 wr (fun k => some k = o1)) (fun _ _ _ j _ => nb - (intOf j).toNat)
  case atStart =>
    exact ⟨_, _, 0, q0, none, rfl, rfl, Nat.zero_le _, rfl, rfl, by rw [Nat.sub_zero, htop.out, Nat.pow_one]; exact hr0.out, stor_none _, hq0.out, .inr (.inl rfl), (fun _ _ h => by cases h), hc3.out⟩
  case round =>
    obtain ⟨zv, zz, k, op, oq, rfl, rfl, hk, rfl, rfl, hzv, hzz, hop, hoq, hdj, hch⟩ := hrel
    obtain ⟨wo, hwo⟩ : ∃ wo : World, wo = wr := ⟨_, rfl⟩
    have hGr := hG2.out.chgS hst2.out hch
    have sz2 := hch.size
    by_cases hlt : k < nb
    · obtain ⟨m, hm⟩ : ∃ m, nb - k = m + 1 := ⟨nb - k - 1, by omega⟩
      have hm2 : nb - (k + 1) = m := by omega
      rw [hm] at hzv
      have hway := way_lt (X := X) (Y := Y) (k := m) (c := 11) (by omega) hXY.out
      have kq := natsqr_c wr zz (.pointer (some ⟨s, 0, none⟩)) zv _ oq op hGr hzz hzv (by have := digs_len_le.2 hway; omega)
      have htb := top_bit (Y := Y) (k := m) (by omega)
      rw [show 63 - m = 64 - nb + k by omega] at htb
      have hbt := bits_top (shlw Y (64 - nb + k)) (shlw_lt _ _)
      have hsv : shlw Y (64 - nb + k) = Y * 2 ^ (64 - nb + k) % 18446744073709551616 := by unfold shlw; rw [WB_eq]
      rw [← hsv] at htb
      have hps := pow_step X Y m
      have hnx : IntKind.u64.wrap (((shlw Y (64 - nb + k) : Nat) : Int) * 2) = ((shlw Y (64 - nb + (k + 1)) : Nat) : Int) := by
        rw [← Nat.add_assoc, ← shlw_shlw Y (64 - nb + k), shlw_one, ← wrap_u64_mod]; congr 1
      obtain ⟨pzz, lzz, czz, rfl⟩ := stor_slice hzz
      obtain ⟨pzv, czv, rfl, _, _⟩ := hzv.shape
      have hz' := hzv.stor
      generalize (digs (X ^ (Y / 2 ^ (m + 1)))).length = Lz at *
      replace hsv := Lib.hid hsv
      replace hzv := Lib.hid hzv
      replace hz' := Lib.hid hz'
      replace hzz := Lib.hid hzz
      replace hop := Lib.hid hop
      replace hoq := Lib.hid hoq
      replace hch := Lib.hid hch
      replace hGr := Lib.hid hGr
      replace kq := Lib.hid kq
      replace htb := Lib.hid htb
      replace hps := Lib.hid hps
      replace hm := Lib.hid hm
      replace hm2 := Lib.hid hm2
      replace hnx := Lib.hid hnx
      have hzlt : ∀ b, op = some b → b < wr.heap.size := fun b hb => by have := hz'.out; rw [hb] at this; exact this.lt
      replace hwo := Lib.hid hwo
      replace hdj := Lib.hid hdj
      replace hzlt := Lib.hid hzlt
      go_wp2_with fail
      with_reducible refine kq.out.mono ?_
      rintro e w4 ⟨r4, rfl, hr4⟩
      obtain ⟨o4, hi4, ho4, hc4⟩ := hr4
      obtain ⟨pr4, cr4, rfl, _, _⟩ := hi4.shape
      have hc24 : Chg w2 w4 (fun k => some k = o1) := hch.out.trans (hc4.mono (fun k hk e => by rcases hoq.out with h | h | ⟨b, h, hb⟩; exact .inl (e.trans h); (rw [h] at e; cases e); (rw [h] at e; cases e; exact .inr hb)))
      have ho4' : o4 = o1 ∨ o4 = none ∨ ∃ b, o4 = some b ∧ w2.heap.size ≤ b := by
        rcases ho4 with h | h | ⟨b, h, hb⟩
        · rw [h]; exact hoq.out
        · exact .inr (.inl h)
        · exact .inr (.inr ⟨b, h, by omega⟩)
      have hGr4 := hG2.out.chgS hst2.out hc24
      have hx4 : IsNat w4 (.slice (some ⟨bx, 0, none⟩) 1 cx) X (some bx) := (hx'.out.chg hc2.out (fun _ _ h => h)).chg hc24 (fun b e h => hsx.out b h.symm e)
      have hz4 : Stor w4 (.slice pzv Lz czv) op := hz'.out.chg hc4 (fun b hb e => hdj.out b hb e.symm)
      have hd4 : ∀ b, o4 = some b → op ≠ some b := by
        intro b hb hb2
        rcases ho4 with h | h | ⟨c, h, hc⟩
        · exact hdj.out b hb2 (h ▸ hb)
        · rw [h] at hb; cases hb
        · rw [h] at hb; cases hb; have := hzlt.out _ hb2; omega
      have hp2 : Y / 2 ^ m % 2 = 0 ∨ Y / 2 ^ m % 2 = 1 := by omega
      have h1op := hop.out
      have h2op := ho4'
      replace hc24 := Lib.hid hc24
      replace ho4' := Lib.hid ho4'
      replace hi4 := Lib.hid hi4
      clear hc4 ho4 kq
      rcases hp2 with hp2 | hp2
      · have hfin : IsNat w4 (.slice pr4 (digs (X ^ (Y / 2 ^ (m + 1)) * X ^ (Y / 2 ^ (m + 1)))).length cr4) (X ^ (Y / 2 ^ m)) o4 := by
          rw [hps.out, hp2, Nat.pow_zero, Nat.mul_one]; exact hi4.out
        rw [htb.out, hp2, Nat.zero_mul] at hbt
        replace hp2 := Lib.hid hp2
        replace hfin := Lib.hid hfin
        replace hz4 := Lib.hid hz4
        replace h1op := Lib.hid h1op
        replace h2op := Lib.hid h2op
        replace hd4 := Lib.hid hd4
        generalize (digs (X ^ (Y / 2 ^ (m + 1)) * X ^ (Y / 2 ^ (m + 1)))).length = L4 at hfin hi4 ⊢
        clear hx4 hGr4
        go_wp2
        go_roundw
        case rel => exact ⟨_, _, k + 1, o4, op, rfl, rfl, by omega, by go_num, by first | rfl | rw [hnx.out] | (congr 1; exact hnx.out), by rw [hm2.out]; exact hfin.out, hz4.out, h2op.out, h1op.out, hd4.out, hc24.out⟩
        case measure => simp [intOf]; omega
      · have hway4 : X ^ (Y / 2 ^ (m + 1)) * X ^ (Y / 2 ^ (m + 1)) < WB ^ 22 := by
          have h1 := pow_mono (X := X) (by omega) (show Y / 2 ^ (m + 1) + Y / 2 ^ (m + 1) ≤ Y by have h2 : Y / 2 ^ (m + 1) = Y / 2 ^ m / 2 := (by rw [Nat.pow_succ, Nat.div_div_eq_div_mul]); have h3 : Y / 2 ^ m ≤ Y := Nat.div_le_self _ _; omega)
          rw [Nat.pow_add] at h1
          exact Nat.lt_of_le_of_lt h1 hXY.out
        have hz4' := hz4
        obtain ⟨pz4, lz4, cz4, hzeq⟩ := stor_slice hz4'
        have km := natmul_c w4 (.slice pzv Lz czv) (.pointer (some ⟨s, 0, none⟩)) _ _ _ X op o4 _ hGr4 hz4 hi4.out hx4 (by have := digs_len_le.2 hway4; omega) (by rw [digs_word hXW (by omega)]; simp)
        have hi4s := hi4.out.stor
        have hlt4 : ∀ b, o4 = some b → b < w4.heap.size := fun b hb => by have := hi4s; rw [hb] at this; exact this.lt
        have sz4 := hc24.out.size
        rw [htb.out, hp2, Nat.one_mul] at hbt
        have hps1 : X ^ (Y / 2 ^ m) = X ^ (Y / 2 ^ (m + 1)) * X ^ (Y / 2 ^ (m + 1)) * X := by rw [hps.out, hp2, Nat.pow_one]
        rw [← hps1] at km
        replace hp2 := Lib.hid hp2
        replace hz4 := Lib.hid hz4
        replace h1op := Lib.hid h1op
        replace h2op := Lib.hid h2op
        replace hd4 := Lib.hid hd4
        replace km := Lib.hid km
        replace hi4s := Lib.hid hi4s
        replace hlt4 := Lib.hid hlt4
        replace hps1 := Lib.hid hps1
        clear hz4' hzeq
        generalize (digs (X ^ (Y / 2 ^ (m + 1)) * X ^ (Y / 2 ^ (m + 1)))).length = L4 at hi4 km hi4s ⊢
        clear hx4 hGr4
        go_wp2_with fail
        with_reducible refine km.out.mono ?_
        rintro e w5 ⟨r5, rfl, o5, hi5, ho5, hc5⟩
        have ho5' : o5 = o1 ∨ o5 = none ∨ ∃ b, o5 = some b ∧ w2.heap.size ≤ b := by
          rcases ho5 with h | h | ⟨b, h, hb⟩
          · rw [h]; exact h1op.out
          · exact .inr (.inl h)
          · exact .inr (.inr ⟨b, h, by omega⟩)
        have hd5 : ∀ b, o5 = some b → o4 ≠ some b := by
          intro b hb hb2
          rcases ho5 with h | h | ⟨c, h, hc⟩
          · exact hd4.out b hb2 (h ▸ hb)
          · rw [h] at hb; cases hb
          · rw [h] at hb; cases hb; have := hlt4.out _ hb2; omega
        have hs5 := hi4s.out.chg hc5 (fun b hb e => hd4.out b hb e.symm)
        have hc25 : Chg w2 w5 (fun k => some k = o1) := hc24.out.trans (hc5.mono (fun k hk e => by
          rcases hop.out with h | h | ⟨b, h, hb⟩
          · exact .inl (e.trans h)
          · rw [h] at e; cases e
          · rw [h] at e; cases e; exact .inr hb))
        replace hi5 := Lib.hid hi5
        replace ho5' := Lib.hid ho5'
        replace hd5 := Lib.hid hd5
        replace hs5 := Lib.hid hs5
        replace hc25 := Lib.hid hc25
        clear ho5 hc5 km
        go_wp2
        go_roundw
        case rel => exact ⟨_, _, k + 1, o5, o4, rfl, rfl, by omega, by go_num, by first | rfl | rw [hnx.out] | (congr 1; exact hnx.out), by rw [hm2.out]; exact hi5.out, hs5.out, ho5'.out, h2op.out, hd5.out, hc25.out⟩
        case measure => simp [intOf]; omega
    · obtain rfl : k = nb := by omega
      rw [Nat.sub_self, Nat.pow_zero, Nat.div_one] at hzv
      have hXY0 : X ^ Y ≠ 0 := by have := Nat.pow_pos (n := Y) (show 0 < X by omega); omega
      have kno := norm_nat wr zv _ op hzv hXY0 (by have := digs_len_le.2 hXY.out; omega)
      have hsr : Stk0 wr s := hch.heap hs.out (fun e => by have := hos.out s e.symm; omega)
      have kfr := free0 wr s .returning hsr
      obtain ⟨pzv, czv, rfl, _, _⟩ := hzv.shape
      have hwr : Chg w wr (fun k => some k = oz) := (hc2.out.mono (fun _ _ h => h.elim)).trans (hch.mono (fun k _ e => .inl (by
        rcases hoz.out with h | h
        · exact e.trans h
        · rw [h] at e; cases e)))
      have hopz : op = oz ∨ op = none ∨ ∃ b, op = some b ∧ w.heap.size ≤ b := by
        rcases hop with h | h | ⟨b, h, hb⟩
        · rcases hoz.out with h' | h'
          · exact .inl (h.trans h')
          · exact .inr (.inl (h.trans h'))
        · exact .inr (.inl h)
        · exact .inr (.inr ⟨b, h, by have := hc2.out.size; omega⟩)
      generalize (digs (X ^ Y)).length = Lz at *
      replace kno := Lib.hid kno
      replace kfr := Lib.hid kfr
      replace hzv := Lib.hid hzv
      replace hwr := Lib.hid hwr
      replace hopz := Lib.hid hopz
      clear hop hoq hdj hch hzz
      obtain ⟨wo2, hwo2⟩ : ∃ wo2 : World, wo2 = wr := ⟨_, rfl⟩
      replace hwo2 := Lib.hid hwo2
      go_wp2
      go_loop [0, 22] (fun zf i => zf = .slice pzv Lz czv ∧ i = .int .i64 (-1)) (fun _ _ => 0)
      case atStart => exact ⟨rfl, rfl⟩
      case round =>
      obtain ⟨rfl, rfl⟩ := hrel
      go_wp2_with fail
      with_reducible refine kno.out.mono ?_
      rintro e w6 ⟨rfl, hw6⟩
      obtain rfl := hw6
      go_wp2
      refine leaves_cons (f := 156) (args := #[.pointer (some ⟨s, 0, none⟩)]) (by simp) (by simp [go_sem]) ?_
      refine kfr.out.mono ?_
      rintro e u' w7 ⟨rfl, rfl, hw7⟩
      obtain rfl := hw7
      exact ⟨.slice pzv Lz czv, by simp [results, Tryz.results173, go_sem], _, rfl, op, hzv.out, hopz.out, hwr.out⟩

set_option maxRecDepth 200000 in
set_option maxHeartbeats 8000000 in
theorem expNN_b (w : World) (pz : Option Addr) (lz cz : Nat) (x y : Value) (X Y : Nat) (oz ox oy : Option Nat) (hG : Glob w) (hz : Stor w (.slice pz lz cz) oz) (hx : IsNat w x X ox) (hy : IsNat w y Y oy) (hX2 : 2 ≤ X) (hXW : X < WB) (hY2 : 2 ≤ Y) (hYW : Y < WB) (hXY : X ^ Y < WB ^ 22)
    (hd1 : decide (oz = ox ∧ oz ≠ none) = false) (hd2 : decide (oz = oy ∧ oz ≠ none) = true) (z1 : Value) (o1 : Option Nat) (hz1 : z1 = .slice none 0 0) (hst : Stor w z1 o1) (hoz : o1 = oz ∨ o1 = none) (hsx : ∀ b, o1 = some b → ox ≠ some b) (hsy : ∀ b, o1 = some b → oy ≠ some b) :
    Calls Tryz.prog 173 #[.slice pz lz cz, .pointer none, x, y, .slice none 0 0, .bool false] w fun e w' => ∃ r, e = .returned r ∧ NatRes w w' oz r (X ^ Y) := by
  have ka := fun w2 (hc : Chg w w2 (fun _ => False)) => alias_c w2 (.slice pz lz cz) x oz ox (hz.chg hc (fun _ _ h => h)) (hx.stor.chg hc (fun _ _ h => h))
  have kb := fun w2 (hc : Chg w w2 (fun _ => False)) => alias_c w2 (.slice pz lz cz) y oz oy (hz.chg hc (fun _ _ h => h)) (hy.stor.chg hc (fun _ _ h => h))
  rw [hd1] at ka
  rw [hd2] at kb
  have hX0 : X ≠ 0 := by omega
  have hY0 : Y ≠ 0 := by omega
  have eX := digs_word hXW (by omega)
  have eY := digs_word hYW (by omega)
  obtain ⟨bx, cx, Cx, rfl, rfl, hax, _, _, htx, hlx, _⟩ := hx.pos hX0
  obtain ⟨by_, cy, Cy, rfl, rfl, hay, _, _, hty, hly, _⟩ := hy.pos hY0
  rw [eX] at htx hlx
  rw [eY] at hty hly
  simp only [List.length_cons, List.length_nil, Nat.zero_add] at htx hlx hty hly
  have eX0 : nth Cx 0 = X := by have := nth_take (l := Cx) (i := 0) (k := 1) (by omega); rw [htx] at this; rw [← this]; rfl
  have eY0 : nth Cy 0 = Y := by have := nth_take (l := Cy) (i := 0) (k := 1) (by omega); rw [hty] at this; rw [← this]; rfl
  have x0 := hax.cellN (i := 0) (by omega)
  have y0 := hay.cellN (i := 0) (by omega)
  rw [eX0] at x0
  rw [eY0] at y0
  have hx' := hx
  have hy' := hy
  rw [eX, eY]
  simp only [List.length_cons, List.length_nil, Nat.zero_add]
  rw [eX] at hx' ka
  rw [eY] at hy' kb
  simp only [List.length_cons, List.length_nil, Nat.zero_add] at hx' hy' ka kb
  have bX1 : ((X : Int) == 1) = false := by rw [beq_eq_false_iff_ne]; omega
  have bY1 : ((Y : Int) == 1) = false := by rw [beq_eq_false_iff_ne]; omega
  have hnb := nbits_pos hY0
  have hbl : blen Y = nbits Y := (nbits_blen hYW).symm
  have hb2 : 2 ≤ nbits Y := by
    have h1 := nbits_lt Y
    rcases Nat.lt_or_ge (nbits Y) 2 with h | h
    · obtain h : nbits Y = 1 := by omega
      rw [h] at h1; omega
    · exact h
  have hble := blen_le hYW
  obtain ⟨nb, hnbe⟩ : ∃ nb, nbits Y = nb + 1 := ⟨nbits Y - 1, by omega⟩
  have hnl : nlzN Y = 63 - nb := by unfold nlzN; omega
  have htop : Y / 2 ^ nb = 1 := by
    have h1 := nbits_lt Y
    have h2 := nbits_ge hY0
    rw [hnbe] at h1 h2
    rw [Nat.add_sub_cancel] at h2
    rw [Nat.pow_succ] at h1
    exact Nat.div_eq_of_lt_le (by omega) (by omega)
  have kn := fun w2 => nlz_c Y hYW w2
  rw [hnl] at kn
  have hnb63 : nb ≤ 63 := by omega
  have hnb1 : 1 ≤ nb := by omega
  clear hbl hb2 hble hnbe hnl hnb hlx hly htx hty hx hy
  replace hax := Lib.hid hax
  replace hay := Lib.hid hay
  replace ka := Lib.hid ka
  replace kb := Lib.hid kb
  replace kn := Lib.hid kn
  replace hx' := Lib.hid hx'
  replace hy' := Lib.hid hy'
  replace hst := Lib.hid hst
  replace hoz := Lib.hid hoz
  replace hsx := Lib.hid hsx
  replace hsy := Lib.hid hsy
  replace hz1 := Lib.hid hz1
  replace htop := Lib.hid htop
  replace hG := Lib.hid hG
  replace hXY := Lib.hid hXY
  clear hz eX eY eX0 eY0
  go_enter_defers Tryz.func173, Tryz.ntmps173
  go_wp2_with fail
  with_reducible refine (ka.out _ (by exact ⟨rfl, rfl, rfl, Nat.le_refl _, fun _ _ _ => rfl⟩)).mono ?_
  rintro e w1 ⟨rfl, n1, rfl⟩
  go_wp2_with fail
  with_reducible refine (kb.out _ (by exact ⟨rfl, rfl, rfl, Nat.le_refl _, fun _ _ _ => rfl⟩)).mono ?_
  rintro e w1 ⟨rfl, n2, rfl⟩
  go_wp2_with fail
  with_reducible refine (getStackE _).mono ?_
  rintro e w2 ⟨s, rfl, hse', hs, hc2'⟩
  have hse : w.heap.size = s := hse'
  have hc2 : Chg w w2 (fun _ => False) := (show Chg w _ (fun _ => False) from (by exact ⟨rfl, rfl, rfl, Nat.le_refl _, fun _ _ _ => rfl⟩)).trans (hc2'.mono (fun _ _ h => h.elim))
  clear hse'
  have hsl : s < w2.heap.size := lt_of_heap hs
  have hst2 := hst.out.chg hc2 (fun _ _ h => h)
  have hx2 := hx'.out.chg hc2 (fun _ _ h => h)
  have hay2 := hc2.arr hay.out (fun h => h)
  have hax2 := hc2.arr hax.out (fun h => h)
  have hG2 := hG.out.chg hc2 (fun _ _ h => h)
  have hos : ∀ b, o1 = some b → b < s := fun b hb => by rw [← hse]; have := hst.out; rw [hb] at this; exact this.lt
  have kset := set_c w2 z1 _ X o1 _ hst2 hx2 (by rw [digs_word hXW (by omega)]; simp)
  have xs0 : w2.cell? ⟨bx, 0, none⟩ = some (.int .u64 (X : Int)) := hc2.cell x0 (fun h => h)
  have ys0 : w2.cell? ⟨by_, 0, none⟩ = some (.int .u64 (Y : Int)) := hc2.cell y0 (fun h => h)
  rw [hz1.out] at kset
  have hse' := hse
  replace hse' := Lib.hid hse'
  replace hs := Lib.hid hs
  replace hc2 := Lib.hid hc2
  replace hay2 := Lib.hid hay2
  replace hax2 := Lib.hid hax2
  replace hst2 := Lib.hid hst2
  replace hG2 := Lib.hid hG2
  replace hos := Lib.hid hos
  replace hsl := Lib.hid hsl
  replace kset := Lib.hid kset
  clear hse hc2' x0 y0 hx2
  go_wp2_with fail
  with_reducible refine kset.out.mono ?_
  rintro e w3 ⟨r0, rfl, q0, hr0, hq0, hc3⟩
  have ys3 : w3.cell? ⟨by_, 0, none⟩ = some (.int .u64 (Y : Int)) := hc3.cell ys0 (fun e => hsy.out _ e.symm rfl)
  have hx3 : IsNat w3 (.slice (some ⟨bx, 0, none⟩) 1 cx) X (some bx) := (hx'.out.chg hc2.out (fun _ _ h => h)).chg hc3 (fun b e h => hsx.out b h.symm e)
  replace hr0 := Lib.hid hr0
  replace hq0 := Lib.hid hq0
  replace hc3 := Lib.hid hc3
  replace hx3 := Lib.hid hx3
  clear xs0 ys0 kset
  go_wp2_with fail
  with_reducible refine (kn.out _).mono ?_
  rintro e w' ⟨rfl, hw⟩
  obtain rfl := hw
  have hsh : IntKind.u64.wrap (((63 - nb : Nat) : Int) + 1) = ((64 - nb : Nat) : Int) := by rw [show ((63 - nb : Nat) : Int) + 1 = ((64 - nb : Nat) : Int) by omega]; exact IntWalk.u64_in _ (by omega)
  have hi1 : IntKind.i64.wrap ((64 - nb : Nat) : Int) = ((64 - nb : Nat) : Int) := IntWalk.i64_in _ (by omega)
  have hw1 : IntKind.i64.wrap (64 - ((64 - nb : Nat) : Int)) = (nb : Int) := by rw [show (64 : Int) - ((64 - nb : Nat) : Int) = (nb : Int) by omega]; exact IntWalk.i64_in _ (by omega)
  have hw2 : (64 : Int) - ((64 - nb : Nat) : Int) = (nb : Int) := by omega
  have hsh2 : ((63 - nb : Nat) : Int) + 1 = ((64 - nb : Nat) : Int) := by omega
  have hv0 : IntKind.u64.wrap ((Y : Int) * 2 ^ (64 - nb)) = ((shlw Y (64 - nb + 0) : Nat) : Int) := by
    have h1 := wrap_u64_mod (Y * 2 ^ (64 - nb))
    unfold shlw
    rw [Nat.add_zero, ← h1]; congr 1
  go_wp2
  replace hsh := Lib.hid hsh
  replace hi1 := Lib.hid hi1
  replace hw1 := Lib.hid hw1
  replace hw2 := Lib.hid hw2
  replace hsh2 := Lib.hid hsh2
  replace hv0 := Lib.hid hv0
  clear bX1 bY1 ys3
  go_loopw [0, 15, 19, 21] (fun zv v zz j wr => ∃ (a c : Value) (k : Nat) (op oq : Option Nat), a = zv ∧ c = zz ∧ k ≤ nb ∧ j = .int .i64 k ∧ v = .int .u64 ((shlw Y (64 - nb + k) : Nat) : Int) ∧ IsNat wr a (X ^ (Y / 2 ^ (nb - k))) op ∧ Stor wr c oq ∧ (op = o1 ∨ op = none ∨ ∃ b, op = some b ∧ w2.heap.size ≤ b) ∧ (oq = o1 ∨ oq = none ∨ ∃ b, oq = some b ∧ w2.heap.size ≤ b) ∧ (∀ b, op = some b → oq ≠ some b) ∧ Chg w2 wr (fun k => some k = o1)) (fun _ _ _ j _ => nb - (intOf j).toNat)
  case atStart =>
    exact ⟨_, _, 0, q0, none, rfl, rfl, Nat.zero_le _, rfl, rfl, by rw [Nat.sub_zero, htop.out, Nat.pow_one]; exact hr0.out, stor_none _, hq0.out, .inr (.inl rfl), (fun _ _ h => by cases h), hc3.out⟩
  case round =>
    obtain ⟨zv, zz, k, op, oq, rfl, rfl, hk, rfl, rfl, hzv, hzz, hop, hoq, hdj, hch⟩ := hrel
    obtain ⟨wo, hwo⟩ : ∃ wo : World, wo = wr := ⟨_, rfl⟩
    have hGr := hG2.out.chgS hst2.out hch
    have sz2 := hch.size
    by_cases hlt : k < nb
    · obtain ⟨m, hm⟩ : ∃ m, nb - k = m + 1 := ⟨nb - k - 1, by omega⟩
      have hm2 : nb - (k + 1) = m := by omega
      rw [hm] at hzv
      have hway := way_lt (X := X) (Y := Y) (k := m) (c := 11) (by omega) hXY.out
      have kq := natsqr_c wr zz (.pointer (some ⟨s, 0, none⟩)) zv _ oq op hGr hzz hzv (by have := digs_len_le.2 hway; omega)
      have htb := top_bit (Y := Y) (k := m) (by omega)
      rw [show 63 - m = 64 - nb + k by omega] at htb
      have hbt := bits_top (shlw Y (64 - nb + k)) (shlw_lt _ _)
      have hsv : shlw Y (64 - nb + k) = Y * 2 ^ (64 - nb + k) % 18446744073709551616 := by unfold shlw; rw [WB_eq]
      rw [← hsv] at htb
      have hps := pow_step X Y m
      have hnx : IntKind.u64.wrap (((shlw Y (64 - nb + k) : Nat) : Int) * 2) = ((shlw Y (64 - nb + (k + 1)) : Nat) : Int) := by
        rw [← Nat.add_assoc, ← shlw_shlw Y (64 - nb + k), shlw_one, ← wrap_u64_mod]; congr 1
      obtain ⟨pzz, lzz, czz, rfl⟩ := stor_slice hzz
      obtain ⟨pzv, czv, rfl, _, _⟩ := hzv.shape
      have hz' := hzv.stor
      generalize (digs (X ^ (Y / 2 ^ (m + 1)))).length = Lz at *
      replace hsv := Lib.hid hsv
      replace hzv := Lib.hid hzv
      replace hz' := Lib.hid hz'
      replace hzz := Lib.hid hzz
      replace hop := Lib.hid hop
      replace hoq := Lib.hid hoq
      replace hch := Lib.hid hch
      replace hGr := Lib.hid hGr
      replace kq := Lib.hid kq
      replace htb := Lib.hid htb
      replace hps := Lib.hid hps
      replace hm := Lib.hid hm
      replace hm2 := Lib.hid hm2
      replace hnx := Lib.hid hnx
      have hzlt : ∀ b, op = some b → b < wr.heap.size := fun b hb => by have := hz'.out; rw [hb] at this; exact this.lt
      replace hwo := Lib.hid hwo
      replace hdj := Lib.hid hdj
      replace hzlt := Lib.hid hzlt
      go_wp2_with fail
      with_reducible refine kq.out.mono ?_
      rintro e w4 ⟨r4, rfl, hr4⟩
      obtain ⟨o4, hi4, ho4, hc4⟩ := hr4
      obtain ⟨pr4, cr4, rfl, _, _⟩ := hi4.shape
      have hc24 : Chg w2 w4 (fun k => some k = o1) := hch.out.trans (hc4.mono (fun k hk e => by rcases hoq.out with h | h | ⟨b, h, hb⟩; exact .inl (e.trans h); (rw [h] at e; cases e); (rw [h] at e; cases e; exact .inr hb)))
      have ho4' : o4 = o1 ∨ o4 = none ∨ ∃ b, o4 = some b ∧ w2.heap.size ≤ b := by
        rcases ho4 with h | h | ⟨b, h, hb⟩
        · rw [h]; exact hoq.out
        · exact .inr (.inl h)
        · exact .inr (.inr ⟨b, h, by omega⟩)
      have hGr4 := hG2.out.chgS hst2.out hc24
      have hx4 : IsNat w4 (.slice (some ⟨bx, 0, none⟩) 1 cx) X (some bx) := (hx'.out.chg hc2.out (fun _ _ h => h)).chg hc24 (fun b e h => hsx.out b h.symm e)
      have hz4 : Stor w4 (.slice pzv Lz czv) op := hz'.out.chg hc4 (fun b hb e => hdj.out b hb e.symm)
      have hd4 : ∀ b, o4 = some b → op ≠ some b := by
        intro b hb hb2
        rcases ho4 with h | h | ⟨c, h, hc⟩
        · exact hdj.out b hb2 (h ▸ hb)
        · rw [h] at hb; cases hb
        · rw [h] at hb; cases hb; have := hzlt.out _ hb2; omega
      have hp2 : Y / 2 ^ m % 2 = 0 ∨ Y / 2 ^ m % 2 = 1 := by omega
      have h1op := hop.out
      have h2op := ho4'
      replace hc24 := Lib.hid hc24
      replace ho4' := Lib.hid ho4'
      replace hi4 := Lib.hid hi4
      clear hc4 ho4 kq
      rcases hp2 with hp2 | hp2
      · have hfin : IsNat w4 (.slice pr4 (digs (X ^ (Y / 2 ^ (m + 1)) * X ^ (Y / 2 ^ (m + 1)))).length cr4) (X ^ (Y / 2 ^ m)) o4 := by
          rw [hps.out, hp2, Nat.pow_zero, Nat.mul_one]; exact hi4.out
        rw [htb.out, hp2, Nat.zero_mul] at hbt
        replace hp2 := Lib.hid hp2
        replace hfin := Lib.hid hfin
        replace hz4 := Lib.hid hz4
        replace h1op := Lib.hid h1op
        replace h2op := Lib.hid h2op
        replace hd4 := Lib.hid hd4
        generalize (digs (X ^ (Y / 2 ^ (m + 1)) * X ^ (Y / 2 ^ (m + 1)))).length = L4 at hfin hi4 ⊢
        clear hx4 hGr4
        go_wp2
        go_roundw
        case rel => exact ⟨_, _, k + 1, o4, op, rfl, rfl, by omega, by go_num, by first | rfl | rw [hnx.out] | (congr 1; exact hnx.out), by rw [hm2.out]; exact hfin.out, hz4.out, h2op.out, h1op.out, hd4.out, hc24.out⟩
        case measure => simp [intOf]; omega
      · have hway4 : X ^ (Y / 2 ^ (m + 1)) * X ^ (Y / 2 ^ (m + 1)) < WB ^ 22 := by
          have h1 := pow_mono (X := X) (by omega) (show Y / 2 ^ (m + 1) + Y / 2 ^ (m + 1) ≤ Y by have h2 : Y / 2 ^ (m + 1) = Y / 2 ^ m / 2 := (by rw [Nat.pow_succ, Nat.div_div_eq_div_mul]); have h3 : Y / 2 ^ m ≤ Y := Nat.div_le_self _ _; omega)
          rw [Nat.pow_add] at h1
          exact Nat.lt_of_le_of_lt h1 hXY.out
        have hz4' := hz4
        obtain ⟨pz4, lz4, cz4, hzeq⟩ := stor_slice hz4'
        have km := natmul_c w4 (.slice pzv Lz czv) (.pointer (some ⟨s, 0, none⟩)) _ _ _ X op o4 _ hGr4 hz4 hi4.out hx4 (by have := digs_len_le.2 hway4; omega) (by rw [digs_word hXW (by omega)]; simp)
        have hi4s := hi4.out.stor
        have hlt4 : ∀ b, o4 = some b → b < w4.heap.size := fun b hb => by have := hi4s; rw [hb] at this; exact this.lt
        have sz4 := hc24.out.size
        rw [htb.out, hp2, Nat.one_mul] at hbt
        have hps1 : X ^ (Y / 2 ^ m) = X ^ (Y / 2 ^ (m + 1)) * X ^ (Y / 2 ^ (m + 1)) * X := by rw [hps.out, hp2, Nat.pow_one]
        rw [← hps1] at km
        replace hp2 := Lib.hid hp2
        replace hz4 := Lib.hid hz4
        replace h1op := Lib.hid h1op
        replace h2op := Lib.hid h2op
        replace hd4 := Lib.hid hd4
        replace km := Lib.hid km
        replace hi4s := Lib.hid hi4s
        replace hlt4 := Lib.hid hlt4
        replace hps1 := Lib.hid hps1
        clear hz4' hzeq
        generalize (digs (X ^ (Y / 2 ^ (m + 1)) * X ^ (Y / 2 ^ (m + 1)))).length = L4 at hi4 km hi4s ⊢
        clear hx4 hGr4
        go_wp2_with fail
        with_reducible refine km.out.mono ?_
        rintro e w5 ⟨r5, rfl, o5, hi5, ho5, hc5⟩
        have ho5' : o5 = o1 ∨ o5 = none ∨ ∃ b, o5 = some b ∧ w2.heap.size ≤ b := by
          rcases ho5 with h | h | ⟨b, h, hb⟩
          · rw [h]; exact h1op.out
          · exact .inr (.inl h)
          · exact .inr (.inr ⟨b, h, by omega⟩)
        have hd5 : ∀ b, o5 = some b → o4 ≠ some b := by
          intro b hb hb2
          rcases ho5 with h | h | ⟨c, h, hc⟩
          · exact hd4.out b hb2 (h ▸ hb)
          · rw [h] at hb; cases hb
          · rw [h] at hb; cases hb; have := hlt4.out _ hb2; omega
        have hs5 := hi4s.out.chg hc5 (fun b hb e => hd4.out b hb e.symm)
        have hc25 : Chg w2 w5 (fun k => some k = o1) := hc24.out.trans (hc5.mono (fun k hk e => by
          rcases hop.out with h | h | ⟨b, h, hb⟩
          · exact .inl (e.trans h)
          · rw [h] at e; cases e
          · rw [h] at e; cases e; exact .inr hb))
        replace hi5 := Lib.hid hi5
        replace ho5' := Lib.hid ho5'
        replace hd5 := Lib.hid hd5
        replace hs5 := Lib.hid hs5
        replace hc25 := Lib.hid hc25
        clear ho5 hc5 km
        go_wp2
        go_roundw
        case rel => exact ⟨_, _, k + 1, o5, o4, rfl, rfl, by omega, by go_num, by first | rfl | rw [hnx.out] | (congr 1; exact hnx.out), by rw [hm2.out]; exact hi5.out, hs5.out, ho5'.out, h2op.out, hd5.out, hc25.out⟩
        case measure => simp [intOf]; omega
    · obtain rfl : k = nb := by omega
      rw [Nat.sub_self, Nat.pow_zero, Nat.div_one] at hzv
      have hXY0 : X ^ Y ≠ 0 := by have := Nat.pow_pos (n := Y) (show 0 < X by omega); omega
      have kno := norm_nat wr zv _ op hzv hXY0 (by have := digs_len_le.2 hXY.out; omega)
      have hsr : Stk0 wr s := hch.heap hs.out (fun e => by have := hos.out s e.symm; omega)
      have kfr := free0 wr s .returning hsr
      obtain ⟨pzv, czv, rfl, _, _⟩ := hzv.shape
      have hwr : Chg w wr (fun k => some k = oz) := (hc2.out.mono (fun _ _ h => h.elim)).trans (hch.mono (fun k _ e => .inl (by
        rcases hoz.out with h | h
        · exact e.trans h
        · rw [h] at e; cases e)))
      have hopz : op = oz ∨ op = none ∨ ∃ b, op = some b ∧ w.heap.size ≤ b := by
        rcases hop with h | h | ⟨b, h, hb⟩
        · rcases hoz.out with h' | h'
          · exact .inl (h.trans h')
          · exact .inr (.inl (h.trans h'))
        · exact .inr (.inl h)
        · exact .inr (.inr ⟨b, h, by have := hc2.out.size; omega⟩)
      generalize (digs (X ^ Y)).length = Lz at *
      replace kno := Lib.hid kno
      replace kfr := Lib.hid kfr
      replace hzv := Lib.hid hzv
      replace hwr := Lib.hid hwr
      replace hopz := Lib.hid hopz
      clear hop hoq hdj hch hzz
      obtain ⟨wo2, hwo2⟩ : ∃ wo2 : World, wo2 = wr := ⟨_, rfl⟩
      replace hwo2 := Lib.hid hwo2
      go_wp2
      go_loop [0, 22] (fun zf i => zf = .slice pzv Lz czv ∧ i = .int .i64 (-1)) (fun _ _ => 0)
      case atStart => exact ⟨rfl, rfl⟩
      case round =>
      obtain ⟨rfl, rfl⟩ := hrel
      go_wp2_with fail
      with_reducible refine kno.out.mono ?_
      rintro e w6 ⟨rfl, hw6⟩
      obtain rfl := hw6
      go_wp2
      refine leaves_cons (f := 156) (args := #[.pointer (some ⟨s, 0, none⟩)]) (by simp) (by simp [go_sem]) ?_
      refine kfr.out.mono ?_
      rintro e u' w7 ⟨rfl, rfl, hw7⟩
      obtain rfl := hw7
      exact ⟨.slice pzv Lz czv, by simp [results, Tryz.results173, go_sem], _, rfl, op, hzv.out, hopz.out, hwr.out⟩

set_option maxRecDepth 200000 in
set_option maxHeartbeats 8000000 in
theorem expNN_c (w : World) (pz : Option Addr) (lz cz : Nat) (x y : Value) (X Y : Nat) (oz ox oy : Option Nat) (hG : Glob w) (hz : Stor w (.slice pz lz cz) oz) (hx : IsNat w x X ox) (hy : IsNat w y Y oy) (hX2 : 2 ≤ X) (hXW : X < WB) (hY2 : 2 ≤ Y) (hYW : Y < WB) (hXY : X ^ Y < WB ^ 22)
    (hd1 : decide (oz = ox ∧ oz ≠ none) = false) (hd2 : decide (oz = oy ∧ oz ≠ none) = false) (z1 : Value) (o1 : Option Nat) (hz1 : z1 = .slice pz lz cz) (hst : Stor w z1 o1) (hoz : o1 = oz ∨ o1 = none) (hsx : ∀ b, o1 = some b → ox ≠ some b) (hsy : ∀ b, o1 = some b → oy ≠ some b) :
    Calls Tryz.prog 173 #[.slice pz lz cz, .pointer none, x, y, .slice none 0 0, .bool false] w fun e w' => ∃ r, e = .returned r ∧ NatRes w w' oz r (X ^ Y) := by
  have ka := fun w2 (hc : Chg w w2 (fun _ => False)) => alias_c w2 (.slice pz lz cz) x oz ox (hz.chg hc (fun _ _ h => h)) (hx.stor.chg hc (fun _ _ h => h))
  have kb := fun w2 (hc : Chg w w2 (fun _ => False)) => alias_c w2 (.slice pz lz cz) y oz oy (hz.chg hc (fun _ _ h => h)) (hy.stor.chg hc (fun _ _ h => h))
  rw [hd1] at ka
  rw [hd2] at kb
  have hX0 : X ≠ 0 := by omega
  have hY0 : Y ≠ 0 := by omega
  have eX := digs_word hXW (by omega)
  have eY := digs_word hYW (by omega)
  obtain ⟨bx, cx, Cx, rfl, rfl, hax, _, _, htx, hlx, _⟩ := hx.pos hX0
  obtain ⟨by_, cy, Cy, rfl, rfl, hay, _, _, hty, hly, _⟩ := hy.pos hY0
  rw [eX] at htx hlx
  rw [eY] at hty hly
  simp only [List.length_cons, List.length_nil, Nat.zero_add] at htx hlx hty hly
  have eX0 : nth Cx 0 = X := by have := nth_take (l := Cx) (i := 0) (k := 1) (by omega); rw [htx] at this; rw [← this]; rfl
  have eY0 : nth Cy 0 = Y := by have := nth_take (l := Cy) (i := 0) (k := 1) (by omega); rw [hty] at this; rw [← this]; rfl
  have x0 := hax.cellN (i := 0) (by omega)
  have y0 := hay.cellN (i := 0) (by omega)
  rw [eX0] at x0
  rw [eY0] at y0
  have hx' := hx
  have hy' := hy
  rw [eX, eY]
  simp only [List.length_cons, List.length_nil, Nat.zero_add]
  rw [eX] at hx' ka
  rw [eY] at hy' kb
  simp only [List.length_cons, List.length_nil, Nat.zero_add] at hx' hy' ka kb
  have bX1 : ((X : Int) == 1) = false := by rw [beq_eq_false_iff_ne]; omega
  have bY1 : ((Y : Int) == 1) = false := by rw [beq_eq_false_iff_ne]; omega
  have hnb := nbits_pos hY0
  have hbl : blen Y = nbits Y := (nbits_blen hYW).symm
  have hb2 : 2 ≤ nbits Y := by
    have h1 := nbits_lt Y
    rcases Nat.lt_or_ge (nbits Y) 2 with h | h
    · obtain h : nbits Y = 1 := by omega
      rw [h] at h1; omega
    · exact h
  have hble := blen_le hYW
  obtain ⟨nb, hnbe⟩ : ∃ nb, nbits Y = nb + 1 := ⟨nbits Y - 1, by omega⟩
  have hnl : nlzN Y = 63 - nb := by unfold nlzN; omega
  have htop : Y / 2 ^ nb = 1 := by
    have h1 := nbits_lt Y
    have h2 := nbits_ge hY0
    rw [hnbe] at h1 h2
    rw [Nat.add_sub_cancel] at h2
    rw [Nat.pow_succ] at h1
    exact Nat.div_eq_of_lt_le (by omega) (by omega)
  have kn := fun w2 => nlz_c Y hYW w2
  rw [hnl] at kn
  have hnb63 : nb ≤ 63 := by omega
  have hnb1 : 1 ≤ nb := by omega
  clear hbl hb2 hble hnbe hnl hnb hlx hly htx hty hx hy
  replace hax := Lib.hid hax
  replace hay := Lib.hid hay
  replace ka := Lib.hid ka
  replace kb := Lib.hid kb
  replace kn := Lib.hid kn
  replace hx' := Lib.hid hx'
  replace hy' := Lib.hid hy'
  replace hst := Lib.hid hst
  replace hoz := Lib.hid hoz
  replace hsx := Lib.hid hsx
  replace hsy := Lib.hid hsy
  replace hz1 := Lib.hid hz1
  replace htop := Lib.hid htop
  replace hG := Lib.hid hG
  replace hXY := Lib.hid hXY
  clear hz eX eY eX0 eY0
  go_enter_defers Tryz.func173, Tryz.ntmps173
  go_wp2_with fail
  with_reducible refine (ka.out _ (by exact ⟨rfl, rfl, rfl, Nat.le_refl _, fun _ _ _ => rfl⟩)).mono ?_
  rintro e w1 ⟨rfl, n1, rfl⟩
  go_wp2_with fail
  with_reducible refine (kb.out _ (by exact ⟨rfl, rfl, rfl, Nat.le_refl _, fun _ _ _ => rfl⟩)).mono ?_
  rintro e w1 ⟨rfl, n2, rfl⟩
  go_wp2_with fail
  with_reducible refine (getStackE _).mono ?_
  rintro e w2 ⟨s, rfl, hse', hs, hc2'⟩
  have hse : w.heap.size = s := hse'
  have hc2 : Chg w w2 (fun _ => False) := (show Chg w _ (fun _ => False) from (by exact ⟨rfl, rfl, rfl, Nat.le_refl _, fun _ _ _ => rfl⟩)).trans (hc2'.mono (fun _ _ h => h.elim))
  clear hse'
  have hsl : s < w2.heap.size := lt_of_heap hs
  have hst2 := hst.out.chg hc2 (fun _ _ h => h)
  have hx2 := hx'.out.chg hc2 (fun _ _ h => h)
  have hay2 := hc2.arr hay.out (fun h => h)
  have hax2 := hc2.arr hax.out (fun h => h)
  have hG2 := hG.out.chg hc2 (fun _ _ h => h)
  have hos : ∀ b, o1 = some b → b < s := fun b hb => by rw [← hse]; have := hst.out; rw [hb] at this; exact this.lt
  have kset := set_c w2 z1 _ X o1 _ hst2 hx2 (by rw [digs_word hXW (by omega)]; simp)
  have xs0 : w2.cell? ⟨bx, 0, none⟩ = some (.int .u64 (X : Int)) := hc2.cell x0 (fun h => h)
  have ys0 : w2.cell? ⟨by_, 0, none⟩ = some (.int .u64 (Y : Int)) := hc2.cell y0 (fun h => h)
  rw [hz1.out] at kset
  have hse' := hse
  replace hse' := Lib.hid hse'
  replace hs := Lib.hid hs
  replace hc2 := Lib.hid hc2
  replace hay2 := Lib.hid hay2
  replace hax2 := Lib.hid hax2
  replace hst2 := Lib.hid hst2
  replace hG2 := Lib.hid hG2
  replace hos := Lib.hid hos
  replace hsl := Lib.hid hsl
  replace kset := Lib.hid kset
  clear hse hc2' x0 y0 hx2
  go_wp2_with fail
  with_reducible refine kset.out.mono ?_
  rintro e w3 ⟨r0, rfl, q0, hr0, hq0, hc3⟩
  have ys3 : w3.cell? ⟨by_, 0, none⟩ = some (.int .u64 (Y : Int)) := hc3.cell ys0 (fun e => hsy.out _ e.symm rfl)
  have hx3 : IsNat w3 (.slice (some ⟨bx, 0, none⟩) 1 cx) X (some bx) := (hx'.out.chg hc2.out (fun _ _ h => h)).chg hc3 (fun b e h => hsx.out b h.symm e)
  replace hr0 := Lib.hid hr0
  replace hq0 := Lib.hid hq0
  replace hc3 := Lib.hid hc3
  replace hx3 := Lib.hid hx3
  clear xs0 ys0 kset
  go_wp2_with fail
  with_reducible refine (kn.out _).mono ?_
  rintro e w' ⟨rfl, hw⟩
  obtain rfl := hw
  have hsh : IntKind.u64.wrap (((63 - nb : Nat) : Int) + 1) = ((64 - nb : Nat) : Int) := by rw [show ((63 - nb : Nat) : Int) + 1 = ((64 - nb : Nat) : Int) by omega]; exact IntWalk.u64_in _ (by omega)
  have hi1 : IntKind.i64.wrap ((64 - nb : Nat) : Int) = ((64 - nb : Nat) : Int) := IntWalk.i64_in _ (by omega)
  have hw1 : IntKind.i64.wrap (64 - ((64 - nb : Nat) : Int)) = (nb : Int) := by rw [show (64 : Int) - ((64 - nb : Nat) : Int) = (nb : Int) by omega]; exact IntWalk.i64_in _ (by omega)
  have hw2 : (64 : Int) - ((64 - nb : Nat) : Int) = (nb : Int) := by omega
  have hsh2 : ((63 - nb : Nat) : Int) + 1 = ((64 - nb : Nat) : Int) := by omega
  have hv0 : IntKind.u64.wrap ((Y : Int) * 2 ^ (64 - nb)) = ((shlw Y (64 - nb + 0) : Nat) : Int) := by
    have h1 := wrap_u64_mod (Y * 2 ^ (64 - nb))
    unfold shlw
    rw [Nat.add_zero, ← h1]; congr 1
  go_wp2
  replace hsh := Lib.hid hsh
  replace hi1 := Lib.hid hi1
  replace hw1 := Lib.hid hw1
  replace hw2 := Lib.hid hw2
  replace hsh2 := Lib.hid hsh2
  replace hv0 := Lib.hid hv0
  clear bX1 bY1 ys3
  go_loopw [0, 15, 19, 21] (fun zv v zz j wr => ∃ (a c : Value) (k : Nat) (op oq : Option Nat), a = zv ∧ c = zz ∧ k ≤ nb ∧ j = .int .i64 k ∧ v = .int .u64 ((shlw Y (64 - nb + k) : Nat) : Int) ∧ IsNat wr a (X ^ (Y / 2 ^ (nb - k))) op ∧ Stor wr c oq ∧ (op = o1 ∨ op = none ∨ ∃ b, op = some b ∧ w2.heap.size ≤ b) ∧ (oq = o1 ∨ oq = none ∨ ∃ b, oq = some b ∧ w2.heap.size ≤ b) ∧ (∀ b, op = some b → oq ≠ some b) ∧ Chg w2 wr (fun k => some k = o1)) (fun _ _ _ j _ => nb - (intOf j).toNat)
  case atStart =>
    exact ⟨_, _, 0, q0, none, rfl, rfl, Nat.zero_le _, rfl, rfl, by rw [Nat.sub_zero, htop.out, Nat.pow_one]; exact hr0.out, stor_none _, hq0.out, .inr (.inl rfl), (fun _ _ h => by cases h), hc3.out⟩
  case round =>
    obtain ⟨zv, zz, k, op, oq, rfl, rfl, hk, rfl, rfl, hzv, hzz, hop, hoq, hdj, hch⟩ := hrel
    obtain ⟨wo, hwo⟩ : ∃ wo : World, wo = wr := ⟨_, rfl⟩
    have hGr := hG2.out.chgS hst2.out hch
    have sz2 := hch.size
    by_cases hlt : k < nb
    · obtain ⟨m, hm⟩ : ∃ m, nb - k = m + 1 := ⟨nb - k - 1, by omega⟩
      have hm2 : nb - (k + 1) = m := by omega
      rw [hm] at hzv
      have hway := way_lt (X := X) (Y := Y) (k := m) (c := 11) (by omega) hXY.out
      have kq := natsqr_c wr zz (.pointer (some ⟨s, 0, none⟩)) zv _ oq op hGr hzz hzv (by have := digs_len_le.2 hway; omega)
      have htb := top_bit (Y := Y) (k := m) (by omega)
      rw [show 63 - m = 64 - nb + k by omega] at htb
      have hbt := bits_top (shlw Y (64 - nb + k)) (shlw_lt _ _)
      have hsv : shlw Y (64 - nb + k) = Y * 2 ^ (64 - nb + k) % 18446744073709551616 := by unfold shlw; rw [WB_eq]
      rw [← hsv] at htb
      have hps := pow_step X Y m
      have hnx : IntKind.u64.wrap (((shlw Y (64 - nb + k) : Nat) : Int) * 2) = ((shlw Y (64 - nb + (k + 1)) : Nat) : Int) := by
        rw [← Nat.add_assoc, ← shlw_shlw Y (64 - nb + k), shlw_one, ← wrap_u64_mod]; congr 1
      obtain ⟨pzz, lzz, czz, rfl⟩ := stor_slice hzz
      obtain ⟨pzv, czv, rfl, _, _⟩ := hzv.shape
      have hz' := hzv.stor
      generalize (digs (X ^ (Y / 2 ^ (m + 1)))).length = Lz at *
      replace hsv := Lib.hid hsv
      replace hzv := Lib.hid hzv
      replace hz' := Lib.hid hz'
      replace hzz := Lib.hid hzz
      replace hop := Lib.hid hop
      replace hoq := Lib.hid hoq
      replace hch := Lib.hid hch
      replace hGr := Lib.hid hGr
      replace kq := Lib.hid kq
      replace htb := Lib.hid htb
      replace hps := Lib.hid hps
      replace hm := Lib.hid hm
      replace hm2 := Lib.hid hm2
      replace hnx := Lib.hid hnx
      have hzlt : ∀ b, op = some b → b < wr.heap.size := fun b hb => by have := hz'.out; rw [hb] at this; exact this.lt
      replace hwo := Lib.hid hwo
      replace hdj := Lib.hid hdj
      replace hzlt := Lib.hid hzlt
      go_wp2_with fail
      with_reducible refine kq.out.mono ?_
      rintro e w4 ⟨r4, rfl, hr4⟩
      obtain ⟨o4, hi4, ho4, hc4⟩ := hr4
      obtain ⟨pr4, cr4, rfl, _, _⟩ := hi4.shape
      have hc24 : Chg w2 w4 (fun k => some k = o1) := hch.out.trans (hc4.mono (fun k hk e => by rcases hoq.out with h | h | ⟨b, h, hb⟩; exact .inl (e.trans h); (rw [h] at e; cases e); (rw [h] at e; cases e; exact .inr hb)))
      have ho4' : o4 = o1 ∨ o4 = none ∨ ∃ b, o4 = some b ∧ w2.heap.size ≤ b := by
        rcases ho4 with h | h | ⟨b, h, hb⟩
        · rw [h]; exact hoq.out
        · exact .inr (.inl h)
        · exact .inr (.inr ⟨b, h, by omega⟩)
      have hGr4 := hG2.out.chgS hst2.out hc24
      have hx4 : IsNat w4 (.slice (some ⟨bx, 0, none⟩) 1 cx) X (some bx) := (hx'.out.chg hc2.out (fun _ _ h => h)).chg hc24 (fun b e h => hsx.out b h.symm e)
      have hz4 : Stor w4 (.slice pzv Lz czv) op := hz'.out.chg hc4 (fun b hb e => hdj.out b hb e.symm)
      have hd4 : ∀ b, o4 = some b → op ≠ some b := by
        intro b hb hb2
        rcases ho4 with h | h | ⟨c, h, hc⟩
        · exact hdj.out b hb2 (h ▸ hb)
        · rw [h] at hb; cases hb
        · rw [h] at hb; cases hb; have := hzlt.out _ hb2; omega
      have hp2 : Y / 2 ^ m % 2 = 0 ∨ Y / 2 ^ m % 2 = 1 := by omega
      have h1op := hop.out
      have h2op := ho4'
      replace hc24 := Lib.hid hc24
      replace ho4' := Lib.hid ho4'
      replace hi4 := Lib.hid hi4
      clear hc4 ho4 kq
      rcases hp2 with hp2 | hp2
      · have hfin : IsNat w4 (.slice pr4 (digs (X ^ (Y / 2 ^ (m + 1)) * X ^ (Y / 2 ^ (m + 1)))).length cr4) (X ^ (Y / 2 ^ m)) o4 := by
          rw [hps.out, hp2, Nat.pow_zero, Nat.mul_one]; exact hi4.out
        rw [htb.out, hp2, Nat.zero_mul] at hbt
        replace hp2 := Lib.hid hp2
        replace hfin := Lib.hid hfin
        replace hz4 := Lib.hid hz4
        replace h1op := Lib.hid h1op
        replace h2op := Lib.hid h2op
        replace hd4 := Lib.hid hd4
        generalize (digs (X ^ (Y / 2 ^ (m + 1)) * X ^ (Y / 2 ^ (m + 1)))).length = L4 at hfin hi4 ⊢
        clear hx4 hGr4
        go_wp2
        go_roundw
        case rel => exact ⟨_, _, k + 1, o4, op, rfl, rfl, by omega, by go_num, by first | rfl | rw [hnx.out] | (congr 1; exact hnx.out), by rw [hm2.out]; exact hfin.out, hz4.out, h2op.out, h1op.out, hd4.out, hc24.out⟩
        case measure => simp [intOf]; omega
      · have hway4 : X ^ (Y / 2 ^ (m + 1)) * X ^ (Y / 2 ^ (m + 1)) < WB ^ 22 := by
          have h1 := pow_mono (X := X) (by omega) (show Y / 2 ^ (m + 1) + Y / 2 ^ (m + 1) ≤ Y by have h2 : Y / 2 ^ (m + 1) = Y / 2 ^ m / 2 := (by rw [Nat.pow_succ, Nat.div_div_eq_div_mul]); have h3 : Y / 2 ^ m ≤ Y := Nat.div_le_self _ _; omega)
          rw [Nat.pow_add] at h1
          exact Nat.lt_of_le_of_lt h1 hXY.out
        have hz4' := hz4
        obtain ⟨pz4, lz4, cz4, hzeq⟩ := stor_slice hz4'
        have km := natmul_c w4 (.slice pzv Lz czv) (.pointer (some ⟨s, 0, none⟩)) _ _ _ X op o4 _ hGr4 hz4 hi4.out hx4 (by have := digs_len_le.2 hway4; omega) (by rw [digs_word hXW (by omega)]; simp)
        have hi4s := hi4.out.stor
        have hlt4 : ∀ b, o4 = some b → b < w4.heap.size := fun b hb => by have := hi4s; rw [hb] at this; exact this.lt
        have sz4 := hc24.out.size
        rw [htb.out, hp2, Nat.one_mul] at hbt
        have hps1 : X ^ (Y / 2 ^ m) = X ^ (Y / 2 ^ (m + 1)) * X ^ (Y / 2 ^ (m + 1)) * X := by rw [hps.out, hp2, Nat.pow_one]
        rw [← hps1] at km
        replace hp2 := Lib.hid hp2
        replace hz4 := Lib.hid hz4
        replace h1op := Lib.hid h1op
        replace h2op := Lib.hid h2op
        replace hd4 := Lib.hid hd4
        replace km := Lib.hid km
        replace hi4s := Lib.hid hi4s
        replace hlt4 := Lib.hid hlt4
        replace hps1 := Lib.hid hps1
        clear hz4' hzeq
        generalize (digs (X ^ (Y / 2 ^ (m + 1)) * X ^ (Y / 2 ^ (m + 1)))).length = L4 at hi4 km hi4s ⊢
        clear hx4 hGr4
        go_wp2_with fail
        with_reducible refine km.out.mono ?_
        rintro e w5 ⟨r5, rfl, o5, hi5, ho5, hc5⟩
        have ho5' : o5 = o1 ∨ o5 = none ∨ ∃ b, o5 = some b ∧ w2.heap.size ≤ b := by
          rcases ho5 with h | h | ⟨b, h, hb⟩
          · rw [h]; exact h1op.out
          · exact .inr (.inl h)
          · exact .inr (.inr ⟨b, h, by omega⟩)
        have hd5 : ∀ b, o5 = some b → o4 ≠ some b := by
          intro b hb hb2
          rcases ho5 with h | h | ⟨c, h, hc⟩
          · exact hd4.out b hb2 (h ▸ hb)
          · rw [h] at hb; cases hb
          · rw [h] at hb; cases hb; have := hlt4.out _ hb2; omega
        have hs5 := hi4s.out.chg hc5 (fun b hb e => hd4.out b hb e.symm)
        have hc25 : Chg w2 w5 (fun k => some k = o1) := hc24.out.trans (hc5.mono (fun k hk e => by
          rcases hop.out with h | h | ⟨b, h, hb⟩
          · exact .inl (e.trans h)
          · rw [h] at e; cases e
          · rw [h] at e; cases e; exact .inr hb))
        replace hi5 := Lib.hid hi5
        replace ho5' := Lib.hid ho5'
        replace hd5 := Lib.hid hd5
        replace hs5 := Lib.hid hs5
        replace hc25 := Lib.hid hc25
        clear ho5 hc5 km
        go_wp2
        go_roundw
        case rel => exact ⟨_, _, k + 1, o5, o4, rfl, rfl, by omega, by go_num, by first | rfl | rw [hnx.out] | (congr 1; exact hnx.out), by rw [hm2.out]; exact hi5.out, hs5.out, ho5'.out, h2op.out, hd5.out, hc25.out⟩
        case measure => simp [intOf]; omega
    · obtain rfl : k = nb := by omega
      rw [Nat.sub_self, Nat.pow_zero, Nat.div_one] at hzv
      have hXY0 : X ^ Y ≠ 0 := by have := Nat.pow_pos (n := Y) (show 0 < X by omega); omega
      have kno := norm_nat wr zv _ op hzv hXY0 (by have := digs_len_le.2 hXY.out; omega)
      have hsr : Stk0 wr s := hch.heap hs.out (fun e => by have := hos.out s e.symm; omega)
      have kfr := free0 wr s .returning hsr
      obtain ⟨pzv, czv, rfl, _, _⟩ := hzv.shape
      have hwr : Chg w wr (fun k => some k = oz) := (hc2.out.mono (fun _ _ h => h.elim)).trans (hch.mono (fun k _ e => .inl (by
        rcases hoz.out with h | h
        · exact e.trans h
        · rw [h] at e; cases e)))
      have hopz : op = oz ∨ op = none ∨ ∃ b, op = some b ∧ w.heap.size ≤ b := by
        rcases hop with h | h | ⟨b, h, hb⟩
        · rcases hoz.out with h' | h'
          · exact .inl (h.trans h')
          · exact .inr (.inl (h.trans h'))
        · exact .inr (.inl h)
        · exact .inr (.inr ⟨b, h, by have := hc2.out.size; omega⟩)
      generalize (digs (X ^ Y)).length = Lz at *
      replace kno := Lib.hid kno
      replace kfr := Lib.hid kfr
      replace hzv := Lib.hid hzv
      replace hwr := Lib.hid hwr
      replace hopz := Lib.hid hopz
      clear hop hoq hdj hch hzz
      obtain ⟨wo2, hwo2⟩ : ∃ wo2 : World, wo2 = wr := ⟨_, rfl⟩
      replace hwo2 := Lib.hid hwo2
      go_wp2
      go_loop [0, 22] (fun zf i => zf = .slice pzv Lz czv ∧ i = .int .i64 (-1)) (fun _ _ => 0)
      case atStart => exact ⟨rfl, rfl⟩
      case round =>
      obtain ⟨rfl, rfl⟩ := hrel
      go_wp2_with fail
      with_reducible refine kno.out.mono ?_
      rintro e w6 ⟨rfl, hw6⟩
      obtain rfl := hw6
      go_wp2
      refine leaves_cons (f := 156) (args := #[.pointer (some ⟨s, 0, none⟩)]) (by simp) (by simp [go_sem]) ?_
      refine kfr.out.mono ?_
      rintro e u' w7 ⟨rfl, rfl, hw7⟩
      obtain rfl := hw7
      exact ⟨.slice pzv Lz czv, by simp [results, Tryz.results173, go_sem], _, rfl, op, hzv.out, hopz.out, hwr.out⟩
end Go.Proofs.YtonepclpllelfaaGreatDoor
