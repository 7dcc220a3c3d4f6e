/- Int.Text, String; Lsh; rows of the table of digits; NumDigits. Lsh of 1; a row of the table of digits. The number of a number's digits. -/
import Derived.Deep.RegionHeld3
import Derived.Test.YtlnillnngckegaaGreatDoorM16
import Derived.Test.YtlnillnngckegaaGreatDoorM25
import Derived.Test.YtlnillnngckegaaGreatDoorM29
namespace Go.Proofs.YtlnillnngckegaaGreatDoor
open Go Go.RowKit

/-- A text of so many figures. -/
def StrRes (w w' : World) (e : Ending) (N : Nat) : Prop := ∃ str : ByteArray, e = .returned (.string str) ∧ str.size = figs N ∧ Chg w w' (fun _ => False)

theorem strOfNums_size (xs : List Int) : (strOfNums xs).size = xs.length := by
  unfold strOfNums
  simp [ByteArray.size]

theorem TextRes.conv {w0 w w1 : World} {e : Ending} {N : Nat} (h : TextRes w w1 e N) (hc : Chg w0 w (fun _ => False)) : ∃ bs i cap str, e = .returned (.slice (some ⟨bs, i, none⟩) (figs N) cap) ∧
    (convert 135 9 (.slice (some ⟨bs, i, none⟩) (figs N) cap)).run Tryz.prog w1 = .ok (.string str) w1 ∧ str.size = figs N ∧ Chg w0 w1 (fun _ => False) := by
  obtain ⟨bs, i, D, cap, he, hD, hi, hch⟩ := h
  have hcv := run_convert_bytes_arg (P := Tryz.prog) w1 135 5 Tryz.underlying135 Tryz.underlying5 bs i (figs N) cap (((D.drop i).take (figs N)).map (fun x : Nat => (x : Int))) (by simp; omega) (by
    intro j hj
    rw [hD.cell (by omega), List.getD_eq_getElem?_getD, List.getElem?_map, List.getElem?_take_of_lt hj, List.getElem?_drop, get_nth (by omega)]
    rfl) 9 Tryz.underlying9
  refine ⟨bs, i, cap, _, he, hcv, ?_, hc.trans (hch.mono (fun _ _ h => h.elim))⟩
  rw [strOfNums_size]; simp; omega

set_option maxRecDepth 20000 in
set_option maxHeartbeats 1000000 in
theorem intText_c {w0 w : World} {σ : Sg} (h : Hold w0 w σ) {bx ox : Nat} {N : Nat} (hx : Num σ bx ox false N) (h0 : N ≠ 0) (hb : nbits N ≤ 128) :
    Calls Tryz.prog 213 #[.pointer (some ⟨bx, ox, none⟩), .int .i64 10] w fun e w' => StrRes w w' e N := by
  obtain ⟨v, s, p⟩ := h.op hx
  have ki := fun w2 (hc : Chg w w2 (fun _ => False)) => itoa_c w2 v N s (h.keep hc).glob (p.nat.chg hc (fun _ _ h => h)) h0 hb
  have x0 := p.c0
  have x1 := p.c1
  obtain ⟨pv, pc, rfl, _, _⟩ := p.nat.shape
  replace ki := Lib.hid ki
  clear h p hx h0 hb
  go_enter Tryz.func213, Tryz.ntmps213
  go_upto_region 3 with (fail)
  go_cut [4] (fun s4 wx => ∃ str : ByteArray, s4 = .string str ∧ str.size = figs N ∧ Chg w wx (fun _ => False))
  case first =>
    go_region_with ((go_at_call 231; refine (ki.out _ (by exact ⟨rfl, rfl, rfl, Nat.le_refl _, fun _ _ _ => rfl⟩)).mono ?_; rintro e w1 hres; obtain ⟨bs, i, cap, str, rfl, hcv, hsz, hch'⟩ := hres.conv (w0 := w) (by exact ⟨rfl, rfl, rfl, Nat.le_refl _, fun _ _ _ => rfl⟩); replace hsz := Lib.hid hsz; replace hch' := Lib.hid hch'; clear hres))
    all_goals
      go_wp2_with fail
      go_meet
      exact ⟨str, rfl, hsz.out, hch'.out⟩
  case rest =>
    obtain ⟨str, rfl, hsz, hch⟩ := hcut
    replace hsz := Lib.hid hsz
    replace hch := Lib.hid hch
    go_wp2
    go_ret
    exact ⟨str, rfl, hsz.out, hch.out⟩
theorem intString_c {w0 w : World} {σ : Sg} (h : Hold w0 w σ) {bx ox : Nat} {N : Nat} (hx : Num σ bx ox false N) (h0 : N ≠ 0) (hb : nbits N ≤ 128) :
    Calls Tryz.prog 190 #[.pointer (some ⟨bx, ox, none⟩)] w fun e w' => StrRes w w' e N := by
  have k := intText_c h hx h0 hb
  replace k := Lib.hid k
  clear h hx h0 hb
  go_enter Tryz.func190, Tryz.ntmps190
  go_wp2_with fail
  with_reducible refine k.out.mono ?_
  rintro e w1 ⟨str, rfl, hs, hc⟩
  replace hs := Lib.hid hs
  replace hc := Lib.hid hc
  go_wp2
  go_ret
  exact ⟨str, rfl, hs.out, hc.out⟩
theorem bigString_c {w0 w : World} {σ : Sg} (h : Hold w0 w σ) {bx ox : Nat} {N : Nat} (hx : Num σ bx ox false N) (h0 : N ≠ 0) (hb : nbits N ≤ 128) :
    Calls Tryz.prog 163 #[.pointer (some ⟨bx, ox, none⟩)] w fun e w' => StrRes w w' e N := by
  have k := intString_c h hx h0 hb
  replace k := Lib.hid k
  clear h hx h0 hb
  go_enter Tryz.func163, Tryz.ntmps163
  go_wp2_with fail
  with_reducible refine k.out.mono ?_
  rintro e w1 ⟨str, rfl, hs, hc⟩
  replace hs := Lib.hid hs
  replace hc := Lib.hid hc
  go_wp2
  go_ret
  exact ⟨str, rfl, hs.out, hc.out⟩
end Go.Proofs.YtlnillnngckegaaGreatDoor

namespace Go.Proofs.YtlnillnngckegaaGreatDoor
open Go Go.RowKit

/-- A field that bears no number is stored. -/
theorem Hold.setField {w0 w : World} {σ : Sg} (h : Hold w0 w σ) {b i : Nat} {it it' : It} {x : Value} (hb : σ b = some it) (hk : it.k < 4) (hn : ∀ o, it'.num o = it.num o) (hk' : it'.k = it.k)
    (hx : ∀ v, (it.cells v).setIfInBounds i x = it'.cells v) : Hold w0 (w.setCell ⟨b, i, none⟩ x) (upd σ b it') := by
  obtain ⟨st, h⟩ := h
  have hc := chg_setB w b i x
  have hold := (h.it b it hb).2
  obtain ⟨v, h1, h2⟩ : ∃ v : Nat → Value, w.heap[b]? = some (.cells (it.cells v) it.ty (0, 0)) ∧ ∀ o g N, it.num o = some (g, N) → IsNat w (v o) N (st b o) := by
    rcases hold with ⟨_, v, h1, h2⟩ | ⟨h1, _⟩
    · exact ⟨v, h1, h2⟩
    · omega
  have hty : it'.ty = it.ty := by unfold It.ty; rw [hk']
  have old : ∀ c p g1 N1, Num (upd σ b it') c p g1 N1 → Num σ c p g1 N1 := by
    rintro c p g1 N1 ⟨jt, hj, hjn⟩
    by_cases e : c = b
    · subst e
      rw [upd_eq] at hj; cases hj
      exact ⟨it, hb, by rw [← hn]; exact hjn⟩
    · rw [upd_ne _ _ e] at hj
      exact ⟨jt, hj, hjn⟩
  refine ⟨st, h.chg.trans (hc.mono (fun k _ e => .inr (by subst e; exact (h.it _ _ hb).1))), h.glob, ?_, ?_, ?_⟩
  · intro c jt hj
    by_cases e : c = b
    · subst e
      rw [upd_eq] at hj; cases hj
      refine ⟨(h.it _ _ hb).1, .inl ⟨by omega, v, ?_, ?_⟩⟩
      · have h3 := setB (i := i) (v := x) h1
        rw [hx, ← hty] at h3
        exact h3
      · intro o g1 N1 ho
        rw [hn] at ho
        refine (h2 o g1 N1 ho).setCell c i x (fun e => ?_)
        have := (h.sto c o g1 N1 c ⟨it, hb, ho⟩ e).2
        rw [hb] at this; cases this
    · rw [upd_ne _ _ e] at hj
      refine ⟨(h.it _ _ hj).1, (h.it _ _ hj).2.chg hc e ?_⟩
      rintro p g1 N1 k hp hk rfl
      have := (h.sto c p g1 N1 _ ⟨jt, hj, hp⟩ hk).2
      rw [hb] at this; cases this
  · intro c p g1 N1 k hcn hk
    have h3 := h.sto c p g1 N1 k (old _ _ _ _ hcn) hk
    exact ⟨h3.1, by rw [upd_ne _ _ (by rintro rfl; rw [hb] at h3; cases h3.2)]; exact h3.2⟩
  · intro c p g1 N1 c' p' g2 N2 k h3 h4 hk hk'
    exact h.inj c p g1 N1 c' p' g2 N2 k (old _ _ _ _ h3) (old _ _ _ _ h4) hk hk'
theorem bnum_tv1 {σ : Sg} {b : Nat} {d : Int} {g g2 : Bool} {N N2 : Nat} (h : σ b = some (tv d g N g2 N2)) : BNum σ b 1 g N := ⟨_, h, rfl, Nat.ne_of_beq_eq_false rfl⟩
theorem bnum_tv4 {σ : Sg} {b : Nat} {d : Int} {g g2 : Bool} {N N2 : Nat} (h : σ b = some (tv d g N g2 N2)) : BNum σ b 4 g2 N2 := ⟨_, h, rfl, Nat.ne_of_beq_eq_false rfl⟩
theorem put_tv1 {σ : Sg} {b : Nat} {d : Int} {g g2 : Bool} {N N2 : Nat} (h : σ b = some (tv d g N g2 N2)) (g' : Bool) (N' : Nat) : put σ b 1 g' N' = upd σ b (tv d g' N' g2 N2) := put_upd h 1 g' N'
theorem put_tv4 {σ : Sg} {b : Nat} {d : Int} {g g2 : Bool} {N N2 : Nat} (h : σ b = some (tv d g N g2 N2)) (g' : Bool) (N' : Nat) : put σ b 4 g' N' = upd σ b (tv d g N g' N') := put_upd h 4 g' N'
theorem Hold.tvAt {w0 w : World} {σ : Sg} (h : Hold w0 w σ) {b : Nat} {d : Int} {g g2 : Bool} {N N2 : Nat} (hb : σ b = some (tv d g N g2 N2)) : w.cell? ⟨b, 0, none⟩ = some (.int .i64 d) ∧ w.frozen? ⟨b, 0, none⟩ = false ∧ ∀ d', Hold w0 (w.setCell ⟨b, 0, none⟩ (.int .i64 d')) (upd σ b (tv d' g N g2 N2)) := by
  have h' := h
  obtain ⟨st, h⟩ := h
  obtain ⟨v, h1, _⟩ := (h.it b _ hb).2.num (o := 1) (g := g) (N := N) rfl
  refine ⟨cellB h1 rfl, frozenB h1 _, fun d' => h'.setField hb (Nat.le_of_ble_eq_true rfl) (fun o => ?_) rfl (fun v => rfl)⟩
  unfold It.num
  rfl

set_option maxRecDepth 20000 in
set_option maxHeartbeats 1000000 in
theorem intLsh_c {w0 w : World} {σ : Sg} (h : Hold w0 w σ) {bz oz : Nat} (hz : Num σ bz oz false 1) (s : Nat) (hs : s ≤ 127) :
    Calls Tryz.prog 189 #[.pointer (some ⟨bz, oz, none⟩), .pointer (some ⟨bz, oz, none⟩), .int .u64 (s : Int)] w fun e w' => e = .returned (.pointer (some ⟨bz, oz, none⟩)) ∧ Hold w0 w' (put σ bz oz false (2 ^ s)) := by
  obtain ⟨vz, sz, pz⟩ := h.op hz
  have hm : ∀ w2, Chg w w2 (fun _ => False) → Calls Tryz.prog 212 #[vz, vz, .int .u64 (s : Int)] w2 fun e w' => ∃ r, e = .returned r ∧ NatRes w2 w' sz r (2 ^ s) := by
    intro w2 hc
    have hn := pz.nat.chg hc (fun _ _ h => h)
    have e1d := digs_word (x := 1) (by rw [WB_eq]; omega) (by omega)
    obtain ⟨b, cap, C, hbb, hv, _⟩ := hn.pos (by omega)
    rw [e1d] at hv
    subst hbb hv
    exact lsh1_c w2 b cap hn s hs
  have z0 := pz.c0
  have z1 := pz.c1
  have f0 := pz.f0
  obtain ⟨pvz, pcz, rfl, _, _⟩ := pz.nat.shape
  replace h := Lib.hid h
  replace hz := Lib.hid hz
  replace pz := Lib.hid pz
  replace hm := Lib.hid hm
  clear hs
  go_enter Tryz.func189, Tryz.ntmps189
  go_upto_region 1 with (fail)
  go_cut [17] (fun _ wx => Hold w0 wx (put σ bz oz false (2 ^ s)))
  case first =>
    go_region_with ((go_at_call 212; refine (hm.out _ (by exact ⟨rfl, rfl, rfl, Nat.le_refl _, fun _ _ _ => rfl⟩)).mono ?_; rintro e w1 ⟨r, rfl, hr⟩; obtain ⟨g1, g3, hH, pr, cr, rfl⟩ := pz.out.stored hz.out (by exact ⟨rfl, rfl, rfl, Nat.le_refl _, fun _ _ _ => rfl⟩) (by rfl) hr; replace hH := Lib.hid hH))
    all_goals
      go_wp2_with fail
      go_meet
      exact hH.out
  case rest =>
    clear z0 z1 f0
    obtain ⟨p, c, z1, z0, fz, hfin⟩ := hcut.fin hz.out
    have hfin := hfin false
    replace hfin := Lib.hid hfin
    clear hcut pz h hm
    go_wp2
    go_ret
    exact ⟨rfl, hfin.out⟩
set_option maxRecDepth 20000 in
theorem bigLsh_c {w0 w : World} {σ : Sg} (h : Hold w0 w σ) {bz oz : Nat} (hz : BNum σ bz oz false 1) (s : Nat) (hs : s ≤ 127) :
    Calls Tryz.prog 162 #[.pointer (some ⟨bz, oz, none⟩), .pointer (some ⟨bz, oz, none⟩), .int .u64 (s : Int)] w fun e w' => e = .returned (.pointer (some ⟨bz, oz, none⟩)) ∧ Hold w0 w' (put σ bz oz false (2 ^ s)) := by
  obtain ⟨fm, cm, hm⟩ := h.bmin hz
  have key := fun w2 (hc : Chg (w.setCell ⟨bz, oz + 2, none⟩ (.bool false)) w2 (fun _ => False)) => intLsh_c (hm.keep hc) hz.num s hs
  replace key := Lib.hid key
  clear hz h hm hs
  go_enter Tryz.func162, Tryz.ntmps162
  go_upto_region 2 with (fail)
  go_still_tail 7, (by kernel_rfl)
  change wpList _ _ _ _ _ (World.drew _)
  go_wp2_with fail
  with_reducible refine (key.out _ (by exact ⟨rfl, rfl, rfl, Nat.le_refl _, fun _ _ _ => rfl⟩)).mono ?_
  rintro e w1 ⟨rfl, h1⟩
  replace h1 := Lib.hid h1
  go_wp2
  go_ret
  exact ⟨rfl, h1.out⟩

theorem figs_two (k : Nat) (hk : k ≤ 127) : figs (2 ^ k) ≤ 40 := by
  refine (figs_le_iff (by omega)).2 (Nat.lt_of_le_of_lt (Nat.pow_le_pow_right (by omega) hk) ?_)
  decide +kernel

set_option maxRecDepth 20000 in
set_option maxHeartbeats 2000000 in
theorem digitsRow_c {w0 w : World} {σ : Sg} (h : Hold w0 w σ) (i : Nat) (hi1 : 1 ≤ i) (hi : i ≤ 128) :
    Calls Tryz.prog 131 #[.int .i64 (i : Int)] w fun e w' => ∃ t, e = .returned (.pointer (some ⟨t, 0, none⟩)) ∧ w.heap.size ≤ t ∧ Hold w0 w' (upd σ t (tv (figs (2 ^ (i - 1)) : Int) false (10 ^ figs (2 ^ (i - 1))) true (10 ^ figs (2 ^ (i - 1))))) := by
  have hbits : nbits (2 ^ (i - 1)) ≤ 128 := nbits_le_iff.2 (Nat.pow_lt_pow_right (by omega) (by omega))
  have hfb := figs_two (i - 1) (by omega)
  have hfp := figs_pos (2 ^ (i - 1))
  have h20 : 2 ^ (i - 1) ≠ 0 := Nat.ne_of_gt (Nat.pow_pos (by omega))
  obtain ⟨d, hd⟩ : ∃ d, figs (2 ^ (i - 1)) = d := ⟨_, rfl⟩
  rw [hd] at hfb hfp ⊢
  obtain ⟨s, rfl⟩ : ∃ s, i = s + 1 := ⟨i - 1, by omega⟩
  rw [Nat.add_sub_cancel] at hd hbits h20
  have e0 : (((s + 1 : Nat) : Int) == 0) = false := int_eq0 (by omega)
  have e1 : IntKind.i64.wrap (((s + 1 : Nat) : Int) - 1) = (s : Int) := by rw [show (((s + 1 : Nat) : Int) - 1) = (s : Int) by omega]; exact IntWalk.i64_in _ (by omega)
  have e2 : ((s + 1 : Nat) : Int) - 1 = (s : Int) := by omega
  have e3 : IntKind.u64.wrap (s : Int) = (s : Int) := IntWalk.u64_in _ (by omega)
  have hfr : ∀ k, w.heap.size ≤ k → σ k = none := fun k hk => h.fresh hk
  have h1 := h.newTv 0
  have ht1 : (upd σ w.heap.size (tv 0 false 0 false 0)) w.heap.size = some (tv 0 false 0 false 0) := upd_eq _ _ _
  have hsz : w.heap.size < (w.alloc (.cells #[.int .i64 0, .bool false, .slice none 0 0, .bool false, .bool false, .slice none 0 0, .bool false] 157 (0, 0))).heap.size := (h1.lt ht1).2
  have k1 : Calls Tryz.prog 119 #[.int .i64 1] _ _ := newBig_c h1 1 (by omega)
  obtain ⟨t, ht⟩ : ∃ t, w.heap.size = t := ⟨_, rfl⟩
  rw [ht] at hfr ht1 hsz k1
  replace k1 := Lib.hid k1
  replace hd := Lib.hid hd
  replace hfr := Lib.hid hfr
  replace ht1 := Lib.hid ht1
  replace hbits := Lib.hid hbits
  replace h20 := Lib.hid h20
  have ht' := ht
  replace ht' := Lib.hid ht'
  clear h h1
  go_enter Tryz.func131, Tryz.ntmps131
  go_wp2_with fail
  clear ht
  with_reducible refine k1.out.mono ?_
  rintro e w1 ⟨k, rfl, hk, h1⟩
  have hkt : k ≠ t := by omega
  have h1k : upd (upd σ t (tv 0 false 0 false 0)) k (big false 1) k = some (big false 1) := upd_eq _ _ _
  have k2 := bigLsh_c h1 (bnum_big h1k) s (by omega)
  rw [put_big h1k, upd_upd] at k2
  clear h1 h1k
  replace k2 := Lib.hid k2
  go_wp2_with fail
  with_reducible refine k2.out.mono ?_
  rintro e w2 ⟨rfl, h2⟩
  have k3 := bigString_c h2 (num_big (upd_eq _ _ _)) h20.out hbits.out
  have ht2 : upd (upd σ t (tv 0 false 0 false 0)) k (big false (2 ^ s)) t = some (tv 0 false 0 false 0) := by rw [upd_ne _ _ (Ne.symm hkt)]; exact ht1.out
  replace k3 := Lib.hid k3
  replace ht2 := Lib.hid ht2
  replace h2 := Lib.hid h2
  replace hfb := Lib.hid hfb
  replace hfp := Lib.hid hfp
  go_wp2_with fail
  with_reducible refine k3.out.mono ?_
  rintro e w3 ⟨str, rfl, hstr, hc3⟩
  have h3 := h2.out.keep hc3
  rw [hd.out] at hstr
  obtain ⟨c0, f0, hset⟩ := h3.tvAt ht2.out
  replace hset := hset (d : Int)
  rw [upd_swap _ _ _ (Ne.symm hkt), upd_upd, upd_swap _ _ _ hkt] at hset
  have hlt := (h3.lt ht2.out).2
  have hlk := (h3.lt (upd_eq _ _ _)).2
  have hmem : (w3.setCell ⟨t, 0, none⟩ (.int .i64 (d : Int))).heap.size = w3.heap.size := World.size_setCell _ _ _
  have h4 := hset.newBig
  rw [hmem] at h4
  obtain ⟨m, hm⟩ : ∃ m, w3.heap.size = m := ⟨_, rfl⟩
  rw [hm] at hlt hlk h4
  have hmt : m ≠ t := by omega
  have hmk : m ≠ k := by omega
  have hfm : σ m = none := hfr.out m (by omega)
  have hfk : σ k = none := hfr.out k (by omega)
  have hf : σ t = none := hfr.out t (Nat.le_refl _)
  clear hfr
  generalize hτ : upd (upd σ t (tv (d : Int) false 0 false 0)) k (big false (2 ^ s)) = τ at h4
  have htt : τ t = some (tv (d : Int) false 0 false 0) := by rw [← hτ, upd_ne _ _ (Ne.symm hkt), upd_eq]
  have hle : Le σ τ := by rw [← hτ]; exact Le.skip hfk (Le.skip hf (Le.refl _))
  have ht4 : upd τ m (big false 0) t = some (tv (d : Int) false 0 false 0) := by rw [upd_ne _ _ (Ne.symm hmt)]; exact htt
  have k5 : Calls Tryz.prog 106 #[.pointer (some ⟨t, 1, none⟩), .int .i64 10] _ _ := bigSetI_c h4 (bnum_tv1 ht4) 10 (by omega)
  rw [put_tv1 ht4] at k5
  clear h3 hc3 h2 hset hτ hmem ht4 htt ht2 h4 hlt hlk hsz hk
  replace k5 := Lib.hid k5
  replace hle := Lib.hid hle
  replace hfm := Lib.hid hfm
  replace hf := Lib.hid hf
  clear hfk
  go_wp2_with fail
  clear hm
  with_reducible refine k5.out.mono ?_
  rintro e w5 ⟨rfl, h5⟩
  obtain ⟨c5, f5, _⟩ := h5.tvAt (upd_eq _ _ _)
  have h5m : upd (upd τ m (big false 0)) t (tv (d : Int) false 10 false 0) m = some (big false 0) := by rw [upd_ne _ _ hmt, upd_eq]
  have k6 := bigSetI_c h5 (bnum_big h5m) d (by have := hfb.out; omega)
  rw [put_big h5m] at k6
  clear h5 h5m f5
  replace k6 := Lib.hid k6
  go_wp2_with fail
  with_reducible refine k6.out.mono ?_
  rintro e w6 ⟨rfl, h6⟩
  have h6t : upd (upd (upd τ m (big false 0)) t (tv (d : Int) false 10 false 0)) m (big false d) t = some (tv (d : Int) false 10 false 0) := by rw [upd_ne _ _ (Ne.symm hmt), upd_eq]
  have k7 := fun w' (hc : Chg w6 w' (fun _ => False)) => bigExp_c (h6.keep hc) (bnum_tv1 h6t) (bnum_tv1 h6t).num (num_big (upd_eq _ _ _)) (by omega) (by rw [WB_eq]; omega) (by have := hfb.out; rw [WB_eq]; omega)
    (Nat.lt_of_le_of_lt (Nat.pow_le_pow_right (by omega) hfb.out) (by rw [WB_eq]; decide +kernel))
  rw [put_tv1 h6t] at k7
  clear h6 h6t c5
  replace k7 := Lib.hid k7
  go_upto_region 10 with (fail)
  go_still_tail 7, (by kernel_rfl)
  change wpList _ _ _ _ _ (World.drew _)
  go_wp2_with fail
  with_reducible refine (k7.out _ (by exact ⟨rfl, rfl, rfl, Nat.le_refl _, fun _ _ _ => rfl⟩)).mono ?_
  rintro e w7 ⟨rfl, h7⟩
  have h7t : upd (upd (upd (upd τ m (big false 0)) t (tv (d : Int) false 10 false 0)) m (big false d)) t (tv (d : Int) false (10 ^ d) false 0) t = some (tv (d : Int) false (10 ^ d) false 0) := upd_eq _ _ _
  have hdl : (digs (10 ^ d)).length ≤ 1000 := Nat.le_trans (digs_len_le.2 (Nat.lt_of_le_of_lt (Nat.pow_le_pow_right (by omega) hfb.out) (by rw [WB_eq]; decide +kernel : 10 ^ 40 < WB ^ 3))) (by omega)
  have k8 := fun w' (hc : Chg w7 w' (fun _ => False)) => bigNeg_c (h7.keep hc) (bnum_tv4 h7t) (bnum_tv1 h7t) hdl (Nat.ne_of_gt (Nat.pow_pos (by omega)))
  rw [put_tv4 h7t, upd_upd] at k8
  clear h7 h7t hdl
  replace k8 := Lib.hid k8
  go_upto_region 11 with (fail)
  go_still_tail 6, (by kernel_rfl)
  change wpList _ _ _ _ _ (World.drew _)
  go_wp2_with fail
  with_reducible refine (k8.out _ (by exact ⟨rfl, rfl, rfl, Nat.le_refl _, fun _ _ _ => rfl⟩)).mono ?_
  rintro e w8 ⟨rfl, h8⟩
  replace h8 := Lib.hid h8
  go_wp2
  go_ret
  exact ⟨t, rfl, Nat.le_of_eq ht'.out, h8.out.le (Le.both (Le.skip hfm.out (Le.skip hf.out (Le.skip hfm.out hle.out))))⟩
end Go.Proofs.YtlnillnngckegaaGreatDoor

namespace Go.Proofs.YtlnillnngckegaaGreatDoor
open Go Go.RowKit

set_option exponentiation.threshold 2000 in
theorem bits_words {N : Nat} (h : nbits N < 1200) : (digs N).length ≤ 1000 := by
  refine Nat.le_trans (digs_len_le (k := 20).2 ?_) (by omega)
  rw [WB_bits, ← Nat.pow_mul]
  exact nbits_le_iff.1 (Nat.le_trans (Nat.le_of_lt h) (by omega))

set_option maxRecDepth 20000 in
theorem numDigits_z {w0 w : World} {σ : Sg} (h : Hold w0 w σ) {bx ox : Nat} (hx : BNum σ bx ox false 0) :
    Calls Tryz.prog 105 #[.pointer (some ⟨bx, ox, none⟩)] w fun e w' => e = .returned (.int .i64 1) ∧ Hold w0 w' σ := by
  have k := bigBits_c h hx (Nat.le_trans (bits_words (by rw [nbits_zero]; omega)) (by omega))
  rw [nbits_zero] at k
  replace k := Lib.hid k
  replace h := Lib.hid h
  clear hx
  go_enter Tryz.func105, Tryz.ntmps105
  go_wp2_with fail
  with_reducible refine k.out.mono ?_
  rintro e w' ⟨rfl, hw⟩
  obtain rfl := hw
  go_wp2
  go_ret
  exact ⟨rfl, h.out⟩

theorem Two2 {w0 w w2 : World} {σ σ1 : Sg} {t t2 bx ox N : Nat} {it it2 : It} (h1 : Hold w0 w σ1) (ht : σ1 t = some it) (hx : BNum σ1 bx ox false N) (hle : Le σ σ1) (ht2 : w2.heap.size ≤ t2) (hc : Chg w w2 (fun _ => False)) : upd σ1 t2 it2 t2 = some it2 ∧ upd σ1 t2 it2 t = some it ∧ BNum (upd σ1 t2 it2) bx ox false N ∧ Le σ (upd σ1 t2 it2) := by
  have hf := h1.fresh (k := t2) (Nat.le_trans hc.size ht2)
  have hf2 : σ t2 = none := by
    cases h : σ t2 with
    | none => rfl
    | some jt => exact absurd (hle _ _ h) (by rw [hf]; exact fun h => by cases h)
  refine ⟨upd_eq _ _ _, ?_, hx.upd hf, Le.skip hf2 hle⟩
  rw [upd_ne _ _ (by rintro rfl; rw [hf] at ht; cases ht)]
  exact ht
set_option maxRecDepth 20000 in
set_option maxHeartbeats 16000000 in
theorem numDigits_s {w0 w : World} {σ : Sg} (h : Hold w0 w σ) {bx ox : Nat} {N : Nat} (hx : BNum σ bx ox false N) (h0 : N ≠ 0) (hb : nbits N ≤ 128) :
    Calls Tryz.prog 105 #[.pointer (some ⟨bx, ox, none⟩)] w fun e w' => e = .returned (.int .i64 (figs N : Int)) ∧ Hold w0 w' σ := by
  have k := bigBits_c h hx (Nat.le_trans (bits_words (by omega)) (by omega))
  have hbp := nbits_pos h0
  have hlo := nbits_ge h0
  have hhi := nbits_lt N
  obtain ⟨b, hbe⟩ : ∃ b, nbits N = b := ⟨_, rfl⟩
  rw [hbe] at k hbp hlo hhi hb
  have kd := digitsRow_c h b hbp hb
  have f1 := figs_mono hlo
  have f2 := figs_lt (2 ^ (b - 1))
  have f3 := figs_mono (Nat.le_of_lt hhi)
  have f4 : 2 ^ b = 2 * 2 ^ (b - 1) := by
    obtain ⟨c, rfl⟩ : ∃ c, b = c + 1 := ⟨b - 1, by omega⟩
    rw [Nat.add_sub_cancel, Nat.pow_succ, Nat.mul_comm]
  have fp := figs_pos (2 ^ (b - 1))
  have hd40 := figs_two (b - 1) (by omega)
  have kd2 : ∀ w1 σ1, b < 128 → Hold w0 w1 σ1 → Calls Tryz.prog 131 #[.int .i64 ((b : Int) + 1)] w1 fun e w' => ∃ t, e = .returned (.pointer (some ⟨t, 0, none⟩)) ∧ w1.heap.size ≤ t ∧ Hold w0 w' (upd σ1 t (tv (figs (2 ^ b) : Int) false (10 ^ figs (2 ^ b)) true (10 ^ figs (2 ^ b)))) := fun w1 σ1 hlt h1 => digitsRow_c h1 (b + 1) (by omega) (by omega)
  have e0 : ((b : Int) == 0) = false := int_eq0 (by omega)
  have e1 : decide ((b : Int) ≤ 128) = true := by simp; omega
  have e1' : (b : Int) ≤ 128 := by omega
  obtain ⟨d, hd⟩ : ∃ d, figs (2 ^ (b - 1)) = d := ⟨_, rfl⟩
  obtain ⟨d2, hd2⟩ : ∃ d2, figs (2 ^ b) = d2 := ⟨_, rfl⟩
  rw [hd] at kd f1 f2 fp hd40
  rw [hd2] at f3
  rw [hd2] at kd2
  have hdN : N < 10 ^ d → figs N = d := fun hl => Nat.le_antisymm ((figs_le_iff fp).2 hl) f1
  have hdM : ¬ N < 10 ^ d → figs N = d + 1 := fun hl => Nat.le_antisymm ((figs_le_iff (by omega)).2 (by rw [ten_succ]; omega)) (by
    have h3 := mt (figs_le_iff fp).1 hl
    omega)
  have hsg : sgN false N = 1 := by unfold sgN; rw [if_neg h0]; rfl
  obtain ⟨it, hbx, hin⟩ := id hx
  have hfr : ∀ k, w.heap.size ≤ k → σ k = none := fun k hk => h.fresh hk
  replace k := Lib.hid k
  replace kd := Lib.hid kd
  replace kd2 := Lib.hid kd2
  replace hd2 := Lib.hid hd2
  replace hd := Lib.hid hd
  replace hbe := Lib.hid hbe
  replace hdN := Lib.hid hdN
  replace hdM := Lib.hid hdM
  replace hsg := Lib.hid hsg
  replace hfr := Lib.hid hfr
  replace hbx := Lib.hid hbx
  replace h0 := Lib.hid h0
  replace hlo := Lib.hid hlo
  replace hhi := Lib.hid hhi
  replace hx := Lib.hid hx
  replace f1 := Lib.hid f1
  replace f2 := Lib.hid f2
  replace f3 := Lib.hid f3
  replace f4 := Lib.hid f4
  replace hd40 := Lib.hid hd40
  clear hin
  go_enter Tryz.func105, Tryz.ntmps105
  go_wp2_with fail
  with_reducible refine k.out.mono ?_
  rintro e w' ⟨rfl, hw⟩
  obtain rfl := hw
  go_wp2_with fail
  with_reducible refine kd.out.mono ?_
  rintro e w1 ⟨t, rfl, ht, h1⟩
  have hft := hfr.out t ht
  have hxt : bx ≠ t := by rintro rfl; rw [hbx.out] at hft; cases hft
  have h1t := upd_eq σ t (tv (d : Int) false (10 ^ d) true (10 ^ d))
  obtain ⟨c0, f0, _⟩ := h1.tvAt h1t
  have hx1 := hx.out.upd (it := tv (d : Int) false (10 ^ d) true (10 ^ d)) hft
  have hle : Le σ (upd σ t (tv (d : Int) false (10 ^ d) true (10 ^ d))) := Le.skip hft (Le.refl _)
  have hd40 := hd40.out
  have ew : IntKind.i64.wrap ((d : Int) + 1) = (d : Int) + 1 := IntWalk.i64_in _ (by omega)
  have ewb : IntKind.i64.wrap ((b : Int) + 1) = (b : Int) + 1 := IntWalk.i64_in _ (by omega)
  generalize upd σ t (tv (d : Int) false (10 ^ d) true (10 ^ d)) = σ1 at h1 h1t hx1 hle
  have hm := fun (hlt : b < 128) w2 (hc : Chg w1 w2 (fun _ => False)) => kd2.out w2 _ hlt (h1.keep hc)
  replace hm := Lib.hid hm
  replace h1 := Lib.hid h1
  replace h1t := Lib.hid h1t
  replace hx1 := Lib.hid hx1
  replace hle := Lib.hid hle
  clear kd2 k kd hfr hbx h f0
  go_upto_region 6 with (fail)
  go_cut [32] (fun c wx => ∃ bo σ2, c = .bool bo ∧ (bo = true → d2 = d) ∧ Hold w0 wx σ2 ∧ σ2 t = some (tv (d : Int) false (10 ^ d) true (10 ^ d)) ∧ BNum σ2 bx ox false N ∧ Le σ σ2)
  case first =>
    by_cases hlt : b < 128
    · have hl1 : decide ((b : Int) < 128) = true := by simp; omega
      go_region_with ((go_at_call 131; refine (hm.out hlt _ (by exact ⟨rfl, rfl, rfl, Nat.le_refl _, fun _ _ _ => rfl⟩)).mono ?_; rintro e w2 ⟨t2, rfl, ht2, h2⟩; obtain ⟨h2t, h2tt, h2x, h2le⟩ := Two2 (it2 := tv (d2 : Int) false (10 ^ d2) true (10 ^ d2)) h1.out h1t.out hx1.out hle.out ht2 (by exact ⟨rfl, rfl, rfl, Nat.le_refl _, fun _ _ _ => rfl⟩); obtain ⟨c1, _, _⟩ := h2.tvAt h2t; obtain ⟨c2, _, _⟩ := h2.tvAt h2tt; replace h2 := Lib.hid h2; replace h2t := Lib.hid h2t; replace h2tt := Lib.hid h2tt; replace h2x := Lib.hid h2x; replace h2le := Lib.hid h2le))
      all_goals
        go_wp2_with fail
        go_meet
        exact ⟨_, _, rfl, fun h => by simp at h; omega, h2.out, h2tt.out, h2x.out, h2le.out⟩
    · have hl1 : decide ((b : Int) < 128) = false := by simp; omega
      go_quiet (fail)
      go_wp2_with fail
      go_meet
      exact ⟨false, _, rfl, fun h => (by cases h), h1.out.drewN _, h1t.out, hx1.out, hle.out⟩
  case rest =>
    clear h1 h1t hx1 hle hm c0
    obtain ⟨bo, σ2, rfl, hbo, h2, h2t, hx2, hle2⟩ := hcut
    obtain ⟨c0, _, _⟩ := h2.tvAt h2t
    cases bo with
    | true =>
      have hfin : figs N = d := by have := hbo rfl; have h1 := f1.out; have h3 := f3.out; omega
      have hend := h2.le hle2
      replace hfin := Lib.hid hfin
      replace hend := Lib.hid hend
      replace hbo := Lib.hid hbo
      clear h2 h2t hx2 hle2 hx
      go_wp2
      go_ret
      exact ⟨by rw [hfin.out]; rfl, hend.out⟩
    | false =>
      have ks := bigSignH_c h2 hx2
      rw [hsg.out] at ks
      have hne : (⟨bx, ox, none⟩ : Addr) ≠ ⟨t, 1, none⟩ := by intro e; injection e with e; exact hxt e
      have kc := bigCmpH_c h2 hx2 (bnum_tv1 h2t) hne
      have hend := fun n => (h2.drewN n).le hle2
      have hfinN : figs N = if ordN N (10 ^ d) < 0 then d else d + 1 := by
        by_cases hl : N < 10 ^ d
        · rw [ordN_lt hl, if_pos (by omega)]; exact hdN.out hl
        · rw [if_neg]
          · exact hdM.out hl
          · unfold ordN; rw [if_neg hl]; split <;> omega
      have ko : ∀ n, (wc.drewN n).cell? ⟨t, 0, none⟩ = some (.int .i64 (d : Int)) := fun n => by rw [World.cell?_drewN]; exact c0
      obtain ⟨o, ho⟩ : ∃ o, ordN N (10 ^ d) = o := ⟨_, rfl⟩
      rw [ho] at kc hfinN
      replace hfinN := Lib.hid hfinN
      replace ho := Lib.hid ho
      replace hend := Lib.hid hend
      replace ks := Lib.hid ks
      replace kc := Lib.hid kc
      replace ko := Lib.hid ko
      replace hbo := Lib.hid hbo
      clear h2 h2t hx2 hle2 hx hne
      go_wp2_with fail
      with_reducible refine ks.out.mono ?_
      rintro e w' ⟨rfl, hw⟩
      obtain rfl := hw
      go_wp2_with fail
      with_reducible refine kc.out.mono ?_
      rintro e w' ⟨rfl, n, rfl⟩
      have c1 := ko.out n
      by_cases hl : o < 0
      · have hl' : decide (o < 0) = true := by simp; omega
        go_wp2
        go_ret
        exact ⟨by rw [hfinN.out, if_pos hl]; rfl, hend.out _⟩
      · have hl' : decide (o < 0) = false := by simp; omega
        go_wp2
        go_ret
        refine ⟨?_, hend.out _⟩
        rw [hfinN.out, if_neg (by omega)]
        rfl
end Go.Proofs.YtlnillnngckegaaGreatDoor
