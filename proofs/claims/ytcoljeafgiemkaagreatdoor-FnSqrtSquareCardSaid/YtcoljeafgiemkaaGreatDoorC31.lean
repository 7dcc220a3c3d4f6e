/- Int.Text, String; Lsh; rows of the table of digits; NumDigits. Lsh of 1; a row of the table of digits. The number of a number's digits. The number of a long number's digits; of a decimal's. Bit 0; whether a magnitude is made one greater. Mode 05up; all modes. One is added to a magnitude that was cut. A decimal is set; signs. -/
import Derived.Deep.RegionHeld3
import Derived.Test.YtcoljeafgiemkaaGreatDoorC11
import Derived.Test.YtcoljeafgiemkaaGreatDoorC12
import Derived.Test.YtcoljeafgiemkaaGreatDoorC14
import Derived.Test.YtcoljeafgiemkaaGreatDoorC28
import Derived.Test.YtcoljeafgiemkaaGreatDoorC29
namespace Go.Proofs.YtcoljeafgiemkaaGreatDoor
open Go Go.RowKit

/-- A text of so many figures. -/
def StrRes (w w' : World) (e : Ending) (N : Nat) : Prop := ∃ str : ByteArray, e = .returned (.string str) ∧ str.size = figs N ∧ Chg w w' (fun _ => False)

theorem strOfNums_size (xs : List Int) : (strOfNums xs).size = xs.length := by
  unfold strOfNums
  simp [ByteArray.size]

theorem TextRes.conv {w0 w w1 : World} {e : Ending} {N : Nat} (h : TextRes w w1 e N) (hc : Chg w0 w (fun _ => False)) : ∃ bs i cap str, e = .returned (.slice (some ⟨bs, i, none⟩) (figs N) cap) ∧
    (convert 121 9 (.slice (some ⟨bs, i, none⟩) (figs N) cap)).run Tryz.prog w1 = .ok (.string str) w1 ∧ str.size = figs N ∧ Chg w0 w1 (fun _ => False) := by
  obtain ⟨bs, i, D, cap, he, hD, hi, hch⟩ := h
  have hcv := run_convert_bytes_arg (P := Tryz.prog) w1 121 5 Tryz.underlying121 Tryz.underlying5 bs i (figs N) cap (((D.drop i).take (figs N)).map (fun x : Nat => (x : Int))) (by simp; omega) (by
    intro j hj
    rw [hD.cell (by omega), List.getD_eq_getElem?_getD, List.getElem?_map, List.getElem?_take_of_lt hj, List.getElem?_drop, get_nth (by omega)]
    rfl) 9 Tryz.underlying9
  refine ⟨bs, i, cap, _, he, hcv, ?_, hc.trans (hch.mono (fun _ _ h => h.elim))⟩
  rw [strOfNums_size]; simp; omega

set_option maxRecDepth 20000 in
set_option maxHeartbeats 1000000 in
theorem intText_c {w0 w : World} {σ : Sg} (h : Hold w0 w σ) {bx ox : Nat} {N : Nat} (hx : Num σ bx ox false N) (h0 : N ≠ 0) (hb : nbits N ≤ 128) :
    Calls Tryz.prog 227 #[.pointer (some ⟨bx, ox, none⟩), .int .i64 10] w fun e w' => StrRes w w' e N := by
  obtain ⟨v, s, p⟩ := h.op hx
  have ki := fun w2 (hc : Chg w w2 (fun _ => False)) => itoa_c w2 v N s (h.keep hc).glob (p.nat.chg hc (fun _ _ h => h)) h0 hb
  have x0 := p.c0
  have x1 := p.c1
  obtain ⟨pv, pc, rfl, _, _⟩ := p.nat.shape
  replace ki := Lib.hid ki
  clear h p hx h0 hb
  go_enter Tryz.func227, Tryz.ntmps227
  go_upto_region 3 with (fail)
  go_cut [4] (fun s4 wx => ∃ str : ByteArray, s4 = .string str ∧ str.size = figs N ∧ Chg w wx (fun _ => False))
  case first =>
    go_region_with ((go_at_call 254; refine (ki.out _ (by exact ⟨rfl, rfl, rfl, Nat.le_refl _, fun _ _ _ => rfl⟩)).mono ?_; rintro e w1 hres; obtain ⟨bs, i, cap, str, rfl, hcv, hsz, hch'⟩ := hres.conv (w0 := w) (by exact ⟨rfl, rfl, rfl, Nat.le_refl _, fun _ _ _ => rfl⟩); replace hsz := Lib.hid hsz; replace hch' := Lib.hid hch'; clear hres))
    all_goals
      go_wp2_with fail
      go_meet
      exact ⟨str, rfl, hsz.out, hch'.out⟩
  case rest =>
    obtain ⟨str, rfl, hsz, hch⟩ := hcut
    replace hsz := Lib.hid hsz
    replace hch := Lib.hid hch
    go_wp2
    go_ret
    exact ⟨str, rfl, hsz.out, hch.out⟩
theorem intString_c {w0 w : World} {σ : Sg} (h : Hold w0 w σ) {bx ox : Nat} {N : Nat} (hx : Num σ bx ox false N) (h0 : N ≠ 0) (hb : nbits N ≤ 128) :
    Calls Tryz.prog 198 #[.pointer (some ⟨bx, ox, none⟩)] w fun e w' => StrRes w w' e N := by
  have k := intText_c h hx h0 hb
  replace k := Lib.hid k
  clear h hx h0 hb
  go_enter Tryz.func198, Tryz.ntmps198
  go_wp2_with fail
  with_reducible refine k.out.mono ?_
  rintro e w1 ⟨str, rfl, hs, hc⟩
  replace hs := Lib.hid hs
  replace hc := Lib.hid hc
  go_wp2
  go_ret
  exact ⟨str, rfl, hs.out, hc.out⟩
theorem bigString_c {w0 w : World} {σ : Sg} (h : Hold w0 w σ) {bx ox : Nat} {N : Nat} (hx : Num σ bx ox false N) (h0 : N ≠ 0) (hb : nbits N ≤ 128) :
    Calls Tryz.prog 181 #[.pointer (some ⟨bx, ox, none⟩)] w fun e w' => StrRes w w' e N := by
  have k := intString_c h hx h0 hb
  replace k := Lib.hid k
  clear h hx h0 hb
  go_enter Tryz.func181, Tryz.ntmps181
  go_wp2_with fail
  with_reducible refine k.out.mono ?_
  rintro e w1 ⟨str, rfl, hs, hc⟩
  replace hs := Lib.hid hs
  replace hc := Lib.hid hc
  go_wp2
  go_ret
  exact ⟨str, rfl, hs.out, hc.out⟩
end Go.Proofs.YtcoljeafgiemkaaGreatDoor

namespace Go.Proofs.YtcoljeafgiemkaaGreatDoor
open Go Go.RowKit

/-- A field that bears no number is stored. -/
theorem Hold.setField {w0 w : World} {σ : Sg} (h : Hold w0 w σ) {b i : Nat} {it it' : It} {x : Value} (hb : σ b = some it) (hk : it.k < 4) (hn : ∀ o, it'.num o = it.num o) (hk' : it'.k = it.k)
    (hx : ∀ v, (it.cells v).setIfInBounds i x = it'.cells v) : Hold w0 (w.setCell ⟨b, i, none⟩ x) (upd σ b it') := by
  obtain ⟨st, h⟩ := h
  have hc := chg_setB w b i x
  have hold := (h.it b it hb).2
  obtain ⟨v, h1, h2⟩ : ∃ v : Nat → Value, w.heap[b]? = some (.cells (it.cells v) it.ty (0, 0)) ∧ ∀ o g N, it.num o = some (g, N) → IsNat w (v o) N (st b o) := by
    rcases hold with ⟨_, v, h1, h2⟩ | ⟨h1, _⟩
    · exact ⟨v, h1, h2⟩
    · omega
  have hty : it'.ty = it.ty := by unfold It.ty; rw [hk']
  have old : ∀ c p g1 N1, Num (upd σ b it') c p g1 N1 → Num σ c p g1 N1 := by
    rintro c p g1 N1 ⟨jt, hj, hjn⟩
    by_cases e : c = b
    · subst e
      rw [upd_eq] at hj; cases hj
      exact ⟨it, hb, by rw [← hn]; exact hjn⟩
    · rw [upd_ne _ _ e] at hj
      exact ⟨jt, hj, hjn⟩
  refine ⟨st, h.chg.trans (hc.mono (fun k _ e => .inr (by subst e; exact (h.it _ _ hb).1))), h.glob, ?_, ?_, ?_⟩
  · intro c jt hj
    by_cases e : c = b
    · subst e
      rw [upd_eq] at hj; cases hj
      refine ⟨(h.it _ _ hb).1, .inl ⟨by omega, v, ?_, ?_⟩⟩
      · have h3 := setB (i := i) (v := x) h1
        rw [hx, ← hty] at h3
        exact h3
      · intro o g1 N1 ho
        rw [hn] at ho
        refine (h2 o g1 N1 ho).setCell c i x (fun e => ?_)
        have := (h.sto c o g1 N1 c ⟨it, hb, ho⟩ e).2
        rw [hb] at this; cases this
    · rw [upd_ne _ _ e] at hj
      refine ⟨(h.it _ _ hj).1, (h.it _ _ hj).2.chg hc e ?_⟩
      rintro p g1 N1 k hp hk rfl
      have := (h.sto c p g1 N1 _ ⟨jt, hj, hp⟩ hk).2
      rw [hb] at this; cases this
  · intro c p g1 N1 k hcn hk
    have h3 := h.sto c p g1 N1 k (old _ _ _ _ hcn) hk
    exact ⟨h3.1, by rw [upd_ne _ _ (by rintro rfl; rw [hb] at h3; cases h3.2)]; exact h3.2⟩
  · intro c p g1 N1 c' p' g2 N2 k h3 h4 hk hk'
    exact h.inj c p g1 N1 c' p' g2 N2 k (old _ _ _ _ h3) (old _ _ _ _ h4) hk hk'
theorem bnum_tv1 {σ : Sg} {b : Nat} {d : Int} {g g2 : Bool} {N N2 : Nat} (h : σ b = some (tv d g N g2 N2)) : BNum σ b 1 g N := ⟨_, h, rfl, Nat.ne_of_beq_eq_false rfl⟩
theorem bnum_tv4 {σ : Sg} {b : Nat} {d : Int} {g g2 : Bool} {N N2 : Nat} (h : σ b = some (tv d g N g2 N2)) : BNum σ b 4 g2 N2 := ⟨_, h, rfl, Nat.ne_of_beq_eq_false rfl⟩
theorem put_tv1 {σ : Sg} {b : Nat} {d : Int} {g g2 : Bool} {N N2 : Nat} (h : σ b = some (tv d g N g2 N2)) (g' : Bool) (N' : Nat) : put σ b 1 g' N' = upd σ b (tv d g' N' g2 N2) := put_upd h 1 g' N'
theorem put_tv4 {σ : Sg} {b : Nat} {d : Int} {g g2 : Bool} {N N2 : Nat} (h : σ b = some (tv d g N g2 N2)) (g' : Bool) (N' : Nat) : put σ b 4 g' N' = upd σ b (tv d g N g' N') := put_upd h 4 g' N'
theorem Hold.tvAt {w0 w : World} {σ : Sg} (h : Hold w0 w σ) {b : Nat} {d : Int} {g g2 : Bool} {N N2 : Nat} (hb : σ b = some (tv d g N g2 N2)) : w.cell? ⟨b, 0, none⟩ = some (.int .i64 d) ∧ w.frozen? ⟨b, 0, none⟩ = false ∧ ∀ d', Hold w0 (w.setCell ⟨b, 0, none⟩ (.int .i64 d')) (upd σ b (tv d' g N g2 N2)) := by
  have h' := h
  obtain ⟨st, h⟩ := h
  obtain ⟨v, h1, _⟩ := (h.it b _ hb).2.num (o := 1) (g := g) (N := N) rfl
  refine ⟨cellB h1 rfl, frozenB h1 _, fun d' => h'.setField hb (Nat.le_of_ble_eq_true rfl) (fun o => ?_) rfl (fun v => rfl)⟩
  unfold It.num
  rfl

set_option maxRecDepth 20000 in
set_option maxHeartbeats 1000000 in
theorem intLsh_c {w0 w : World} {σ : Sg} (h : Hold w0 w σ) {bz oz : Nat} (hz : Num σ bz oz false 1) (s : Nat) (hs : s ≤ 127) :
    Calls Tryz.prog 197 #[.pointer (some ⟨bz, oz, none⟩), .pointer (some ⟨bz, oz, none⟩), .int .u64 (s : Int)] w fun e w' => e = .returned (.pointer (some ⟨bz, oz, none⟩)) ∧ Hold w0 w' (put σ bz oz false (2 ^ s)) := by
  obtain ⟨vz, sz, pz⟩ := h.op hz
  have hm : ∀ w2, Chg w w2 (fun _ => False) → Calls Tryz.prog 226 #[vz, vz, .int .u64 (s : Int)] w2 fun e w' => ∃ r, e = .returned r ∧ NatRes w2 w' sz r (2 ^ s) := by
    intro w2 hc
    have hn := pz.nat.chg hc (fun _ _ h => h)
    have e1d := digs_word (x := 1) (by rw [WB_eq]; omega) (by omega)
    obtain ⟨b, cap, C, hbb, hv, _⟩ := hn.pos (by omega)
    rw [e1d] at hv
    subst hbb hv
    exact lsh1_c w2 b cap hn s hs
  have z0 := pz.c0
  have z1 := pz.c1
  have f0 := pz.f0
  obtain ⟨pvz, pcz, rfl, _, _⟩ := pz.nat.shape
  replace h := Lib.hid h
  replace hz := Lib.hid hz
  replace pz := Lib.hid pz
  replace hm := Lib.hid hm
  clear hs
  go_enter Tryz.func197, Tryz.ntmps197
  go_upto_region 1 with (fail)
  go_cut [17] (fun _ wx => Hold w0 wx (put σ bz oz false (2 ^ s)))
  case first =>
    go_region_with ((go_at_call 226; refine (hm.out _ (by exact ⟨rfl, rfl, rfl, Nat.le_refl _, fun _ _ _ => rfl⟩)).mono ?_; rintro e w1 ⟨r, rfl, hr⟩; obtain ⟨g1, g3, hH, pr, cr, rfl⟩ := pz.out.stored hz.out (by exact ⟨rfl, rfl, rfl, Nat.le_refl _, fun _ _ _ => rfl⟩) (by rfl) hr; replace hH := Lib.hid hH))
    all_goals
      go_wp2_with fail
      go_meet
      exact hH.out
  case rest =>
    clear z0 z1 f0
    obtain ⟨p, c, z1, z0, fz, hfin⟩ := hcut.fin hz.out
    have hfin := hfin false
    replace hfin := Lib.hid hfin
    clear hcut pz h hm
    go_wp2
    go_ret
    exact ⟨rfl, hfin.out⟩
set_option maxRecDepth 20000 in
theorem bigLsh_c {w0 w : World} {σ : Sg} (h : Hold w0 w σ) {bz oz : Nat} (hz : BNum σ bz oz false 1) (s : Nat) (hs : s ≤ 127) :
    Calls Tryz.prog 180 #[.pointer (some ⟨bz, oz, none⟩), .pointer (some ⟨bz, oz, none⟩), .int .u64 (s : Int)] w fun e w' => e = .returned (.pointer (some ⟨bz, oz, none⟩)) ∧ Hold w0 w' (put σ bz oz false (2 ^ s)) := by
  obtain ⟨fm, cm, hm⟩ := h.bmin hz
  have key := fun w2 (hc : Chg (w.setCell ⟨bz, oz + 2, none⟩ (.bool false)) w2 (fun _ => False)) => intLsh_c (hm.keep hc) hz.num s hs
  replace key := Lib.hid key
  clear hz h hm hs
  go_enter Tryz.func180, Tryz.ntmps180
  go_upto_region 2 with (fail)
  go_still_tail 7, (by kernel_rfl)
  change wpList _ _ _ _ _ (World.drew _)
  go_wp2_with fail
  with_reducible refine (key.out _ (by exact ⟨rfl, rfl, rfl, Nat.le_refl _, fun _ _ _ => rfl⟩)).mono ?_
  rintro e w1 ⟨rfl, h1⟩
  replace h1 := Lib.hid h1
  go_wp2
  go_ret
  exact ⟨rfl, h1.out⟩

theorem figs_two (k : Nat) (hk : k ≤ 127) : figs (2 ^ k) ≤ 40 := by
  refine (figs_le_iff (by omega)).2 (Nat.lt_of_le_of_lt (Nat.pow_le_pow_right (by omega) hk) ?_)
  decide +kernel

set_option maxRecDepth 20000 in
set_option maxHeartbeats 2000000 in
theorem digitsRow_c {w0 w : World} {σ : Sg} (h : Hold w0 w σ) (i : Nat) (hi1 : 1 ≤ i) (hi : i ≤ 128) :
    Calls Tryz.prog 150 #[.int .i64 (i : Int)] w fun e w' => ∃ t, e = .returned (.pointer (some ⟨t, 0, none⟩)) ∧ w.heap.size ≤ t ∧ Hold w0 w' (upd σ t (tv (figs (2 ^ (i - 1)) : Int) false (10 ^ figs (2 ^ (i - 1))) true (10 ^ figs (2 ^ (i - 1))))) := by
  have hbits : nbits (2 ^ (i - 1)) ≤ 128 := nbits_le_iff.2 (Nat.pow_lt_pow_right (by omega) (by omega))
  have hfb := figs_two (i - 1) (by omega)
  have hfp := figs_pos (2 ^ (i - 1))
  have h20 : 2 ^ (i - 1) ≠ 0 := Nat.ne_of_gt (Nat.pow_pos (by omega))
  obtain ⟨d, hd⟩ : ∃ d, figs (2 ^ (i - 1)) = d := ⟨_, rfl⟩
  rw [hd] at hfb hfp ⊢
  obtain ⟨s, rfl⟩ : ∃ s, i = s + 1 := ⟨i - 1, by omega⟩
  rw [Nat.add_sub_cancel] at hd hbits h20
  have e0 : (((s + 1 : Nat) : Int) == 0) = false := int_eq0 (by omega)
  have e1 : IntKind.i64.wrap (((s + 1 : Nat) : Int) - 1) = (s : Int) := by rw [show (((s + 1 : Nat) : Int) - 1) = (s : Int) by omega]; exact IntWalk.i64_in _ (by omega)
  have e2 : ((s + 1 : Nat) : Int) - 1 = (s : Int) := by omega
  have e3 : IntKind.u64.wrap (s : Int) = (s : Int) := IntWalk.u64_in _ (by omega)
  have hfr : ∀ k, w.heap.size ≤ k → σ k = none := fun k hk => h.fresh hk
  have h1 := h.newTv 0
  have ht1 : (upd σ w.heap.size (tv 0 false 0 false 0)) w.heap.size = some (tv 0 false 0 false 0) := upd_eq _ _ _
  have hsz : w.heap.size < (w.alloc (.cells #[.int .i64 0, .bool false, .slice none 0 0, .bool false, .bool false, .slice none 0 0, .bool false] 170 (0, 0))).heap.size := (h1.lt ht1).2
  have k1 : Calls Tryz.prog 154 #[.int .i64 1] _ _ := newBig_c h1 1 (by omega)
  obtain ⟨t, ht⟩ : ∃ t, w.heap.size = t := ⟨_, rfl⟩
  rw [ht] at hfr ht1 hsz k1
  replace k1 := Lib.hid k1
  replace hd := Lib.hid hd
  replace hfr := Lib.hid hfr
  replace ht1 := Lib.hid ht1
  replace hbits := Lib.hid hbits
  replace h20 := Lib.hid h20
  have ht' := ht
  replace ht' := Lib.hid ht'
  clear h h1
  go_enter Tryz.func150, Tryz.ntmps150
  go_wp2_with fail
  clear ht
  with_reducible refine k1.out.mono ?_
  rintro e w1 ⟨k, rfl, hk, h1⟩
  have hkt : k ≠ t := by omega
  have h1k : upd (upd σ t (tv 0 false 0 false 0)) k (big false 1) k = some (big false 1) := upd_eq _ _ _
  have k2 := bigLsh_c h1 (bnum_big h1k) s (by omega)
  rw [put_big h1k, upd_upd] at k2
  clear h1 h1k
  replace k2 := Lib.hid k2
  go_wp2_with fail
  with_reducible refine k2.out.mono ?_
  rintro e w2 ⟨rfl, h2⟩
  have k3 := bigString_c h2 (num_big (upd_eq _ _ _)) h20.out hbits.out
  have ht2 : upd (upd σ t (tv 0 false 0 false 0)) k (big false (2 ^ s)) t = some (tv 0 false 0 false 0) := by rw [upd_ne _ _ (Ne.symm hkt)]; exact ht1.out
  replace k3 := Lib.hid k3
  replace ht2 := Lib.hid ht2
  replace h2 := Lib.hid h2
  replace hfb := Lib.hid hfb
  replace hfp := Lib.hid hfp
  go_wp2_with fail
  with_reducible refine k3.out.mono ?_
  rintro e w3 ⟨str, rfl, hstr, hc3⟩
  have h3 := h2.out.keep hc3
  rw [hd.out] at hstr
  obtain ⟨c0, f0, hset⟩ := h3.tvAt ht2.out
  replace hset := hset (d : Int)
  rw [upd_swap _ _ _ (Ne.symm hkt), upd_upd, upd_swap _ _ _ hkt] at hset
  have hlt := (h3.lt ht2.out).2
  have hlk := (h3.lt (upd_eq _ _ _)).2
  have hmem : (w3.setCell ⟨t, 0, none⟩ (.int .i64 (d : Int))).heap.size = w3.heap.size := World.size_setCell _ _ _
  have h4 := hset.newBig
  rw [hmem] at h4
  obtain ⟨m, hm⟩ : ∃ m, w3.heap.size = m := ⟨_, rfl⟩
  rw [hm] at hlt hlk h4
  have hmt : m ≠ t := by omega
  have hmk : m ≠ k := by omega
  have hfm : σ m = none := hfr.out m (by omega)
  have hfk : σ k = none := hfr.out k (by omega)
  have hf : σ t = none := hfr.out t (Nat.le_refl _)
  clear hfr
  generalize hτ : upd (upd σ t (tv (d : Int) false 0 false 0)) k (big false (2 ^ s)) = τ at h4
  have htt : τ t = some (tv (d : Int) false 0 false 0) := by rw [← hτ, upd_ne _ _ (Ne.symm hkt), upd_eq]
  have hle : Le σ τ := by rw [← hτ]; exact Le.skip hfk (Le.skip hf (Le.refl _))
  have ht4 : upd τ m (big false 0) t = some (tv (d : Int) false 0 false 0) := by rw [upd_ne _ _ (Ne.symm hmt)]; exact htt
  have k5 : Calls Tryz.prog 127 #[.pointer (some ⟨t, 1, none⟩), .int .i64 10] _ _ := bigSetI_c h4 (bnum_tv1 ht4) 10 (by omega)
  rw [put_tv1 ht4] at k5
  clear h3 hc3 h2 hset hτ hmem ht4 htt ht2 h4 hlt hlk hsz hk
  replace k5 := Lib.hid k5
  replace hle := Lib.hid hle
  replace hfm := Lib.hid hfm
  replace hf := Lib.hid hf
  clear hfk
  go_wp2_with fail
  clear hm
  with_reducible refine k5.out.mono ?_
  rintro e w5 ⟨rfl, h5⟩
  obtain ⟨c5, f5, _⟩ := h5.tvAt (upd_eq _ _ _)
  have h5m : upd (upd τ m (big false 0)) t (tv (d : Int) false 10 false 0) m = some (big false 0) := by rw [upd_ne _ _ hmt, upd_eq]
  have k6 := bigSetI_c h5 (bnum_big h5m) d (by have := hfb.out; omega)
  rw [put_big h5m] at k6
  clear h5 h5m f5
  replace k6 := Lib.hid k6
  go_wp2_with fail
  with_reducible refine k6.out.mono ?_
  rintro e w6 ⟨rfl, h6⟩
  have h6t : upd (upd (upd τ m (big false 0)) t (tv (d : Int) false 10 false 0)) m (big false d) t = some (tv (d : Int) false 10 false 0) := by rw [upd_ne _ _ (Ne.symm hmt), upd_eq]
  have k7 := fun w' (hc : Chg w6 w' (fun _ => False)) => bigExp_c (h6.keep hc) (bnum_tv1 h6t) (bnum_tv1 h6t).num (num_big (upd_eq _ _ _)) (by omega) (by rw [WB_eq]; omega) (by have := hfb.out; rw [WB_eq]; omega)
    (Nat.lt_of_le_of_lt (Nat.pow_le_pow_right (by omega) hfb.out) (by rw [WB_eq]; decide +kernel))
  rw [put_tv1 h6t] at k7
  clear h6 h6t c5
  replace k7 := Lib.hid k7
  go_upto_region 10 with (fail)
  go_still_tail 7, (by kernel_rfl)
  change wpList _ _ _ _ _ (World.drew _)
  go_wp2_with fail
  with_reducible refine (k7.out _ (by exact ⟨rfl, rfl, rfl, Nat.le_refl _, fun _ _ _ => rfl⟩)).mono ?_
  rintro e w7 ⟨rfl, h7⟩
  have h7t : upd (upd (upd (upd τ m (big false 0)) t (tv (d : Int) false 10 false 0)) m (big false d)) t (tv (d : Int) false (10 ^ d) false 0) t = some (tv (d : Int) false (10 ^ d) false 0) := upd_eq _ _ _
  have hdl : (digs (10 ^ d)).length ≤ 1000 := Nat.le_trans (digs_len_le.2 (Nat.lt_of_le_of_lt (Nat.pow_le_pow_right (by omega) hfb.out) (by rw [WB_eq]; decide +kernel : 10 ^ 40 < WB ^ 3))) (by omega)
  have k8 := fun w' (hc : Chg w7 w' (fun _ => False)) => bigNeg_c (h7.keep hc) (bnum_tv4 h7t) (bnum_tv1 h7t) hdl (Nat.ne_of_gt (Nat.pow_pos (by omega)))
  rw [put_tv4 h7t, upd_upd] at k8
  clear h7 h7t hdl
  replace k8 := Lib.hid k8
  go_upto_region 11 with (fail)
  go_still_tail 6, (by kernel_rfl)
  change wpList _ _ _ _ _ (World.drew _)
  go_wp2_with fail
  with_reducible refine (k8.out _ (by exact ⟨rfl, rfl, rfl, Nat.le_refl _, fun _ _ _ => rfl⟩)).mono ?_
  rintro e w8 ⟨rfl, h8⟩
  replace h8 := Lib.hid h8
  go_wp2
  go_ret
  exact ⟨t, rfl, Nat.le_of_eq ht'.out, h8.out.le (Le.both (Le.skip hfm.out (Le.skip hf.out (Le.skip hfm.out hle.out))))⟩
end Go.Proofs.YtcoljeafgiemkaaGreatDoor

namespace Go.Proofs.YtcoljeafgiemkaaGreatDoor
open Go Go.RowKit

set_option exponentiation.threshold 2000 in
theorem bits_words {N : Nat} (h : nbits N < 1200) : (digs N).length ≤ 1000 := by
  refine Nat.le_trans (digs_len_le (k := 20).2 ?_) (by omega)
  rw [WB_bits, ← Nat.pow_mul]
  exact nbits_le_iff.1 (Nat.le_trans (Nat.le_of_lt h) (by omega))

set_option maxRecDepth 20000 in
theorem numDigits_z {w0 w : World} {σ : Sg} (h : Hold w0 w σ) {bx ox : Nat} (hx : BNum σ bx ox false 0) :
    Calls Tryz.prog 102 #[.pointer (some ⟨bx, ox, none⟩)] w fun e w' => e = .returned (.int .i64 1) ∧ Hold w0 w' σ := by
  have k := bigBits_c h hx (Nat.le_trans (bits_words (by rw [nbits_zero]; omega)) (by omega))
  rw [nbits_zero] at k
  replace k := Lib.hid k
  replace h := Lib.hid h
  clear hx
  go_enter Tryz.func102, Tryz.ntmps102
  go_wp2_with fail
  with_reducible refine k.out.mono ?_
  rintro e w' ⟨rfl, hw⟩
  obtain rfl := hw
  go_wp2
  go_ret
  exact ⟨rfl, h.out⟩

theorem Two2 {w0 w w2 : World} {σ σ1 : Sg} {t t2 bx ox N : Nat} {it it2 : It} (h1 : Hold w0 w σ1) (ht : σ1 t = some it) (hx : BNum σ1 bx ox false N) (hle : Le σ σ1) (ht2 : w2.heap.size ≤ t2) (hc : Chg w w2 (fun _ => False)) : upd σ1 t2 it2 t2 = some it2 ∧ upd σ1 t2 it2 t = some it ∧ BNum (upd σ1 t2 it2) bx ox false N ∧ Le σ (upd σ1 t2 it2) := by
  have hf := h1.fresh (k := t2) (Nat.le_trans hc.size ht2)
  have hf2 : σ t2 = none := by
    cases h : σ t2 with
    | none => rfl
    | some jt => exact absurd (hle _ _ h) (by rw [hf]; exact fun h => by cases h)
  refine ⟨upd_eq _ _ _, ?_, hx.upd hf, Le.skip hf2 hle⟩
  rw [upd_ne _ _ (by rintro rfl; rw [hf] at ht; cases ht)]
  exact ht
set_option maxRecDepth 20000 in
set_option maxHeartbeats 16000000 in
theorem numDigits_s {w0 w : World} {σ : Sg} (h : Hold w0 w σ) {bx ox : Nat} {N : Nat} (hx : BNum σ bx ox false N) (h0 : N ≠ 0) (hb : nbits N ≤ 128) :
    Calls Tryz.prog 102 #[.pointer (some ⟨bx, ox, none⟩)] w fun e w' => e = .returned (.int .i64 (figs N : Int)) ∧ Hold w0 w' σ := by
  have k := bigBits_c h hx (Nat.le_trans (bits_words (by omega)) (by omega))
  have hbp := nbits_pos h0
  have hlo := nbits_ge h0
  have hhi := nbits_lt N
  obtain ⟨b, hbe⟩ : ∃ b, nbits N = b := ⟨_, rfl⟩
  rw [hbe] at k hbp hlo hhi hb
  have kd := digitsRow_c h b hbp hb
  have f1 := figs_mono hlo
  have f2 := figs_lt (2 ^ (b - 1))
  have f3 := figs_mono (Nat.le_of_lt hhi)
  have f4 : 2 ^ b = 2 * 2 ^ (b - 1) := by
    obtain ⟨c, rfl⟩ : ∃ c, b = c + 1 := ⟨b - 1, by omega⟩
    rw [Nat.add_sub_cancel, Nat.pow_succ, Nat.mul_comm]
  have fp := figs_pos (2 ^ (b - 1))
  have hd40 := figs_two (b - 1) (by omega)
  have kd2 : ∀ w1 σ1, b < 128 → Hold w0 w1 σ1 → Calls Tryz.prog 150 #[.int .i64 ((b : Int) + 1)] w1 fun e w' => ∃ t, e = .returned (.pointer (some ⟨t, 0, none⟩)) ∧ w1.heap.size ≤ t ∧ Hold w0 w' (upd σ1 t (tv (figs (2 ^ b) : Int) false (10 ^ figs (2 ^ b)) true (10 ^ figs (2 ^ b)))) := fun w1 σ1 hlt h1 => digitsRow_c h1 (b + 1) (by omega) (by omega)
  have e0 : ((b : Int) == 0) = false := int_eq0 (by omega)
  have e1 : decide ((b : Int) ≤ 128) = true := by simp; omega
  have e1' : (b : Int) ≤ 128 := by omega
  obtain ⟨d, hd⟩ : ∃ d, figs (2 ^ (b - 1)) = d := ⟨_, rfl⟩
  obtain ⟨d2, hd2⟩ : ∃ d2, figs (2 ^ b) = d2 := ⟨_, rfl⟩
  rw [hd] at kd f1 f2 fp hd40
  rw [hd2] at f3
  rw [hd2] at kd2
  have hdN : N < 10 ^ d → figs N = d := fun hl => Nat.le_antisymm ((figs_le_iff fp).2 hl) f1
  have hdM : ¬ N < 10 ^ d → figs N = d + 1 := fun hl => Nat.le_antisymm ((figs_le_iff (by omega)).2 (by rw [ten_succ]; omega)) (by
    have h3 := mt (figs_le_iff fp).1 hl
    omega)
  have hsg : sgN false N = 1 := by unfold sgN; rw [if_neg h0]; rfl
  obtain ⟨it, hbx, hin⟩ := id hx
  have hfr : ∀ k, w.heap.size ≤ k → σ k = none := fun k hk => h.fresh hk
  replace k := Lib.hid k
  replace kd := Lib.hid kd
  replace kd2 := Lib.hid kd2
  replace hd2 := Lib.hid hd2
  replace hd := Lib.hid hd
  replace hbe := Lib.hid hbe
  replace hdN := Lib.hid hdN
  replace hdM := Lib.hid hdM
  replace hsg := Lib.hid hsg
  replace hfr := Lib.hid hfr
  replace hbx := Lib.hid hbx
  replace h0 := Lib.hid h0
  replace hlo := Lib.hid hlo
  replace hhi := Lib.hid hhi
  replace hx := Lib.hid hx
  replace f1 := Lib.hid f1
  replace f2 := Lib.hid f2
  replace f3 := Lib.hid f3
  replace f4 := Lib.hid f4
  replace hd40 := Lib.hid hd40
  clear hin
  go_enter Tryz.func102, Tryz.ntmps102
  go_wp2_with fail
  with_reducible refine k.out.mono ?_
  rintro e w' ⟨rfl, hw⟩
  obtain rfl := hw
  go_wp2_with fail
  with_reducible refine kd.out.mono ?_
  rintro e w1 ⟨t, rfl, ht, h1⟩
  have hft := hfr.out t ht
  have hxt : bx ≠ t := by rintro rfl; rw [hbx.out] at hft; cases hft
  have h1t := upd_eq σ t (tv (d : Int) false (10 ^ d) true (10 ^ d))
  obtain ⟨c0, f0, _⟩ := h1.tvAt h1t
  have hx1 := hx.out.upd (it := tv (d : Int) false (10 ^ d) true (10 ^ d)) hft
  have hle : Le σ (upd σ t (tv (d : Int) false (10 ^ d) true (10 ^ d))) := Le.skip hft (Le.refl _)
  have hd40 := hd40.out
  have ew : IntKind.i64.wrap ((d : Int) + 1) = (d : Int) + 1 := IntWalk.i64_in _ (by omega)
  have ewb : IntKind.i64.wrap ((b : Int) + 1) = (b : Int) + 1 := IntWalk.i64_in _ (by omega)
  generalize upd σ t (tv (d : Int) false (10 ^ d) true (10 ^ d)) = σ1 at h1 h1t hx1 hle
  have hm := fun (hlt : b < 128) w2 (hc : Chg w1 w2 (fun _ => False)) => kd2.out w2 _ hlt (h1.keep hc)
  replace hm := Lib.hid hm
  replace h1 := Lib.hid h1
  replace h1t := Lib.hid h1t
  replace hx1 := Lib.hid hx1
  replace hle := Lib.hid hle
  clear kd2 k kd hfr hbx h f0
  go_upto_region 6 with (fail)
  go_cut [32] (fun c wx => ∃ bo σ2, c = .bool bo ∧ (bo = true → d2 = d) ∧ Hold w0 wx σ2 ∧ σ2 t = some (tv (d : Int) false (10 ^ d) true (10 ^ d)) ∧ BNum σ2 bx ox false N ∧ Le σ σ2)
  case first =>
    by_cases hlt : b < 128
    · have hl1 : decide ((b : Int) < 128) = true := by simp; omega
      go_region_with ((go_at_call 150; refine (hm.out hlt _ (by exact ⟨rfl, rfl, rfl, Nat.le_refl _, fun _ _ _ => rfl⟩)).mono ?_; rintro e w2 ⟨t2, rfl, ht2, h2⟩; obtain ⟨h2t, h2tt, h2x, h2le⟩ := Two2 (it2 := tv (d2 : Int) false (10 ^ d2) true (10 ^ d2)) h1.out h1t.out hx1.out hle.out ht2 (by exact ⟨rfl, rfl, rfl, Nat.le_refl _, fun _ _ _ => rfl⟩); obtain ⟨c1, _, _⟩ := h2.tvAt h2t; obtain ⟨c2, _, _⟩ := h2.tvAt h2tt; replace h2 := Lib.hid h2; replace h2t := Lib.hid h2t; replace h2tt := Lib.hid h2tt; replace h2x := Lib.hid h2x; replace h2le := Lib.hid h2le))
      all_goals
        go_wp2_with fail
        go_meet
        exact ⟨_, _, rfl, fun h => by simp at h; omega, h2.out, h2tt.out, h2x.out, h2le.out⟩
    · have hl1 : decide ((b : Int) < 128) = false := by simp; omega
      go_quiet (fail)
      go_wp2_with fail
      go_meet
      exact ⟨false, _, rfl, fun h => (by cases h), h1.out.drewN _, h1t.out, hx1.out, hle.out⟩
  case rest =>
    clear h1 h1t hx1 hle hm c0
    obtain ⟨bo, σ2, rfl, hbo, h2, h2t, hx2, hle2⟩ := hcut
    obtain ⟨c0, _, _⟩ := h2.tvAt h2t
    cases bo with
    | true =>
      have hfin : figs N = d := by have := hbo rfl; have h1 := f1.out; have h3 := f3.out; omega
      have hend := h2.le hle2
      replace hfin := Lib.hid hfin
      replace hend := Lib.hid hend
      replace hbo := Lib.hid hbo
      clear h2 h2t hx2 hle2 hx
      go_wp2
      go_ret
      exact ⟨by rw [hfin.out]; rfl, hend.out⟩
    | false =>
      have ks := bigSignH_c h2 hx2
      rw [hsg.out] at ks
      have hne : (⟨bx, ox, none⟩ : Addr) ≠ ⟨t, 1, none⟩ := by intro e; injection e with e; exact hxt e
      have kc := bigCmpH_c h2 hx2 (bnum_tv1 h2t) hne
      have hend := fun n => (h2.drewN n).le hle2
      have hfinN : figs N = if ordN N (10 ^ d) < 0 then d else d + 1 := by
        by_cases hl : N < 10 ^ d
        · rw [ordN_lt hl, if_pos (by omega)]; exact hdN.out hl
        · rw [if_neg]
          · exact hdM.out hl
          · unfold ordN; rw [if_neg hl]; split <;> omega
      have ko : ∀ n, (wc.drewN n).cell? ⟨t, 0, none⟩ = some (.int .i64 (d : Int)) := fun n => by rw [World.cell?_drewN]; exact c0
      obtain ⟨o, ho⟩ : ∃ o, ordN N (10 ^ d) = o := ⟨_, rfl⟩
      rw [ho] at kc hfinN
      replace hfinN := Lib.hid hfinN
      replace ho := Lib.hid ho
      replace hend := Lib.hid hend
      replace ks := Lib.hid ks
      replace kc := Lib.hid kc
      replace ko := Lib.hid ko
      replace hbo := Lib.hid hbo
      clear h2 h2t hx2 hle2 hx hne
      go_wp2_with fail
      with_reducible refine ks.out.mono ?_
      rintro e w' ⟨rfl, hw⟩
      obtain rfl := hw
      go_wp2_with fail
      with_reducible refine kc.out.mono ?_
      rintro e w' ⟨rfl, n, rfl⟩
      have c1 := ko.out n
      by_cases hl : o < 0
      · have hl' : decide (o < 0) = true := by simp; omega
        go_wp2
        go_ret
        exact ⟨by rw [hfinN.out, if_pos hl]; rfl, hend.out _⟩
      · have hl' : decide (o < 0) = false := by simp; omega
        go_wp2
        go_ret
        refine ⟨?_, hend.out _⟩
        rw [hfinN.out, if_neg (by omega)]
        rfl
end Go.Proofs.YtcoljeafgiemkaaGreatDoor

namespace Go.Proofs.YtcoljeafgiemkaaGreatDoor
open Go Go.RowKit

theorem figs_bits {N b f : Nat} (hbe : nbits N = b) (hb : 128 < b) (h1 : 2 ^ b ≤ 10 ^ (f + 1)) (h2 : b = 0 ∨ 10 ^ (f - 1) ≤ 2 ^ (b - 1)) : figs N = if 10 ^ f ≤ N then f + 1 else f := by
  have h0 : N ≠ 0 := by rintro rfl; rw [nbits_zero] at hbe; omega
  have hlo := nbits_ge h0
  have hhi := nbits_lt N
  rw [hbe] at hlo hhi
  have hf : f ≠ 0 := by
    rintro rfl
    have : 2 ^ 4 ≤ 2 ^ b := Nat.pow_le_pow_right (by omega) (by omega)
    simp at h1
    omega
  by_cases hl : 10 ^ f ≤ N
  · rw [if_pos hl]
    exact figs_eq (by omega) (by simpa using hl) (by omega)
  · rw [if_neg hl]
    exact figs_eq (by omega) (by omega) (by omega)
set_option maxRecDepth 20000 in
set_option maxHeartbeats 2000000 in
theorem numDigits_l {w0 w : World} {σ : Sg} (h : Hold w0 w σ) {bx ox : Nat} {N : Nat} (hx : BNum σ bx ox false N) (hb0 : 128 < nbits N) (hb : nbits N < 1200) :
    Calls Tryz.prog 102 #[.pointer (some ⟨bx, ox, none⟩)] w fun e w' => e = .returned (.int .i64 (figs N : Int)) ∧ Hold w0 w' σ := by
  have k := bigBits_c h hx (Nat.le_trans (bits_words (by omega)) (by omega))
  obtain ⟨b, hbe⟩ : ∃ b, nbits N = b := ⟨_, rfl⟩
  rw [hbe] at k hb hb0
  obtain ⟨q, q1, q2, q3, q4, q5⟩ := fguess_spec hb
  have hfin := figs_bits hbe hb0 q4 q5
  have h0 : N ≠ 0 := by rintro rfl; rw [nbits_zero] at hbe; omega
  have hsg : sgN false N = 1 := by unfold sgN; rw [if_neg h0]; rfl
  clear q4 q5
  have hop : ∀ t w, (binOp .quo t (.float .f64 (floatOfInt .f64 (b : Int))) (.float .f64 4614662735865160561)).run Tryz.prog w = .ok (.float .f64 q) w := fun t w => run_float_arith w .quo t .f64 _ _ q q1
  clear q1
  obtain ⟨f, hf⟩ : ∃ f, fguess b = f := ⟨_, rfl⟩
  rw [hf] at q2 q3 hfin
  clear hf
  have hcv : ∀ w, (convert 171 2 (.float .f64 q)).run Tryz.prog w = .ok (.int .i64 (f : Int)) w := fun w => run_convert_float_int w _ _ .f64 .i64 q f (by rw [Tryz.underlying171]; rfl) Tryz.underlying2 q2
  clear q2
  have hft := h.fresh (k := w.heap.size) (Nat.le_refl _)
  have h1 := h.newBig
  have hx1 := hx.upd (it := big false 0) hft
  have h1t := upd_eq σ w.heap.size (big false 0)
  have kt := tableExp_c h1 (bnum_big h1t) f q3
  rw [put_big h1t, upd_upd] at kt
  obtain ⟨it, hbx, hin⟩ := id hx
  have hxt : bx ≠ w.heap.size := by intro e; rw [e, hft] at hbx; cases hbx
  have hle : Le σ (upd σ w.heap.size (big false (10 ^ f))) := Le.skip hft (Le.refl _)
  have hx2 := hx.upd (it := big false (10 ^ f)) hft
  have e0 : ((b : Int) == 0) = false := int_eq0 (by omega)
  have e1 : decide ((b : Int) ≤ 128) = false := by simp; omega
  have ew : IntKind.i64.wrap ((f : Int) + 1) = (f : Int) + 1 := IntWalk.i64_in _ (by omega)
  obtain ⟨t, ht⟩ : ∃ t, w.heap.size = t := ⟨_, rfl⟩
  rw [ht] at hx2 hle hxt kt
  replace ht := Lib.hid ht
  replace hx2 := Lib.hid hx2
  replace hle := Lib.hid hle
  replace kt := Lib.hid kt
  replace k := Lib.hid k
  replace hfin := Lib.hid hfin
  replace hsg := Lib.hid hsg
  clear hbe h0 h1 hx1 h1t hbx hin hft h hx
  go_enter Tryz.func102, Tryz.ntmps102
  go_wp2_with fail
  with_reducible refine k.out.mono ?_
  rintro e w' ⟨rfl, hw⟩
  obtain rfl := hw
  go_wp2_with (first | simp only | simp only [hcv])
  clear hop hcv
  rw [ht.out]
  with_reducible refine kt.out.mono ?_
  rintro e w1 ⟨rfl, h2⟩
  have h1t := upd_eq σ t (big false (10 ^ f))
  have ks := bigSignH_c h2 hx2.out
  rw [hsg.out] at ks
  have hne : (⟨bx, ox, none⟩ : Addr) ≠ ⟨t, 0, none⟩ := by intro e; injection e with e; exact hxt e
  have kc := bigCmpH_c h2 hx2.out (bnum_big h1t) hne
  have hend := fun n => (h2.drewN n).le hle.out
  have hfinN : figs N = if 0 ≤ ordN N (10 ^ f) then f + 1 else f := by
    rw [hfin.out]
    by_cases hl : 10 ^ f ≤ N
    · rw [if_pos hl, if_pos]
      unfold ordN; rw [if_neg (by omega)]; split <;> omega
    · rw [if_neg hl, if_neg]
      unfold ordN; rw [if_pos (by omega)]; omega
  obtain ⟨o, ho⟩ : ∃ o, ordN N (10 ^ f) = o := ⟨_, rfl⟩
  rw [ho] at kc hfinN
  replace hfinN := Lib.hid hfinN
  replace ho := Lib.hid ho
  replace hend := Lib.hid hend
  replace ks := Lib.hid ks
  replace kc := Lib.hid kc
  clear h2 h1t hle hx2 hne
  go_wp2_with fail
  with_reducible refine ks.out.mono ?_
  rintro e w' ⟨rfl, hw⟩
  obtain rfl := hw
  go_wp2_with fail
  with_reducible refine kc.out.mono ?_
  rintro e w' ⟨rfl, n, rfl⟩
  by_cases hl : 0 ≤ o
  · have hl' : decide (0 ≤ o) = true := by simp; omega
    go_wp2
    go_ret
    refine ⟨?_, hend.out _⟩
    rw [hfinN.out, if_pos (by omega)]
    rfl
  · have hl' : decide (0 ≤ o) = false := by simp; omega
    go_wp2
    go_ret
    refine ⟨?_, hend.out _⟩
    rw [hfinN.out, if_neg (by omega)]
    rfl
/-- The number of digits. -/
theorem NumDigits_c {w0 w : World} {σ : Sg} (h : Hold w0 w σ) {bx ox : Nat} {N : Nat} (hx : BNum σ bx ox false N) (hb : nbits N < 1200) :
    Calls Tryz.prog 102 #[.pointer (some ⟨bx, ox, none⟩)] w fun e w' => e = .returned (.int .i64 (figs N : Int)) ∧ Hold w0 w' σ := by
  by_cases h0 : N = 0
  · subst h0; exact numDigits_z h hx
  by_cases h1 : nbits N ≤ 128
  · exact numDigits_s h hx h0 h1
  · exact numDigits_l h hx (by omega) hb
theorem decDigits_c {w0 w : World} {σ : Sg} (h : Hold w0 w σ) {b : Nat} {f e : Int} {n : Bool} {N : Nat} (hx : σ b = some (dec f n e false N)) (hb : nbits N < 1200) :
    Calls Tryz.prog 80 #[.pointer (some ⟨b, 0, none⟩)] w fun e w' => e = .returned (.int .i64 (figs N : Int)) ∧ Hold w0 w' σ := by
  have k := NumDigits_c h (bnum_dec hx) hb
  replace k := Lib.hid k
  clear h hx hb
  go_enter Tryz.func80, Tryz.ntmps80
  go_wp2_with fail
  with_reducible refine k.out.mono ?_
  rintro e w1 ⟨rfl, h1⟩
  replace h1 := Lib.hid h1
  go_wp2
  go_ret
  exact ⟨rfl, h1.out⟩
end Go.Proofs.YtcoljeafgiemkaaGreatDoor

namespace Go.Proofs.YtcoljeafgiemkaaGreatDoor
open Go Go.RowKit

theorem bits_odd (x : Nat) (hx : x < WB) : bits .and .u64 (x : Int) 1 = ((x % 2 : Nat) : Int) := by
  rw [WB_eq] at hx
  have h1 := bits_and_u64_nat x 1 (by omega) (by omega)
  rw [show (1 : Int) = ((1 : Nat) : Int) from rfl, h1, Nat.and_one_is_mod]

set_option maxRecDepth 20000 in
theorem intBit0_c {w0 w : World} {σ : Sg} (h : Hold w0 w σ) {bx ox : Nat} {gx : Bool} {X : Nat} (hx : Num σ bx ox gx X) :
    Calls Tryz.prog 205 #[.pointer (some ⟨bx, ox, none⟩), .int .i64 0] w fun e w' => e = .returned (.int .u64 ((X % 2 : Nat) : Int)) ∧ w = w' := by
  obtain ⟨v, s, p⟩ := h.op hx
  have x1 := p.c1
  by_cases h0 : X = 0
  · subst h0
    obtain ⟨pv, pc, rfl, _, _⟩ := p.nat.shape
    rw [digs_zero] at x1
    clear h p hx
    go_enter Tryz.func205, Tryz.ntmps205
    go_wp2
    go_ret
    exact ⟨rfl, rfl⟩
  · obtain ⟨b, cap, C, rfl, rfl, ha, hc, hcap, ht, hl, hp⟩ := p.nat.pos h0
    have hcell := ha.cellN (i := 0) (by omega)
    have hnt : nth C 0 = nth (digs X) 0 := by
      have h1 := nth_take (l := C) (i := 0) (k := (digs X).length) (by omega)
      rw [ht] at h1
      exact h1.symm
    have h1 : nth C 0 = X % WB := by rw [hnt, digs_pos h0]; rfl
    have h2 : X % 2 = nth C 0 % 2 := by rw [h1, WB_eq]; omega
    have hw : nth C 0 < WB := ha.wd.nth _
    have hb := bits_odd _ hw
    rw [h2]
    generalize nth C 0 = t at *
    have hlp : 0 < ((digs X).length : Int) := by omega
    have hlp' : decide (0 < ((digs X).length : Int)) = true := by simp; omega
    have hw2 : t % 2 < 2 := Nat.mod_lt _ (by omega)
    clear h p hx ht hnt h1 h2 ha hw
    go_enter Tryz.func205, Tryz.ntmps205
    go_wp2
    go_ret
    exact ⟨by first | rfl | (rw [hb]; rfl) | (rw [IntWalk.u64_in _ (by omega), hb]), rfl⟩
theorem bigBit0_c {w0 w : World} {σ : Sg} (h : Hold w0 w σ) {bx ox : Nat} {gx : Bool} {X : Nat} (hx : BNum σ bx ox gx X) :
    Calls Tryz.prog 185 #[.pointer (some ⟨bx, ox, none⟩), .int .i64 0] w fun e w' => e = .returned (.int .u64 ((X % 2 : Nat) : Int)) ∧ w = w' := by
  have k := intBit0_c h hx.num
  replace k := Lib.hid k
  clear h hx
  go_enter Tryz.func185, Tryz.ntmps185
  go_wp2_with fail
  with_reducible refine k.out.mono ?_
  rintro e w' ⟨rfl, hw⟩
  obtain rfl := hw
  go_wp2
  go_ret
  exact ⟨rfl, rfl⟩

theorem rDown_c (w : World) (x : Value) (neg : Bool) (half : Int) : Calls Tryz.prog 156 #[x, .bool neg, .int .i64 half] w fun e w' => e = .returned (.bool false) ∧ w = w' := by
  go_enter Tryz.func156, Tryz.ntmps156
  go_wp2
  go_ret
  exact ⟨rfl, rfl⟩
theorem rUp_c (w : World) (x : Value) (neg : Bool) (half : Int) : Calls Tryz.prog 162 #[x, .bool neg, .int .i64 half] w fun e w' => e = .returned (.bool true) ∧ w = w' := by
  go_enter Tryz.func162, Tryz.ntmps162
  go_wp2
  go_ret
  exact ⟨rfl, rfl⟩
theorem rHalfUp_c (w : World) (x : Value) (neg : Bool) (half : Int) : Calls Tryz.prog 157 #[x, .bool neg, .int .i64 half] w fun e w' => e = .returned (.bool (decide (half ≥ 0))) ∧ w = w' := by
  go_enter Tryz.func157, Tryz.ntmps157
  go_wp2
  go_ret
  exact ⟨rfl, rfl⟩
theorem rHalfDown_c (w : World) (x : Value) (neg : Bool) (half : Int) : Calls Tryz.prog 161 #[x, .bool neg, .int .i64 half] w fun e w' => e = .returned (.bool (decide (half > 0))) ∧ w = w' := by
  go_enter Tryz.func161, Tryz.ntmps161
  go_wp2
  go_ret
  exact ⟨rfl, rfl⟩
theorem rCeil_c (w : World) (x : Value) (neg : Bool) (half : Int) : Calls Tryz.prog 159 #[x, .bool neg, .int .i64 half] w fun e w' => e = .returned (.bool (!neg)) ∧ w = w' := by
  go_enter Tryz.func159, Tryz.ntmps159
  go_wp2
  go_ret
  exact ⟨rfl, rfl⟩
theorem rFloor_c (w : World) (x : Value) (neg : Bool) (half : Int) : Calls Tryz.prog 160 #[x, .bool neg, .int .i64 half] w fun e w' => e = .returned (.bool neg) ∧ w = w' := by
  go_enter Tryz.func160, Tryz.ntmps160
  go_wp2
  go_ret
  exact ⟨rfl, rfl⟩
theorem rHalfEven_c {w0 w : World} {σ : Sg} (h : Hold w0 w σ) {bx ox : Nat} {X : Nat} (hx : BNum σ bx ox false X) (neg : Bool) (half : Int) :
    Calls Tryz.prog 158 #[.pointer (some ⟨bx, ox, none⟩), .bool neg, .int .i64 half] w fun e w' => e = .returned (.bool (decide (half > 0) || (half == 0 && X % 10 % 2 == 1))) ∧ w = w' := by
  have k := bigBit0_c h hx
  have hr : X % 2 < 2 := Nat.mod_lt _ (by omega)
  have h2 : X % 10 % 2 = X % 2 := by omega
  rw [h2]
  generalize X % 2 = r at *
  replace k := Lib.hid k
  clear h hx h2
  by_cases h1 : half > 0
  · have e1 : decide (half > 0) = true := by simp; omega
    rw [e1]
    clear hr
    go_enter Tryz.func158, Tryz.ntmps158
    go_wp2
    go_ret
    exact ⟨rfl, rfl⟩
  · have e1 : decide (half > 0) = false := by simp; omega
    rw [e1]
    by_cases h3 : half < 0
    · have e2 : (half == 0) = false := by simp; omega
      have e3 : decide (half < 0) = true := by simp; omega
      rw [e2]
      clear hr
      go_enter Tryz.func158, Tryz.ntmps158
      go_wp2
      go_ret
      exact ⟨rfl, rfl⟩
    · obtain rfl : half = 0 := by omega
      clear h1 h3 e1
      go_enter Tryz.func158, Tryz.ntmps158
      go_wp2_with fail
      with_reducible refine k.out.mono ?_
      rintro e w' ⟨rfl, hw⟩
      obtain rfl := hw
      go_wp2
      go_ret
      have hr2 : r = 0 ∨ r = 1 := by omega
      rcases hr2 with rfl | rfl <;> exact ⟨rfl, rfl⟩
end Go.Proofs.YtcoljeafgiemkaaGreatDoor

namespace Go.Proofs.YtcoljeafgiemkaaGreatDoor
open Go Go.RowKit

theorem five_len {n : Nat} (h : n ≤ 10) (h0 : 0 < n) : (digs n).length < 40 := by rw [digs_word (n_WB (by omega)) h0]; simp
theorem sgN_zero {n : Nat} : ((sgN false n) == 0) = (n == 0) := by
  unfold sgN
  by_cases h : n = 0
  · subst h; rfl
  · rw [if_neg h]; simp [h]
set_option maxRecDepth 20000 in
theorem r05_c {w0 w : World} {σ : Sg} (h : Hold w0 w σ) {bx ox : Nat} {X : Nat} (hx : BNum σ bx ox false X) (hX : (digs X).length ≤ 250) (neg : Bool) (half : Int) :
    Calls Tryz.prog 163 #[.pointer (some ⟨bx, ox, none⟩), .bool neg, .int .i64 half] w fun e w' => e = .returned (.bool (X % 10 % 5 == 0)) ∧ Hold w0 w' σ := by
  have h1 := h.newBig
  have hft := h.fresh (k := w.heap.size) (Nat.le_refl _)
  have hx1 := hx.upd (it := big false 0) hft
  have k5 := bigFive_c h1
  have hfr : ∀ k, w.heap.size ≤ k → σ k = none := fun k hk => h.fresh hk
  have hsz : w.heap.size < (w.alloc (.cells #[.bool false, .slice none 0 0, .bool false] 73 (0, 0))).heap.size := (h1.lt (upd_eq _ _ _)).2
  have h5 : X % 10 % 5 = X % 5 := by omega
  rw [h5]
  obtain ⟨r, hr⟩ : ∃ r, (X % 5 == 0) = r := ⟨_, rfl⟩
  rw [hr]
  replace hr := Lib.hid hr
  have h10 : X % 5 ≠ 0 → X % 10 ≠ 0 := by omega
  obtain ⟨t, ht⟩ : ∃ t, w.heap.size = t := ⟨_, rfl⟩
  rw [ht] at hft hx1 k5 hfr hsz
  replace ht := Lib.hid ht
  replace hx := Lib.hid hx
  replace hx1 := Lib.hid hx1
  replace k5 := Lib.hid k5
  replace hft := Lib.hid hft
  replace hfr := Lib.hid hfr
  replace h10 := Lib.hid h10
  clear h h1 h5
  go_enter Tryz.func163, Tryz.ntmps163
  go_wp2_with fail
  rw [ht.out]
  with_reducible refine k5.out.mono ?_
  rintro e w1 ⟨k, rfl, hk, h1⟩
  have hkt : k ≠ t := by omega
  have hfk : σ k = none := hfr.out k (by omega)
  have hfk1 : upd σ t (big false 0) k = none := by rw [upd_ne _ _ hkt]; exact hfk
  have h1t : upd (upd σ t (big false 0)) k (big false 5) t = some (big false 0) := by rw [upd_ne _ _ (Ne.symm hkt), upd_eq]
  have kr := bigRem_c h1 (bnum_big h1t) (hx1.out.upd hfk1).num (num_big (upd_eq _ _ _)) (by omega) hX (five_len (by omega) (by omega))
  rw [put_big h1t] at kr
  clear h1 hx1 h1t
  replace kr := Lib.hid kr
  go_wp2_with fail
  with_reducible refine kr.out.mono ?_
  rintro e w2 ⟨rfl, h2⟩
  have h2t := upd_eq (upd (upd σ t (big false 0)) k (big false 5)) t (big false (X % 5))
  have ks := bigSignH_c h2 (bnum_big h2t)
  have hz := sgN_zero (n := X % 5)
  have hle : Le σ (upd (upd (upd σ t (big false 0)) k (big false 5)) t (big false (X % 5))) := Le.skip hft.out (Le.skip hfk (Le.skip hft.out (Le.refl _)))
  have hx2 : BNum (upd (upd (upd σ t (big false 0)) k (big false 5)) t (big false (X % 5))) bx ox false X := by
    obtain ⟨it, a, b⟩ := hx.out
    exact ⟨it, hle _ _ a, b⟩
  obtain ⟨sg, hsg⟩ : ∃ sg, sgN false (X % 5) = sg := ⟨_, rfl⟩
  rw [hsg] at ks hz
  by_cases h0 : X % 5 = 0
  · have hend := h2.le hle
    have e0 : (X % 5 == 0) = true := by simp [h0]
    rw [e0] at hz
    have hrv : r = true := by rw [← hr.out, e0]
    subst hrv
    replace ks := Lib.hid ks
    replace hend := Lib.hid hend
    replace h0 := Lib.hid h0
    replace hsg := Lib.hid hsg
    clear h2 h2t hle hx2 e0
    go_wp2_with fail
    with_reducible refine ks.out.mono ?_
    rintro e w' ⟨rfl, hw⟩
    obtain rfl := hw
    go_wp2
    go_ret
    exact ⟨rfl, hend.out⟩
  · have e0 : (X % 5 == 0) = false := by simp [h0]
    rw [e0] at hz
    have hrv : r = false := by rw [← hr.out, e0]
    subst hrv
    have kt := bigTen_c h2
    have hnz : X % 10 ≠ 0 := h10.out h0
    have hfr2 := fun k hk => h2.fresh (k := k) hk
    generalize upd (upd (upd σ t (big false 0)) k (big false 5)) t (big false (X % 5)) = σ3 at *
    replace ks := Lib.hid ks
    replace kt := Lib.hid kt
    replace h0 := Lib.hid h0
    replace hsg := Lib.hid hsg
    replace hle := Lib.hid hle
    replace hx2 := Lib.hid hx2
    replace h2t := Lib.hid h2t
    replace hfr2 := Lib.hid hfr2
    replace hnz := Lib.hid hnz
    clear h2 e0
    go_wp2_with fail
    with_reducible refine ks.out.mono ?_
    rintro e w' ⟨rfl, hw⟩
    obtain rfl := hw
    go_wp2_with fail
    with_reducible refine kt.out.mono ?_
    rintro e w3 ⟨m, rfl, hm, h3⟩
    have hfm := hfr2.out m hm
    have h3t : upd σ3 m (big false 10) t = some (big false (X % 5)) := by rw [upd_ne _ _ (by rintro rfl; rw [hfm] at h2t; cases h2t.out)]; exact h2t.out
    have kr2 := bigRem_c h3 (bnum_big h3t) (hx2.out.upd hfm).num (num_big (upd_eq _ _ _)) (by omega) hX (five_len (by omega) (by omega))
    rw [put_big h3t] at kr2
    have hle3 : Le σ (upd (upd σ3 m (big false 10)) t (big false (X % 10))) := Le.skip hft.out (Le.skip (by
      cases hc : σ m with
      | none => rfl
      | some jt => have := hle.out _ _ hc; rw [hfm] at this; cases this) hle.out)
    clear h3 h3t
    replace kr2 := Lib.hid kr2
    replace hle3 := Lib.hid hle3
    replace hfm := Lib.hid hfm
    go_wp2_with fail
    with_reducible refine kr2.out.mono ?_
    rintro e w4 ⟨rfl, h4⟩
    have ks2 := bigSignH_c h4 (bnum_big (upd_eq _ _ _))
    have hz2 := sgN_zero (n := X % 10)
    have e1 : (X % 10 == 0) = false := by simp [hnz.out]
    rw [e1] at hz2
    have hend := h4.le hle3.out
    obtain ⟨sg2, hsg2⟩ : ∃ sg, sgN false (X % 10) = sg := ⟨_, rfl⟩
    rw [hsg2] at ks2 hz2
    clear h4 e1
    replace ks2 := Lib.hid ks2
    replace hsg2 := Lib.hid hsg2
    replace hend := Lib.hid hend
    go_wp2_with fail
    with_reducible refine ks2.out.mono ?_
    rintro e w' ⟨rfl, hw⟩
    obtain rfl := hw
    go_wp2
    go_ret
    exact ⟨rfl, hend.out⟩

/-- All modes. -/
theorem shouldAdd_c {w0 w : World} {σ : Sg} (h : Hold w0 w σ) {bx ox : Nat} {X : Nat} (hx : BNum σ bx ox false X) (hX : (digs X).length ≤ 250) (neg : Bool) (half : Int) (m : Nat) (hm : m < 8) :
    Calls Tryz.prog 109 #[.string (modeS m), .pointer (some ⟨bx, ox, none⟩), .bool neg, .int .i64 half] w fun e w' => e = .returned (.bool (awayN neg (X % 10) half m)) ∧ Hold w0 w' σ := by
  have h8 : m = 0 ∨ m = 1 ∨ m = 2 ∨ m = 3 ∨ m = 4 ∨ m = 5 ∨ m = 6 ∨ m = 7 := by omega
  have k0 := rDown_c w (.pointer (some ⟨bx, ox, none⟩)) neg half
  have k1 := rHalfUp_c w (.pointer (some ⟨bx, ox, none⟩)) neg half
  have k2 := rHalfEven_c h hx neg half
  have k3 := rCeil_c w (.pointer (some ⟨bx, ox, none⟩)) neg half
  have k4 := rFloor_c w (.pointer (some ⟨bx, ox, none⟩)) neg half
  have k5 := rHalfDown_c w (.pointer (some ⟨bx, ox, none⟩)) neg half
  have k6 := rUp_c w (.pointer (some ⟨bx, ox, none⟩)) neg half
  have k7 := r05_c h hx hX neg half
  obtain ⟨r2, hr2⟩ : ∃ r, awayN neg (X % 10) half 2 = r := ⟨_, rfl⟩
  obtain ⟨r7, hr7⟩ : ∃ r, awayN neg (X % 10) half 7 = r := ⟨_, rfl⟩
  rw [show (decide (half > 0) || (half == 0 && X % 10 % 2 == 1)) = r2 from hr2] at k2
  rw [show (X % 10 % 5 == 0) = r7 from hr7] at k7
  replace hr2 := Lib.hid hr2
  replace hr7 := Lib.hid hr7
  replace h := Lib.hid h
  replace k0 := Lib.hid k0
  replace k1 := Lib.hid k1
  replace k2 := Lib.hid k2
  replace k3 := Lib.hid k3
  replace k4 := Lib.hid k4
  replace k5 := Lib.hid k5
  replace k6 := Lib.hid k6
  replace k7 := Lib.hid k7
  clear hx hX hm
  rcases h8 with rfl | rfl | rfl | rfl | rfl | rfl | rfl | rfl
  · have f0 : ((modeS 0).toList == [100, 111, 119, 110]) = true := by decide +kernel
    have f1 : ((modeS 0).toList == [104, 97, 108, 102, 95, 117, 112]) = false := by decide +kernel
    have f2 : ((modeS 0).toList == [104, 97, 108, 102, 95, 101, 118, 101, 110]) = false := by decide +kernel
    have f3 : ((modeS 0).toList == [99, 101, 105, 108, 105, 110, 103]) = false := by decide +kernel
    have f4 : ((modeS 0).toList == [102, 108, 111, 111, 114]) = false := by decide +kernel
    have f5 : ((modeS 0).toList == [104, 97, 108, 102, 95, 100, 111, 119, 110]) = false := by decide +kernel
    have f6 : ((modeS 0).toList == [117, 112]) = false := by decide +kernel
    have f7 : ((modeS 0).toList == [48, 53, 117, 112]) = false := by decide +kernel
    generalize modeS 0 = s at f0 f1 f2 f3 f4 f5 f6 f7 ⊢
    go_enter Tryz.func109, Tryz.ntmps109
    go_wp2_with fail
    with_reducible refine k0.out.mono ?_
    rintro e w' ⟨rfl, hw⟩
    obtain rfl := hw
    go_wp2
    go_ret
    exact ⟨rfl, h.out⟩
  · have f0 : ((modeS 1).toList == [100, 111, 119, 110]) = false := by decide +kernel
    have f1 : ((modeS 1).toList == [104, 97, 108, 102, 95, 117, 112]) = true := by decide +kernel
    have f2 : ((modeS 1).toList == [104, 97, 108, 102, 95, 101, 118, 101, 110]) = false := by decide +kernel
    have f3 : ((modeS 1).toList == [99, 101, 105, 108, 105, 110, 103]) = false := by decide +kernel
    have f4 : ((modeS 1).toList == [102, 108, 111, 111, 114]) = false := by decide +kernel
    have f5 : ((modeS 1).toList == [104, 97, 108, 102, 95, 100, 111, 119, 110]) = false := by decide +kernel
    have f6 : ((modeS 1).toList == [117, 112]) = false := by decide +kernel
    have f7 : ((modeS 1).toList == [48, 53, 117, 112]) = false := by decide +kernel
    generalize modeS 1 = s at f0 f1 f2 f3 f4 f5 f6 f7 ⊢
    go_enter Tryz.func109, Tryz.ntmps109
    go_wp2_with fail
    with_reducible refine k1.out.mono ?_
    rintro e w' ⟨rfl, hw⟩
    obtain rfl := hw
    go_wp2
    go_ret
    exact ⟨rfl, h.out⟩
  · have f0 : ((modeS 2).toList == [100, 111, 119, 110]) = false := by decide +kernel
    have f1 : ((modeS 2).toList == [104, 97, 108, 102, 95, 117, 112]) = false := by decide +kernel
    have f2 : ((modeS 2).toList == [104, 97, 108, 102, 95, 101, 118, 101, 110]) = true := by decide +kernel
    have f3 : ((modeS 2).toList == [99, 101, 105, 108, 105, 110, 103]) = false := by decide +kernel
    have f4 : ((modeS 2).toList == [102, 108, 111, 111, 114]) = false := by decide +kernel
    have f5 : ((modeS 2).toList == [104, 97, 108, 102, 95, 100, 111, 119, 110]) = false := by decide +kernel
    have f6 : ((modeS 2).toList == [117, 112]) = false := by decide +kernel
    have f7 : ((modeS 2).toList == [48, 53, 117, 112]) = false := by decide +kernel
    generalize modeS 2 = s at f0 f1 f2 f3 f4 f5 f6 f7 ⊢
    go_enter Tryz.func109, Tryz.ntmps109
    go_wp2_with fail
    with_reducible refine k2.out.mono ?_
    rintro e w' ⟨rfl, hw⟩
    obtain rfl := hw
    go_wp2
    go_ret
    exact ⟨by rw [hr2.out]; rfl, h.out⟩
  · have f0 : ((modeS 3).toList == [100, 111, 119, 110]) = false := by decide +kernel
    have f1 : ((modeS 3).toList == [104, 97, 108, 102, 95, 117, 112]) = false := by decide +kernel
    have f2 : ((modeS 3).toList == [104, 97, 108, 102, 95, 101, 118, 101, 110]) = false := by decide +kernel
    have f3 : ((modeS 3).toList == [99, 101, 105, 108, 105, 110, 103]) = true := by decide +kernel
    have f4 : ((modeS 3).toList == [102, 108, 111, 111, 114]) = false := by decide +kernel
    have f5 : ((modeS 3).toList == [104, 97, 108, 102, 95, 100, 111, 119, 110]) = false := by decide +kernel
    have f6 : ((modeS 3).toList == [117, 112]) = false := by decide +kernel
    have f7 : ((modeS 3).toList == [48, 53, 117, 112]) = false := by decide +kernel
    generalize modeS 3 = s at f0 f1 f2 f3 f4 f5 f6 f7 ⊢
    go_enter Tryz.func109, Tryz.ntmps109
    go_wp2_with fail
    with_reducible refine k3.out.mono ?_
    rintro e w' ⟨rfl, hw⟩
    obtain rfl := hw
    go_wp2
    go_ret
    exact ⟨rfl, h.out⟩
  · have f0 : ((modeS 4).toList == [100, 111, 119, 110]) = false := by decide +kernel
    have f1 : ((modeS 4).toList == [104, 97, 108, 102, 95, 117, 112]) = false := by decide +kernel
    have f2 : ((modeS 4).toList == [104, 97, 108, 102, 95, 101, 118, 101, 110]) = false := by decide +kernel
    have f3 : ((modeS 4).toList == [99, 101, 105, 108, 105, 110, 103]) = false := by decide +kernel
    have f4 : ((modeS 4).toList == [102, 108, 111, 111, 114]) = true := by decide +kernel
    have f5 : ((modeS 4).toList == [104, 97, 108, 102, 95, 100, 111, 119, 110]) = false := by decide +kernel
    have f6 : ((modeS 4).toList == [117, 112]) = false := by decide +kernel
    have f7 : ((modeS 4).toList == [48, 53, 117, 112]) = false := by decide +kernel
    generalize modeS 4 = s at f0 f1 f2 f3 f4 f5 f6 f7 ⊢
    go_enter Tryz.func109, Tryz.ntmps109
    go_wp2_with fail
    with_reducible refine k4.out.mono ?_
    rintro e w' ⟨rfl, hw⟩
    obtain rfl := hw
    go_wp2
    go_ret
    exact ⟨rfl, h.out⟩
  · have f0 : ((modeS 5).toList == [100, 111, 119, 110]) = false := by decide +kernel
    have f1 : ((modeS 5).toList == [104, 97, 108, 102, 95, 117, 112]) = false := by decide +kernel
    have f2 : ((modeS 5).toList == [104, 97, 108, 102, 95, 101, 118, 101, 110]) = false := by decide +kernel
    have f3 : ((modeS 5).toList == [99, 101, 105, 108, 105, 110, 103]) = false := by decide +kernel
    have f4 : ((modeS 5).toList == [102, 108, 111, 111, 114]) = false := by decide +kernel
    have f5 : ((modeS 5).toList == [104, 97, 108, 102, 95, 100, 111, 119, 110]) = true := by decide +kernel
    have f6 : ((modeS 5).toList == [117, 112]) = false := by decide +kernel
    have f7 : ((modeS 5).toList == [48, 53, 117, 112]) = false := by decide +kernel
    generalize modeS 5 = s at f0 f1 f2 f3 f4 f5 f6 f7 ⊢
    go_enter Tryz.func109, Tryz.ntmps109
    go_wp2_with fail
    with_reducible refine k5.out.mono ?_
    rintro e w' ⟨rfl, hw⟩
    obtain rfl := hw
    go_wp2
    go_ret
    exact ⟨rfl, h.out⟩
  · have f0 : ((modeS 6).toList == [100, 111, 119, 110]) = false := by decide +kernel
    have f1 : ((modeS 6).toList == [104, 97, 108, 102, 95, 117, 112]) = false := by decide +kernel
    have f2 : ((modeS 6).toList == [104, 97, 108, 102, 95, 101, 118, 101, 110]) = false := by decide +kernel
    have f3 : ((modeS 6).toList == [99, 101, 105, 108, 105, 110, 103]) = false := by decide +kernel
    have f4 : ((modeS 6).toList == [102, 108, 111, 111, 114]) = false := by decide +kernel
    have f5 : ((modeS 6).toList == [104, 97, 108, 102, 95, 100, 111, 119, 110]) = false := by decide +kernel
    have f6 : ((modeS 6).toList == [117, 112]) = true := by decide +kernel
    have f7 : ((modeS 6).toList == [48, 53, 117, 112]) = false := by decide +kernel
    generalize modeS 6 = s at f0 f1 f2 f3 f4 f5 f6 f7 ⊢
    go_enter Tryz.func109, Tryz.ntmps109
    go_wp2_with fail
    with_reducible refine k6.out.mono ?_
    rintro e w' ⟨rfl, hw⟩
    obtain rfl := hw
    go_wp2
    go_ret
    exact ⟨rfl, h.out⟩
  · have f0 : ((modeS 7).toList == [100, 111, 119, 110]) = false := by decide +kernel
    have f1 : ((modeS 7).toList == [104, 97, 108, 102, 95, 117, 112]) = false := by decide +kernel
    have f2 : ((modeS 7).toList == [104, 97, 108, 102, 95, 101, 118, 101, 110]) = false := by decide +kernel
    have f3 : ((modeS 7).toList == [99, 101, 105, 108, 105, 110, 103]) = false := by decide +kernel
    have f4 : ((modeS 7).toList == [102, 108, 111, 111, 114]) = false := by decide +kernel
    have f5 : ((modeS 7).toList == [104, 97, 108, 102, 95, 100, 111, 119, 110]) = false := by decide +kernel
    have f6 : ((modeS 7).toList == [117, 112]) = false := by decide +kernel
    have f7 : ((modeS 7).toList == [48, 53, 117, 112]) = true := by decide +kernel
    generalize modeS 7 = s at f0 f1 f2 f3 f4 f5 f6 f7 ⊢
    go_enter Tryz.func109, Tryz.ntmps109
    go_wp2_with fail
    with_reducible refine k7.out.mono ?_
    rintro e w' ⟨rfl, hw⟩
    replace hw := Lib.hid hw
    go_wp2
    go_ret
    exact ⟨by rw [hr7.out]; rfl, hw.out⟩
end Go.Proofs.YtcoljeafgiemkaaGreatDoor

namespace Go.Proofs.YtcoljeafgiemkaaGreatDoor
open Go Go.RowKit

/-- A cell of a block of plain data is stored. -/
theorem Hold.setRaw {w0 w : World} {σ : Sg} (h : Hold w0 w σ) {b i : Nat} {cs : Array Value} {T : TypeId} {x : Value} (hb : σ b = some (Go.Proofs.YtcoljeafgiemkaaGreatDoor.raw (.cells cs T (0, 0)))) : Hold w0 (w.setCell ⟨b, i, none⟩ x) (upd σ b (Go.Proofs.YtcoljeafgiemkaaGreatDoor.raw (.cells (cs.setIfInBounds i x) T (0, 0)))) := by
  have hr := h.raw hb
  obtain ⟨st, h⟩ := h
  have hc := chg_setB w b i x
  have hnn : ∀ o p, (Go.Proofs.YtcoljeafgiemkaaGreatDoor.raw o).num p = none := fun o p => by
    cases hh : (Go.Proofs.YtcoljeafgiemkaaGreatDoor.raw o).num p with
    | none => rfl
    | some gn => obtain ⟨g1, N1⟩ := gn; rcases It.num_cases hh with ⟨hk, _⟩ | ⟨hk, _⟩ | ⟨hk, _⟩ | ⟨hk, _⟩ | ⟨hk, _⟩ <;> exact absurd hk (Nat.ne_of_beq_eq_false rfl)
  have old : ∀ c p g1 N1, Num (upd σ b (Go.Proofs.YtcoljeafgiemkaaGreatDoor.raw (.cells (cs.setIfInBounds i x) T (0, 0)))) c p g1 N1 → Num σ c p g1 N1 := by
    rintro c p g1 N1 ⟨jt, hj, hjn⟩
    by_cases e : c = b
    · subst e
      rw [upd_eq] at hj; cases hj
      rw [hnn] at hjn; cases hjn
    · rw [upd_ne _ _ e] at hj
      exact ⟨jt, hj, hjn⟩
  refine ⟨st, h.chg.trans (hc.mono (fun k _ e => .inr (by subst e; exact (h.it _ _ hb).1))), h.glob, ?_, ?_, ?_⟩
  · intro c jt hj
    by_cases e : c = b
    · subst e
      rw [upd_eq] at hj; cases hj
      exact ⟨(h.it _ _ hb).1, .inr ⟨Nat.le_refl 4, setB hr⟩⟩
    · rw [upd_ne _ _ e] at hj
      refine ⟨(h.it _ _ hj).1, (h.it _ _ hj).2.chg hc e ?_⟩
      rintro p g1 N1 k hp hk rfl
      have := (h.sto c p g1 N1 _ ⟨jt, hj, hp⟩ hk).2
      rw [hb] at this; cases this
  · intro c p g1 N1 k hcn hk
    have h3 := h.sto c p g1 N1 k (old _ _ _ _ hcn) hk
    exact ⟨h3.1, by rw [upd_ne _ _ (by rintro rfl; rw [hb] at h3; cases h3.2)]; exact h3.2⟩
  · intro c p g1 N1 c' p' g2 N2 k h3 h4 hk hk'
    exact h.inj c p g1 N1 c' p' g2 N2 k (old _ _ _ _ h3) (old _ _ _ _ h4) hk hk'
/-- An int64 in a block of its own. -/
def c64 (d : Int) : It := raw (.cells #[.int .i64 d] 2 (0, 0))
theorem Hold.c64At {w0 w : World} {σ : Sg} (h : Hold w0 w σ) {b : Nat} {d : Int} (hb : σ b = some (c64 d)) : w.cell? ⟨b, 0, none⟩ = some (.int .i64 d) ∧ w.frozen? ⟨b, 0, none⟩ = false ∧ ∀ d', Hold w0 (w.setCell ⟨b, 0, none⟩ (.int .i64 d')) (upd σ b (c64 d')) := by
  have hr := h.raw hb
  exact ⟨cellB hr rfl, frozenB hr _, fun d' => h.setRaw hb⟩
theorem put_ne {σ : Sg} {b o k : Nat} {g : Bool} {N : Nat} (h : k ≠ b) : put σ b o g N k = σ k := by unfold put; rw [if_neg h]
theorem nbits_mono {a b : Nat} (h : a ≤ b) : nbits a ≤ nbits b := nbits_le_iff.2 (Nat.lt_of_le_of_lt h (nbits_lt b))
theorem nbits_succ (N : Nat) : nbits (N + 1) ≤ nbits N + 1 := by
  refine nbits_le_iff.2 ?_
  have := nbits_lt N
  rw [Nat.pow_succ]; omega
theorem bits_w {N k : Nat} (h : nbits N ≤ 64 * k) : (digs N).length ≤ k := by
  refine digs_len_le.2 ?_
  rw [WB_bits, ← Nat.pow_mul]
  exact nbits_le_iff.1 h
theorem sgN_nn (N : Nat) : 0 ≤ sgN false N := by unfold sgN; split <;> simp

set_option maxRecDepth 20000 in
set_option maxHeartbeats 1000000 in
theorem addOne_c {w0 w : World} {σ : Sg} (h : Hold w0 w σ) {bx ox q N N' : Nat} {d d' : Int} (hx : BNum σ bx ox false N) (hq : σ q = some (c64 d)) (hN : nbits N < 1100) (hd : -1000000 ≤ d ∧ d ≤ 1000000)
    (hc : figs N < figs (N + 1) ∧ N' = (N + 1) / 10 ∧ d' = d + 1 ∨ ¬ figs N < figs (N + 1) ∧ N' = N + 1 ∧ d' = d) :
    Calls Tryz.prog 170 #[.pointer (some ⟨bx, ox, none⟩), .pointer (some ⟨q, 0, none⟩)] w fun e w' => e = .returned (.tuple #[]) ∧ Hold w0 w' (upd (put σ bx ox false N') q (c64 d')) := by
  obtain ⟨it, hbx, hin, hin2⟩ := id hx
  have hqx : q ≠ bx := by
    rintro rfl
    rw [hbx] at hq; cases hq
    exact absurd rfl (Nat.ne_of_lt (Nat.lt_of_le_of_ne (Nat.zero_le _) (fun _ => by cases hin)))
  have ksg := bigSignH_c h hx
  have hsg : decide (sgN false N < 0) = false := by have := sgN_nn N; simp; omega
  obtain ⟨sg, hsge⟩ : ∃ sg, sgN false N = sg := ⟨_, rfl⟩
  rw [hsge] at ksg hsg
  have kd := NumDigits_c h hx (by omega)
  have hb1 : nbits (N + 1) < 1101 := by have := nbits_succ N; omega
  obtain ⟨a, ha⟩ : ∃ a, figs N = a := ⟨_, rfl⟩
  obtain ⟨b, hb⟩ : ∃ b, figs (N + 1) = b := ⟨_, rfl⟩
  rw [ha, hb] at hc
  rw [ha] at kd
  have ew : IntKind.i64.wrap (d + 1) = d + 1 := IntWalk.i64_in _ (by omega)
  replace ksg := Lib.hid ksg
  replace kd := Lib.hid kd
  replace hsge := Lib.hid hsge
  replace ha := Lib.hid ha
  replace hb := Lib.hid hb
  replace hbx := Lib.hid hbx
  replace hin := Lib.hid hin
  replace hq := Lib.hid hq
  replace hx := Lib.hid hx
  replace hc := Lib.hid hc
  clear h
  go_enter Tryz.func170, Tryz.ntmps170
  go_wp2_with fail
  with_reducible refine ksg.out.mono ?_
  rintro e w' ⟨rfl, hw⟩
  obtain rfl := hw
  go_wp2_with fail
  with_reducible refine kd.out.mono ?_
  rintro e w1 ⟨rfl, h1⟩
  have k1 := bigOne_c h1
  have hfr1 : ∀ k, w1.heap.size ≤ k → σ k = none := fun k hk => h1.fresh hk
  replace k1 := Lib.hid k1
  replace hfr1 := Lib.hid hfr1
  clear h1
  go_wp2_with fail
  with_reducible refine k1.out.mono ?_
  rintro e w2 ⟨k, rfl, hk, h2⟩
  have hfk := hfr1.out k hk
  have ka := bigAdd_c h2 (hx.out.upd hfk) (hx.out.upd hfk).num (num_big (upd_eq _ _ _)) (Nat.le_trans (bits_w (k := 18) (by omega)) (by omega)) (Nat.le_of_lt (Nat.lt_trans (five_len (by omega) (by omega)) (by omega)))
  replace ka := Lib.hid ka
  clear h2 hfr1
  go_wp2_with fail
  with_reducible refine ka.out.mono ?_
  rintro e w3 ⟨rfl, h3⟩
  have h4 := h3.le (Le.put (Le.skip hfk (Le.refl _)) bx ox false (N + 1) hbx.out)
  have hx4 := hx.out.put false (N + 1)
  have kd2 := NumDigits_c h4 hx4 (by omega)
  rw [hb.out] at kd2
  replace kd2 := Lib.hid kd2
  replace hx4 := Lib.hid hx4
  clear h3 h4 hfk
  go_wp2_with fail
  with_reducible refine kd2.out.mono ?_
  rintro e w4 ⟨rfl, h4⟩
  have hq4 : put σ bx ox false (N + 1) q = some (c64 d) := by rw [put_ne hqx]; exact hq.out
  rcases hc.out with ⟨hl, hN', hd'⟩ | ⟨hl, hN', hd'⟩
  · have hl1 : decide ((a : Int) < (b : Int)) = true := by simp; omega
    have k5 := bigTen_c h4
    have hfr4 : ∀ k, w4.heap.size ≤ k → put σ bx ox false (N + 1) k = none := fun k hk => h4.fresh hk
    replace k5 := Lib.hid k5
    replace hfr4 := Lib.hid hfr4
    replace hq4 := Lib.hid hq4
    replace hN' := Lib.hid hN'
    replace hd' := Lib.hid hd'
    clear h4
    go_wp2_with fail
    with_reducible refine k5.out.mono ?_
    rintro e w5 ⟨m, rfl, hm, h5⟩
    have hfm := hfr4.out m hm
    have kq := bigQuo_c h5 (hx4.out.upd hfm) (hx4.out.upd hfm).num (num_big (upd_eq _ _ _)) (by omega) (Nat.le_trans (bits_w (k := 18) (by omega)) (by omega)) (five_len (by omega) (by omega))
    replace kq := Lib.hid kq
    clear h5 hfr4
    go_wp2_with fail
    with_reducible refine kq.out.mono ?_
    rintro e w6 ⟨rfl, h6⟩
    obtain ⟨it4, hb4, _, _⟩ := hx4.out
    have h7 := h6.le (Le.put (Le.skip hfm (Le.refl _)) bx ox false ((N + 1) / 10) hb4)
    rw [put_put hx.out.num, ← hN'.out] at h7
    have hq7 : put σ bx ox false N' q = some (c64 d) := by rw [put_ne hqx]; exact hq.out
    obtain ⟨c0, f0, hset⟩ := h7.c64At hq7
    have hset2 : Hold w0 (w6.setCell ⟨q, 0, none⟩ (.int .i64 (d + 1))) (upd (put σ bx ox false N') q (c64 d')) := by rw [hd'.out]; exact hset _
    replace hset := Lib.hid hset2
    clear hset2
    clear h6 h7 hq7 hb4
    go_wp2
    go_end0
    exact ⟨rfl, hset.out⟩
  · have hl1 : decide ((a : Int) < (b : Int)) = false := by simp; omega
    have hend : Hold w0 w4 (upd (put σ bx ox false N') q (c64 d')) := by
      rw [hd', hN', upd_self hq4]; exact h4
    replace hend := Lib.hid hend
    replace hq4 := Lib.hid hq4
    replace hN' := Lib.hid hN'
    replace hd' := Lib.hid hd'
    clear h4
    go_wp2
    go_end0
    exact ⟨rfl, hend.out⟩
end Go.Proofs.YtcoljeafgiemkaaGreatDoor

namespace Go.Proofs.YtcoljeafgiemkaaGreatDoor
open Go Go.RowKit

theorem eqlDecSame {w : World} (a : Addr) : (binOp .eql 66 (.pointer (some a)) (.pointer (some a))).run Tryz.prog w = .ok (.bool true) w := by
  obtain ⟨j, hj, _⟩ := infoDec
  exact run_eql_ptr_same a Tryz.underlying66 hj
set_option maxRecDepth 20000 in
theorem setSlow_c {w0 w : World} {σ : Sg} (h : Hold w0 w σ) {d x : Nat} {f e f' e' : Int} {n g n' g' : Bool} {N N' : Nat} (hd : σ d = some (dec f' n' e' g' N')) (hx : σ x = some (dec f n e g N)) (hne : x ≠ d) (hN : (digs N).length ≤ 1000) :
    Calls Tryz.prog 125 #[.pointer (some ⟨d, 0, none⟩), .pointer (some ⟨x, 0, none⟩)] w fun E w' => E = .returned (.pointer (some ⟨d, 0, none⟩)) ∧ Hold w0 w' (upd σ d (dec f n e g N)) := by
  have x0 := h.c0 hx
  have d0 := h.fz hd 0
  have p0 := h.c0 hd
  have p1 := h.c1 hd
  have p2 := h.c2 hd
  have q1 := h.c1 hx
  have q2 := h.c2 hx
  have g1 := h.fz hd 1
  have g2 := h.fz hd 2
  have h1 := h.setForm hd f
  have hx1 : upd σ d (dec f n' e' g' N') x = some (dec f n e g N) := by rw [upd_ne _ _ hne]; exact hx
  have x1 := h1.c1 hx1
  have d1 := h1.fz (upd_eq _ _ _) 1
  have h2 := h1.setSign (upd_eq _ _ _) n
  rw [upd_upd] at h2
  have hx2 : upd σ d (dec f n e' g' N') x = some (dec f n e g N) := by rw [upd_ne _ _ hne]; exact hx
  have x2 := h2.c2 hx2
  have d2 := h2.fz (upd_eq _ _ _) 2
  have h3 := h2.setExp (upd_eq _ _ _) e
  rw [upd_upd] at h3
  have hx3 : upd σ d (dec f n e g' N') x = some (dec f n e g N) := by rw [upd_ne _ _ hne]; exact hx
  have hd3 := upd_eq σ d (dec f n e g' N')
  have ks := fun w2 (hc : Chg (((w.setCell ⟨d, 0, none⟩ (.int .i8 f)).setCell ⟨d, 1, none⟩ (.bool n)).setCell ⟨d, 2, none⟩ (.int .i32 e)) w2 (fun _ => False)) => bigSetH_c (h3.keep hc) (bnum_dec hd3) (bnum_dec hx3) hN
  rw [put_dec hd3, upd_upd] at ks
  replace ks := Lib.hid ks
  clear h h1 h2 h3 hd hx hx1 hx2 hx3 hd3 hne hN
  go_enter Tryz.func125, Tryz.ntmps125
  go_upto_region 4 with (fail)
  go_still_tail 6, (by kernel_rfl)
  change wpList _ _ _ _ _ (World.drew _)
  go_wp2_with fail
  with_reducible refine (ks.out _ (by exact ⟨rfl, rfl, rfl, Nat.le_refl _, fun _ _ _ => rfl⟩)).mono ?_
  rintro e w1 ⟨rfl, h1⟩
  replace h1 := Lib.hid h1
  go_wp2
  go_ret
  exact ⟨rfl, h1.out⟩
set_option maxRecDepth 20000 in
theorem decSet_c {w0 w : World} {σ : Sg} (h : Hold w0 w σ) {d x : Nat} {f e f' e' : Int} {n g n' g' : Bool} {N N' : Nat} (hd : σ d = some (dec f' n' e' g' N')) (hx : σ x = some (dec f n e g N)) (hN : (digs N).length ≤ 1000) :
    Calls Tryz.prog 76 #[.pointer (some ⟨d, 0, none⟩), .pointer (some ⟨x, 0, none⟩)] w fun E w' => E = .returned (.pointer (some ⟨d, 0, none⟩)) ∧ Hold w0 w' (upd σ d (dec f n e g N)) := by
  by_cases hne : x = d
  · subst hne
    have hend : Hold w0 w (upd σ x (dec f n e g N)) := by rw [upd_self hx]; exact h
    have hq := eqlDecSame (w := w) ⟨x, 0, none⟩
    replace hend := Lib.hid hend
    clear h hx hd hN
    go_enter Tryz.func76, Tryz.ntmps76
    go_wp2
    go_ret
    exact ⟨rfl, hend.out⟩
  · have ks := setSlow_c h hd hx hne hN
    obtain ⟨_, _, hbd, _⟩ := h.decAt hd
    obtain ⟨_, _, hbx, _⟩ := h.decAt hx
    have hq := eqlDec (Ne.symm hne) hbd hbx
    clear hbd hbx
    replace ks := Lib.hid ks
    clear h hx hd hN
    go_enter Tryz.func76, Tryz.ntmps76
    go_wp2_with fail
    with_reducible refine ks.out.mono ?_
    rintro e w1 ⟨rfl, h1⟩
    replace h1 := Lib.hid h1
    go_wp2
    go_ret
    exact ⟨rfl, h1.out⟩

theorem decSignH_c {w0 w : World} {σ : Sg} (h : Hold w0 w σ) {b : Nat} {e : Int} {n : Bool} {N : Nat} (hx : σ b = some (dec 0 n e false N)) :
    Calls Tryz.prog 134 #[.pointer (some ⟨b, 0, none⟩)] w fun E w' => E = .returned (.int .i64 (sgD 0 n N)) ∧ w = w' := by
  obtain ⟨v, s, h1, h2⟩ := h.decAt hx
  exact decSign_c w b 0 e n N s ⟨v, h1, h2⟩ (by omega)
theorem isZeroH_c {w0 w : World} {σ : Sg} (h : Hold w0 w σ) {b : Nat} {e : Int} {n : Bool} {N : Nat} (hx : σ b = some (dec 0 n e false N)) :
    Calls Tryz.prog 95 #[.pointer (some ⟨b, 0, none⟩)] w fun E w' => E = .returned (.bool (decide (N = 0))) ∧ w = w' := by
  obtain ⟨v, s, h1, h2⟩ := h.decAt hx
  have k := isZero_c w b 0 e n N s ⟨v, h1, h2⟩ (by omega)
  rw [show decide ((0 : Int) = 0 ∧ N = 0) = decide (N = 0) by simp] at k
  exact k
end Go.Proofs.YtcoljeafgiemkaaGreatDoor
