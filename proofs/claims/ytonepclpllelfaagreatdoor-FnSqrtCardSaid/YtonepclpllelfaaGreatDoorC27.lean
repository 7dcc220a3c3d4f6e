/- big.Int on what is held: QuoRem, the walk, whatever the receiver's sign. -/
import Derived.Test.YtonepclpllelfaaGreatDoorC20
namespace Go.Proofs.YtonepclpllelfaaGreatDoor
open Go Go.RowKit
theorem put_swap (σ : Sg) {b c : Nat} (h : b ≠ c) (o p : Nat) (g g1 : Bool) (N N1 : Nat) : put (put σ b o g N) c p g1 N1 = put (put σ c p g1 N1) b o g N := by
  funext k
  unfold put
  by_cases h1 : k = b
  · subst h1
    rw [if_neg h, if_pos rfl, if_pos rfl, if_neg h]
  · by_cases h2 : k = c
    · subst h2
      rw [if_pos rfl, if_neg (Ne.symm h), if_neg h1, if_pos rfl]
    · rw [if_neg h2, if_neg h1, if_neg h1, if_neg h2]
set_option maxRecDepth 20000 in
set_option maxHeartbeats 8000000 in
theorem intQuoRemG_c {w0 w : World} {σ : Sg} (h : Hold w0 w σ) {bz oz bx ox yb yo br ro : Nat} {gz : Bool} {Z X Y R : Nat} (hz : Num σ bz oz gz Z) (hx : Num σ bx ox false X) (hy : Num σ yb yo false Y) (hr : Num σ br ro false R) (hne : bz ≠ br) (hY0 : Y ≠ 0) (hX : (digs X).length ≤ 250) (hY : (digs Y).length < 40) :
    Calls Tryz.prog 115 #[.pointer (some ⟨bz, oz, none⟩), .pointer (some ⟨bx, ox, none⟩), .pointer (some ⟨yb, yo, none⟩), .pointer (some ⟨br, ro, none⟩)] w fun e w' => e = .returned (.tuple #[.pointer (some ⟨bz, oz, none⟩), .pointer (some ⟨br, ro, none⟩)]) ∧ Hold w0 w' (put (put σ bz oz false (X / Y)) br ro false (X % Y)) := by
  obtain ⟨vz, sz, vr, sr, nz, nr, hdist, z1, r1, kst⟩ := h.op2 hz hr hne
  obtain ⟨vx, sx, px⟩ := h.op hx
  obtain ⟨vy, sy, py⟩ := h.op hy
  have hm := fun w2 (hc : Chg w w2 (fun _ => False)) => natDiv_c w2 vz vr vx vy X Y sz sr sx sy (h.keep hc).glob (nz.stor.chg hc (fun _ _ h => h)) (nr.stor.chg hc (fun _ _ h => h)) (px.nat.chg hc (fun _ _ h => h)) (py.nat.chg hc (fun _ _ h => h)) hdist hY0 hY hX
  have x1 := px.c1
  have y1 := py.c1
  obtain ⟨pvx, pcx, rfl, _, _⟩ := px.nat.shape
  obtain ⟨pvy, pcy, rfl, _, _⟩ := py.nat.shape
  obtain ⟨pvz, pcz, rfl, _, _⟩ := nz.shape
  obtain ⟨pvr, pcr, rfl, _, _⟩ := nr.shape
  have hne1 : br ≠ bz := fun e => hne e.symm
  replace hz := Lib.hid hz
  replace hx := Lib.hid hx
  replace hy := Lib.hid hy
  replace hr := Lib.hid hr
  replace kst := Lib.hid kst
  replace hm := Lib.hid hm
  clear hX hY hY0 h nz nr hdist px py
  go_enter Tryz.func115, Tryz.ntmps115
  go_upto_region 1 with (fail)
  go_cut [10] (fun _ wx => Hold w0 wx (put (put σ bz oz gz (X / Y)) br ro false (X % Y)))
  case first =>
    go_region_with ((go_at_call 137; refine (hm.out _ (by exact ⟨rfl, rfl, rfl, Nat.le_refl _, fun _ _ _ => rfl⟩)).mono ?_; rintro e w1 ⟨rq, rr, rfl, hdr, hch⟩; obtain ⟨pq, cq, rfl⟩ := hdr.sq; obtain ⟨pr, cr, rfl⟩ := hdr.sr; obtain ⟨z1', r1', fz', fr', y1', y2', y3', y4', hA, hB⟩ := kst.out.use hdr hch (by exact ⟨rfl, rfl, rfl, Nat.le_refl _, fun _ _ _ => rfl⟩) (by rfl); replace hA := Lib.hid hA; replace hB := Lib.hid hB; clear hdr hch))
    all_goals
      go_wp2_with fail
      go_meet
      first | exact hA.out | exact hB.out
  case rest =>
    clear z1 r1 x1 y1 hm kst
    have kx : ∀ b o X', Num σ b o false X' → ∃ N2, Num (put (put σ bz oz gz (X / Y)) br ro false (X % Y)) b o false N2 := by
      intro b o X' hb
      obtain ⟨N1, h1⟩ := hb.sign hz.out (X / Y)
      exact h1.sign (hr.out.put_ne hz.out (fun e => hne1 e.1) _ _) (X % Y)
    obtain ⟨_, nx⟩ := kx _ _ _ hx.out
    obtain ⟨_, ny⟩ := kx _ _ _ hy.out
    have hr1 : Num (put σ bz oz gz (X / Y)) br ro false R := hr.out.put_ne hz.out (fun e => hne1 e.1) _ _
    have nr : Num (put (put σ bz oz gz (X / Y)) br ro false (X % Y)) br ro false (X % Y) := hr1.put _ _
    have nz : Num (put (put σ bz oz gz (X / Y)) br ro false (X % Y)) bz oz gz (X / Y) := (hz.out.put _ _).put_ne hr1 (fun e => hne e.1) _ _
    clear kx hr1
    obtain ⟨τ, hτ⟩ : ∃ τ, put (put σ bz oz gz (X / Y)) br ro false (X % Y) = τ := ⟨_, rfl⟩
    have hτ2 : put τ bz oz false (X / Y) = put (put σ bz oz false (X / Y)) br ro false (X % Y) := by rw [← hτ, put_swap σ hne, put_put (hz.out.put_ne hr.out (fun e => hne e.1) _ _), put_swap σ hne]
    rw [hτ] at nx ny nr nz hcut
    replace hτ := Lib.hid hτ
    obtain ⟨vx, sx, px⟩ := hcut.op nx
    obtain ⟨vy, sy, py⟩ := hcut.op ny
    obtain ⟨vz, sz, pz⟩ := hcut.op nz
    obtain ⟨vr, sr, pr⟩ := hcut.op nr
    have x0 := px.c0
    have y0 := py.c0
    have z0 := pz.c0
    have z1 := pz.c1
    have fz := pz.f0
    have r0 := pr.c0
    have r1 := pr.c1
    have fr := pr.f0
    have hZ := pz.neg false
    have hR := pr.neg false
    rw [put_self nr] at hR
    obtain ⟨_, _, pzr⟩ := hR.op nz
    have nr2 : Num (put τ bz oz false (X / Y)) br ro false (X % Y) := nr.put_ne nz (fun e => hne1 e.1) _ _
    obtain ⟨_, _, prz⟩ := hZ.op nr2
    have hZR := prz.neg false
    rw [put_self nr2] at hZR
    have hRZ := pzr.neg false
    have u1 := prz.c0
    have u2 := prz.f0
    have u3 := pzr.c0
    have u4 := pzr.f0
    obtain ⟨pq1, cq1, rfl, _, _⟩ := pz.nat.shape
    obtain ⟨pq2, cq2, rfl, _, _⟩ := pr.nat.shape
    replace hZR := Lib.hid hZR
    replace hRZ := Lib.hid hRZ
    replace hτ2 := Lib.hid hτ2
    clear px py pz pr pzr prz hcut nx ny nz nr nr2 hZ hR hz hx hy hr
    obtain ⟨L, hL⟩ : ∃ L, (digs (X / Y)).length = L := ⟨_, rfl⟩
    obtain ⟨M, hM⟩ : ∃ M, (digs (X % Y)).length = M := ⟨_, rfl⟩
    rw [hL] at z1
    rw [hM] at r1
    clear hL hM
    by_cases hL0 : L = 0
    · subst hL0
      by_cases hM0 : M = 0
      · subst hM0
        go_wp2
        go_region
        all_goals
          go_wp2
          go_ret2
          exact ⟨rfl, by rw [← hτ2.out]; first | exact hZR.out | exact hRZ.out | exact hZR.out.drew | exact hRZ.out.drew⟩
      · have hMp : 0 < M := by omega
        go_wp2
        go_region
        all_goals
          go_wp2
          go_ret2
          exact ⟨rfl, by rw [← hτ2.out]; first | exact hZR.out | exact hRZ.out | exact hZR.out.drew | exact hRZ.out.drew⟩
    · have hLp : 0 < L := by omega
      by_cases hM0 : M = 0
      · subst hM0
        go_wp2
        go_region
        all_goals
          go_wp2
          go_ret2
          exact ⟨rfl, by rw [← hτ2.out]; first | exact hZR.out | exact hRZ.out | exact hZR.out.drew | exact hRZ.out.drew⟩
      · have hMp : 0 < M := by omega
        go_wp2
        go_region
        all_goals
          go_wp2
          go_ret2
          exact ⟨rfl, by rw [← hτ2.out]; first | exact hZR.out | exact hRZ.out | exact hZR.out.drew | exact hRZ.out.drew⟩
end Go.Proofs.YtonepclpllelfaaGreatDoor
