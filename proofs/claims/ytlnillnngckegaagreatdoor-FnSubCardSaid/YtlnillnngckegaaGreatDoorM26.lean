/- big.Int on what is held: QuoRem. big.Int on what is held: QuoRem, the walk. big.Int on what is held: Quo. big.Int on what is held: Rem. -/
import Derived.Test.YtlnillnngckegaaGreatDoorM22
namespace Go.Proofs.YtlnillnngckegaaGreatDoor
open Go Go.RowKit

theorem HoldS.turnG {w0 w w' : World} {σ τ : Sg} {st st' : Nat → Nat → Option Nat} (h : HoldS w0 w σ st) (T : Nat → Nat → Prop)
    (hc : Chg w w' (fun k => ∃ b o, T b o ∧ (k = b ∨ st b o = some k))) (h1 : ∀ b, (∀ o, ¬ T b o) → τ b = σ b) (h2 : ∀ b o, T b o → ∃ g N, Num σ b o g N)
    (h3 : ∀ b it, τ b = some it → (∃ o, T b o) → w0.heap.size ≤ b ∧ it.holds w' b (st' b)) (h4 : ∀ b, σ b = none → τ b = none) (h5 : ∀ b o g N, Num τ b o g N → ¬ T b o → Num σ b o g N)
    (h6 : ∀ b o, ¬ T b o → st' b o = st b o) (h7 : ∀ b o k, T b o → st' b o = some k → st b o = some k ∨ w.heap.size ≤ k) (h8 : ∀ b o b' o' k, T b o → T b' o' → st' b o = some k → st' b' o' = some k → b = b' ∧ o = o') : HoldS w0 w' τ st' := by
  have hcs := h.chg.size
  have fresh : ∀ k, w.heap.size ≤ k → σ k = none := by
    intro k hk
    cases hj : σ k with
    | none => rfl
    | some jt => have := h.lt hj; omega
  refine ⟨h.chg.trans (hc.mono (fun k hk hS => .inr ?_)), h.glob, ?_, ?_, ?_⟩
  · obtain ⟨b, o, hT, hk⟩ := hS
    obtain ⟨g, N, hN⟩ := h2 b o hT
    rcases hk with rfl | hk
    · obtain ⟨it, hi, _⟩ := hN
      exact (h.it _ it hi).1
    · exact (h.sto b o g N k hN hk).1
  · intro b it hb
    by_cases ht : ∃ o, T b o
    · exact h3 b it hb ht
    · have hn : ∀ o, ¬ T b o := fun o ho => ht ⟨o, ho⟩
      rw [h1 b hn] at hb
      have e : st' b = st b := by funext o; exact h6 b o (hn o)
      rw [e]
      refine ⟨(h.it b it hb).1, (h.it b it hb).2.chg hc ?_ ?_⟩
      · rintro ⟨b', o', hT, hk | hk⟩
        · subst hk; exact hn _ hT
        · obtain ⟨g, N, hN⟩ := h2 b' o' hT
          have := (h.sto b' o' g N b hN hk).2
          rw [hb] at this; cases this
      · rintro o g N k ho hk ⟨b', o', hT, hk2 | hk2⟩
        · subst hk2
          obtain ⟨g', N', it', hi, _⟩ := h2 _ o' hT
          have := (h.sto b o g N _ ⟨it, hb, ho⟩ hk).2
          rw [hi] at this; cases this
        · obtain ⟨g', N', hN'⟩ := h2 b' o' hT
          have := h.inj b o g N b' o' g' N' k ⟨it, hb, ho⟩ hN' hk hk2
          rw [← this.1] at hT
          exact hn _ hT
  · intro b o g N k hN hk
    by_cases hT : T b o
    · rcases h7 b o k hT hk with h9 | h9
      · obtain ⟨g', N', hN'⟩ := h2 b o hT
        have := h.sto b o g' N' k hN' h9
        exact ⟨this.1, h4 k this.2⟩
      · exact ⟨by omega, h4 k (fresh k h9)⟩
    · rw [h6 b o hT] at hk
      have := h.sto b o g N k (h5 b o g N hN hT) hk
      exact ⟨this.1, h4 k this.2⟩
  · intro b o g N b' o' g' N' k hN hN' hk hk'
    by_cases hT : T b o
    · by_cases hT' : T b' o'
      · exact h8 b o b' o' k hT hT' hk hk'
      · rw [h6 b' o' hT'] at hk'
        have hn' := h5 b' o' g' N' hN' hT'
        rcases h7 b o k hT hk with h9 | h9
        · obtain ⟨g2, N2, hN2⟩ := h2 b o hT
          have := h.inj b o g2 N2 b' o' g' N' k hN2 hn' h9 hk'
          rw [this.1, this.2] at hT
          exact absurd hT hT'
        · have := h.stlt hn' hk'; omega
    · rw [h6 b o hT] at hk
      have hn := h5 b o g N hN hT
      by_cases hT' : T b' o'
      · rcases h7 b' o' k hT' hk' with h9 | h9
        · obtain ⟨g2, N2, hN2⟩ := h2 b' o' hT'
          have := h.inj b o g N b' o' g2 N2 k hn hN2 hk h9
          rw [← this.1, ← this.2] at hT'
          exact absurd hT' hT
        · have := h.stlt hn hk; omega
      · rw [h6 b' o' hT'] at hk'
        exact h.inj b o g N b' o' g' N' k hn (h5 b' o' g' N' hN' hT') hk hk'

theorem DivRes.sq {w w' : World} {oz o2 : Option Nat} {rq rr : Value} {q r : Nat} (h : DivRes w w' oz o2 rq rr q r) : ∃ p c, rq = .slice p (digs q).length c := by
  obtain ⟨oq, or', hq, hr, _⟩ := h
  obtain ⟨p, c, h, _⟩ := hq.shape
  exact ⟨p, c, h⟩
theorem DivRes.sr {w w' : World} {oz o2 : Option Nat} {rq rr : Value} {q r : Nat} (h : DivRes w w' oz o2 rq rr q r) : ∃ p c, rr = .slice p (digs r).length c := by
  obtain ⟨oq, or', hq, hr, _⟩ := h
  obtain ⟨p, c, h, _⟩ := hr.shape
  exact ⟨p, c, h⟩
/-- What two numbers make of two places. -/
def Two (w0 w : World) (σ : Sg) (bz oz br ro : Nat) (gz gr : Bool) (vz vr : Value) (sz sr : Option Nat) : Prop :=
  ∀ (w2 w1 : World) (rq rr : Value) (Q M : Nat), DivRes w2 w1 sz sr rq rr Q M → Chg w2 w1 (fun k => some k = sz ∨ some k = sr) → Chg w w2 (fun _ => False) → w2.heap.size = w.heap.size →
        w1.cell? ⟨bz, oz + 1, none⟩ = some vz ∧ w1.cell? ⟨br, ro + 1, none⟩ = some vr ∧ w1.frozen? ⟨bz, oz + 1, none⟩ = false ∧ w1.frozen? ⟨br, ro + 1, none⟩ = false ∧
        (w1.setCell ⟨bz, oz + 1, none⟩ rq).cell? ⟨br, ro + 1, none⟩ = some vr ∧ (w1.setCell ⟨bz, oz + 1, none⟩ rq).frozen? ⟨br, ro + 1, none⟩ = false ∧ (w1.setCell ⟨br, ro + 1, none⟩ rr).cell? ⟨bz, oz + 1, none⟩ = some vz ∧ (w1.setCell ⟨br, ro + 1, none⟩ rr).frozen? ⟨bz, oz + 1, none⟩ = false ∧
        Hold w0 ((w1.setCell ⟨bz, oz + 1, none⟩ rq).setCell ⟨br, ro + 1, none⟩ rr) (put (put σ bz oz gz Q) br ro gr M) ∧ Hold w0 ((w1.setCell ⟨br, ro + 1, none⟩ rr).setCell ⟨bz, oz + 1, none⟩ rq) (put (put σ bz oz gz Q) br ro gr M)
theorem Two.use {w0 w : World} {σ : Sg} {bz oz br ro : Nat} {gz gr : Bool} {vz vr : Value} {sz sr : Option Nat} (h : Two w0 w σ bz oz br ro gz gr vz vr sz sr) {w2 w1 : World} {rq rr : Value} {Q M : Nat} (h1 : DivRes w2 w1 sz sr rq rr Q M) (h2 : Chg w2 w1 (fun k => some k = sz ∨ some k = sr)) (h3 : Chg w w2 (fun _ => False)) (h4 : w2.heap.size = w.heap.size) :
        w1.cell? ⟨bz, oz + 1, none⟩ = some vz ∧ w1.cell? ⟨br, ro + 1, none⟩ = some vr ∧ w1.frozen? ⟨bz, oz + 1, none⟩ = false ∧ w1.frozen? ⟨br, ro + 1, none⟩ = false ∧
        (w1.setCell ⟨bz, oz + 1, none⟩ rq).cell? ⟨br, ro + 1, none⟩ = some vr ∧ (w1.setCell ⟨bz, oz + 1, none⟩ rq).frozen? ⟨br, ro + 1, none⟩ = false ∧ (w1.setCell ⟨br, ro + 1, none⟩ rr).cell? ⟨bz, oz + 1, none⟩ = some vz ∧ (w1.setCell ⟨br, ro + 1, none⟩ rr).frozen? ⟨bz, oz + 1, none⟩ = false ∧
        Hold w0 ((w1.setCell ⟨bz, oz + 1, none⟩ rq).setCell ⟨br, ro + 1, none⟩ rr) (put (put σ bz oz gz Q) br ro gr M) ∧ Hold w0 ((w1.setCell ⟨br, ro + 1, none⟩ rr).setCell ⟨bz, oz + 1, none⟩ rq) (put (put σ bz oz gz Q) br ro gr M) := h _ _ _ _ _ _ h1 h2 h3 h4
/-- Two numbers come into two places of two blocks at once. -/
theorem Hold.op2 {w0 w : World} {σ : Sg} (h : Hold w0 w σ) {bz oz br ro : Nat} {gz gr : Bool} {Z R : Nat} (hz : Num σ bz oz gz Z) (hr : Num σ br ro gr R) (hne : bz ≠ br) :
    ∃ vz sz vr sr, IsNat w vz Z sz ∧ IsNat w vr R sr ∧ (∀ b, sz = some b → sr ≠ some b) ∧ w.cell? ⟨bz, oz + 1, none⟩ = some vz ∧ w.cell? ⟨br, ro + 1, none⟩ = some vr ∧
      Two w0 w σ bz oz br ro gz gr vz vr sz sr := by
  obtain ⟨st, h⟩ := h
  have hz0 := hz
  have hr0 := hr
  obtain ⟨iz, hiz, hzn⟩ := hz
  obtain ⟨ir, hir, hrn⟩ := hr
  obtain ⟨fz, bz1, fz2⟩ := (h.it bz iz hiz).2.num hzn
  obtain ⟨fr, br1, fr2⟩ := (h.it br ir hir).2.num hrn
  obtain ⟨cz0, cz1, _⟩ := It.cells_at hzn fz
  obtain ⟨cr0, cr1, _⟩ := It.cells_at hrn fr
  have sepz : ∀ o1 g1 N1, iz.num o1 = some (g1, N1) → ∀ k, st bz o1 = some k → k ≠ bz ∧ k ≠ br ∧ (o1 ≠ oz → some k ≠ st bz oz) ∧ some k ≠ st br ro := by
    intro o1 g1 N1 ho k hk
    have hno := (h.sto bz o1 g1 N1 k ⟨iz, hiz, ho⟩ hk).2
    refine ⟨(by rintro rfl; rw [hiz] at hno; cases hno), (by rintro rfl; rw [hir] at hno; cases hno), fun hne1 e => hne1 (h.inj bz o1 g1 N1 bz oz gz Z k ⟨iz, hiz, ho⟩ hz0 hk e.symm).2, fun e => hne (h.inj bz o1 g1 N1 br ro gr R k ⟨iz, hiz, ho⟩ hr0 hk e.symm).1⟩
  have sepr : ∀ o1 g1 N1, ir.num o1 = some (g1, N1) → ∀ k, st br o1 = some k → k ≠ bz ∧ k ≠ br ∧ (o1 ≠ ro → some k ≠ st br ro) ∧ some k ≠ st bz oz := by
    intro o1 g1 N1 ho k hk
    have hno := (h.sto br o1 g1 N1 k ⟨ir, hir, ho⟩ hk).2
    refine ⟨(by rintro rfl; rw [hiz] at hno; cases hno), (by rintro rfl; rw [hir] at hno; cases hno), fun hne1 e => hne1 (h.inj br o1 g1 N1 br ro gr R k ⟨ir, hir, ho⟩ hr0 hk e.symm).2, fun e => hne (h.inj br o1 g1 N1 bz oz gz Z k ⟨ir, hir, ho⟩ hz0 hk e.symm).1.symm⟩
  refine ⟨fz oz, st bz oz, fr ro, st br ro, fz2 oz gz Z hzn, fr2 ro gr R hrn, fun b hb hb2 => (sepz oz gz Z hzn b hb).2.2.2 hb2.symm, cellB bz1 cz1, cellB br1 cr1, ?_⟩
  intro w2 w1 rq rr Q M ⟨oq, or', hq, hrr, hoq, hor, hqr⟩ hch hd hsz
  have hch' : Chg w w1 (fun k => some k = st bz oz ∨ some k = st br ro) := (hd.mono (fun _ _ h => h.elim)).trans (hch.mono (fun _ _ h => .inl h))
  have kz := hch'.heapB bz1 (fun e => e.elim (fun e => (sepz oz gz Z hzn bz e.symm).1 rfl) (fun e => (sepr ro gr R hrn bz e.symm).1 rfl))
  have kr := hch'.heapB br1 (fun e => e.elim (fun e => (sepz oz gz Z hzn br e.symm).2.1 rfl) (fun e => (sepr ro gr R hrn br e.symm).2.1 rfl))
  have lz := ltB bz1
  have lr := ltB br1
  have nq : ∀ b, oq = some b → b ≠ bz ∧ b ≠ br := by
    intro b hb
    rcases hoq with e | e | ⟨k, e, hk⟩
    · have := sepz oz gz Z hzn b (e ▸ hb); exact ⟨this.1, this.2.1⟩
    · rw [e] at hb; cases hb
    · rw [e] at hb; cases hb; omega
  have nr : ∀ b, or' = some b → b ≠ bz ∧ b ≠ br := by
    intro b hb
    rcases hor with e | e | ⟨k, e, hk⟩
    · have := sepr ro gr R hrn b (e ▸ hb); exact ⟨this.1, this.2.1⟩
    · rw [e] at hb; cases hb
    · rw [e] at hb; cases hb; omega
  have key : ∀ w', Chg w1 w' (fun k => k = bz ∨ k = br) → w'.heap[bz]? = some (.cells ((iz.put oz gz Q).cells (fun k => if k = oz then rq else fz k)) iz.ty (0, 0)) → w'.heap[br]? = some (.cells ((ir.put ro gr M).cells (fun k => if k = ro then rr else fr k)) ir.ty (0, 0)) → Hold w0 w' (put (put σ bz oz gz Q) br ro gr M) := by
    intro w' hw' hbz' hbr'
    have e1 : put (put σ bz oz gz Q) br ro gr M = upd (upd σ bz (iz.put oz gz Q)) br (ir.put ro gr M) := by
      rw [put_upd hiz, put_upd (by rw [upd_ne _ _ (Ne.symm hne)]; exact hir)]
    rw [e1]
    have hcw : Chg w w' (fun k => some k = st bz oz ∨ some k = st br ro ∨ k = bz ∨ k = br) := (hch'.mono (fun k _ h => h.elim .inl (fun h => .inr (.inl h)))).trans (hw'.mono (fun k _ h => .inl (.inr (.inr h))))
    refine ⟨fun c p => if c = bz ∧ p = oz then oq else if c = br ∧ p = ro then or' else st c p, h.turnG (fun c p => (c = bz ∧ p = oz) ∨ (c = br ∧ p = ro)) (hcw.mono ?_) ?_ ?_ ?_ ?_ ?_ ?_ ?_ ?_⟩
    · rintro k _ (e | e | e | e)
      · exact ⟨bz, oz, .inl ⟨rfl, rfl⟩, .inr e.symm⟩
      · exact ⟨br, ro, .inr ⟨rfl, rfl⟩, .inr e.symm⟩
      · exact ⟨bz, oz, .inl ⟨rfl, rfl⟩, .inl e⟩
      · exact ⟨br, ro, .inr ⟨rfl, rfl⟩, .inl e⟩
    · intro b hb
      rw [upd_ne _ _ (fun e => hb ro (.inr ⟨e, rfl⟩)), upd_ne _ _ (fun e => hb oz (.inl ⟨e, rfl⟩))]
    · rintro b o (⟨rfl, rfl⟩ | ⟨rfl, rfl⟩)
      · exact ⟨_, _, hz0⟩
      · exact ⟨_, _, hr0⟩
    · rintro b it hb ⟨o, ⟨rfl, rfl⟩ | ⟨rfl, rfl⟩⟩
      · rw [upd_ne _ _ hne, upd_eq] at hb
        cases hb
        refine ⟨(h.it _ _ hiz).1, .inl ⟨by rw [It.put_k]; exact It.num_lt hzn, _, by rw [It.put_ty]; exact hbz', ?_⟩⟩
        intro o1 g1 N1 ho1
        by_cases e : o1 = o
        · subst e
          rw [It.num_put hzn] at ho1; cases ho1
          simp only [and_self, if_true]
          exact hq.chg hw' (fun k hk e => e.elim (nq k hk).1 (nq k hk).2)
        · rw [It.num_put_ne hzn _ _ e] at ho1
          simp only [e, and_false, if_false, hne, false_and]
          refine (fz2 o1 g1 N1 ho1).chg hcw (fun k hk => ?_)
          have := sepz o1 g1 N1 ho1 k hk
          rintro (e2 | e2 | e2 | e2)
          · exact this.2.2.1 e e2
          · exact this.2.2.2 e2
          · exact this.1 e2
          · exact this.2.1 e2
      · rw [upd_eq] at hb
        cases hb
        refine ⟨(h.it _ _ hir).1, .inl ⟨by rw [It.put_k]; exact It.num_lt hrn, _, by rw [It.put_ty]; exact hbr', ?_⟩⟩
        intro o1 g1 N1 ho1
        by_cases e : o1 = o
        · subst e
          rw [It.num_put hrn] at ho1; cases ho1
          simp only [Ne.symm hne, false_and, if_false, and_self, if_true]
          exact hrr.chg hw' (fun k hk e => e.elim (nr k hk).1 (nr k hk).2)
        · rw [It.num_put_ne hrn _ _ e] at ho1
          simp only [Ne.symm hne, false_and, if_false, e, and_false]
          refine (fr2 o1 g1 N1 ho1).chg hcw (fun k hk => ?_)
          have := sepr o1 g1 N1 ho1 k hk
          rintro (e2 | e2 | e2 | e2)
          · exact this.2.2.2 e2
          · exact this.2.2.1 e e2
          · exact this.1 e2
          · exact this.2.1 e2
    · intro b hb
      rw [upd_ne _ _ (by rintro rfl; rw [hir] at hb; cases hb), upd_ne _ _ (by rintro rfl; rw [hiz] at hb; cases hb)]
      exact hb
    · rintro b o g N ⟨it, hb, ho⟩ hT
      by_cases e2 : b = br
      · subst e2
        rw [upd_eq] at hb; cases hb
        rw [It.num_put_ne hrn _ _ (fun e => hT (.inr ⟨rfl, e⟩))] at ho
        exact ⟨_, hir, ho⟩
      · rw [upd_ne _ _ e2] at hb
        by_cases e3 : b = bz
        · subst e3
          rw [upd_eq] at hb; cases hb
          rw [It.num_put_ne hzn _ _ (fun e => hT (.inl ⟨rfl, e⟩))] at ho
          exact ⟨_, hiz, ho⟩
        · rw [upd_ne _ _ e3] at hb
          exact ⟨_, hb, ho⟩
    · intro b o hT
      rw [if_neg (fun e => hT (.inl e)), if_neg (fun e => hT (.inr e))]
    · rintro b o k (⟨rfl, rfl⟩ | ⟨rfl, rfl⟩) hk
      · rw [if_pos ⟨rfl, rfl⟩] at hk
        rcases hoq with e | e | ⟨k2, e, hk2⟩
        · exact .inl (e ▸ hk)
        · rw [e] at hk; cases hk
        · rw [e] at hk; cases hk; exact .inr (by omega)
      · rw [if_neg (fun e => hne e.1.symm), if_pos ⟨rfl, rfl⟩] at hk
        rcases hor with e | e | ⟨k2, e, hk2⟩
        · exact .inl (e ▸ hk)
        · rw [e] at hk; cases hk
        · rw [e] at hk; cases hk; exact .inr (by omega)
    · rintro b o b' o' k (⟨rfl, rfl⟩ | ⟨rfl, rfl⟩) (⟨rfl, rfl⟩ | ⟨rfl, rfl⟩) hk hk'
      · exact ⟨rfl, rfl⟩
      · rw [if_pos ⟨rfl, rfl⟩] at hk
        rw [if_neg (fun e => hne e.1.symm), if_pos ⟨rfl, rfl⟩] at hk'
        exact absurd hk' (hqr k hk)
      · rw [if_pos ⟨rfl, rfl⟩] at hk'
        rw [if_neg (fun e => hne e.1.symm), if_pos ⟨rfl, rfl⟩] at hk
        exact absurd hk (hqr k hk')
      · exact ⟨rfl, rfl⟩
  have kr2 := (chg_setB w1 bz (oz + 1) rq).heapB kr (Ne.symm hne)
  have kz2 := (chg_setB w1 br (ro + 1) rr).heapB kz hne
  refine ⟨cellB kz cz1, cellB kr cr1, frozenB kz _, frozenB kr _, cellB kr2 cr1, frozenB kr2 _, cellB kz2 cz1, frozenB kz2 _, key _ ?_ ?_ ?_, key _ ?_ ?_ ?_⟩
  · exact ((chg_setB w1 bz (oz + 1) rq).mono (fun _ _ h => .inl h)).trans ((chg_setB _ br (ro + 1) rr).mono (fun _ _ h => .inl (.inr h)))
  · rw [← It.cells_abs hzn fz rq Q]
    exact (chg_setB _ br (ro + 1) rr).heapB (setB kz) hne
  · rw [← It.cells_abs hrn fr rr M]
    exact setB ((chg_setB w1 bz (oz + 1) rq).heapB kr (Ne.symm hne))
  · exact ((chg_setB w1 br (ro + 1) rr).mono (fun _ _ h => .inr h)).trans ((chg_setB _ bz (oz + 1) rq).mono (fun _ _ h => .inl (.inl h)))
  · rw [← It.cells_abs hzn fz rq Q]
    exact setB ((chg_setB w1 br (ro + 1) rr).heapB kz hne)
  · rw [← It.cells_abs hrn fr rr M]
    exact (chg_setB _ bz (oz + 1) rq).heapB (setB kr) (Ne.symm hne)
end Go.Proofs.YtlnillnngckegaaGreatDoor

namespace Go.Proofs.YtlnillnngckegaaGreatDoor
open Go Go.RowKit
set_option maxRecDepth 20000 in
set_option maxHeartbeats 8000000 in
theorem intQuoRem_c {w0 w : World} {σ : Sg} (h : Hold w0 w σ) {bz oz bx ox yb yo br ro : Nat} {Z X Y R : Nat} (hz : Num σ bz oz false Z) (hx : Num σ bx ox false X) (hy : Num σ yb yo false Y) (hr : Num σ br ro false R) (hne : bz ≠ br) (hY0 : Y ≠ 0) (hX : (digs X).length ≤ 250) (hY : (digs Y).length < 40) :
    Calls Tryz.prog 125 #[.pointer (some ⟨bz, oz, none⟩), .pointer (some ⟨bx, ox, none⟩), .pointer (some ⟨yb, yo, none⟩), .pointer (some ⟨br, ro, none⟩)] w fun e w' => e = .returned (.tuple #[.pointer (some ⟨bz, oz, none⟩), .pointer (some ⟨br, ro, none⟩)]) ∧ Hold w0 w' (put (put σ bz oz false (X / Y)) br ro false (X % Y)) := by
  obtain ⟨vz, sz, vr, sr, nz, nr, hdist, z1, r1, kst⟩ := h.op2 hz hr hne
  obtain ⟨vx, sx, px⟩ := h.op hx
  obtain ⟨vy, sy, py⟩ := h.op hy
  have hm := fun w2 (hc : Chg w w2 (fun _ => False)) => natDiv_c w2 vz vr vx vy X Y sz sr sx sy (h.keep hc).glob (nz.stor.chg hc (fun _ _ h => h)) (nr.stor.chg hc (fun _ _ h => h)) (px.nat.chg hc (fun _ _ h => h)) (py.nat.chg hc (fun _ _ h => h)) hdist hY0 hY hX
  have x1 := px.c1
  have y1 := py.c1
  obtain ⟨pvx, pcx, rfl, _, _⟩ := px.nat.shape
  obtain ⟨pvy, pcy, rfl, _, _⟩ := py.nat.shape
  obtain ⟨pvz, pcz, rfl, _, _⟩ := nz.shape
  obtain ⟨pvr, pcr, rfl, _, _⟩ := nr.shape
  have hne1 : br ≠ bz := fun e => hne e.symm
  replace hz := Lib.hid hz
  replace hx := Lib.hid hx
  replace hy := Lib.hid hy
  replace hr := Lib.hid hr
  replace kst := Lib.hid kst
  replace hm := Lib.hid hm
  clear hX hY hY0 h nz nr hdist px py
  go_enter Tryz.func125, Tryz.ntmps125
  go_upto_region 1 with (fail)
  go_cut [10] (fun _ wx => Hold w0 wx (put (put σ bz oz false (X / Y)) br ro false (X % Y)))
  case first =>
    go_region_with ((go_at_call 147; refine (hm.out _ (by exact ⟨rfl, rfl, rfl, Nat.le_refl _, fun _ _ _ => rfl⟩)).mono ?_; rintro e w1 ⟨rq, rr, rfl, hdr, hch⟩; obtain ⟨pq, cq, rfl⟩ := hdr.sq; obtain ⟨pr, cr, rfl⟩ := hdr.sr; obtain ⟨z1', r1', fz', fr', y1', y2', y3', y4', hA, hB⟩ := kst.out.use hdr hch (by exact ⟨rfl, rfl, rfl, Nat.le_refl _, fun _ _ _ => rfl⟩) (by rfl); replace hA := Lib.hid hA; replace hB := Lib.hid hB; clear hdr hch))
    all_goals
      go_wp2_with fail
      go_meet
      first | exact hA.out | exact hB.out
  case rest =>
    clear z1 r1 x1 y1 hm kst
    have kx : ∀ b o X', Num σ b o false X' → ∃ N2, Num (put (put σ bz oz false (X / Y)) br ro false (X % Y)) b o false N2 := by
      intro b o X' hb
      obtain ⟨N1, h1⟩ := hb.sign hz.out (X / Y)
      exact h1.sign (hr.out.put_ne hz.out (fun e => hne1 e.1) _ _) (X % Y)
    obtain ⟨_, nx⟩ := kx _ _ _ hx.out
    obtain ⟨_, ny⟩ := kx _ _ _ hy.out
    have hr1 : Num (put σ bz oz false (X / Y)) br ro false R := hr.out.put_ne hz.out (fun e => hne1 e.1) _ _
    have nr : Num (put (put σ bz oz false (X / Y)) br ro false (X % Y)) br ro false (X % Y) := hr1.put _ _
    have nz : Num (put (put σ bz oz false (X / Y)) br ro false (X % Y)) bz oz false (X / Y) := (hz.out.put _ _).put_ne hr1 (fun e => hne e.1) _ _
    clear kx hr1
    obtain ⟨τ, hτ⟩ : ∃ τ, put (put σ bz oz false (X / Y)) br ro false (X % Y) = τ := ⟨_, rfl⟩
    rw [hτ] at nx ny nr nz hcut
    replace hτ := Lib.hid hτ
    obtain ⟨vx, sx, px⟩ := hcut.op nx
    obtain ⟨vy, sy, py⟩ := hcut.op ny
    obtain ⟨vz, sz, pz⟩ := hcut.op nz
    obtain ⟨vr, sr, pr⟩ := hcut.op nr
    have x0 := px.c0
    have y0 := py.c0
    have z0 := pz.c0
    have z1 := pz.c1
    have fz := pz.f0
    have r0 := pr.c0
    have r1 := pr.c1
    have fr := pr.f0
    have hZ := pz.neg false
    rw [put_self nz] at hZ
    have hR := pr.neg false
    rw [put_self nr] at hR
    obtain ⟨_, _, pzr⟩ := hR.op nz
    obtain ⟨_, _, prz⟩ := hZ.op nr
    have hZR := prz.neg false
    rw [put_self nr] at hZR
    have hRZ := pzr.neg false
    rw [put_self nz] at hRZ
    have u1 := prz.c0
    have u2 := prz.f0
    have u3 := pzr.c0
    have u4 := pzr.f0
    obtain ⟨pq1, cq1, rfl, _, _⟩ := pz.nat.shape
    obtain ⟨pq2, cq2, rfl, _, _⟩ := pr.nat.shape
    replace hZR := Lib.hid hZR
    replace hRZ := Lib.hid hRZ
    clear px py pz pr pzr prz hcut nx ny nz nr hZ hR hz hx hy hr
    obtain ⟨L, hL⟩ : ∃ L, (digs (X / Y)).length = L := ⟨_, rfl⟩
    obtain ⟨M, hM⟩ : ∃ M, (digs (X % Y)).length = M := ⟨_, rfl⟩
    rw [hL] at z1
    rw [hM] at r1
    clear hL hM
    by_cases hL0 : L = 0
    · subst hL0
      by_cases hM0 : M = 0
      · subst hM0
        go_wp2
        go_region
        all_goals
          go_wp2
          go_ret2
          exact ⟨rfl, by rw [hτ.out]; first | exact hZR.out | exact hRZ.out | exact hZR.out.drew | exact hRZ.out.drew⟩
      · have hMp : 0 < M := by omega
        go_wp2
        go_region
        all_goals
          go_wp2
          go_ret2
          exact ⟨rfl, by rw [hτ.out]; first | exact hZR.out | exact hRZ.out | exact hZR.out.drew | exact hRZ.out.drew⟩
    · have hLp : 0 < L := by omega
      by_cases hM0 : M = 0
      · subst hM0
        go_wp2
        go_region
        all_goals
          go_wp2
          go_ret2
          exact ⟨rfl, by rw [hτ.out]; first | exact hZR.out | exact hRZ.out | exact hZR.out.drew | exact hRZ.out.drew⟩
      · have hMp : 0 < M := by omega
        go_wp2
        go_region
        all_goals
          go_wp2
          go_ret2
          exact ⟨rfl, by rw [hτ.out]; first | exact hZR.out | exact hRZ.out | exact hZR.out.drew | exact hRZ.out.drew⟩
end Go.Proofs.YtlnillnngckegaaGreatDoor

namespace Go.Proofs.YtlnillnngckegaaGreatDoor
open Go Go.RowKit
set_option maxRecDepth 20000 in
set_option maxHeartbeats 2000000 in
theorem intQuo_c {w0 w : World} {σ : Sg} (h : Hold w0 w σ) {bz oz bx ox yb yo : Nat} {gz : Bool} {Z X Y : Nat} (hz : Num σ bz oz gz Z) (hx : Num σ bx ox false X) (hy : Num σ yb yo false Y) (hY0 : Y ≠ 0) (hX : (digs X).length ≤ 250) (hY : (digs Y).length < 40) :
    Calls Tryz.prog 134 #[.pointer (some ⟨bz, oz, none⟩), .pointer (some ⟨bx, ox, none⟩), .pointer (some ⟨yb, yo, none⟩)] w fun e w' => e = .returned (.pointer (some ⟨bz, oz, none⟩)) ∧ Hold w0 w' (put σ bz oz false (X / Y)) := by
  obtain ⟨vz, sz, pz⟩ := h.op hz
  obtain ⟨vx, sx, px⟩ := h.op hx
  obtain ⟨vy, sy, py⟩ := h.op hy
  have hm := fun w2 (hc : Chg w w2 (fun _ => False)) => natDiv_c w2 vz (.slice none 0 0) vx vy X Y sz none sx sy (h.keep hc).glob (pz.nat.stor.chg hc (fun _ _ h => h)) (stor_none _) (px.nat.chg hc (fun _ _ h => h)) (py.nat.chg hc (fun _ _ h => h)) (fun _ _ h => by cases h) hY0 hY hX
  have z1 := pz.c1
  have x0 := px.c0
  have x1 := px.c1
  have y0 := py.c0
  have y1 := py.c1
  obtain ⟨pvx, pcx, rfl, _, _⟩ := px.nat.shape
  obtain ⟨pvy, pcy, rfl, _, _⟩ := py.nat.shape
  obtain ⟨pvz, pcz, rfl, _, _⟩ := pz.nat.shape
  replace h := Lib.hid h
  replace hz := Lib.hid hz
  replace hx := Lib.hid hx
  replace hy := Lib.hid hy
  replace pz := Lib.hid pz
  replace px := Lib.hid px
  replace py := Lib.hid py
  replace hm := Lib.hid hm
  clear hX hY hY0
  go_enter Tryz.func134, Tryz.ntmps134
  go_wp2
  go_cut [7] (fun _ wx => Hold w0 wx (put σ bz oz gz (X / Y)))
  case first =>
    go_region_with ((go_at_call 147; refine (hm.out _ (by exact ⟨rfl, rfl, rfl, Nat.le_refl _, fun _ _ _ => rfl⟩)).mono ?_; rintro e w1 ⟨rq, rr, rfl, hr, hch⟩; obtain ⟨g1, g3, hH, pr, cr, rfl⟩ := pz.out.stored hz.out (by exact ⟨rfl, rfl, rfl, Nat.le_refl _, fun _ _ _ => rfl⟩) (by rfl) (hr.quo hch); replace hH := Lib.hid hH))
    all_goals
      go_wp2_with fail
      go_meet
      exact hH.out
  case rest =>
    clear x0 y0 x1 y1 z1
    have x0 := hcut.signs hz.out hx.out
    have y0 := hcut.signs hz.out hy.out
    obtain ⟨p, c, z1, z0, fz, hfin⟩ := hcut.fin hz.out
    have hfin := hfin false
    replace hfin := Lib.hid hfin
    clear hcut pz px py h hm
    obtain ⟨L, hL⟩ : ∃ L, (digs (X / Y)).length = L := ⟨_, rfl⟩
    rw [hL] at z1
    replace hL := Lib.hid hL
    by_cases hL0 : L = 0
    · replace hL := Lib.hid (show True from trivial)
      subst hL0
      go_wp2
      go_region
      all_goals
        go_wp2
        go_ret
        exact ⟨rfl, by first | exact hfin.out | exact hfin.out.drew⟩
    · have hLp : 0 < L := by omega
      go_wp2
      go_region
      all_goals
        go_wp2
        go_ret
        exact ⟨rfl, by first | exact hfin.out | exact hfin.out.drew⟩
end Go.Proofs.YtlnillnngckegaaGreatDoor

namespace Go.Proofs.YtlnillnngckegaaGreatDoor
open Go Go.RowKit
set_option maxRecDepth 20000 in
set_option maxHeartbeats 2000000 in
theorem intRem_c {w0 w : World} {σ : Sg} (h : Hold w0 w σ) {bz oz bx ox yb yo : Nat} {gz : Bool} {Z X Y : Nat} (hz : Num σ bz oz gz Z) (hx : Num σ bx ox false X) (hy : Num σ yb yo false Y) (hY0 : Y ≠ 0) (hX : (digs X).length ≤ 250) (hY : (digs Y).length < 40) :
    Calls Tryz.prog 167 #[.pointer (some ⟨bz, oz, none⟩), .pointer (some ⟨bx, ox, none⟩), .pointer (some ⟨yb, yo, none⟩)] w fun e w' => e = .returned (.pointer (some ⟨bz, oz, none⟩)) ∧ Hold w0 w' (put σ bz oz false (X % Y)) := by
  obtain ⟨vz, sz, pz⟩ := h.op hz
  obtain ⟨vx, sx, px⟩ := h.op hx
  obtain ⟨vy, sy, py⟩ := h.op hy
  have hm := fun w2 (hc : Chg w w2 (fun _ => False)) => natDiv_c w2 (.slice none 0 0) vz vx vy X Y none sz sx sy (h.keep hc).glob (stor_none _) (pz.nat.stor.chg hc (fun _ _ h => h)) (px.nat.chg hc (fun _ _ h => h)) (py.nat.chg hc (fun _ _ h => h)) (fun _ h => by cases h) hY0 hY hX
  have z1 := pz.c1
  have x0 := px.c0
  have x1 := px.c1
  have y0 := py.c0
  have y1 := py.c1
  obtain ⟨pvx, pcx, rfl, _, _⟩ := px.nat.shape
  obtain ⟨pvy, pcy, rfl, _, _⟩ := py.nat.shape
  obtain ⟨pvz, pcz, rfl, _, _⟩ := pz.nat.shape
  replace h := Lib.hid h
  replace hz := Lib.hid hz
  replace hx := Lib.hid hx
  replace hy := Lib.hid hy
  replace pz := Lib.hid pz
  replace px := Lib.hid px
  replace py := Lib.hid py
  replace hm := Lib.hid hm
  clear hX hY hY0
  go_enter Tryz.func167, Tryz.ntmps167
  go_wp2
  go_cut [7] (fun _ wx => Hold w0 wx (put σ bz oz gz (X % Y)))
  case first =>
    go_region_with ((go_at_call 147; refine (hm.out _ (by exact ⟨rfl, rfl, rfl, Nat.le_refl _, fun _ _ _ => rfl⟩)).mono ?_; rintro e w1 ⟨rq, rr, rfl, hr, hch⟩; obtain ⟨g1, g3, hH, pr, cr, rfl⟩ := pz.out.stored hz.out (by exact ⟨rfl, rfl, rfl, Nat.le_refl _, fun _ _ _ => rfl⟩) (by rfl) (hr.rem hch); replace hH := Lib.hid hH))
    all_goals
      go_wp2_with fail
      go_meet
      exact hH.out
  case rest =>
    clear x0 y0 x1 y1 z1
    have x0 := hcut.signs hz.out hx.out
    have y0 := hcut.signs hz.out hy.out
    obtain ⟨p, c, z1, z0, fz, hfin⟩ := hcut.fin hz.out
    have hfin := hfin false
    replace hfin := Lib.hid hfin
    clear hcut pz px py h hm
    obtain ⟨L, hL⟩ : ∃ L, (digs (X % Y)).length = L := ⟨_, rfl⟩
    rw [hL] at z1
    replace hL := Lib.hid hL
    by_cases hL0 : L = 0
    · replace hL := Lib.hid (show True from trivial)
      subst hL0
      go_wp2
      all_goals
        go_wp2
        go_ret
        exact ⟨rfl, by first | exact hfin.out | exact hfin.out.drew⟩
    · have hLp : 0 < L := by omega
      go_wp2
      all_goals
        go_wp2
        go_ret
        exact ⟨rfl, by first | exact hfin.out | exact hfin.out.drew⟩
end Go.Proofs.YtlnillnngckegaaGreatDoor
