/- impl.words: the words of a number, in new memory. impl.told of a finite decimal. The thin package's operations where the answer is a number: what they lean on. -/
import Derived.Test.YtlnillnngckegaaGreatDoorM14
import Derived.Test.YtlnillnngckegaaGreatDoorM17
import Derived.Test.YtlnillnngckegaaGreatDoorM36
import Derived.Test.YtlnillnngckegaaGreatDoorM38
namespace Go.Proofs.YtlnillnngckegaaGreatDoor
open Go Go.RowKit

set_option maxRecDepth 20000 in
set_option maxHeartbeats 2000000 in
theorem wordsOf_c {w0 w : World} {σ : Sg} (h : Hold w0 w σ) {bx ox : Nat} {N : Nat} (hx : BNum σ bx ox false N) (hN : (digs N).length ≤ 900) :
    Calls Tryz.prog 49 #[.pointer (some ⟨bx, ox, none⟩)] w fun E w' => ∃ p cc base, E = .returned (.slice p (digs N).length cc) ∧ w.heap.size ≤ base ∧ w'.ownsRow base 32 1 (.slice p (digs N).length cc) (digs N).length ((digs N).map uw) ∧ Hold w0 w' σ := by
  obtain ⟨i0, hi, hz0, hz1, hz2⟩ := info_parts makeU
  have km := mathBig_c h hx (by omega)
  have hsz := fun k hk => h.fresh (k := k) hk
  replace km := Lib.hid km
  replace hsz := Lib.hid hsz
  clear h hx
  go_enter Tryz.func49, Tryz.ntmps49
  go_wp2_with fail
  with_reducible refine km.out.mono ?_
  rintro E w1 ⟨k, rfl, hk, h1⟩
  have kb := bitsH_c h1 (num_int (upd_eq _ _ _))
  have hend : ∀ w', Chg w1 w' (fun _ => False) → Hold w0 w' σ := fun w' hc => (h1.keep hc).le (Le.skip (hsz.out k hk) (Le.refl _))
  have hks : k < w1.heap.size := (h1.lt (upd_eq _ _ _)).2
  have hb1 : w.heap.size ≤ w1.heap.size := by omega
  replace kb := Lib.hid kb
  replace hend := Lib.hid hend
  replace hb1 := Lib.hid hb1
  clear h1 hks hk
  go_wp2_with fail
  with_reducible refine kb.out.mono ?_
  rintro E w' ⟨v, o, rfl, hv, hw⟩
  obtain rfl := hw
  obtain ⟨D, hD⟩ : ∃ D, digs N = D := ⟨_, rfl⟩
  obtain ⟨vp, vc, rfl, hl1, hl2⟩ := hv.shape
  rw [hD] at hl1 hN ⊢
  have hcells : 0 < D.length → ∃ ad, vp = some ⟨ad, 0, none⟩ ∧ ∀ j, j < D.length → w1.cell? ⟨ad, j, none⟩ = some (.int .u64 (nth D j : Int)) := fun h0 => by
    have hN0 : N ≠ 0 := by rintro rfl; rw [digs_zero] at hD; rw [← hD] at h0; exact absurd h0 (by simp)
    obtain ⟨b, cap, C, rfl, he, ha, hc, hcap, ht, hl, hp⟩ := hv.pos hN0
    injection he with e1 e2 e3
    rw [hD] at ht hl
    refine ⟨b, e1, fun j hj => ?_⟩
    have h1 := ha.cellN (i := j) (by omega)
    have h2 := nth_take (l := C) (i := j) (k := D.length) hj
    rw [ht] at h2
    rw [h2]; exact h1
  replace hcells := Lib.hid hcells
  replace hD := Lib.hid hD
  clear hv hl1 hl2
  go_wp2
  go_loopw [3, 10] (fun v i wr => ∃ (q : Nat) (p : Option Addr) (cc : Nat), q ≤ D.length ∧ i = .int .i64 q ∧ v = .slice p q cc ∧ Below w1.heap.size w1 wr ∧ wr.ownsRow w1.heap.size 32 1 (.slice p q cc) q ((D.take q).map uw)) (fun _ i _ => D.length - (intOf i).toNat)
  case atStart => exact ⟨0, none, 0, Nat.zero_le _, rfl, rfl, Below.refl _ _, ⟨rfl, .inl ⟨rfl, rfl⟩⟩⟩
  case round =>
    obtain ⟨q, p, cc, hq, rfl, rfl, hb, hown⟩ := hrel
    by_cases hlt : q < D.length
    · obtain ⟨ad, rfl, hcs⟩ := hcells.out (by omega)
      have hcell := hb.cell (World.block_lt_of_cell? w1 _ (hcs q hlt)) |>.trans (hcs q hlt)
      have htq : D.take (q + 1) = D.take q ++ [nth D q] := take_nth hlt
      have hbs := hb.size
      replace htq := Lib.hid htq
      replace hown := Lib.hid hown
      replace hb := Lib.hid hb
      clear hcs
      go_wp2_with (at_builtin; refine wpList_append_own _ rfl _ _ 22 rfl w1.heap.size 32 i0 (.int .u64 0) 1 8 Tryz.underlying22 hi hz0 hz1 hz2 rfl (by decide) _ _ _ rfl (hown.out.alloc _) ⟨wr.heap.size, 0, none⟩ 1 1 [.int .u64 (nth D q : Int)] rfl rfl ?c1 ?c2 ?c3 ?c4 ?c5 ?_)
      case c1 => exact cell_one_new _ _ _
      case c2 => intro u hu; simp only [List.mem_cons, List.not_mem_nil, or_false] at hu; subst hu; rfl
      case c3 => unfold maxLen; omega
      case c4 => omega
      case c5 => simp; omega
      intro v' w2 hown' hgrow _
      obtain ⟨p', cc', rfl⟩ := own_slice3 hown'
      replace hown' := Lib.hid hown'
      replace hgrow := Lib.hid hgrow
      go_wp2
      go_roundw
      case rel =>
        refine ⟨q + 1, p', cc', by omega, by go_num, rfl, ?_, ?_⟩
        · exact (hb.out.alloc hbs _).grown hgrow.out (by simp; omega) (fun g hg => (hown.out.lt g hg).1)
        · have h := hown'.out
          rw [htq.out, List.map_append, List.map_take]
          exact h
      case measure => simp [intOf]; omega
    · obtain rfl : q = D.length := by omega
      have htl : D.take D.length = D := List.take_of_length_le (Nat.le_refl _)
      rw [htl] at hown
      replace hown := Lib.hid hown
      replace hb := Lib.hid hb
      go_wp2
      go_ret
      rw [hD.out]
      exact ⟨p, cc, _, rfl, hb1.out, hown.out, hend.out _ (Below.chg hb.out)⟩

/-- An own row of words is a row that is read; where it lies. -/
theorem own_rdW {w : World} {base l c : Nat} {p : Option Addr} {X : List Nat} (hown : w.ownsRow base 32 1 (.slice p l c) l (X.map uw)) (hX : X.length = l) (hW : Wd X) : RdW w p l c X ∧ ∀ ad, p = some ad → base ≤ ad.block := by
  refine ⟨?_, fun ad ha => (hown.lt ad.block (by subst ha; rfl)).1⟩
  rcases hown.2 with ⟨h1, h2⟩ | ⟨g, cap, cur, h1, hg, hgg, hn, hm, hcs, htake⟩
  · injection h1 with h1 h3 h4
    subst h3 h4
    exact ⟨hX, Nat.le_refl _, by omega, hW, fun h => absurd h (Nat.lt_irrefl _)⟩
  · injection h1 with h1 h3 h4
    subst h1 h4
    refine ⟨hX, hn, by unfold maxLen at hm; omega, hW, fun _ => ⟨_, rfl, fun j hj => ?_⟩⟩
    exact hown.cells (g := g) rfl j (uw (nth X j)) (by rw [List.getElem?_map, get_nth (by omega)]; rfl)
theorem RdW.chg {w w' : World} {A : Option Addr} {l c : Nat} {D : List Nat} {S : Nat → Prop} (h : RdW w A l c D) (hb : Chg w w' S) (hS : ∀ k, S k → w.heap.size ≤ k) : RdW w' A l c D :=
  ⟨h.len, h.cap, h.max, h.wd, fun hl => by
    obtain ⟨ad, e, hc⟩ := h.cells hl
    exact ⟨ad, e, fun j hj => hb.cell (hc j hj) (fun hs => by have := World.block_lt_of_cell? w _ (hc j hj); have := hS _ hs; omega)⟩⟩
theorem RdW.chgAt {w w' : World} {A : Option Addr} {l c : Nat} {D : List Nat} {S : Nat → Prop} (h : RdW w A l c D) (hb : Chg w w' S) (hS : ∀ ad, A = some ad → ¬ S ad.block) : RdW w' A l c D :=
  ⟨h.len, h.cap, h.max, h.wd, fun hl => by
    obtain ⟨ad, e, hc⟩ := h.cells hl
    exact ⟨ad, e, fun j hj => hb.cell (hc j hj) (by rw [add_block]; exact hS ad e)⟩⟩
end Go.Proofs.YtlnillnngckegaaGreatDoor

namespace Go.Proofs.YtlnillnngckegaaGreatDoor
open Go Go.RowKit

/-- A finite decimal as it is told: its words lie in new memory. -/
def ToldF (w0 w w' : World) (σ : Sg) (n : Bool) (e : Int) (N : Nat) (E : Ending) : Prop :=
  ∃ p cc, E = .returned (.agg #[.int .i64 0, .bool n, .slice p (digs N).length cc, .int .i64 e]) ∧ RdW w' p (digs N).length cc (digs N) ∧ (∀ ad, p = some ad → w.heap.size ≤ ad.block) ∧ Hold w0 w' σ
theorem Hold.raw23 {w0 w : World} {τ : Sg} (h : Hold w0 w τ) {b : Nat} {a0 a1 a2 a3 : Value} {T : TypeId} (hb : τ b = some (Go.Proofs.YtlnillnngckegaaGreatDoor.raw (.cells #[a0, a1, a2, a3] T (0, 0)))) (x y : Value) :
    ∃ V τ', (w.setCell ⟨b, 2, none⟩ x).setCell ⟨b, 3, none⟩ y = V ∧ Hold w0 V τ' ∧ τ' b = some (Go.Proofs.YtlnillnngckegaaGreatDoor.raw (.cells #[a0, a1, x, y] T (0, 0))) ∧ (∀ c, c ≠ b → τ' c = τ c) ∧ Chg w V (fun k => k = b) :=
  ⟨_, _, rfl, (h.setRaw hb).setRaw (upd_eq _ _ _), by rw [upd_eq]; rfl, fun c hc => by rw [upd_ne _ _ hc, upd_ne _ _ hc], (chg_setB w b 2 x).trans ((chg_setB _ b 3 y).mono (fun _ _ h => .inl h))⟩
theorem Hold.raw32 {w0 w : World} {τ : Sg} (h : Hold w0 w τ) {b : Nat} {a0 a1 a2 a3 : Value} {T : TypeId} (hb : τ b = some (Go.Proofs.YtlnillnngckegaaGreatDoor.raw (.cells #[a0, a1, a2, a3] T (0, 0)))) (x y : Value) :
    ∃ V τ', (w.setCell ⟨b, 3, none⟩ y).setCell ⟨b, 2, none⟩ x = V ∧ Hold w0 V τ' ∧ τ' b = some (Go.Proofs.YtlnillnngckegaaGreatDoor.raw (.cells #[a0, a1, x, y] T (0, 0))) ∧ (∀ c, c ≠ b → τ' c = τ c) ∧ Chg w V (fun k => k = b) :=
  ⟨_, _, rfl, (h.setRaw hb).setRaw (upd_eq _ _ _), by rw [upd_eq]; rfl, fun c hc => by rw [upd_ne _ _ hc, upd_ne _ _ hc], (chg_setB w b 3 y).trans ((chg_setB _ b 2 x).mono (fun _ _ h => .inl h))⟩
theorem Hold.raw4 {w0 w : World} {τ : Sg} (h : Hold w0 w τ) {b : Nat} {a0 a1 a2 a3 : Value} {T : TypeId} (hb : τ b = some (Go.Proofs.YtlnillnngckegaaGreatDoor.raw (.cells #[a0, a1, a2, a3] T (0, 0)))) (x0 x1 x2 x3 : Value) :
    ∃ V τ', (((w.setCell ⟨b, 0, none⟩ x0).setCell ⟨b, 1, none⟩ x1).setCell ⟨b, 2, none⟩ x2).setCell ⟨b, 3, none⟩ x3 = V ∧ Hold w0 V τ' ∧ τ' b = some (Go.Proofs.YtlnillnngckegaaGreatDoor.raw (.cells #[x0, x1, x2, x3] T (0, 0))) ∧ (∀ c, c ≠ b → τ' c = τ c) ∧ Chg w V (fun k => k = b) :=
  ⟨_, _, rfl, (((h.setRaw hb).setRaw (upd_eq _ _ _)).setRaw (upd_eq _ _ _)).setRaw (upd_eq _ _ _), by rw [upd_eq]; rfl, fun c hc => by rw [upd_ne _ _ hc, upd_ne _ _ hc, upd_ne _ _ hc, upd_ne _ _ hc],
    (((chg_setB w b 0 x0).trans ((chg_setB _ b 1 x1).mono (fun _ _ h => .inl h))).trans ((chg_setB _ b 2 x2).mono (fun _ _ h => .inl h))).trans ((chg_setB _ b 3 x3).mono (fun _ _ h => .inl h))⟩
set_option maxRecDepth 20000 in
set_option maxHeartbeats 2000000 in
theorem toldF_c {w0 w : World} {σ : Sg} (h : Hold w0 w σ) {d : Nat} {n : Bool} {e : Int} {N : Nat} (hd : σ d = some (dec 0 n e false N)) (hN : (digs N).length ≤ 900) (he : -100000 ≤ e ∧ e ≤ 100000) :
    Calls Tryz.prog 27 #[.pointer (some ⟨d, 0, none⟩)] w fun E w' => ToldF w0 w w' σ n e N E := by
  have hlt : d < w.heap.size := (h.lt hd).2
  have d0 := h.c0 hd
  have d1 := h.c1 hd
  have ew : IntKind.i64.wrap e = e := IntWalk.i64_in _ (by omega)
  have h2 := (h.newRaw (.cells #[.int .i64 0, .bool false, .slice none 0 0, .int .i64 0] 24 (0, 0))).newRaw (.cells #[.int .i64 0, .bool n, .slice none 0 0, .int .i64 0] 24 (0, 0))
  simp only [World.size_alloc] at h2
  have hT := h.fresh (k := w.heap.size) (Nat.le_refl _)
  have hT1 := h.fresh (k := w.heap.size + 1) (by omega)
  replace h2 := Lib.hid h2
  replace hT := Lib.hid hT
  replace hT1 := Lib.hid hT1
  replace hd := Lib.hid hd
  clear h
  go_enter Tryz.func27, Tryz.ntmps27
  go_upto_region 3 with (fail)
  obtain ⟨T, hTe⟩ : ∃ T, w.heap.size = T := ⟨_, rfl⟩
  have hb0 : w.heap.size ≤ T := Nat.le_of_eq hTe
  replace hb0 := Lib.hid hb0
  clear hlt d0 d1
  rw [hTe] at h2 hT hT1 ⊢
  generalize (w.alloc (.cells #[.int .i64 0, .bool false, .slice none 0 0, .int .i64 0] 24 (0, 0))).alloc (.cells #[.int .i64 0, .bool n, .slice none 0 0, .int .i64 0] 24 (0, 0)) = W at h2 ⊢
  replace hTe := Lib.hid hTe
  have h2 := h2.out
  have hle : Le σ (upd (upd σ T (raw (.cells #[.int .i64 0, .bool false, .slice none 0 0, .int .i64 0] 24 (0, 0)))) (T + 1) (raw (.cells #[.int .i64 0, .bool n, .slice none 0 0, .int .i64 0] 24 (0, 0)))) := Le.skip hT1.out (Le.skip hT.out (Le.refl _))
  have a1 := upd_eq (upd σ T (raw (.cells #[.int .i64 0, .bool false, .slice none 0 0, .int .i64 0] 24 (0, 0)))) (T + 1) (raw (.cells #[.int .i64 0, .bool n, .slice none 0 0, .int .i64 0] 24 (0, 0)))
  have a0 : upd (upd σ T (raw (.cells #[.int .i64 0, .bool false, .slice none 0 0, .int .i64 0] 24 (0, 0)))) (T + 1) (raw (.cells #[.int .i64 0, .bool n, .slice none 0 0, .int .i64 0] 24 (0, 0))) T = some (raw (.cells #[.int .i64 0, .bool false, .slice none 0 0, .int .i64 0] 24 (0, 0))) := by rw [upd_ne _ _ (by omega), upd_eq]
  generalize upd (upd σ T (raw (.cells #[.int .i64 0, .bool false, .slice none 0 0, .int .i64 0] 24 (0, 0)))) (T + 1) (raw (.cells #[.int .i64 0, .bool n, .slice none 0 0, .int .i64 0] 24 (0, 0))) = τ at h2 hle a1 a0
  have d2 := h2.c2 (hle _ _ hd.out)
  have kw := fun w2 (hc : Chg W w2 (fun _ => False)) => wordsOf_c (h2.keep hc) (bnum_dec (hle _ _ hd.out)) hN
  have hWT : T + 1 < W.heap.size := (h2.lt a1).2
  have hdT1 : d ≠ T + 1 := by rintro rfl; have := hd.out; rw [hT1.out] at this; cases this
  have hdT : d ≠ T := by rintro rfl; have := hd.out; rw [hT.out] at this; cases this
  replace kw := Lib.hid kw
  replace a1 := Lib.hid a1
  replace a0 := Lib.hid a0
  replace hle := Lib.hid hle
  replace h2 := Lib.hid h2
  go_region_with ((go_at_call 49; refine (kw.out _ (by exact ⟨rfl, rfl, rfl, Nat.le_refl _, fun _ _ _ => rfl⟩)).mono ?_; rintro E w3 ⟨p, cc, base, rfl, hbase, hown, h3⟩; have e2 := h3.c2 (hle.out _ _ hd.out); have s2 : w3.cell? ⟨T + 1, 2, none⟩ = some (.slice none 0 0) := cellB (h3.raw a1.out) rfl; have s3 : w3.cell? ⟨T + 1, 3, none⟩ = some (.int .i64 0) := cellB (h3.raw a1.out) rfl; have f2 := frozenB (h3.raw a1.out) 2; have f3 := frozenB (h3.raw a1.out) 3; replace h3 := Lib.hid h3; replace hown := Lib.hid hown; replace hbase := Lib.hid hbase))
  all_goals
    clear s2 s3 f2 f3 e2
    first
      | (obtain ⟨V, τ1, hV, h4, a2, hne, hq⟩ := h3.out.raw23 a1.out (.slice p (digs N).length cc) (.int .i64 e)
         rw [hV])
      | (obtain ⟨V, τ1, hV, h4, a2, hne, hq⟩ := h3.out.raw32 a1.out (.slice p (digs N).length cc) (.int .i64 e)
         rw [hV])
    clear hV
    have a3 := (hne T (by omega)).trans a0.out
    have hle1 : Le σ τ1 := fun k it hk => by rw [hne k (by rintro rfl; rw [hT1.out] at hk; cases hk)]; exact hle.out k it hk
    have hb1 := h4.raw a2
    have hb0' := h4.raw a3
    have r0 := cellB hb1 (i := 0) rfl
    have r1 := cellB hb1 (i := 1) rfl
    have r2 := cellB hb1 (i := 2) rfl
    have r3 := cellB hb1 (i := 3) rfl
    have z0 := cellB hb0' (i := 0) rfl
    have z1 := cellB hb0' (i := 1) rfl
    have z2 := cellB hb0' (i := 2) rfl
    have z3 := cellB hb0' (i := 3) rfl
    have y0 := frozenB hb0' 0
    have y1 := frozenB hb0' 1
    have y2 := frozenB hb0' 2
    have y3 := frozenB hb0' 3
    replace h4 := Lib.hid h4
    replace a3 := Lib.hid a3
    replace hq := Lib.hid hq
    replace hle1 := Lib.hid hle1
    clear hb1 hb0' hne a2
    go_wp2
    clear r0 r1 r2 r3 z0 z1 z2 z3 y0 y1 y2 y3
    obtain ⟨V2, τ2, hV, h5, a4, hne, hq2⟩ := h4.out.raw4 a3.out (.int .i64 0) (.bool n) (.slice p (digs N).length cc) (.int .i64 e)
    rw [hV]
    clear hV
    have hb0' := h5.raw a4
    have r0 := cellB hb0' (i := 0) rfl
    have r1 := cellB hb0' (i := 1) rfl
    have r2 := cellB hb0' (i := 2) rfl
    have r3 := cellB hb0' (i := 3) rfl
    have hle2 : Le σ τ2 := fun k it hk => by rw [hne k (by rintro rfl; rw [hT.out] at hk; cases hk)]; exact hle1.out k it hk
    have hch : Chg w3 V2 (fun k => k = T + 1 ∨ k = T) := (hq.out.mono (fun _ _ h => .inl h)).trans (hq2.mono (fun _ _ h => .inl (.inr h)))
    obtain ⟨hw1, hw2⟩ := own_rdW hown.out rfl (Wd_digs N)
    have hbs : T + 1 < base := Nat.lt_of_lt_of_le hWT hbase.out
    have hrd := hw1.chgAt hch (fun ad ha e1 => by have := hw2 ad ha; omega)
    have hlo : ∀ ad, p = some ad → w.heap.size ≤ ad.block := fun ad ha => by have h1 := hw2 ad ha; have h2 := hb0.out; omega
    exact bodyPost_ret (v := .agg #[.int .i64 0, .bool n, .slice p (digs N).length cc, .int .i64 e]) (by simp [results, Tryz.results27, go_sem, r0, r1, r2, r3]) rfl ⟨p, cc, rfl, hrd, hlo, h5.le hle2⟩
end Go.Proofs.YtlnillnngckegaaGreatDoor

namespace Go.Proofs.YtlnillnngckegaaGreatDoor
open Go Go.RowKit

/-- More is told. -/
theorem Hold.more {w0 w w' : World} {σ : Sg} (h : Hold w0 w σ) {k : Nat} {o : Obj} (hc : Chg w w' (fun _ => False)) (hk : w.heap.size ≤ k) (ho : w'.heap[k]? = some o) :
    ∃ τ, Hold w0 w' τ ∧ Le σ τ ∧ τ k = some (Go.Proofs.YtlnillnngckegaaGreatDoor.raw o) :=
  ⟨_, h.add (it := Go.Proofs.YtlnillnngckegaaGreatDoor.raw o) (s := fun _ => none) hc hk (.inr ⟨Nat.le_of_ble_eq_true rfl, ho⟩) (fun _ _ _ _ _ h => by cases h) (fun _ _ _ _ _ _ _ _ _ h => by cases h), Le.skip (h.fresh hk) (Le.refl _), upd_eq _ _ _⟩
theorem MadeF.more {w0 w w' : World} {σ : Sg} {E : Ending} {n : Bool} {ex : Int} {N : Nat} (hm : MadeF w w' E n ex N) (h : Hold w0 w σ) :
    ∃ k τ, E = .returned (.pointer (some ⟨k, 0, none⟩)) ∧ w.heap.size ≤ k ∧ Hold w0 w' τ ∧ Le σ τ ∧ τ k = some (dec 0 n ex false N) := by
  obtain ⟨k, rfl, hk, h2⟩ := MadeF.hold h hm
  exact ⟨k, _, rfl, hk, h2, Le.skip (h.fresh hk) (Le.refl _), upd_eq _ _ _⟩
theorem Le.trans {a b c : Sg} (h : Le a b) (h' : Le b c) : Le a c := fun k it hk => h' k it (h k it hk)
/-- The boxes at an operation's start. -/
theorem lay4 {w : World} (hG : Glob w) (o1 o2 o3 : Obj) : ∃ σ : Sg, Hold w ((((w.alloc o1).alloc o2).alloc o3).alloc (.cells #[.int .i8 0, .bool false, .int .i32 0, .bool false, .slice none 0 0, .bool false] 56 (0, 0))) σ ∧
    σ w.heap.size = some (raw o1) ∧ σ (w.heap.size + 1) = some (raw o2) ∧ σ (w.heap.size + 2) = some (raw o3) ∧ σ (w.heap.size + 3) = some (dec 0 false 0 false 0) := by
  have h := ((((Hold.start hG).newRaw o1).newRaw o2).newRaw o3).newDec 0 0 false
  refine ⟨_, h, ?_, ?_, ?_, ?_⟩
  all_goals simp only [World.size_alloc]
  · rw [upd_ne _ _ (by omega), upd_ne _ _ (by omega), upd_ne _ _ (by omega), upd_eq]
  · rw [upd_ne _ _ (by omega), upd_ne _ _ (by omega), upd_eq]
  · rw [upd_ne _ _ (by omega), upd_eq]
  · rw [upd_eq]
theorem lay5 {w : World} (hG : Glob w) (o1 o2 o3 o4 : Obj) : ∃ σ : Sg, Hold w (((((w.alloc o1).alloc o2).alloc o3).alloc o4).alloc (.cells #[.int .i8 0, .bool false, .int .i32 0, .bool false, .slice none 0 0, .bool false] 56 (0, 0))) σ ∧
    σ w.heap.size = some (raw o1) ∧ σ (w.heap.size + 1) = some (raw o2) ∧ σ (w.heap.size + 2) = some (raw o3) ∧ σ (w.heap.size + 3) = some (raw o4) ∧ σ (w.heap.size + 4) = some (dec 0 false 0 false 0) := by
  have h := (((((Hold.start hG).newRaw o1).newRaw o2).newRaw o3).newRaw o4).newDec 0 0 false
  refine ⟨_, h, ?_, ?_, ?_, ?_, ?_⟩
  all_goals simp only [World.size_alloc]
  · rw [upd_ne _ _ (by omega), upd_ne _ _ (by omega), upd_ne _ _ (by omega), upd_ne _ _ (by omega), upd_eq]
  · rw [upd_ne _ _ (by omega), upd_ne _ _ (by omega), upd_ne _ _ (by omega), upd_eq]
  · rw [upd_ne _ _ (by omega), upd_ne _ _ (by omega), upd_eq]
  · rw [upd_ne _ _ (by omega), upd_eq]
  · rw [upd_eq]
/-- The boxes of a context and of a decimal as plain data. -/
def Bd2 (s : Nat) (p a b : Int) (m : Nat) (fx ex : Int) (nx : Bool) (Ax : Option Addr) (lx cx : Nat) (w : World) : Prop :=
  w.heap[s]? = some (.cells #[.int .u64 p, .int .i64 a, .int .i64 b, .int .i64 (m : Int)] 34 (0, 0)) ∧ w.heap[s + 1]? = some (.cells #[.int .i64 fx, .bool nx, .slice Ax lx cx, .int .i64 ex] 24 (0, 0))
theorem Bd2.cells {s : Nat} {p a b : Int} {m : Nat} {fx ex : Int} {nx : Bool} {Ax : Option Addr} {lx cx : Nat} {w : World} (h : Bd2 s p a b m fx ex nx Ax lx cx w) :
    w.cell? ⟨s, 0, none⟩ = some (.int .u64 p) ∧ w.cell? ⟨s, 1, none⟩ = some (.int .i64 a) ∧ w.cell? ⟨s, 2, none⟩ = some (.int .i64 b) ∧ w.cell? ⟨s, 3, none⟩ = some (.int .i64 (m : Int)) ∧
    w.cell? ⟨s + 1, 0, none⟩ = some (.int .i64 fx) ∧ w.cell? ⟨s + 1, 1, none⟩ = some (.bool nx) ∧ w.cell? ⟨s + 1, 2, none⟩ = some (.slice Ax lx cx) ∧ w.cell? ⟨s + 1, 3, none⟩ = some (.int .i64 ex) :=
  ⟨cellB h.1 rfl, cellB h.1 rfl, cellB h.1 rfl, cellB h.1 rfl, cellB h.2 rfl, cellB h.2 rfl, cellB h.2 rfl, cellB h.2 rfl⟩
/-- What an operation of the thin package hands back: a finite decimal in new memory, and its conditions. -/
def ImplR (w w' : World) (E : Ending) (n : Bool) (e : Int) (N cn : Nat) : Prop :=
  ∃ p cc, E = .returned (.tuple #[.agg #[.int .i64 0, .bool n, .slice p (digs N).length cc, .int .i64 e], .int .i64 (cn : Int), .bool true]) ∧ RdW w' p (digs N).length cc (digs N) ∧ (∀ ad, p = some ad → w.heap.size ≤ ad.block) ∧ Chg w w' (fun _ => False)
theorem rndC_4096 (N p : Nat) : rndC N p < 4096 := (calm_4096 (rndC_calm N p)).1
end Go.Proofs.YtlnillnngckegaaGreatDoor
