/- big.Int on what is held: mul, Quo, Rem. big.Int on what is held: Quo. big.Int on what is held: QuoRem. -/
import Derived.BigRegion
import Derived.BigQuiet
import Derived.Deep.DeepCutAuto
import Derived.Test.YtonepclpllelfaaGreatDoorC17
import Derived.Test.YtonepclpllelfaaGreatDoorC18
namespace Go.Proofs.YtonepclpllelfaaGreatDoor
open Go Go.RowKit

theorem eqlInt {w : World} {a b oa ob : Nat} {ca cb : Array Value} {ta tb : TypeId} (hne : (⟨a, oa, none⟩ : Addr) ≠ ⟨b, ob, none⟩) (ha : w.heap[a]? = some (.cells ca ta (0, 0))) (hb : w.heap[b]? = some (.cells cb tb (0, 0))) :
    (binOp .eql 110 (.pointer (some ⟨a, oa, none⟩)) (.pointer (some ⟨b, ob, none⟩))).run Tryz.prog w = .ok (.bool false) w := by
  obtain ⟨j, hj, hs⟩ := infoInt
  exact run_eql_ptr_other Tryz.underlying110 hj hs hne ha hb
theorem neqIntSame {w : World} (a : Addr) : (binOp .neq 110 (.pointer (some a)) (.pointer (some a))).run Tryz.prog w = .ok (.bool false) w := by
  obtain ⟨j, hj, _⟩ := infoInt
  exact run_neq_ptr_same a Tryz.underlying110 hj

/-- A callee's contract, met behind a quiet region. -/
theorem quietAdd {P : Program} {f : FuncId} {args : Array Value} {w : World} {a n : Nat} {v : Value}
    (h : Calls P f args (w.drewN (a + n)) fun e w' => e = .returned v ∧ ∃ m, w' = (w.drewN (a + n)).drewN m) : Calls P f args (w.drewN (a + n)) fun e w'' => e = .returned v ∧ ∃ m, w'' = w.drewN (a + m) :=
  h.mono fun _ _ ⟨he, m, hm⟩ => ⟨he, n + m, by rw [hm, World.drewN_drewN, Nat.add_assoc]⟩
/-- What is known of a place: its sign, its words, that both may be written. -/
structure Opn (w0 w : World) (σ : Sg) (b o : Nat) (g : Bool) (N : Nat) (v : Value) (s : Option Nat) : Prop where
  c0 : w.cell? ⟨b, o, none⟩ = some (.bool g)
  c1 : w.cell? ⟨b, o + 1, none⟩ = some v
  f0 : w.frozen? ⟨b, o, none⟩ = false
  f1 : w.frozen? ⟨b, o + 1, none⟩ = false
  nat : IsNat w v N s
  sep : ∀ k, s = some k → ∀ c it, σ c = some it → k ≠ c
  base : ∀ k, s = some k → w0.heap.size ≤ k
  abs : ∀ w' v' N' s', Chg w w' (fun k => some k = s) → IsNat w' v' N' s' → (s' = s ∨ s' = none ∨ ∃ k, s' = some k ∧ w.heap.size ≤ k) → Hold w0 (w'.setCell ⟨b, o + 1, none⟩ v') (put σ b o g N')
  neg : ∀ g', Hold w0 (w.setCell ⟨b, o, none⟩ (.bool g')) (put σ b o g' N)
  blk : ∃ cs T, w.heap[b]? = some (.cells cs T (0, 0)) ∧ cs[o]? = some (.bool g) ∧ cs[o + 1]? = some v
theorem Hold.op {w0 w : World} {σ : Sg} (h : Hold w0 w σ) {b o : Nat} {g : Bool} {N : Nat} (hn : Num σ b o g N) : ∃ v s, Opn w0 w σ b o g N v s := by
  obtain ⟨v, s, cs, T, h1, _, h3, h4, h5, h6, h7, h8⟩ := h.opened hn
  exact ⟨v, s, cellB h1 h3, cellB h1 h4, frozenB h1 _, frozenB h1 _, h5, fun k hk => (h6 k hk).2.2, fun k hk => (h6 k hk).2.1, h7, h8, cs, T, h1, h3, h4⟩
/-- The cells of any place stay while words are written elsewhere. -/
theorem Opn.after {w0 w w' : World} {σ : Sg} {b o c p : Nat} {g g1 : Bool} {N N1 : Nat} {v v1 : Value} {s s1 : Option Nat} (hb : Opn w0 w σ b o g N v s) (hc : Opn w0 w σ c p g1 N1 v1 s1) (hcn : Num σ c p g1 N1) (h : Chg w w' (fun k => some k = s)) :
    w'.cell? ⟨c, p, none⟩ = some (.bool g1) ∧ w'.cell? ⟨c, p + 1, none⟩ = some v1 ∧ w'.frozen? ⟨c, p, none⟩ = false ∧ w'.frozen? ⟨c, p + 1, none⟩ = false := by
  obtain ⟨cs, T, h1, h2, h3⟩ := hc.blk
  obtain ⟨it, hit, _⟩ := hcn
  have h4 := h.heapB h1 (fun e => hb.sep c e.symm c it hit rfl)
  exact ⟨cellB h4 h2, cellB h4 h3, frozenB h4 _, frozenB h4 _⟩
/-- A number comes into a place. -/
theorem Opn.stored {w0 w w2 w1 : World} {σ : Sg} {b o : Nat} {g : Bool} {N M : Nat} {v r : Value} {s : Option Nat} (p : Opn w0 w σ b o g N v s) (hn : Num σ b o g N) (hd : Chg w w2 (fun _ => False)) (hz : w2.heap.size = w.heap.size) (h : NatRes w2 w1 s r M) :
    w1.cell? ⟨b, o + 1, none⟩ = some v ∧ w1.frozen? ⟨b, o + 1, none⟩ = false ∧ Hold w0 (w1.setCell ⟨b, o + 1, none⟩ r) (put σ b o g M) ∧ ∃ pr cr, r = .slice pr (digs M).length cr := by
  obtain ⟨o', hr, ho', hch⟩ := h
  have hch' : Chg w w1 (fun k => some k = s) := (hd.mono (fun _ _ h => h.elim)).trans (hch.mono (fun _ _ h => .inl h))
  obtain ⟨_, g1, _, g3⟩ := Opn.after p p hn hch'
  obtain ⟨pr, cr, rfl, _, _⟩ := hr.shape
  refine ⟨g1, g3, p.abs w1 _ M o' hch' hr ?_, pr, cr, rfl⟩
  rcases ho' with h | h | ⟨k, h, hk⟩
  · exact .inl h
  · exact .inr (.inl h)
  · exact .inr (.inr ⟨k, h, by omega⟩)
/-- Signs, where words were stored. -/
theorem Hold.signs {w0 w : World} {σ : Sg} {b o c p : Nat} {g g1 : Bool} {M N N1 : Nat} (h : Hold w0 w (put σ b o g M)) (hz : Num σ b o g N) (hx : Num σ c p g1 N1) : w.cell? ⟨c, p, none⟩ = some (.bool g1) := by
  obtain ⟨N2, hx2⟩ := hx.sign hz M
  obtain ⟨v, s, p⟩ := h.op hx2
  exact p.c0
/-- A place whose sign is to be laid. -/
theorem Hold.fin {w0 w : World} {σ : Sg} {b o : Nat} {g : Bool} {M N : Nat} (h : Hold w0 w (put σ b o g M)) (hz : Num σ b o g N) :
    ∃ p c, w.cell? ⟨b, o + 1, none⟩ = some (.slice p (digs M).length c) ∧ w.cell? ⟨b, o, none⟩ = some (.bool g) ∧ w.frozen? ⟨b, o, none⟩ = false ∧ ∀ g', Hold w0 (w.setCell ⟨b, o, none⟩ (.bool g')) (put σ b o g' M) := by
  obtain ⟨v, s, p⟩ := h.op (hz.put g M)
  obtain ⟨pr, cr, rfl, _, _⟩ := p.nat.shape
  refine ⟨pr, cr, p.c1, p.c0, p.f0, fun g' => ?_⟩
  have h1 := p.neg g'
  rw [put_put hz] at h1
  exact h1
/-- A place of an apd.BigInt. -/
def BNum (σ : Sg) (b o : Nat) (g : Bool) (N : Nat) : Prop := ∃ it, σ b = some it ∧ it.num o = some (g, N) ∧ it.k ≠ 2
theorem BNum.num {σ : Sg} {b o : Nat} {g : Bool} {N : Nat} (h : BNum σ b o g N) : Num σ b o g N := by obtain ⟨it, h1, h2, _⟩ := h; exact ⟨it, h1, h2⟩
theorem BNum.put {σ : Sg} {b o : Nat} {g : Bool} {N : Nat} (h : BNum σ b o g N) (g' : Bool) (N' : Nat) : BNum (put σ b o g' N') b o g' N' := by
  obtain ⟨it, h1, h2, h3⟩ := h
  rw [put_upd h1]
  exact ⟨_, upd_eq _ _ _, It.num_put h2 _ _, by rw [It.put_k]; exact h3⟩
theorem bnum_dec {σ : Sg} {b : Nat} {f e : Int} {n g : Bool} {N : Nat} (h : σ b = some (dec f n e g N)) : BNum σ b 3 g N := ⟨_, h, rfl, Nat.ne_of_beq_eq_false rfl⟩
theorem bnum_big {σ : Sg} {b : Nat} {g : Bool} {N : Nat} (h : σ b = some (big g N)) : BNum σ b 0 g N := ⟨_, h, rfl, Nat.ne_of_beq_eq_false rfl⟩
theorem Hold.bmin {w0 w : World} {σ : Sg} (h : Hold w0 w σ) {b o : Nat} {g : Bool} {N : Nat} (hn : BNum σ b o g N) : w.frozen? ⟨b, o + 2, none⟩ = false ∧ w.cell? ⟨b, o + 2, none⟩ = some (.bool false) ∧ Hold w0 (w.setCell ⟨b, o + 2, none⟩ (.bool false)) σ := by
  obtain ⟨it, h1, h2, h3⟩ := hn
  exact h.minus h1 h2 h3
theorem DivRes.quo {w w' : World} {oz : Option Nat} {rq rr : Value} {q r : Nat} (h : DivRes w w' oz none rq rr q r) (hc : Chg w w' (fun k => some k = oz ∨ some k = none)) : NatRes w w' oz rq q := by
  obtain ⟨oq, or', hq, hr, hoq, hor, _⟩ := h
  exact ⟨oq, hq, hoq, hc.mono (fun _ _ h => h.elim id (fun h => by cases h))⟩
theorem DivRes.rem {w w' : World} {oz : Option Nat} {rq rr : Value} {q r : Nat} (h : DivRes w w' none oz rq rr q r) (hc : Chg w w' (fun k => some k = none ∨ some k = oz)) : NatRes w w' oz rr r := by
  obtain ⟨oq, or', hq, hr, hoq, hor, _⟩ := h
  exact ⟨or', hr, hor, hc.mono (fun _ _ h => h.elim (fun h => by cases h) id)⟩
set_option maxRecDepth 20000 in
set_option maxHeartbeats 2000000 in
theorem intmul_c {w0 w : World} {σ : Sg} (h : Hold w0 w σ) {bz oz bx ox yb yo : Nat} {gz : Bool} {Z X Y : Nat} (hz : Num σ bz oz gz Z) (hx : Num σ bx ox false X) (hy : Num σ yb yo false Y) (hne : (⟨bx, ox, none⟩ : Addr) ≠ ⟨yb, yo, none⟩) (hX : (digs X).length < 40) (hY : (digs Y).length < 40) :
    Calls Tryz.prog 135 #[.pointer (some ⟨bz, oz, none⟩), .pointer none, .pointer (some ⟨bx, ox, none⟩), .pointer (some ⟨yb, yo, none⟩)] w fun e w' => e = .returned (.tuple #[]) ∧ Hold w0 w' (put σ bz oz false (X * Y)) := by
  obtain ⟨vz, sz, pz⟩ := h.op hz
  obtain ⟨vx, sx, px⟩ := h.op hx
  obtain ⟨vy, sy, py⟩ := h.op hy
  obtain ⟨cx, tx, hbx, -⟩ := px.blk
  obtain ⟨cy, ty, hby, -⟩ := py.blk
  have q := eqlInt hne hbx hby
  clear hbx hby cx tx cy ty
  have hm := fun w2 (hc : Chg w w2 (fun _ => False)) => natmul_c w2 vz (.pointer none) vx vy X Y sz sx sy (h.keep hc).glob (pz.nat.stor.chg hc (fun _ _ h => h)) (px.nat.chg hc (fun _ _ h => h)) (py.nat.chg hc (fun _ _ h => h)) hX hY
  have z1 := pz.c1
  have x0 := px.c0
  have x1 := px.c1
  have y0 := py.c0
  have y1 := py.c1
  obtain ⟨pvx, pcx, rfl, _, _⟩ := px.nat.shape
  obtain ⟨pvy, pcy, rfl, _, _⟩ := py.nat.shape
  obtain ⟨pvz, pcz, rfl, _, _⟩ := pz.nat.shape
  replace h := Lib.hid h
  replace hz := Lib.hid hz
  replace hx := Lib.hid hx
  replace hy := Lib.hid hy
  replace pz := Lib.hid pz
  replace px := Lib.hid px
  replace py := Lib.hid py
  replace hm := Lib.hid hm
  clear hX hY hne
  go_enter Tryz.func135, Tryz.ntmps135
  go_upto_region 3 with (fail)
  go_cut [41] (fun _ wx => Hold w0 wx (put σ bz oz gz (X * Y)))
  case first =>
    go_region_with ((go_at_call 153; refine (hm.out _ (by exact ⟨rfl, rfl, rfl, Nat.le_refl _, fun _ _ _ => rfl⟩)).mono ?_; rintro e w1 ⟨r, rfl, hr⟩; obtain ⟨g1, g3, hH, pr, cr, rfl⟩ := pz.out.stored hz.out (by exact ⟨rfl, rfl, rfl, Nat.le_refl _, fun _ _ _ => rfl⟩) (by rfl) hr; replace hH := Lib.hid hH))
    all_goals
      go_wp2_with fail
      go_meet
      exact hH.out
  case rest =>
    clear x0 y0 x1 y1 z1
    have x0 := hcut.signs hz.out hx.out
    have y0 := hcut.signs hz.out hy.out
    obtain ⟨p, c, z1, z0, fz, hfin⟩ := hcut.fin hz.out
    have hfin := hfin false
    replace hfin := Lib.hid hfin
    clear hcut pz px py h hm
    clear q
    obtain ⟨L, hL⟩ : ∃ L, (digs (X * Y)).length = L := ⟨_, rfl⟩
    rw [hL] at z1
    replace hL := Lib.hid hL
    by_cases hL0 : L = 0
    · replace hL := Lib.hid (show True from trivial)
      subst hL0
      go_wp2
      go_region
      all_goals
        go_wp2
        go_end0
        exact ⟨rfl, by first | exact hfin.out | exact hfin.out.drew⟩
    · have hLp : 0 < L := by omega
      go_wp2
      go_region
      all_goals
        go_wp2
        go_end0
        exact ⟨rfl, by first | exact hfin.out | exact hfin.out.drew⟩
theorem intMul_c {w0 w : World} {σ : Sg} (h : Hold w0 w σ) {bz oz bx ox yb yo : Nat} {gz : Bool} {Z X Y : Nat} (hz : Num σ bz oz gz Z) (hx : Num σ bx ox false X) (hy : Num σ yb yo false Y) (hne : (⟨bx, ox, none⟩ : Addr) ≠ ⟨yb, yo, none⟩) (hX : (digs X).length < 40) (hY : (digs Y).length < 40) :
    Calls Tryz.prog 106 #[.pointer (some ⟨bz, oz, none⟩), .pointer (some ⟨bx, ox, none⟩), .pointer (some ⟨yb, yo, none⟩)] w fun e w' => e = .returned (.pointer (some ⟨bz, oz, none⟩)) ∧ Hold w0 w' (put σ bz oz false (X * Y)) := by
  have key := intmul_c h hz hx hy hne hX hY
  replace key := Lib.hid key
  clear h hz hx hy hne hX hY
  go_enter Tryz.func106, Tryz.ntmps106
  go_wp2_with fail
  with_reducible refine key.out.mono ?_
  rintro e w1 ⟨rfl, h1⟩
  replace h1 := Lib.hid h1
  go_wp2
  go_ret
  exact ⟨rfl, h1.out⟩
end Go.Proofs.YtonepclpllelfaaGreatDoor

namespace Go.Proofs.YtonepclpllelfaaGreatDoor
open Go Go.RowKit
set_option maxRecDepth 20000 in
set_option maxHeartbeats 2000000 in
theorem intQuo_c {w0 w : World} {σ : Sg} (h : Hold w0 w σ) {bz oz bx ox yb yo : Nat} {gz : Bool} {Z X Y : Nat} (hz : Num σ bz oz gz Z) (hx : Num σ bx ox false X) (hy : Num σ yb yo false Y) (hY0 : Y ≠ 0) (hX : (digs X).length ≤ 250) (hY : (digs Y).length < 40) :
    Calls Tryz.prog 143 #[.pointer (some ⟨bz, oz, none⟩), .pointer (some ⟨bx, ox, none⟩), .pointer (some ⟨yb, yo, none⟩)] w fun e w' => e = .returned (.pointer (some ⟨bz, oz, none⟩)) ∧ Hold w0 w' (put σ bz oz false (X / Y)) := by
  obtain ⟨vz, sz, pz⟩ := h.op hz
  obtain ⟨vx, sx, px⟩ := h.op hx
  obtain ⟨vy, sy, py⟩ := h.op hy
  have hm := fun w2 (hc : Chg w w2 (fun _ => False)) => natDiv_c w2 vz (.slice none 0 0) vx vy X Y sz none sx sy (h.keep hc).glob (pz.nat.stor.chg hc (fun _ _ h => h)) (stor_none _) (px.nat.chg hc (fun _ _ h => h)) (py.nat.chg hc (fun _ _ h => h)) (fun _ _ h => by cases h) hY0 hY hX
  have z1 := pz.c1
  have x0 := px.c0
  have x1 := px.c1
  have y0 := py.c0
  have y1 := py.c1
  obtain ⟨pvx, pcx, rfl, _, _⟩ := px.nat.shape
  obtain ⟨pvy, pcy, rfl, _, _⟩ := py.nat.shape
  obtain ⟨pvz, pcz, rfl, _, _⟩ := pz.nat.shape
  replace h := Lib.hid h
  replace hz := Lib.hid hz
  replace hx := Lib.hid hx
  replace hy := Lib.hid hy
  replace pz := Lib.hid pz
  replace px := Lib.hid px
  replace py := Lib.hid py
  replace hm := Lib.hid hm
  clear hX hY hY0
  go_enter Tryz.func143, Tryz.ntmps143
  go_wp2
  go_cut [7] (fun _ wx => Hold w0 wx (put σ bz oz gz (X / Y)))
  case first =>
    go_region_with ((go_at_call 137; refine (hm.out _ (by exact ⟨rfl, rfl, rfl, Nat.le_refl _, fun _ _ _ => rfl⟩)).mono ?_; rintro e w1 ⟨rq, rr, rfl, hr, hch⟩; obtain ⟨g1, g3, hH, pr, cr, rfl⟩ := pz.out.stored hz.out (by exact ⟨rfl, rfl, rfl, Nat.le_refl _, fun _ _ _ => rfl⟩) (by rfl) (hr.quo hch); replace hH := Lib.hid hH))
    all_goals
      go_wp2_with fail
      go_meet
      exact hH.out
  case rest =>
    clear x0 y0 x1 y1 z1
    have x0 := hcut.signs hz.out hx.out
    have y0 := hcut.signs hz.out hy.out
    obtain ⟨p, c, z1, z0, fz, hfin⟩ := hcut.fin hz.out
    have hfin := hfin false
    replace hfin := Lib.hid hfin
    clear hcut pz px py h hm
    obtain ⟨L, hL⟩ : ∃ L, (digs (X / Y)).length = L := ⟨_, rfl⟩
    rw [hL] at z1
    replace hL := Lib.hid hL
    by_cases hL0 : L = 0
    · replace hL := Lib.hid (show True from trivial)
      subst hL0
      go_wp2
      go_region
      all_goals
        go_wp2
        go_ret
        exact ⟨rfl, by first | exact hfin.out | exact hfin.out.drew⟩
    · have hLp : 0 < L := by omega
      go_wp2
      go_region
      all_goals
        go_wp2
        go_ret
        exact ⟨rfl, by first | exact hfin.out | exact hfin.out.drew⟩
end Go.Proofs.YtonepclpllelfaaGreatDoor

namespace Go.Proofs.YtonepclpllelfaaGreatDoor
open Go Go.RowKit

theorem HoldS.turnG {w0 w w' : World} {σ τ : Sg} {st st' : Nat → Nat → Option Nat} (h : HoldS w0 w σ st) (T : Nat → Nat → Prop)
    (hc : Chg w w' (fun k => ∃ b o, T b o ∧ (k = b ∨ st b o = some k))) (h1 : ∀ b, (∀ o, ¬ T b o) → τ b = σ b) (h2 : ∀ b o, T b o → ∃ g N, Num σ b o g N)
    (h3 : ∀ b it, τ b = some it → (∃ o, T b o) → w0.heap.size ≤ b ∧ it.holds w' b (st' b)) (h4 : ∀ b, σ b = none → τ b = none) (h5 : ∀ b o g N, Num τ b o g N → ¬ T b o → Num σ b o g N)
    (h6 : ∀ b o, ¬ T b o → st' b o = st b o) (h7 : ∀ b o k, T b o → st' b o = some k → st b o = some k ∨ w.heap.size ≤ k) (h8 : ∀ b o b' o' k, T b o → T b' o' → st' b o = some k → st' b' o' = some k → b = b' ∧ o = o') : HoldS w0 w' τ st' := by
  have hcs := h.chg.size
  have fresh : ∀ k, w.heap.size ≤ k → σ k = none := by
    intro k hk
    cases hj : σ k with
    | none => rfl
    | some jt => have := h.lt hj; omega
  refine ⟨h.chg.trans (hc.mono (fun k hk hS => .inr ?_)), h.glob, ?_, ?_, ?_⟩
  · obtain ⟨b, o, hT, hk⟩ := hS
    obtain ⟨g, N, hN⟩ := h2 b o hT
    rcases hk with rfl | hk
    · obtain ⟨it, hi, _⟩ := hN
      exact (h.it _ it hi).1
    · exact (h.sto b o g N k hN hk).1
  · intro b it hb
    by_cases ht : ∃ o, T b o
    · exact h3 b it hb ht
    · have hn : ∀ o, ¬ T b o := fun o ho => ht ⟨o, ho⟩
      rw [h1 b hn] at hb
      have e : st' b = st b := by funext o; exact h6 b o (hn o)
      rw [e]
      refine ⟨(h.it b it hb).1, (h.it b it hb).2.chg hc ?_ ?_⟩
      · rintro ⟨b', o', hT, hk | hk⟩
        · subst hk; exact hn _ hT
        · obtain ⟨g, N, hN⟩ := h2 b' o' hT
          have := (h.sto b' o' g N b hN hk).2
          rw [hb] at this; cases this
      · rintro o g N k ho hk ⟨b', o', hT, hk2 | hk2⟩
        · subst hk2
          obtain ⟨g', N', it', hi, _⟩ := h2 _ o' hT
          have := (h.sto b o g N _ ⟨it, hb, ho⟩ hk).2
          rw [hi] at this; cases this
        · obtain ⟨g', N', hN'⟩ := h2 b' o' hT
          have := h.inj b o g N b' o' g' N' k ⟨it, hb, ho⟩ hN' hk hk2
          rw [← this.1] at hT
          exact hn _ hT
  · intro b o g N k hN hk
    by_cases hT : T b o
    · rcases h7 b o k hT hk with h9 | h9
      · obtain ⟨g', N', hN'⟩ := h2 b o hT
        have := h.sto b o g' N' k hN' h9
        exact ⟨this.1, h4 k this.2⟩
      · exact ⟨by omega, h4 k (fresh k h9)⟩
    · rw [h6 b o hT] at hk
      have := h.sto b o g N k (h5 b o g N hN hT) hk
      exact ⟨this.1, h4 k this.2⟩
  · intro b o g N b' o' g' N' k hN hN' hk hk'
    by_cases hT : T b o
    · by_cases hT' : T b' o'
      · exact h8 b o b' o' k hT hT' hk hk'
      · rw [h6 b' o' hT'] at hk'
        have hn' := h5 b' o' g' N' hN' hT'
        rcases h7 b o k hT hk with h9 | h9
        · obtain ⟨g2, N2, hN2⟩ := h2 b o hT
          have := h.inj b o g2 N2 b' o' g' N' k hN2 hn' h9 hk'
          rw [this.1, this.2] at hT
          exact absurd hT hT'
        · have := h.stlt hn' hk'; omega
    · rw [h6 b o hT] at hk
      have hn := h5 b o g N hN hT
      by_cases hT' : T b' o'
      · rcases h7 b' o' k hT' hk' with h9 | h9
        · obtain ⟨g2, N2, hN2⟩ := h2 b' o' hT'
          have := h.inj b o g N b' o' g2 N2 k hn hN2 hk h9
          rw [← this.1, ← this.2] at hT'
          exact absurd hT' hT
        · have := h.stlt hn hk; omega
      · rw [h6 b' o' hT'] at hk'
        exact h.inj b o g N b' o' g' N' k hn (h5 b' o' g' N' hN' hT') hk hk'

theorem DivRes.sq {w w' : World} {oz o2 : Option Nat} {rq rr : Value} {q r : Nat} (h : DivRes w w' oz o2 rq rr q r) : ∃ p c, rq = .slice p (digs q).length c := by
  obtain ⟨oq, or', hq, hr, _⟩ := h
  obtain ⟨p, c, h, _⟩ := hq.shape
  exact ⟨p, c, h⟩
theorem DivRes.sr {w w' : World} {oz o2 : Option Nat} {rq rr : Value} {q r : Nat} (h : DivRes w w' oz o2 rq rr q r) : ∃ p c, rr = .slice p (digs r).length c := by
  obtain ⟨oq, or', hq, hr, _⟩ := h
  obtain ⟨p, c, h, _⟩ := hr.shape
  exact ⟨p, c, h⟩
/-- What two numbers make of two places. -/
def Two (w0 w : World) (σ : Sg) (bz oz br ro : Nat) (gz gr : Bool) (vz vr : Value) (sz sr : Option Nat) : Prop :=
  ∀ (w2 w1 : World) (rq rr : Value) (Q M : Nat), DivRes w2 w1 sz sr rq rr Q M → Chg w2 w1 (fun k => some k = sz ∨ some k = sr) → Chg w w2 (fun _ => False) → w2.heap.size = w.heap.size →
        w1.cell? ⟨bz, oz + 1, none⟩ = some vz ∧ w1.cell? ⟨br, ro + 1, none⟩ = some vr ∧ w1.frozen? ⟨bz, oz + 1, none⟩ = false ∧ w1.frozen? ⟨br, ro + 1, none⟩ = false ∧
        (w1.setCell ⟨bz, oz + 1, none⟩ rq).cell? ⟨br, ro + 1, none⟩ = some vr ∧ (w1.setCell ⟨bz, oz + 1, none⟩ rq).frozen? ⟨br, ro + 1, none⟩ = false ∧ (w1.setCell ⟨br, ro + 1, none⟩ rr).cell? ⟨bz, oz + 1, none⟩ = some vz ∧ (w1.setCell ⟨br, ro + 1, none⟩ rr).frozen? ⟨bz, oz + 1, none⟩ = false ∧
        Hold w0 ((w1.setCell ⟨bz, oz + 1, none⟩ rq).setCell ⟨br, ro + 1, none⟩ rr) (put (put σ bz oz gz Q) br ro gr M) ∧ Hold w0 ((w1.setCell ⟨br, ro + 1, none⟩ rr).setCell ⟨bz, oz + 1, none⟩ rq) (put (put σ bz oz gz Q) br ro gr M)
theorem Two.use {w0 w : World} {σ : Sg} {bz oz br ro : Nat} {gz gr : Bool} {vz vr : Value} {sz sr : Option Nat} (h : Two w0 w σ bz oz br ro gz gr vz vr sz sr) {w2 w1 : World} {rq rr : Value} {Q M : Nat} (h1 : DivRes w2 w1 sz sr rq rr Q M) (h2 : Chg w2 w1 (fun k => some k = sz ∨ some k = sr)) (h3 : Chg w w2 (fun _ => False)) (h4 : w2.heap.size = w.heap.size) :
        w1.cell? ⟨bz, oz + 1, none⟩ = some vz ∧ w1.cell? ⟨br, ro + 1, none⟩ = some vr ∧ w1.frozen? ⟨bz, oz + 1, none⟩ = false ∧ w1.frozen? ⟨br, ro + 1, none⟩ = false ∧
        (w1.setCell ⟨bz, oz + 1, none⟩ rq).cell? ⟨br, ro + 1, none⟩ = some vr ∧ (w1.setCell ⟨bz, oz + 1, none⟩ rq).frozen? ⟨br, ro + 1, none⟩ = false ∧ (w1.setCell ⟨br, ro + 1, none⟩ rr).cell? ⟨bz, oz + 1, none⟩ = some vz ∧ (w1.setCell ⟨br, ro + 1, none⟩ rr).frozen? ⟨bz, oz + 1, none⟩ = false ∧
        Hold w0 ((w1.setCell ⟨bz, oz + 1, none⟩ rq).setCell ⟨br, ro + 1, none⟩ rr) (put (put σ bz oz gz Q) br ro gr M) ∧ Hold w0 ((w1.setCell ⟨br, ro + 1, none⟩ rr).setCell ⟨bz, oz + 1, none⟩ rq) (put (put σ bz oz gz Q) br ro gr M) := h _ _ _ _ _ _ h1 h2 h3 h4
/-- Two numbers come into two places of two blocks at once. -/
theorem Hold.op2 {w0 w : World} {σ : Sg} (h : Hold w0 w σ) {bz oz br ro : Nat} {gz gr : Bool} {Z R : Nat} (hz : Num σ bz oz gz Z) (hr : Num σ br ro gr R) (hne : bz ≠ br) :
    ∃ vz sz vr sr, IsNat w vz Z sz ∧ IsNat w vr R sr ∧ (∀ b, sz = some b → sr ≠ some b) ∧ w.cell? ⟨bz, oz + 1, none⟩ = some vz ∧ w.cell? ⟨br, ro + 1, none⟩ = some vr ∧
      Two w0 w σ bz oz br ro gz gr vz vr sz sr := by
  obtain ⟨st, h⟩ := h
  have hz0 := hz
  have hr0 := hr
  obtain ⟨iz, hiz, hzn⟩ := hz
  obtain ⟨ir, hir, hrn⟩ := hr
  obtain ⟨fz, bz1, fz2⟩ := (h.it bz iz hiz).2.num hzn
  obtain ⟨fr, br1, fr2⟩ := (h.it br ir hir).2.num hrn
  obtain ⟨cz0, cz1, _⟩ := It.cells_at hzn fz
  obtain ⟨cr0, cr1, _⟩ := It.cells_at hrn fr
  have sepz : ∀ o1 g1 N1, iz.num o1 = some (g1, N1) → ∀ k, st bz o1 = some k → k ≠ bz ∧ k ≠ br ∧ (o1 ≠ oz → some k ≠ st bz oz) ∧ some k ≠ st br ro := by
    intro o1 g1 N1 ho k hk
    have hno := (h.sto bz o1 g1 N1 k ⟨iz, hiz, ho⟩ hk).2
    refine ⟨(by rintro rfl; rw [hiz] at hno; cases hno), (by rintro rfl; rw [hir] at hno; cases hno), fun hne1 e => hne1 (h.inj bz o1 g1 N1 bz oz gz Z k ⟨iz, hiz, ho⟩ hz0 hk e.symm).2, fun e => hne (h.inj bz o1 g1 N1 br ro gr R k ⟨iz, hiz, ho⟩ hr0 hk e.symm).1⟩
  have sepr : ∀ o1 g1 N1, ir.num o1 = some (g1, N1) → ∀ k, st br o1 = some k → k ≠ bz ∧ k ≠ br ∧ (o1 ≠ ro → some k ≠ st br ro) ∧ some k ≠ st bz oz := by
    intro o1 g1 N1 ho k hk
    have hno := (h.sto br o1 g1 N1 k ⟨ir, hir, ho⟩ hk).2
    refine ⟨(by rintro rfl; rw [hiz] at hno; cases hno), (by rintro rfl; rw [hir] at hno; cases hno), fun hne1 e => hne1 (h.inj br o1 g1 N1 br ro gr R k ⟨ir, hir, ho⟩ hr0 hk e.symm).2, fun e => hne (h.inj br o1 g1 N1 bz oz gz Z k ⟨ir, hir, ho⟩ hz0 hk e.symm).1.symm⟩
  refine ⟨fz oz, st bz oz, fr ro, st br ro, fz2 oz gz Z hzn, fr2 ro gr R hrn, fun b hb hb2 => (sepz oz gz Z hzn b hb).2.2.2 hb2.symm, cellB bz1 cz1, cellB br1 cr1, ?_⟩
  intro w2 w1 rq rr Q M ⟨oq, or', hq, hrr, hoq, hor, hqr⟩ hch hd hsz
  have hch' : Chg w w1 (fun k => some k = st bz oz ∨ some k = st br ro) := (hd.mono (fun _ _ h => h.elim)).trans (hch.mono (fun _ _ h => .inl h))
  have kz := hch'.heapB bz1 (fun e => e.elim (fun e => (sepz oz gz Z hzn bz e.symm).1 rfl) (fun e => (sepr ro gr R hrn bz e.symm).1 rfl))
  have kr := hch'.heapB br1 (fun e => e.elim (fun e => (sepz oz gz Z hzn br e.symm).2.1 rfl) (fun e => (sepr ro gr R hrn br e.symm).2.1 rfl))
  have lz := ltB bz1
  have lr := ltB br1
  have nq : ∀ b, oq = some b → b ≠ bz ∧ b ≠ br := by
    intro b hb
    rcases hoq with e | e | ⟨k, e, hk⟩
    · have := sepz oz gz Z hzn b (e ▸ hb); exact ⟨this.1, this.2.1⟩
    · rw [e] at hb; cases hb
    · rw [e] at hb; cases hb; omega
  have nr : ∀ b, or' = some b → b ≠ bz ∧ b ≠ br := by
    intro b hb
    rcases hor with e | e | ⟨k, e, hk⟩
    · have := sepr ro gr R hrn b (e ▸ hb); exact ⟨this.1, this.2.1⟩
    · rw [e] at hb; cases hb
    · rw [e] at hb; cases hb; omega
  have key : ∀ w', Chg w1 w' (fun k => k = bz ∨ k = br) → w'.heap[bz]? = some (.cells ((iz.put oz gz Q).cells (fun k => if k = oz then rq else fz k)) iz.ty (0, 0)) → w'.heap[br]? = some (.cells ((ir.put ro gr M).cells (fun k => if k = ro then rr else fr k)) ir.ty (0, 0)) → Hold w0 w' (put (put σ bz oz gz Q) br ro gr M) := by
    intro w' hw' hbz' hbr'
    have e1 : put (put σ bz oz gz Q) br ro gr M = upd (upd σ bz (iz.put oz gz Q)) br (ir.put ro gr M) := by
      rw [put_upd hiz, put_upd (by rw [upd_ne _ _ (Ne.symm hne)]; exact hir)]
    rw [e1]
    have hcw : Chg w w' (fun k => some k = st bz oz ∨ some k = st br ro ∨ k = bz ∨ k = br) := (hch'.mono (fun k _ h => h.elim .inl (fun h => .inr (.inl h)))).trans (hw'.mono (fun k _ h => .inl (.inr (.inr h))))
    refine ⟨fun c p => if c = bz ∧ p = oz then oq else if c = br ∧ p = ro then or' else st c p, h.turnG (fun c p => (c = bz ∧ p = oz) ∨ (c = br ∧ p = ro)) (hcw.mono ?_) ?_ ?_ ?_ ?_ ?_ ?_ ?_ ?_⟩
    · rintro k _ (e | e | e | e)
      · exact ⟨bz, oz, .inl ⟨rfl, rfl⟩, .inr e.symm⟩
      · exact ⟨br, ro, .inr ⟨rfl, rfl⟩, .inr e.symm⟩
      · exact ⟨bz, oz, .inl ⟨rfl, rfl⟩, .inl e⟩
      · exact ⟨br, ro, .inr ⟨rfl, rfl⟩, .inl e⟩
    · intro b hb
      rw [upd_ne _ _ (fun e => hb ro (.inr ⟨e, rfl⟩)), upd_ne _ _ (fun e => hb oz (.inl ⟨e, rfl⟩))]
    · rintro b o (⟨rfl, rfl⟩ | ⟨rfl, rfl⟩)
      · exact ⟨_, _, hz0⟩
      · exact ⟨_, _, hr0⟩
    · rintro b it hb ⟨o, ⟨rfl, rfl⟩ | ⟨rfl, rfl⟩⟩
      · rw [upd_ne _ _ hne, upd_eq] at hb
        cases hb
        refine ⟨(h.it _ _ hiz).1, .inl ⟨by rw [It.put_k]; exact It.num_lt hzn, _, by rw [It.put_ty]; exact hbz', ?_⟩⟩
        intro o1 g1 N1 ho1
        by_cases e : o1 = o
        · subst e
          rw [It.num_put hzn] at ho1; cases ho1
          simp only [and_self, if_true]
          exact hq.chg hw' (fun k hk e => e.elim (nq k hk).1 (nq k hk).2)
        · rw [It.num_put_ne hzn _ _ e] at ho1
          simp only [e, and_false, if_false, hne, false_and]
          refine (fz2 o1 g1 N1 ho1).chg hcw (fun k hk => ?_)
          have := sepz o1 g1 N1 ho1 k hk
          rintro (e2 | e2 | e2 | e2)
          · exact this.2.2.1 e e2
          · exact this.2.2.2 e2
          · exact this.1 e2
          · exact this.2.1 e2
      · rw [upd_eq] at hb
        cases hb
        refine ⟨(h.it _ _ hir).1, .inl ⟨by rw [It.put_k]; exact It.num_lt hrn, _, by rw [It.put_ty]; exact hbr', ?_⟩⟩
        intro o1 g1 N1 ho1
        by_cases e : o1 = o
        · subst e
          rw [It.num_put hrn] at ho1; cases ho1
          simp only [Ne.symm hne, false_and, if_false, and_self, if_true]
          exact hrr.chg hw' (fun k hk e => e.elim (nr k hk).1 (nr k hk).2)
        · rw [It.num_put_ne hrn _ _ e] at ho1
          simp only [Ne.symm hne, false_and, if_false, e, and_false]
          refine (fr2 o1 g1 N1 ho1).chg hcw (fun k hk => ?_)
          have := sepr o1 g1 N1 ho1 k hk
          rintro (e2 | e2 | e2 | e2)
          · exact this.2.2.2 e2
          · exact this.2.2.1 e e2
          · exact this.1 e2
          · exact this.2.1 e2
    · intro b hb
      rw [upd_ne _ _ (by rintro rfl; rw [hir] at hb; cases hb), upd_ne _ _ (by rintro rfl; rw [hiz] at hb; cases hb)]
      exact hb
    · rintro b o g N ⟨it, hb, ho⟩ hT
      by_cases e2 : b = br
      · subst e2
        rw [upd_eq] at hb; cases hb
        rw [It.num_put_ne hrn _ _ (fun e => hT (.inr ⟨rfl, e⟩))] at ho
        exact ⟨_, hir, ho⟩
      · rw [upd_ne _ _ e2] at hb
        by_cases e3 : b = bz
        · subst e3
          rw [upd_eq] at hb; cases hb
          rw [It.num_put_ne hzn _ _ (fun e => hT (.inl ⟨rfl, e⟩))] at ho
          exact ⟨_, hiz, ho⟩
        · rw [upd_ne _ _ e3] at hb
          exact ⟨_, hb, ho⟩
    · intro b o hT
      rw [if_neg (fun e => hT (.inl e)), if_neg (fun e => hT (.inr e))]
    · rintro b o k (⟨rfl, rfl⟩ | ⟨rfl, rfl⟩) hk
      · rw [if_pos ⟨rfl, rfl⟩] at hk
        rcases hoq with e | e | ⟨k2, e, hk2⟩
        · exact .inl (e ▸ hk)
        · rw [e] at hk; cases hk
        · rw [e] at hk; cases hk; exact .inr (by omega)
      · rw [if_neg (fun e => hne e.1.symm), if_pos ⟨rfl, rfl⟩] at hk
        rcases hor with e | e | ⟨k2, e, hk2⟩
        · exact .inl (e ▸ hk)
        · rw [e] at hk; cases hk
        · rw [e] at hk; cases hk; exact .inr (by omega)
    · rintro b o b' o' k (⟨rfl, rfl⟩ | ⟨rfl, rfl⟩) (⟨rfl, rfl⟩ | ⟨rfl, rfl⟩) hk hk'
      · exact ⟨rfl, rfl⟩
      · rw [if_pos ⟨rfl, rfl⟩] at hk
        rw [if_neg (fun e => hne e.1.symm), if_pos ⟨rfl, rfl⟩] at hk'
        exact absurd hk' (hqr k hk)
      · rw [if_pos ⟨rfl, rfl⟩] at hk'
        rw [if_neg (fun e => hne e.1.symm), if_pos ⟨rfl, rfl⟩] at hk
        exact absurd hk (hqr k hk')
      · exact ⟨rfl, rfl⟩
  have kr2 := (chg_setB w1 bz (oz + 1) rq).heapB kr (Ne.symm hne)
  have kz2 := (chg_setB w1 br (ro + 1) rr).heapB kz hne
  refine ⟨cellB kz cz1, cellB kr cr1, frozenB kz _, frozenB kr _, cellB kr2 cr1, frozenB kr2 _, cellB kz2 cz1, frozenB kz2 _, key _ ?_ ?_ ?_, key _ ?_ ?_ ?_⟩
  · exact ((chg_setB w1 bz (oz + 1) rq).mono (fun _ _ h => .inl h)).trans ((chg_setB _ br (ro + 1) rr).mono (fun _ _ h => .inl (.inr h)))
  · rw [← It.cells_abs hzn fz rq Q]
    exact (chg_setB _ br (ro + 1) rr).heapB (setB kz) hne
  · rw [← It.cells_abs hrn fr rr M]
    exact setB ((chg_setB w1 bz (oz + 1) rq).heapB kr (Ne.symm hne))
  · exact ((chg_setB w1 br (ro + 1) rr).mono (fun _ _ h => .inr h)).trans ((chg_setB _ bz (oz + 1) rq).mono (fun _ _ h => .inl (.inl h)))
  · rw [← It.cells_abs hzn fz rq Q]
    exact setB ((chg_setB w1 br (ro + 1) rr).heapB kz hne)
  · rw [← It.cells_abs hrn fr rr M]
    exact (chg_setB _ bz (oz + 1) rq).heapB (setB kr) (Ne.symm hne)
end Go.Proofs.YtonepclpllelfaaGreatDoor
