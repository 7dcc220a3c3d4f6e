/- nat: div. big.Int on what is held: mul, Quo, Rem. Bits of numbers: nat.bitLen, Int.BitLen, BigInt.BitLen, Bit. -/
import Derived.BigRegion
import Derived.BigQuiet
import Derived.Deep.DeepCutAuto
import Derived.Test.YtlnillnngckegaaGreatDoorM06
import Derived.Test.YtlnillnngckegaaGreatDoorM11
import Derived.Test.YtlnillnngckegaaGreatDoorM18
import Derived.Test.YtlnillnngckegaaGreatDoorM21
namespace Go.Proofs.YtlnillnngckegaaGreatDoor
open Go Go.RowKit

set_option maxRecDepth 200000 in
set_option maxHeartbeats 4000000 in
theorem divBig_c (w : World) (z z2 u v : Value) (U V : Nat) (oz o2 ou ov : Option Nat) (hG : Glob w) (hz : Stor w z oz) (h2 : Stor w z2 o2) (hu : IsNat w u U ou) (hv : IsNat w v V ov)
    (hdist : ∀ b, oz = some b → o2 ≠ some b) (hV2 : 2 ≤ (digs V).length) (hV40 : (digs V).length < 40) (hle : V ≤ U) (hU : (digs U).length ≤ 250) :
    Calls Tryz.prog 147 #[z, .pointer none, z2, u, v] w fun e w' => ∃ rq rr, e = .returned (.tuple #[rq, rr]) ∧ DivRes w w' oz o2 rq rr (U / V) (U % V) ∧ Chg w w' (fun k => some k = oz ∨ some k = o2) := by
  have hcmp := natcmp_c w u v U V ou ov hu hv
  have hord : 0 ≤ ordN U V := by unfold ordN; split <;> (try split) <;> omega
  have hV0 : V ≠ 0 := by rintro rfl; rw [digs_zero] at hV2; simp at hV2
  have hz' := hz
  have h2' := h2
  obtain ⟨pz, lz, cz, rfl⟩ := stor_slice hz'
  obtain ⟨p2, l2, c2, rfl⟩ := stor_slice h2'
  obtain ⟨pv, cv, rfl, _, _⟩ := hv.shape
  obtain ⟨pu, cu, rfl, _, _⟩ := hu.shape
  have hlt : ∀ k, w.heap.size ≤ k → ¬ (some k = oz ∨ some k = o2) := by
    rintro k hk (h | h)
    · rw [← h] at hz'; have := hz'.lt; omega
    · rw [← h] at h2'; have := h2'.lt; omega
  have hdl := fun w1 s (hs : Stk0 w1 s) (hc : Chg w w1 (fun _ => False)) => divLarge_c w1 (.slice pz lz cz) (.slice p2 l2 c2) _ _ U V s oz o2 ou ov (hG.chg hc (fun _ _ h => h)) hs (hz.chg hc (fun _ _ h => h)) (h2.chg hc (fun _ _ h => h)) (hu.chg hc (fun _ _ h => h)) (hv.chg hc (fun _ _ h => h)) hdist hV2 hV40 hle hU
  replace hdl := Lib.hid hdl
  replace hcmp := Lib.hid hcmp
  generalize hL : (digs V).length = L at *
  generalize hM : (digs U).length = M at *
  replace hL := Lib.hid hL
  replace hM := Lib.hid hM
  go_enter_defers Tryz.func147, Tryz.ntmps147
  go_wp2_with fail
  with_reducible refine hcmp.out.mono ?_
  rintro e w' ⟨rfl, n, hw⟩
  have hc0 : Chg w w' (fun _ => False) := by rw [hw]; exact (Chg.refl w _).drewN n
  have hsz : w'.heap.size = w.heap.size := by rw [hw]; rfl
  clear hw hcmp
  replace hsz := Lib.hid hsz
  generalize ordN U V = r at hord ⊢
  have hgs := getStack_c w'
  have e0 : decide (r < 0) = false := by simp; omega
  go_wp2_with fail
  with_reducible refine hgs.mono ?_
  rintro e w1 ⟨rfl, hs1, hc1⟩
  have hc01 : Chg w w1 (fun _ => False) := hc0.trans (hc1.mono (fun _ _ h => h.elim))
  have hd := hdl.out w1 _ hs1 hc01
  replace hd := Lib.hid hd
  go_wp2_with fail
  with_reducible refine hd.out.mono ?_
  rintro e w2 ⟨rq, rr, rfl, ⟨oq, or', hq, hrr, hoq, hor, hne⟩, hsw, hc2⟩
  have hfr := freeW w2 _ _ .returning hsw
  replace hfr := Lib.hid hfr
  go_wp2
  refine leaves_cons (f := 152) (args := #[.pointer (some ⟨w'.heap.size, 0, none⟩)]) (by simp) (by simp [go_sem]) ?_
  refine hfr.out.mono ?_
  rintro e u' w3 ⟨rfl, rfl, h1⟩
  have hni : ∀ {v : Value} {N : Nat} {o : Option Nat}, IsNat w2 v N o → ∀ k, o = some k → ¬ Inner w2 w1.heap.size k := by
    intro v N o h k hk
    rcases h with ⟨_, _, h⟩ | ⟨b, _, C, h, _, ha, _⟩
    · rw [h] at hk; cases hk
    · rw [h] at hk; cases hk; exact Inner.arr ha
  have hs1' := hc01.size
  have hsz' := hsz.out
  refine ⟨.tuple #[rq, rr], by simp [results, Tryz.results147, go_sem], rq, rr, rfl, ⟨oq, or', hq.chg h1 (hni hq), hrr.chg h1 (hni hrr), ?_, ?_, hne⟩, ?_⟩
  · rcases hoq with h | h | ⟨b, h, hb⟩
    · exact .inl h
    · exact .inr (.inl h)
    · exact .inr (.inr ⟨b, h, by omega⟩)
  · rcases hor with h | h | ⟨b, h, hb⟩
    · exact .inl h
    · exact .inr (.inl h)
    · exact .inr (.inr ⟨b, h, by omega⟩)
  · refine ((hc01.mono (fun _ _ h => h.elim)).trans (hc2.mono (fun k _ h => ?_))).trans (h1.mono (fun k _ h => .inr (by have := h.1; omega)))
    rcases h with h | h | h
    · exact .inl (.inl h)
    · exact .inl (.inr h)
    · exact .inr (by omega)

theorem Stor.cut {w : World} {p : Option Addr} {l c : Nat} {o : Option Nat} (h : Stor w (.slice p l c) o) : IsNat w (.slice p 0 c) 0 o := by
  rcases h with ⟨h, rfl⟩ | ⟨b, l', cap, C, rfl, h, _, ha, hc, hcap⟩
  · injection h with h1 h2 h3
    subst h1 h2 h3
    exact .inl ⟨rfl, rfl, rfl⟩
  · injection h with h1 h2 h3
    subst h1 h2 h3
    exact .inr ⟨b, c, C, rfl, by rw [digs_zero]; rfl, ha, hc, hcap, by rw [digs_zero]; rfl⟩
set_option maxHeartbeats 4000000 in
theorem divLess_c (w : World) (z z2 u v : Value) (U V : Nat) (oz o2 ou ov : Option Nat) (hz : Stor w z oz) (h2 : Stor w z2 o2) (hu : IsNat w u U ou) (hv : IsNat w v V ov)
    (hdist : ∀ b, oz = some b → o2 ≠ some b) (hV2 : 2 ≤ (digs V).length) (hlt : U < V) (hU : (digs U).length ≤ 1000) :
    Calls Tryz.prog 147 #[z, .pointer none, z2, u, v] w fun e w' => ∃ rq rr, e = .returned (.tuple #[rq, rr]) ∧ DivRes w w' oz o2 rq rr (U / V) (U % V) ∧ Chg w w' (fun k => some k = oz ∨ some k = o2) := by
  have hcmp := natcmp_c w u v U V ou ov hu hv
  rw [ordN_lt hlt] at hcmp
  rw [Nat.div_eq_of_lt hlt, Nat.mod_eq_of_lt hlt]
  have hset := fun n => set_c (w.drewN n) z2 u U o2 ou (h2.chg ((Chg.refl w (fun _ => False)).drewN n) (fun _ _ h => h)) (hu.chg ((Chg.refl w (fun _ => False)).drewN n) (fun _ _ h => h)) hU
  obtain ⟨pz, lz, cz, rfl⟩ := stor_slice hz
  obtain ⟨pv, cv, rfl, _, _⟩ := hv.shape
  have hcut := hz.cut
  have hlz : lz ≤ cz := by
    rcases hz with ⟨h, _⟩ | ⟨b, l', cap, C, _, h, h3, _, h4, h5⟩
    · injection h with _ h1 h2; omega
    · injection h with _ h1 h2; omega
  have hz0 : pz = none → cz = 0 := by
    rintro rfl
    rcases hz with ⟨h, _⟩ | ⟨b, l', cap, C, _, h, _⟩
    · injection h
    · injection h with h1; cases h1
  generalize hL : (digs V).length = L at *
  replace hL := Lib.hid hL
  replace hset := Lib.hid hset
  replace hcmp := Lib.hid hcmp
  replace hcut := Lib.hid hcut
  have hk : ∀ w', Chg w w' (fun k => some k = o2) → IsNat w' (.slice pz 0 cz) 0 oz := fun w' hc => hcut.out.chg hc (fun b e h => hdist b e h.symm)
  replace hk := Lib.hid hk
  go_enter_defers Tryz.func147, Tryz.ntmps147
  go_wp2_with fail
  with_reducible refine hcmp.out.mono ?_
  rintro e w' ⟨rfl, n, hw⟩
  obtain rfl := hw
  go_wp2_with fail
  with_reducible refine (hset.out n).mono ?_
  rintro e w2 ⟨rr, rfl, or', hrr, hor, hch⟩
  go_wp2
  have hq := hk.out w2 (((Chg.refl w (fun _ => False)).drewN n |>.mono (fun _ _ h => h.elim)).trans (hch.mono (fun k _ h => .inl h)))
  refine ⟨.tuple #[.slice pz 0 cz, rr], by simp [results, Tryz.results147, go_sem], _, _, rfl, ⟨oz, or', hq, hrr, .inl rfl, hor, fun b hb hb2 => ?_⟩, ((Chg.refl w (fun _ => False)).drewN n |>.mono (fun _ _ h => h.elim)).trans (hch.mono (fun k _ h => .inl (.inr h)))⟩
  rcases hor with h | h | ⟨b', h, hb'⟩
  · rw [h] at hb2; exact hdist b hb hb2
  · rw [h] at hb2; cases hb2
  · rw [h] at hb2
    have hbl : b < w.heap.size := by rw [hb] at hz; exact hz.lt
    have h5 : (w.drewN n).heap.size = w.heap.size := rfl
    cases hb2
    omega

set_option maxHeartbeats 4000000 in
theorem divOne_c (w : World) (z z2 u v : Value) (U V : Nat) (oz o2 ou ov : Option Nat) (hz : Stor w z oz) (h2 : Stor w z2 o2) (hu : IsNat w u U ou) (hv : IsNat w v V ov)
    (hdist : ∀ b, oz = some b → o2 ≠ some b) (hV0 : V ≠ 0) (hV1 : V < WB) (hU : (digs U).length ≤ 900) :
    Calls Tryz.prog 147 #[z, .pointer none, z2, u, v] w fun e w' => ∃ rq rr, e = .returned (.tuple #[rq, rr]) ∧ DivRes w w' oz o2 rq rr (U / V) (U % V) ∧ Chg w w' (fun k => some k = oz ∨ some k = o2) := by
  have hdw := divW_c w z u U V oz ou hz hu hU hV1 (by omega)
  have hr : U % V < WB := Nat.lt_trans (Nat.mod_lt _ (by omega)) hV1
  obtain ⟨bv, cv, Cv, rfl, rfl, hav, hcv, hcapv, htv, hlv, hpv⟩ := hv.pos hV0
  have hd1 : (digs V).length = 1 := by
    have h1 : (digs V).length ≤ 1 := digs_len_le.2 (by simpa using hV1)
    have h2 := digs_len_pos hV0
    omega
  have hdv : nth Cv 0 = V := by
    have h1 := nth_take (l := Cv) (i := 0) (k := (digs V).length) (by omega)
    rw [htv] at h1
    rw [← h1]
    have h3 := val_digs V
    match hh : digs V, hd1 with
    | [x], _ => rw [hh] at h3; simp [val] at h3; simp [nth, h3]
  have hc := hav.cellN (i := 0) (by omega)
  rw [hdv] at hc
  rw [hd1]
  obtain ⟨rm, hrm⟩ : ∃ rm, U % V = rm := ⟨_, rfl⟩
  rw [hrm] at hdw hr ⊢
  have hsw := fun w1 (h : Stor w1 z2 o2) => setWord_c w1 z2 rm o2 h hr
  clear hrm
  replace hdw := Lib.hid hdw
  replace hsw := Lib.hid hsw
  have hdd := hdist
  replace hdd := Lib.hid hdd
  go_enter_defers Tryz.func147, Tryz.ntmps147
  go_wp2_with fail
  with_reducible refine hdw.out.mono ?_
  rintro e w1 ⟨rq, rfl, oq, hq, hoq, hch1⟩
  have h21 : Stor w1 z2 o2 := h2.chg hch1 (fun b hb e => hdist b e.symm hb)
  go_wp2_with fail
  with_reducible refine (hsw.out w1 h21).mono ?_
  rintro e w2 ⟨rr, rfl, or', hrr, hor, hch2⟩
  go_wp2
  have s1 := hch1.size
  have noq : ∀ b, oq = some b → o2 ≠ some b := by
    intro b hb ho
    rcases hoq with h | h | ⟨b', h, hb'⟩
    · exact hdist b (h ▸ hb) ho
    · rw [h] at hb; cases hb
    · rw [h] at hb
      cases hb
      have : b < w.heap.size := by rw [ho] at h2; exact h2.lt
      omega
  refine ⟨.tuple #[rq, rr], by simp [results, Tryz.results147, go_sem], _, _, rfl, ⟨oq, or', hq.chg hch2 (fun b hb e => noq b hb e.symm), hrr, hoq, ?_, fun b hb hb2 => ?_⟩, (hch1.mono (fun _ _ h => .inl h)).trans (hch2.mono (fun k _ h => .inl (.inr h)))⟩
  · rcases hor with h | h | ⟨b', h, hb'⟩
    · exact .inl h
    · exact .inr (.inl h)
    · exact .inr (.inr ⟨b', h, by omega⟩)
  · rcases hor with h | h | ⟨b', h, hb'⟩
    · exact noq b hb (h ▸ hb2)
    · rw [h] at hb2; cases hb2
    · rw [h] at hb2
      cases hb2
      have := hq.stor
      rw [hb] at this
      have := this.lt
      omega

/-- Quotient and remainder of natural numbers. -/
theorem natDiv_c (w : World) (z z2 u v : Value) (U V : Nat) (oz o2 ou ov : Option Nat) (hG : Glob w) (hz : Stor w z oz) (h2 : Stor w z2 o2) (hu : IsNat w u U ou) (hv : IsNat w v V ov)
    (hdist : ∀ b, oz = some b → o2 ≠ some b) (hV0 : V ≠ 0) (hV40 : (digs V).length < 40) (hU : (digs U).length ≤ 250) :
    Calls Tryz.prog 147 #[z, .pointer none, z2, u, v] w fun e w' => ∃ rq rr, e = .returned (.tuple #[rq, rr]) ∧ DivRes w w' oz o2 rq rr (U / V) (U % V) ∧ Chg w w' (fun k => some k = oz ∨ some k = o2) := by
  by_cases h1 : V < WB
  · exact divOne_c w z z2 u v U V oz o2 ou ov hz h2 hu hv hdist hV0 h1 (by omega)
  · have hV2 : 2 ≤ (digs V).length := by
      rcases Nat.lt_or_ge (digs V).length 2 with h | h
      · exact absurd (by have := digs_len_le.1 (show (digs V).length ≤ 1 by omega); simpa using this) h1
      · exact h
    by_cases hlt : U < V
    · exact divLess_c w z z2 u v U V oz o2 ou ov hz h2 hu hv hdist hV2 hlt (by omega)
    · exact divBig_c w z z2 u v U V oz o2 ou ov hG hz h2 hu hv hdist hV2 hV40 (by omega) hU
end Go.Proofs.YtlnillnngckegaaGreatDoor

namespace Go.Proofs.YtlnillnngckegaaGreatDoor
open Go Go.RowKit

theorem eqlInt {w : World} {a b oa ob : Nat} {ca cb : Array Value} {ta tb : TypeId} (hne : (⟨a, oa, none⟩ : Addr) ≠ ⟨b, ob, none⟩) (ha : w.heap[a]? = some (.cells ca ta (0, 0))) (hb : w.heap[b]? = some (.cells cb tb (0, 0))) :
    (binOp .eql 102 (.pointer (some ⟨a, oa, none⟩)) (.pointer (some ⟨b, ob, none⟩))).run Tryz.prog w = .ok (.bool false) w := by
  obtain ⟨j, hj, hs⟩ := infoInt
  exact run_eql_ptr_other Tryz.underlying102 hj hs hne ha hb
theorem eqlIntSame {w : World} (a : Addr) : (binOp .eql 102 (.pointer (some a)) (.pointer (some a))).run Tryz.prog w = .ok (.bool true) w := by
  obtain ⟨j, hj, _⟩ := infoInt
  exact run_eql_ptr_same a Tryz.underlying102 hj
theorem neqIntSame {w : World} (a : Addr) : (binOp .neq 102 (.pointer (some a)) (.pointer (some a))).run Tryz.prog w = .ok (.bool false) w := by
  obtain ⟨j, hj, _⟩ := infoInt
  exact run_neq_ptr_same a Tryz.underlying102 hj

/-- A callee's contract, met behind a quiet region. -/
theorem quietAdd {P : Program} {f : FuncId} {args : Array Value} {w : World} {a n : Nat} {v : Value}
    (h : Calls P f args (w.drewN (a + n)) fun e w' => e = .returned v ∧ ∃ m, w' = (w.drewN (a + n)).drewN m) : Calls P f args (w.drewN (a + n)) fun e w'' => e = .returned v ∧ ∃ m, w'' = w.drewN (a + m) :=
  h.mono fun _ _ ⟨he, m, hm⟩ => ⟨he, n + m, by rw [hm, World.drewN_drewN, Nat.add_assoc]⟩
/-- What is known of a place: its sign, its words, that both may be written. -/
structure Opn (w0 w : World) (σ : Sg) (b o : Nat) (g : Bool) (N : Nat) (v : Value) (s : Option Nat) : Prop where
  c0 : w.cell? ⟨b, o, none⟩ = some (.bool g)
  c1 : w.cell? ⟨b, o + 1, none⟩ = some v
  f0 : w.frozen? ⟨b, o, none⟩ = false
  f1 : w.frozen? ⟨b, o + 1, none⟩ = false
  nat : IsNat w v N s
  sep : ∀ k, s = some k → ∀ c it, σ c = some it → k ≠ c
  base : ∀ k, s = some k → w0.heap.size ≤ k
  abs : ∀ w' v' N' s', Chg w w' (fun k => some k = s) → IsNat w' v' N' s' → (s' = s ∨ s' = none ∨ ∃ k, s' = some k ∧ w.heap.size ≤ k) → Hold w0 (w'.setCell ⟨b, o + 1, none⟩ v') (put σ b o g N')
  neg : ∀ g', Hold w0 (w.setCell ⟨b, o, none⟩ (.bool g')) (put σ b o g' N)
  blk : ∃ cs T, w.heap[b]? = some (.cells cs T (0, 0)) ∧ cs[o]? = some (.bool g) ∧ cs[o + 1]? = some v
theorem Hold.op {w0 w : World} {σ : Sg} (h : Hold w0 w σ) {b o : Nat} {g : Bool} {N : Nat} (hn : Num σ b o g N) : ∃ v s, Opn w0 w σ b o g N v s := by
  obtain ⟨v, s, cs, T, h1, _, h3, h4, h5, h6, h7, h8⟩ := h.opened hn
  exact ⟨v, s, cellB h1 h3, cellB h1 h4, frozenB h1 _, frozenB h1 _, h5, fun k hk => (h6 k hk).2.2, fun k hk => (h6 k hk).2.1, h7, h8, cs, T, h1, h3, h4⟩
/-- The cells of any place stay while words are written elsewhere. -/
theorem Opn.after {w0 w w' : World} {σ : Sg} {b o c p : Nat} {g g1 : Bool} {N N1 : Nat} {v v1 : Value} {s s1 : Option Nat} (hb : Opn w0 w σ b o g N v s) (hc : Opn w0 w σ c p g1 N1 v1 s1) (hcn : Num σ c p g1 N1) (h : Chg w w' (fun k => some k = s)) :
    w'.cell? ⟨c, p, none⟩ = some (.bool g1) ∧ w'.cell? ⟨c, p + 1, none⟩ = some v1 ∧ w'.frozen? ⟨c, p, none⟩ = false ∧ w'.frozen? ⟨c, p + 1, none⟩ = false := by
  obtain ⟨cs, T, h1, h2, h3⟩ := hc.blk
  obtain ⟨it, hit, _⟩ := hcn
  have h4 := h.heapB h1 (fun e => hb.sep c e.symm c it hit rfl)
  exact ⟨cellB h4 h2, cellB h4 h3, frozenB h4 _, frozenB h4 _⟩
/-- A number comes into a place. -/
theorem Opn.stored {w0 w w2 w1 : World} {σ : Sg} {b o : Nat} {g : Bool} {N M : Nat} {v r : Value} {s : Option Nat} (p : Opn w0 w σ b o g N v s) (hn : Num σ b o g N) (hd : Chg w w2 (fun _ => False)) (hz : w2.heap.size = w.heap.size) (h : NatRes w2 w1 s r M) :
    w1.cell? ⟨b, o + 1, none⟩ = some v ∧ w1.frozen? ⟨b, o + 1, none⟩ = false ∧ Hold w0 (w1.setCell ⟨b, o + 1, none⟩ r) (put σ b o g M) ∧ ∃ pr cr, r = .slice pr (digs M).length cr := by
  obtain ⟨o', hr, ho', hch⟩ := h
  have hch' : Chg w w1 (fun k => some k = s) := (hd.mono (fun _ _ h => h.elim)).trans (hch.mono (fun _ _ h => .inl h))
  obtain ⟨_, g1, _, g3⟩ := Opn.after p p hn hch'
  obtain ⟨pr, cr, rfl, _, _⟩ := hr.shape
  refine ⟨g1, g3, p.abs w1 _ M o' hch' hr ?_, pr, cr, rfl⟩
  rcases ho' with h | h | ⟨k, h, hk⟩
  · exact .inl h
  · exact .inr (.inl h)
  · exact .inr (.inr ⟨k, h, by omega⟩)
theorem Num.isome {σ : Sg} {b o : Nat} {g : Bool} {N : Nat} (h : Num σ b o g N) : ∃ it, σ b = some it := by obtain ⟨it, h, _⟩ := h; exact ⟨it, h⟩
/-- Signs, where words were stored. -/
theorem Hold.signs {w0 w : World} {σ : Sg} {b o c p : Nat} {g g1 : Bool} {M N N1 : Nat} (h : Hold w0 w (put σ b o g M)) (hz : Num σ b o g N) (hx : Num σ c p g1 N1) : w.cell? ⟨c, p, none⟩ = some (.bool g1) := by
  obtain ⟨N2, hx2⟩ := hx.sign hz M
  obtain ⟨v, s, p⟩ := h.op hx2
  exact p.c0
/-- A place whose sign is to be laid. -/
theorem Hold.fin {w0 w : World} {σ : Sg} {b o : Nat} {g : Bool} {M N : Nat} (h : Hold w0 w (put σ b o g M)) (hz : Num σ b o g N) :
    ∃ p c, w.cell? ⟨b, o + 1, none⟩ = some (.slice p (digs M).length c) ∧ w.cell? ⟨b, o, none⟩ = some (.bool g) ∧ w.frozen? ⟨b, o, none⟩ = false ∧ ∀ g', Hold w0 (w.setCell ⟨b, o, none⟩ (.bool g')) (put σ b o g' M) := by
  obtain ⟨v, s, p⟩ := h.op (hz.put g M)
  obtain ⟨pr, cr, rfl, _, _⟩ := p.nat.shape
  refine ⟨pr, cr, p.c1, p.c0, p.f0, fun g' => ?_⟩
  have h1 := p.neg g'
  rw [put_put hz] at h1
  exact h1
/-- A place of an apd.BigInt. -/
def BNum (σ : Sg) (b o : Nat) (g : Bool) (N : Nat) : Prop := ∃ it, σ b = some it ∧ it.num o = some (g, N) ∧ it.k ≠ 2
theorem BNum.num {σ : Sg} {b o : Nat} {g : Bool} {N : Nat} (h : BNum σ b o g N) : Num σ b o g N := by obtain ⟨it, h1, h2, _⟩ := h; exact ⟨it, h1, h2⟩
theorem BNum.put {σ : Sg} {b o : Nat} {g : Bool} {N : Nat} (h : BNum σ b o g N) (g' : Bool) (N' : Nat) : BNum (put σ b o g' N') b o g' N' := by
  obtain ⟨it, h1, h2, h3⟩ := h
  rw [put_upd h1]
  exact ⟨_, upd_eq _ _ _, It.num_put h2 _ _, by rw [It.put_k]; exact h3⟩
theorem bnum_dec {σ : Sg} {b : Nat} {f e : Int} {n g : Bool} {N : Nat} (h : σ b = some (dec f n e g N)) : BNum σ b 3 g N := ⟨_, h, rfl, Nat.ne_of_beq_eq_false rfl⟩
theorem bnum_big {σ : Sg} {b : Nat} {g : Bool} {N : Nat} (h : σ b = some (big g N)) : BNum σ b 0 g N := ⟨_, h, rfl, Nat.ne_of_beq_eq_false rfl⟩
theorem Hold.bmin {w0 w : World} {σ : Sg} (h : Hold w0 w σ) {b o : Nat} {g : Bool} {N : Nat} (hn : BNum σ b o g N) : w.frozen? ⟨b, o + 2, none⟩ = false ∧ w.cell? ⟨b, o + 2, none⟩ = some (.bool false) ∧ Hold w0 (w.setCell ⟨b, o + 2, none⟩ (.bool false)) σ := by
  obtain ⟨it, h1, h2, h3⟩ := hn
  exact h.minus h1 h2 h3
theorem DivRes.quo {w w' : World} {oz : Option Nat} {rq rr : Value} {q r : Nat} (h : DivRes w w' oz none rq rr q r) (hc : Chg w w' (fun k => some k = oz ∨ some k = none)) : NatRes w w' oz rq q := by
  obtain ⟨oq, or', hq, hr, hoq, hor, _⟩ := h
  exact ⟨oq, hq, hoq, hc.mono (fun _ _ h => h.elim id (fun h => by cases h))⟩
theorem DivRes.rem {w w' : World} {oz : Option Nat} {rq rr : Value} {q r : Nat} (h : DivRes w w' none oz rq rr q r) (hc : Chg w w' (fun k => some k = none ∨ some k = oz)) : NatRes w w' oz rr r := by
  obtain ⟨oq, or', hq, hr, hoq, hor, _⟩ := h
  exact ⟨or', hr, hor, hc.mono (fun _ _ h => h.elim (fun h => by cases h) id)⟩
set_option maxRecDepth 20000 in
set_option maxHeartbeats 2000000 in
theorem intmul_c {w0 w : World} {σ : Sg} (h : Hold w0 w σ) {bz oz bx ox yb yo : Nat} {gz : Bool} {Z X Y : Nat} (hz : Num σ bz oz gz Z) (hx : Num σ bx ox false X) (hy : Num σ yb yo false Y) (hne : (⟨bx, ox, none⟩ : Addr) ≠ ⟨yb, yo, none⟩) (hX : (digs X).length < 40) (hY : (digs Y).length < 40) :
    Calls Tryz.prog 104 #[.pointer (some ⟨bz, oz, none⟩), .pointer none, .pointer (some ⟨bx, ox, none⟩), .pointer (some ⟨yb, yo, none⟩)] w fun e w' => e = .returned (.tuple #[]) ∧ Hold w0 w' (put σ bz oz false (X * Y)) := by
  obtain ⟨vz, sz, pz⟩ := h.op hz
  obtain ⟨vx, sx, px⟩ := h.op hx
  obtain ⟨vy, sy, py⟩ := h.op hy
  obtain ⟨cx, tx, hbx, -⟩ := px.blk
  obtain ⟨cy, ty, hby, -⟩ := py.blk
  have q := eqlInt hne hbx hby
  clear hbx hby cx tx cy ty
  have hm := fun w2 (hc : Chg w w2 (fun _ => False)) => natmul_c w2 vz (.pointer none) vx vy X Y sz sx sy (h.keep hc).glob (pz.nat.stor.chg hc (fun _ _ h => h)) (px.nat.chg hc (fun _ _ h => h)) (py.nat.chg hc (fun _ _ h => h)) hX hY
  have z1 := pz.c1
  have x0 := px.c0
  have x1 := px.c1
  have y0 := py.c0
  have y1 := py.c1
  obtain ⟨pvx, pcx, rfl, _, _⟩ := px.nat.shape
  obtain ⟨pvy, pcy, rfl, _, _⟩ := py.nat.shape
  obtain ⟨pvz, pcz, rfl, _, _⟩ := pz.nat.shape
  replace h := Lib.hid h
  replace hz := Lib.hid hz
  replace hx := Lib.hid hx
  replace hy := Lib.hid hy
  replace pz := Lib.hid pz
  replace px := Lib.hid px
  replace py := Lib.hid py
  replace hm := Lib.hid hm
  clear hX hY hne
  go_enter Tryz.func104, Tryz.ntmps104
  go_upto_region 3 with (fail)
  go_cut [41] (fun _ wx => Hold w0 wx (put σ bz oz gz (X * Y)))
  case first =>
    go_region_with ((go_at_call 129; refine (hm.out _ (by exact ⟨rfl, rfl, rfl, Nat.le_refl _, fun _ _ _ => rfl⟩)).mono ?_; rintro e w1 ⟨r, rfl, hr⟩; obtain ⟨g1, g3, hH, pr, cr, rfl⟩ := pz.out.stored hz.out (by exact ⟨rfl, rfl, rfl, Nat.le_refl _, fun _ _ _ => rfl⟩) (by rfl) hr; replace hH := Lib.hid hH))
    all_goals
      go_wp2_with fail
      go_meet
      exact hH.out
  case rest =>
    clear x0 y0 x1 y1 z1
    have x0 := hcut.signs hz.out hx.out
    have y0 := hcut.signs hz.out hy.out
    obtain ⟨p, c, z1, z0, fz, hfin⟩ := hcut.fin hz.out
    have hfin := hfin false
    replace hfin := Lib.hid hfin
    clear hcut pz px py h hm
    clear q
    obtain ⟨L, hL⟩ : ∃ L, (digs (X * Y)).length = L := ⟨_, rfl⟩
    rw [hL] at z1
    replace hL := Lib.hid hL
    by_cases hL0 : L = 0
    · replace hL := Lib.hid (show True from trivial)
      subst hL0
      go_wp2
      go_region
      all_goals
        go_wp2
        go_end0
        exact ⟨rfl, by first | exact hfin.out | exact hfin.out.drew⟩
    · have hLp : 0 < L := by omega
      go_wp2
      go_region
      all_goals
        go_wp2
        go_end0
        exact ⟨rfl, by first | exact hfin.out | exact hfin.out.drew⟩
theorem intMul_c {w0 w : World} {σ : Sg} (h : Hold w0 w σ) {bz oz bx ox yb yo : Nat} {gz : Bool} {Z X Y : Nat} (hz : Num σ bz oz gz Z) (hx : Num σ bx ox false X) (hy : Num σ yb yo false Y) (hne : (⟨bx, ox, none⟩ : Addr) ≠ ⟨yb, yo, none⟩) (hX : (digs X).length < 40) (hY : (digs Y).length < 40) :
    Calls Tryz.prog 81 #[.pointer (some ⟨bz, oz, none⟩), .pointer (some ⟨bx, ox, none⟩), .pointer (some ⟨yb, yo, none⟩)] w fun e w' => e = .returned (.pointer (some ⟨bz, oz, none⟩)) ∧ Hold w0 w' (put σ bz oz false (X * Y)) := by
  have key := intmul_c h hz hx hy hne hX hY
  replace key := Lib.hid key
  clear h hz hx hy hne hX hY
  go_enter Tryz.func81, Tryz.ntmps81
  go_wp2_with fail
  with_reducible refine key.out.mono ?_
  rintro e w1 ⟨rfl, h1⟩
  replace h1 := Lib.hid h1
  go_wp2
  go_ret
  exact ⟨rfl, h1.out⟩
end Go.Proofs.YtlnillnngckegaaGreatDoor

namespace Go.Proofs.YtlnillnngckegaaGreatDoor
open Go Go.RowKit

theorem or_step (t s : Nat) (h : t < WB) : bits .or .u64 (t : Int) ((t : Int) / ((2 ^ s : Nat) : Int)) = ((t ||| t / 2 ^ s : Nat) : Int) ∧ (t ||| t / 2 ^ s) < WB := by
  have h2 : t / 2 ^ s ≤ t := Nat.div_le_self _ _
  rw [WB_eq] at h
  refine ⟨?_, by rw [WB_eq]; exact Nat.or_lt_two_pow (n := 64) h (by omega)⟩
  rw [show ((t : Int) / ((2 ^ s : Nat) : Int)) = ((t / 2 ^ s : Nat) : Int) from (Int.natCast_ediv _ _).symm]
  exact bits_or_u64_nat t (t / 2 ^ s) (by omega) (by omega)

set_option maxRecDepth 20000 in
set_option maxHeartbeats 1000000 in
theorem bitLen_c (w : World) (x : Value) (N : Nat) (o : Option Nat) (hx : IsNat w x N o) (hn : (digs N).length ≤ 100000) :
    Calls Tryz.prog 188 #[x] w fun e w' => e = .returned (.int .i64 (nbits N : Int)) ∧ w = w' := by
  by_cases h0 : N = 0
  · subst h0
    obtain ⟨p, c, rfl, _, _⟩ := hx.shape
    rw [digs_zero]
    rw [nbits_zero]
    clear hx
    go_enter Tryz.func188, Tryz.ntmps188
    go_wp2
    go_ret
    exact ⟨rfl, rfl⟩
  · obtain ⟨b, cap, C, rfl, rfl, ha, hc, hcap, ht, hl, hp⟩ := hx.pos h0
    have hb := nbits_digs h0
    have hcell := ha.cellN (i := (digs N).length - 1) (by omega)
    have hnt : nth C ((digs N).length - 1) = nth (digs N) ((digs N).length - 1) := by
      have h1 := nth_take (l := C) (i := (digs N).length - 1) (k := (digs N).length) (by omega)
      rw [ht] at h1
      exact h1.symm
    rw [hnt] at hcell
    have htw : nth (digs N) ((digs N).length - 1) < WB := (Wd_digs N).nth _
    generalize nth (digs N) ((digs N).length - 1) = t at *
    obtain ⟨L, hL⟩ : ∃ L, (digs N).length = L + 1 := ⟨(digs N).length - 1, by omega⟩
    rw [hL] at hb hcell hl ⊢
    rw [Nat.add_sub_cancel] at hb hcell
    obtain ⟨e1, w1⟩ := or_step t 1 htw
    obtain ⟨e2, w2⟩ := or_step _ 2 w1
    obtain ⟨e3, w3⟩ := or_step _ 4 w2
    obtain ⟨e4, w4⟩ := or_step _ 8 w3
    obtain ⟨e5, w5⟩ := or_step _ 16 w4
    obtain ⟨e6, w6⟩ := or_step _ 32 w5
    have b1 := nbits_spread t 1
    have b2 := nbits_spread (t ||| t / 2 ^ 1) 2
    generalize (t ||| t / 2 ^ 1) = t1 at *
    have b3 := nbits_spread (t1 ||| t1 / 2 ^ 2) 4
    generalize (t1 ||| t1 / 2 ^ 2) = t2 at *
    have b4 := nbits_spread (t2 ||| t2 / 2 ^ 4) 8
    generalize (t2 ||| t2 / 2 ^ 4) = t3 at *
    have b5 := nbits_spread (t3 ||| t3 / 2 ^ 8) 16
    generalize (t3 ||| t3 / 2 ^ 8) = t4 at *
    have b6 := nbits_spread (t4 ||| t4 / 2 ^ 16) 32
    generalize (t4 ||| t4 / 2 ^ 16) = t5 at *
    generalize (t5 ||| t5 / 2 ^ 32) = t6 at *
    have kb := fun w => bits_Len_c t6 w6 w
    rw [← nbits_blen w6, b6, b5, b4, b3, b2, b1] at kb
    have e6' : bits .or .u64 (t5 : Int) ((t5 : Int) / 65536 / 65536) = (t6 : Int) := by rw [← e6]; congr 1; omega
    replace e1 : bits .or .u64 (t : Int) ((t : Int) / 2) = (t1 : Int) := e1
    replace e2 : bits .or .u64 (t1 : Int) ((t1 : Int) / 4) = (t2 : Int) := e2
    replace e3 : bits .or .u64 (t2 : Int) ((t2 : Int) / 16) = (t3 : Int) := e3
    replace e4 : bits .or .u64 (t3 : Int) ((t3 : Int) / 256) = (t4 : Int) := e4
    replace e5 : bits .or .u64 (t4 : Int) ((t4 : Int) / 65536) = (t5 : Int) := e5
    have hfin : (L : Int) * 64 + (nbits t : Int) = (nbits N : Int) := by rw [hb]; omega
    have hnb : nbits t ≤ 64 := by rw [nbits_blen htw]; exact blen_le htw
    have hLb : L ≤ 100000 := by omega
    clear hx ha hc hcap ht hp h0 hb b1 b2 b3 b4 b5 b6 w1 w2 w3 w4 w5 w6 htw hnt e6 hL hn
    have hi1 : IntKind.i64.wrap ((L : Int) * 64) = (L : Int) * 64 := IntWalk.i64_in _ (by omega)
    have hi2 : IntKind.i64.wrap ((L : Int) * 64 + (nbits t : Int)) = (nbits N : Int) := by rw [← hfin]; exact IntWalk.i64_in _ (by omega)
    replace hfin := Lib.hid hfin
    replace kb := Lib.hid kb
    generalize nbits t = nt at *
    generalize nbits N = nN at *
    go_enter Tryz.func188, Tryz.ntmps188
    go_wp2_with fail
    with_reducible refine (kb.out _).mono ?_
    rintro e w' ⟨rfl, hw⟩
    obtain rfl := hw
    go_wp2
    go_ret
    exact ⟨ret_i (by first | rfl | exact hfin.out | exact hi2 | omega), rfl⟩
theorem intBits_c {w0 w : World} {σ : Sg} (h : Hold w0 w σ) {bx ox : Nat} {gx : Bool} {X : Nat} (hx : Num σ bx ox gx X) (hn : (digs X).length ≤ 100000) :
    Calls Tryz.prog 161 #[.pointer (some ⟨bx, ox, none⟩)] w fun e w' => e = .returned (.int .i64 (nbits X : Int)) ∧ w = w' := by
  obtain ⟨v, s, p⟩ := h.op hx
  have k := bitLen_c w v X s p.nat hn
  have x1 := p.c1
  obtain ⟨pv, pc, rfl, _, _⟩ := p.nat.shape
  replace k := Lib.hid k
  clear h p hx
  go_enter Tryz.func161, Tryz.ntmps161
  go_wp2_with fail
  with_reducible refine k.out.mono ?_
  rintro e w' ⟨rfl, hw⟩
  obtain rfl := hw
  go_wp2
  go_ret
  exact ⟨rfl, rfl⟩
theorem bigBits_c {w0 w : World} {σ : Sg} (h : Hold w0 w σ) {bx ox : Nat} {gx : Bool} {X : Nat} (hx : BNum σ bx ox gx X) (hn : (digs X).length ≤ 100000) :
    Calls Tryz.prog 130 #[.pointer (some ⟨bx, ox, none⟩)] w fun e w' => e = .returned (.int .i64 (nbits X : Int)) ∧ w = w' := by
  have k := intBits_c h hx.num hn
  replace k := Lib.hid k
  clear h hx
  go_enter Tryz.func130, Tryz.ntmps130
  go_wp2_with fail
  with_reducible refine k.out.mono ?_
  rintro e w' ⟨rfl, hw⟩
  obtain rfl := hw
  go_wp2
  go_ret
  exact ⟨rfl, rfl⟩
end Go.Proofs.YtlnillnngckegaaGreatDoor
