/- What the laws of rounded answers lean on: contexts, boxes, sizes. Boxes of the laws: decimals as plain data; values; contexts. -/
import Derived.Test.YtonepclpllelfaaGreatDoorC16
import Derived.Test.YtonepclpllelfaaGreatDoorC19
import Derived.Test.YtonepclpllelfaaGreatDoorC36
namespace Go.Proofs.YtonepclpllelfaaGreatDoor
open Go Go.RowKit

theorem rnd_sign {s n : Bool} {N : Nat} (h : s = n ∨ N = 0) (p m : Nat) (hp : 1 ≤ p) : rndN s N p m = rndN n N p m ∧ rndK s N p m = rndK n N p m := by
  rcases h with rfl | rfl
  · exact ⟨rfl, rfl⟩
  · unfold rndN rndK; rw [figs_zero, if_pos hp, if_pos hp, if_pos hp, if_pos hp]; exact ⟨rfl, rfl⟩
theorem rndN_zero {n : Bool} {N p m : Nat} (hp : 1 ≤ p) (h : N = 0) : rndN n N p m = 0 := by
  subst h; unfold rndN; rw [figs_zero, if_pos hp]

/-- A context of a precision from 1 to 60 and a mode. -/
theorem wideC_c (w : World) (prec mode : Int) (p m : Nat) (hp : 0 ≤ prec ∧ prec ≤ 255) (hm : 0 ≤ mode ∧ mode ≤ 255) (hmm : mode % 8 = (m : Int)) (hpp : 1 + prec % 60 = (p : Int)) :
    Calls Tryz.prog 7 #[.int .u8 prec, .int .u8 mode] w fun e w' => e = .returned (.agg #[.int .u64 (p : Int), .int .i64 100000, .int .i64 (-100000), .int .i64 (m : Int)]) ∧ Below w.heap.size w w' := by
  obtain ⟨hp1, hp2⟩ := hp
  obtain ⟨hm1, hm2⟩ := hm
  have i1 : IntKind.u64.wrap (prec % 60) = prec % 60 := IntWalk.u64_in _ (by omega)
  have i2 : IntKind.u64.wrap (1 + prec % 60) = 1 + prec % 60 := IntWalk.u64_in _ (by omega)
  rw [← hmm, ← hpp]
  clear hmm hpp
  go_enter Tryz.func7, Tryz.ntmps7
  go_wp2
  exact bodyPost_ret (v := .agg #[.int .u64 (1 + prec % 60), .int .i64 100000, .int .i64 (-100000), .int .i64 (mode % 8)]) (by simp [results, Tryz.results7, go_sem]) rfl ⟨rfl, (Below.refl _ _).alloc (Nat.le_refl _) _⟩
theorem cbelow {w w' : World} (h : Chg w w' (fun _ => False)) : Below w.heap.size w w' := ⟨h.os, h.tape, h.output, h.size, fun k hk => h.block k hk (fun h => h)⟩
theorem Glob.bel {w w' : World} (h : Glob w) (hb : Below w.heap.size w w') : Glob w' := h.chg (Below.chg hb) (fun _ _ h => h)
/-- Three words. -/
theorem val3 {X : List Nat} (hw : Wd X) {l : Nat} (hX : X.length = l) (hl : l ≤ 3) : val X < 10 ^ 58 ∧ nbits (val X) ≤ 192 := by
  have h1 := val_lt hw
  have h2 : WB ^ X.length ≤ WB ^ 3 := Nat.pow_le_pow_right WB_pos (by omega)
  have h3 : WB ^ 3 = 2 ^ 192 := by rw [WB_bits]
  have h4 : 2 ^ 192 < 10 ^ 58 := by decide
  exact ⟨by omega, nbits_le_iff.2 (by omega)⟩
theorem nbits_wide {N i k : Nat} (h : nbits N ≤ k) : nbits (N * 10 ^ i) ≤ k + 4 * i := by
  rw [nbits_le_iff] at *
  rw [Nat.pow_add, Nat.pow_mul]
  exact Nat.lt_of_lt_of_le (Nat.mul_lt_mul_of_pos_right h (ten_pos i)) (Nat.mul_le_mul_left _ (Nat.pow_le_pow_left (by decide) i))
theorem d16_len_ten {N j : Nat} (h : N < 10 ^ j) : (d16 N).length ≤ j := (dB_len_le two16).2 (Nat.lt_of_lt_of_le h (Nat.pow_le_pow_left (by decide) j))
theorem figs_ten {N j : Nat} (h : N < 10 ^ j) : figs N ≤ j + 1 := (figs_le_iff (by omega)).2 (Nat.lt_of_lt_of_le h (ten_le (by omega)))
theorem rnd_small {n : Bool} {N p m : Nat} (hp : 1 ≤ p) (hp2 : p ≤ 60) : (digs (rndN n N p m)).length ≤ 4 := by
  have h1 := figs_lt (rndN n N p m)
  have h2 := ten_le (Nat.le_trans (rndN_figs (neg := n) (C := N) (p := p) (mode := m) hp) hp2)
  have h3 : 10 ^ 60 < WB ^ 4 := by rw [WB_bits]; decide
  exact digs_len_le.2 (by omega)
theorem rndK_le (n : Bool) (N p m : Nat) : rndK n N p m ≤ figs N + 1 := by
  unfold rndK; split
  · omega
  · split <;> omega
theorem sum_ten {A B j : Nat} (hA : A < 10 ^ j) (hB : B < 10 ^ j) (s t : Bool) : (if s = t then A + B else if B ≤ A then A - B else B - A) < 10 ^ (j + 1) := by
  rw [ten_succ]
  split
  · omega
  · split <;> omega
theorem wide_ten {N i j : Nat} (h : N < 10 ^ j) : N * 10 ^ i < 10 ^ (j + i) := by
  rw [Nat.pow_add]; exact Nat.mul_lt_mul_of_pos_right h (ten_pos i)
theorem ten_weak {N i j : Nat} (h : N < 10 ^ i) (hij : i ≤ j) : N < 10 ^ j := Nat.lt_of_lt_of_le h (ten_le hij)
/-- The boxes of what is told, of one value, and of a context. -/
def Bl1 (zb vb cb : Nat) (nz : Bool) (q : Option Addr) (lq cq : Nat) (ez : Int) (s : Bool) (p : Option Addr) (l c : Nat) (e : Int) (pr m : Nat) (w : World) : Prop :=
  w.heap[zb]? = some (.cells #[.int .i64 0, .bool nz, .slice q lq cq, .int .i64 ez] 24 (0, 0)) ∧ w.heap[vb]? = some (.cells #[.bool s, .slice p l c, .int .i64 e] 29 (0, 0)) ∧
    w.heap[cb]? = some (.cells #[.int .u64 (pr : Int), .int .i64 100000, .int .i64 (-100000), .int .i64 (m : Int)] 35 (0, 0))
theorem Bl1.cells {zb vb cb : Nat} {nz : Bool} {q : Option Addr} {lq cq : Nat} {ez : Int} {s : Bool} {p : Option Addr} {l c : Nat} {e : Int} {pr m : Nat} {w : World} (h : Bl1 zb vb cb nz q lq cq ez s p l c e pr m w) :
    w.cell? ⟨zb, 0, none⟩ = some (.int .i64 0) ∧ w.cell? ⟨zb, 1, none⟩ = some (.bool nz) ∧ w.cell? ⟨zb, 2, none⟩ = some (.slice q lq cq) ∧ w.cell? ⟨zb, 3, none⟩ = some (.int .i64 ez) ∧
    w.cell? ⟨vb, 0, none⟩ = some (.bool s) ∧ w.cell? ⟨vb, 1, none⟩ = some (.slice p l c) ∧ w.cell? ⟨vb, 2, none⟩ = some (.int .i64 e) ∧
    w.cell? ⟨cb, 0, none⟩ = some (.int .u64 (pr : Int)) ∧ w.cell? ⟨cb, 1, none⟩ = some (.int .i64 100000) ∧ w.cell? ⟨cb, 2, none⟩ = some (.int .i64 (-100000)) ∧ w.cell? ⟨cb, 3, none⟩ = some (.int .i64 (m : Int)) :=
  ⟨cellB h.1 rfl, cellB h.1 rfl, cellB h.1 rfl, cellB h.1 rfl, cellB h.2.1 rfl, cellB h.2.1 rfl, cellB h.2.1 rfl, cellB h.2.2 rfl, cellB h.2.2 rfl, cellB h.2.2 rfl, cellB h.2.2 rfl⟩
theorem Bl1.new {zb vb cb : Nat} {nz : Bool} {q : Option Addr} {lq cq : Nat} {ez : Int} {s : Bool} {p : Option Addr} {l c : Nat} {e : Int} {pr m : Nat} {w w' : World} (h : Bl1 zb vb cb nz q lq cq ez s p l c e pr m w) (hb : Below w.heap.size w w') : Bl1 zb vb cb nz q lq cq ez s p l c e pr m w' := ⟨bkeep hb h.1, bkeep hb h.2.1, bkeep hb h.2.2⟩
theorem addS_sum (s t : Bool) (A B : Nat) (fl : Bool) : addS s t A B fl = sumS s t A B ∨ addN s t A B = 0 := by
  unfold addS sumS addN
  by_cases h : s = t
  · rw [if_pos h, if_pos h]; exact .inl rfl
  · rw [if_neg h, if_neg h, if_neg h]
    rcases Nat.lt_trichotomy A B with h1 | h1 | h1
    · rw [if_neg (by omega), if_neg (by omega), if_neg (by omega)]
      refine .inl ?_
      cases s <;> cases t <;> simp_all
    · subst h1; rw [if_pos (Nat.le_refl _)]; exact .inr (by simp)
    · rw [if_neg (by omega), if_pos h1, if_pos (by omega)]; exact .inl rfl
end Go.Proofs.YtonepclpllelfaaGreatDoor

namespace Go.Proofs.YtonepclpllelfaaGreatDoor
open Go Go.RowKit

/-- The boxes of two decimals as plain data. -/
def Bd22 (k : Nat) (f : Int) (n : Bool) (A : Option Addr) (l c : Nat) (e : Int) (g : Int) (o : Bool) (B : Option Addr) (r s : Nat) (d : Int) (w : World) : Prop :=
  w.heap[k]? = some (.cells #[.int .i64 f, .bool n, .slice A l c, .int .i64 e] 24 (0, 0)) ∧ w.heap[k + 1]? = some (.cells #[.int .i64 g, .bool o, .slice B r s, .int .i64 d] 24 (0, 0))
theorem Bd22.cells {k : Nat} {f : Int} {n : Bool} {A : Option Addr} {l c : Nat} {e : Int} {g : Int} {o : Bool} {B : Option Addr} {r s : Nat} {d : Int} {w : World} (h : Bd22 k f n A l c e g o B r s d w) :
    w.cell? ⟨k, 0, none⟩ = some (.int .i64 f) ∧ w.cell? ⟨k, 1, none⟩ = some (.bool n) ∧ w.cell? ⟨k, 2, none⟩ = some (.slice A l c) ∧ w.cell? ⟨k, 3, none⟩ = some (.int .i64 e) ∧
    w.cell? ⟨k + 1, 0, none⟩ = some (.int .i64 g) ∧ w.cell? ⟨k + 1, 1, none⟩ = some (.bool o) ∧ w.cell? ⟨k + 1, 2, none⟩ = some (.slice B r s) ∧ w.cell? ⟨k + 1, 3, none⟩ = some (.int .i64 d) :=
  ⟨cellB h.1 rfl, cellB h.1 rfl, cellB h.1 rfl, cellB h.1 rfl, cellB h.2 rfl, cellB h.2 rfl, cellB h.2 rfl, cellB h.2 rfl⟩
theorem Bd22.new {k : Nat} {f : Int} {n : Bool} {A : Option Addr} {l c : Nat} {e : Int} {g : Int} {o : Bool} {B : Option Addr} {r s : Nat} {d : Int} {w w' : World} (h : Bd22 k f n A l c e g o B r s d w) (hb : Below w.heap.size w w') : Bd22 k f n A l c e g o B r s d w' := ⟨bkeep hb h.1, bkeep hb h.2⟩
/-- The boxes of what is told, of two values, and of a context. -/
def Bl2 (zb vb ub cb : Nat) (nz : Bool) (q : Option Addr) (lq cq : Nat) (ez : Int) (s : Bool) (p : Option Addr) (l c : Nat) (e : Int) (t : Bool) (u : Option Addr) (a b : Nat) (f : Int) (pr m : Nat) (w : World) : Prop :=
  w.heap[zb]? = some (.cells #[.int .i64 0, .bool nz, .slice q lq cq, .int .i64 ez] 24 (0, 0)) ∧ w.heap[vb]? = some (.cells #[.bool s, .slice p l c, .int .i64 e] 29 (0, 0)) ∧ w.heap[ub]? = some (.cells #[.bool t, .slice u a b, .int .i64 f] 29 (0, 0)) ∧
    w.heap[cb]? = some (.cells #[.int .u64 (pr : Int), .int .i64 100000, .int .i64 (-100000), .int .i64 (m : Int)] 35 (0, 0))
theorem Bl2.cells {zb vb ub cb : Nat} {nz : Bool} {q : Option Addr} {lq cq : Nat} {ez : Int} {s : Bool} {p : Option Addr} {l c : Nat} {e : Int} {t : Bool} {u : Option Addr} {a b : Nat} {f : Int} {pr m : Nat} {w : World} (h : Bl2 zb vb ub cb nz q lq cq ez s p l c e t u a b f pr m w) :
    w.cell? ⟨zb, 0, none⟩ = some (.int .i64 0) ∧ w.cell? ⟨zb, 1, none⟩ = some (.bool nz) ∧ w.cell? ⟨zb, 2, none⟩ = some (.slice q lq cq) ∧ w.cell? ⟨zb, 3, none⟩ = some (.int .i64 ez) ∧
    w.cell? ⟨vb, 0, none⟩ = some (.bool s) ∧ w.cell? ⟨vb, 1, none⟩ = some (.slice p l c) ∧ w.cell? ⟨vb, 2, none⟩ = some (.int .i64 e) ∧
    w.cell? ⟨ub, 0, none⟩ = some (.bool t) ∧ w.cell? ⟨ub, 1, none⟩ = some (.slice u a b) ∧ w.cell? ⟨ub, 2, none⟩ = some (.int .i64 f) ∧
    w.cell? ⟨cb, 0, none⟩ = some (.int .u64 (pr : Int)) ∧ w.cell? ⟨cb, 1, none⟩ = some (.int .i64 100000) ∧ w.cell? ⟨cb, 2, none⟩ = some (.int .i64 (-100000)) ∧ w.cell? ⟨cb, 3, none⟩ = some (.int .i64 (m : Int)) :=
  ⟨cellB h.1 rfl, cellB h.1 rfl, cellB h.1 rfl, cellB h.1 rfl, cellB h.2.1 rfl, cellB h.2.1 rfl, cellB h.2.1 rfl, cellB h.2.2.1 rfl, cellB h.2.2.1 rfl, cellB h.2.2.1 rfl, cellB h.2.2.2 rfl, cellB h.2.2.2 rfl, cellB h.2.2.2 rfl, cellB h.2.2.2 rfl⟩
theorem Bl2.new {zb vb ub cb : Nat} {nz : Bool} {q : Option Addr} {lq cq : Nat} {ez : Int} {s : Bool} {p : Option Addr} {l c : Nat} {e : Int} {t : Bool} {u : Option Addr} {a b : Nat} {f : Int} {pr m : Nat} {w w' : World} (h : Bl2 zb vb ub cb nz q lq cq ez s p l c e t u a b f pr m w) (hb : Below w.heap.size w w') : Bl2 zb vb ub cb nz q lq cq ez s p l c e t u a b f pr m w' := ⟨bkeep hb h.1, bkeep hb h.2.1, bkeep hb h.2.2.1, bkeep hb h.2.2.2⟩
theorem RdD.chgAt' {w w' : World} {A : Option Addr} {l c : Nat} {D : List Nat} {S : Nat → Prop} (h : RdD w A l c D) (hb : Chg w w' S) (hS : ∀ ad, 0 < l → A = some ad → ¬ S ad.block) : RdD w' A l c D :=
  ⟨h.len, h.cap, h.max, h.dg, fun hl => by
    obtain ⟨ad, e, hc⟩ := h.cells hl
    exact ⟨ad, e, fun j hj => hb.cell (hc j hj) (by rw [add_block]; exact hS ad hl e)⟩⟩
theorem RdW.bel {w w' : World} {A : Option Addr} {l c : Nat} {X : List Nat} (h : RdW w A l c X) (hb : Below w.heap.size w w') : RdW w' A l c X := h.below hb
end Go.Proofs.YtonepclpllelfaaGreatDoor
