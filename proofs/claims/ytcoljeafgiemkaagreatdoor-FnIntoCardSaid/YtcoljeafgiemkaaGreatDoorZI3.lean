/- The six operations whatever their receiver is: what they give depends on the numbers alone. What is told of an answer of any form, where its words lie; both orders of an operation into an operand. -/
import Derived.Test.YtcoljeafgiemkaaGreatDoorC38
import Derived.Test.YtcoljeafgiemkaaGreatDoorC40
import Derived.Test.YtcoljeafgiemkaaGreatDoorC41
import Derived.Test.YtcoljeafgiemkaaGreatDoorC44
import Derived.Test.YtcoljeafgiemkaaGreatDoorC49
import Derived.Test.YtcoljeafgiemkaaGreatDoorC48
import Derived.Test.YtcoljeafgiemkaaGreatDoorC50
namespace Go.Proofs.YtcoljeafgiemkaaGreatDoor
open Go Go.RowKit

/-- An operation: whatever the receiver is (one of the operands, or none), it becomes D, and the conditions are r. -/
def OpAt (F : FuncId) (p m : Nat) (n o : Bool) (e d : Int) (X Y : Nat) (D : It) (r : Nat) : Prop :=
  ∀ (w0 w : World) (σ : Sg) (c z x y : Nat) (f' e' : Int) (n' : Bool) (N' : Nat), Hold w0 w σ → σ c = some (ctxO p 100000 (-100000) (modeS m)) → σ z = some (dec f' n' e' false N') → σ x = some (dec 0 n e false X) → σ y = some (dec 0 o d false Y) → (x = y → z = x ∨ False) →
    Calls Tryz.prog F #[.pointer (some ⟨c, 0, none⟩), .pointer (some ⟨z, 0, none⟩), .pointer (some ⟨x, 0, none⟩), .pointer (some ⟨y, 0, none⟩)] w fun E w' => E = .returned (.tuple #[.int .u32 (r : Int), .nilIface]) ∧ Hold w0 w' (upd σ z D)
def OpRes (F : FuncId) (p m : Nat) (n o : Bool) (e d : Int) (X Y : Nat) : Prop :=
  ∃ (f E0 : Int) (s : Bool) (R r : Nat), OpAt F p m n o e d X Y (dec f s E0 false R) r ∧ (f = 0 ∨ f = 3 ∧ E0 = 0 ∧ R = 0) ∧ (digs R).length ≤ 900 ∧ (-100000 ≤ E0 ∧ E0 ≤ 100000) ∧ r < 4096
theorem rndC_lt (N p : Nat) : rndC N p < 4096 := by unfold rndC; split <;> (try split) <;> omega
theorem big58 {N : Nat} (h : nbits N ≤ 1090) : (digs N).length ≤ 900 := Nat.le_trans (bits_w (k := 18) (by omega)) (by omega)
/-- Two numbers at one exponent. -/
theorem two_at {X Y : Nat} {e d : Int} (x1 : X < 10 ^ 58 ∧ nbits X ≤ 192) (y1 : Y < 10 ^ 58 ∧ nbits Y ≤ 192) (he : -100 ≤ e ∧ e ≤ 100) (hd : -100 ≤ d ∧ d ≤ 100) :
    ∃ (A B : Nat), A = X * 10 ^ (e - d).toNat ∧ B = Y * 10 ^ (d - e).toNat ∧ A < 10 ^ (258 : Nat) ∧ B < 10 ^ (258 : Nat) ∧ nbits A ≤ 1090 ∧ nbits B ≤ 1090 := by
  obtain ⟨i, hi⟩ : ∃ i, (e - d).toNat = i := ⟨_, rfl⟩
  obtain ⟨j, hj⟩ : ∃ j, (d - e).toNat = j := ⟨_, rfl⟩
  rw [hi, hj]
  obtain ⟨J, hJ⟩ : ∃ J, J = 258 := ⟨_, rfl⟩
  rw [← hJ]
  exact ⟨_, _, rfl, rfl, ten_weak (wide_ten x1.1) (by omega), ten_weak (wide_ten y1.1) (by omega), Nat.le_trans (nbits_wide x1.2) (by omega), Nat.le_trans (nbits_wide y1.2) (by omega)⟩
theorem opAdd {p m : Nat} (hm : m < 8) (hp : 1 ≤ p ∧ p ≤ 60) {n o : Bool} {e d : Int} {X Y : Nat} (x1 : X < 10 ^ 58 ∧ nbits X ≤ 192) (y1 : Y < 10 ^ 58 ∧ nbits Y ≤ 192) (he : -100 ≤ e ∧ e ≤ 100) (hd : -100 ≤ d ∧ d ≤ 100) : OpRes 57 p m n o e d X Y := by
  obtain ⟨A, B, hA, hB, a1, b1, a2, b2⟩ := two_at x1 y1 he hd
  obtain ⟨G, hG⟩ : ∃ G : Int, G = if e ≤ d then e else d := ⟨_, rfl⟩
  obtain ⟨J, hJ⟩ : ∃ J, J = 258 := ⟨_, rfl⟩
  rw [← hJ] at a1 b1
  have n1 : addN n (o != false) A B < 10 ^ (J + 1) := sum_ten a1 b1 n _
  obtain ⟨s, hs⟩ : ∃ s, addS n (o != false) A B (decide (m = 4)) = s := ⟨_, rfl⟩
  obtain ⟨N, hN⟩ : ∃ N, addN n (o != false) A B = N := ⟨_, rfl⟩
  rw [hN] at n1
  have f1 := figs_ten n1
  have hk := rndK_le s N p m
  have hR := rnd_small (n := s) (N := N) (m := m) hp.1 hp.2
  refine ⟨0, G + (rndK s N p m : Int), s, rndN s N p m, rndC N p, fun w0 w σ c z x y f' e' n' N' hh hc hz hx hy _ => ?_, .inl rfl, by omega, by omega, rndC_lt N p⟩
  have h := cAdd_c hh hz hx hy hc (p := p) (m := m) ⟨hp.1, by omega⟩ (by omega) (by omega) (by omega) (by omega) hm (by omega) (by omega) (by omega) hG hA hB a2 b2
  rw [hs, hN] at h
  exact h
theorem opSub {p m : Nat} (hm : m < 8) (hp : 1 ≤ p ∧ p ≤ 60) {n o : Bool} {e d : Int} {X Y : Nat} (x1 : X < 10 ^ 58 ∧ nbits X ≤ 192) (y1 : Y < 10 ^ 58 ∧ nbits Y ≤ 192) (he : -100 ≤ e ∧ e ≤ 100) (hd : -100 ≤ d ∧ d ≤ 100) : OpRes 58 p m n o e d X Y := by
  obtain ⟨A, B, hA, hB, a1, b1, a2, b2⟩ := two_at x1 y1 he hd
  obtain ⟨G, hG⟩ : ∃ G : Int, G = if e ≤ d then e else d := ⟨_, rfl⟩
  obtain ⟨J, hJ⟩ : ∃ J, J = 258 := ⟨_, rfl⟩
  rw [← hJ] at a1 b1
  have n1 : addN n (o != true) A B < 10 ^ (J + 1) := sum_ten a1 b1 n _
  obtain ⟨s, hs⟩ : ∃ s, addS n (o != true) A B (decide (m = 4)) = s := ⟨_, rfl⟩
  obtain ⟨N, hN⟩ : ∃ N, addN n (o != true) A B = N := ⟨_, rfl⟩
  rw [hN] at n1
  have f1 := figs_ten n1
  have hk := rndK_le s N p m
  have hR := rnd_small (n := s) (N := N) (m := m) hp.1 hp.2
  refine ⟨0, G + (rndK s N p m : Int), s, rndN s N p m, rndC N p, fun w0 w σ c z x y f' e' n' N' hh hc hz hx hy _ => ?_, .inl rfl, by omega, by omega, rndC_lt N p⟩
  have h := cSub_c hh hz hx hy hc (p := p) (m := m) ⟨hp.1, by omega⟩ (by omega) (by omega) (by omega) (by omega) hm (by omega) (by omega) (by omega) hG hA hB a2 b2
  rw [hs, hN] at h
  exact h
theorem opMul {p m : Nat} (hm : m < 8) (hp : 1 ≤ p ∧ p ≤ 60) {n o : Bool} {e d : Int} {X Y : Nat} (x1 : X < 10 ^ 58 ∧ nbits X ≤ 192) (y1 : Y < 10 ^ 58 ∧ nbits Y ≤ 192) (he : -100 ≤ e ∧ e ≤ 100) (hd : -100 ≤ d ∧ d ≤ 100) : OpRes 59 p m n o e d X Y := by
  have n1 : X * Y < 10 ^ 116 := by
    rw [show (116 : Nat) = 58 + 58 from rfl, Nat.pow_add]
    exact Nat.mul_lt_mul'' x1.1 y1.1
  have f1 := figs_ten n1
  obtain ⟨s, hs⟩ : ∃ s, (n != o) = s := ⟨_, rfl⟩
  have hk := rndK_le s (X * Y) p m
  have hR := rnd_small (n := s) (N := X * Y) (m := m) hp.1 hp.2
  refine ⟨0, e + d + (rndK s (X * Y) p m : Int), s, rndN s (X * Y) p m, rndC (X * Y) p, fun w0 w σ c z x y f' e' n' N' hh hc hz hx hy hxy => ?_, .inl rfl, by omega, by omega, rndC_lt _ p⟩
  by_cases h1 : x = y
  · obtain rfl : z = x := (hxy h1).resolve_right (fun h => h)
    subst h1
    rw [hx] at hy
    cases hy
    have h := cMulSelf_c hh hx hc (p := p) (m := m) ⟨hp.1, by omega⟩ (by omega) (by omega) (by omega) hm (by omega)
    rw [show (false : Bool) = s by rw [← hs]; cases n <;> rfl] at h
    exact h
  · by_cases h2 : z = x
    · subst h2
      have h := cMulX_c hh hx hy h1 hc (p := p) (m := m) ⟨hp.1, by omega⟩ (by omega) (by omega) (by omega) (by omega) hm (by omega) (by omega)
      rw [hs] at h
      exact h
    · by_cases h3 : z = y
      · subst h3
        have h := cMulY_c hh hx hy (Ne.symm h1) hc (p := p) (m := m) ⟨hp.1, by omega⟩ (by omega) (by omega) (by omega) (by omega) hm (by omega) (by omega)
        rw [hs] at h
        exact h
      · have h := cMul_c hh hz hx hy h1 h2 h3 hc (p := p) (m := m) ⟨hp.1, by omega⟩ (by omega) (by omega) (by omega) (by omega) hm (by omega) (by omega)
        rw [hs] at h
        exact h
theorem opQuo {p m : Nat} (hm : m < 8) (hp : 1 ≤ p ∧ p ≤ 60) {n o : Bool} {e d : Int} {X Y : Nat} (x1 : X < 10 ^ 58 ∧ nbits X ≤ 192) (y1 : Y < 10 ^ 58 ∧ nbits Y ≤ 192) (he : -100 ≤ e ∧ e ≤ 100) (hd : -100 ≤ d ∧ d ≤ 100) (hY0 : Y ≠ 0) : OpRes 60 p m n o e d X Y := by
  obtain ⟨s, hs⟩ : ∃ s, (n != o) = s := ⟨_, rfl⟩
  by_cases hX0 : X = 0
  · subst hX0
    refine ⟨0, e - d, s, 0, 0, fun w0 w σ c z x y f' e' n' N' hh hc hz hx hy _ => ?_, .inl rfl, by rw [digs_zero]; simp, by omega, by omega⟩
    exact cQuo0_c hh hz hx hy hc hp.1 (by omega) (by omega) hY0 (by omega) (by omega) hs
  · have fX := figs_ten x1.1
    have fY := figs_ten y1.1
    have pX := figs_pos X
    have pY := figs_pos Y
    obtain ⟨D, hD⟩ : ∃ D, X * 10 ^ (quoU X Y + (p - 1)) = D := ⟨_, rfl⟩
    obtain ⟨E, hE⟩ : ∃ E, Y * 10 ^ (figs X - figs Y) = E := ⟨_, rfl⟩
    have l5 := quo_figs s m hX0 hY0 hp.1 hD hE
    have hq : -300 ≤ qE X Y p ∧ qE X Y p ≤ 300 := by
      obtain ⟨k, hk⟩ : ∃ k, p + 2 + figs Y - figs X = k := ⟨_, rfl⟩
      obtain ⟨q, hq⟩ : ∃ q, sticky (X * 10 ^ k) Y = q := ⟨_, rfl⟩
      obtain ⟨l1, l2, l3, l4⟩ := quo_law s m hX0 hY0 hp.1 (k := k) (by omega) hq hD hE
      have hq1 : q < 10 ^ (58 + k + 1) := by rw [← hq]; exact sticky_ten hY0 x1.1
      have hq2 := figs_ten hq1
      omega
    obtain ⟨R, hR⟩ : ∃ R, rndF s D E m = R := ⟨_, rfl⟩
    rw [hR] at l5
    have hRt : R < 10 ^ 61 := by
      rcases l5 with h | ⟨h, _⟩
      · exact Nat.lt_of_lt_of_le (figs_lt R) (ten_le (by omega))
      · rw [h]; exact ten_lt (by omega)
    have hR4 : (digs R).length ≤ 4 := by
      refine digs_len_le.2 (Nat.lt_of_lt_of_le hRt ?_)
      rw [WB_bits]; decide
    obtain ⟨rq, hrq, hr4⟩ : ∃ rq : Nat, ((D % E = 0 ∧ rq = 0) ∨ (D % E ≠ 0 ∧ rq = 80)) ∧ rq < 4096 := by
      by_cases h : D % E = 0
      · exact ⟨0, .inl ⟨h, rfl⟩, by omega⟩
      · exact ⟨80, .inr ⟨h, rfl⟩, by omega⟩
    refine ⟨0, e - d + qE X Y p, s, R, rq, fun w0 w σ c z x y f' e' n' N' hh hc hz hx hy _ => ?_, .inl rfl, by omega, by omega, hr4⟩
    have h := cQuo_c hh hz hx hy hc (p := p) (m := m) ⟨hp.1, by omega⟩ (by omega) (by omega) (by omega) (by omega) hX0 hY0 hm (by omega) (by omega) hD hE hs rfl hrq
    rw [hR] at h
    exact h
theorem opQuoInt {p m : Nat} (_hm : m < 8) (hp : 1 ≤ p ∧ p ≤ 60) {n o : Bool} {e d : Int} {X Y : Nat} (x1 : X < 10 ^ 58 ∧ nbits X ≤ 192) (y1 : Y < 10 ^ 58 ∧ nbits Y ≤ 192) (he : -100 ≤ e ∧ e ≤ 100) (hd : -100 ≤ d ∧ d ≤ 100) (hY0 : Y ≠ 0) : OpRes 61 p m n o e d X Y := by
  obtain ⟨A, B, hA, hB, -, -, a2, b2⟩ := two_at x1 y1 he hd
  obtain ⟨s, hs⟩ : ∃ s, (n != o) = s := ⟨_, rfl⟩
  obtain ⟨Q, hQ⟩ : ∃ Q, A / B = Q := ⟨_, rfl⟩
  have q2 : nbits Q ≤ 1090 := by rw [← hQ]; exact Nat.le_trans (nbits_mono (Nat.div_le_self _ _)) a2
  by_cases hf : figs Q ≤ p
  · refine ⟨0, 0, s, Q, 0, fun w0 w σ c z x y f' e' n' N' hh hc hz hx hy _ => ?_, .inl rfl, big58 q2, by omega, by omega⟩
    refine (cQuoInt_c hh hz hx hy hc ⟨hp.1, by omega⟩ (by omega) (by omega) (by omega) (by omega) (by omega) hA hB a2 b2 hY0 hQ hs).mono (fun E w' h => ?_)
    rcases h with ⟨_, h⟩ | ⟨h, _⟩
    · exact h
    · omega
  · refine ⟨3, 0, s, 0, 512, fun w0 w σ c z x y f' e' n' N' hh hc hz hx hy _ => ?_, .inr ⟨rfl, rfl, rfl⟩, by rw [digs_zero]; simp, by omega, by omega⟩
    refine (cQuoInt_c hh hz hx hy hc ⟨hp.1, by omega⟩ (by omega) (by omega) (by omega) (by omega) (by omega) hA hB a2 b2 hY0 hQ hs).mono (fun E w' h => ?_)
    rcases h with ⟨h, _⟩ | ⟨_, h⟩
    · omega
    · exact h
theorem opRem {p m : Nat} (hm : m < 8) (hp : 1 ≤ p ∧ p ≤ 60) {n o : Bool} {e d : Int} {X Y : Nat} (x1 : X < 10 ^ 58 ∧ nbits X ≤ 192) (y1 : Y < 10 ^ 58 ∧ nbits Y ≤ 192) (he : -100 ≤ e ∧ e ≤ 100) (hd : -100 ≤ d ∧ d ≤ 100) (hY0 : Y ≠ 0) : OpRes 62 p m n o e d X Y := by
  obtain ⟨A, B, hA, hB, a1, -, a2, b2⟩ := two_at x1 y1 he hd
  obtain ⟨G, hG⟩ : ∃ G : Int, G = if e ≤ d then e else d := ⟨_, rfl⟩
  obtain ⟨J, hJ⟩ : ∃ J, J = 258 := ⟨_, rfl⟩
  rw [← hJ] at a1
  have hop : ∀ w0 w1 (σ : Sg) c z x y f' e' n' N', Hold w0 w1 σ → σ c = some (ctxO p 100000 (-100000) (modeS m)) → σ z = some (dec f' n' e' false N') → σ x = some (dec 0 n e false X) → σ y = some (dec 0 o d false Y) → Calls Tryz.prog 62 #[.pointer (some ⟨c, 0, none⟩), .pointer (some ⟨z, 0, none⟩), .pointer (some ⟨x, 0, none⟩), .pointer (some ⟨y, 0, none⟩)] w1 (RemRes w0 σ z n G p m (A / B) (A % B)) := fun w0 w1 σ c z x y f' e' n' N' hh hc hz hx hy =>
    cRem_c hh hz hx hy hc ⟨hp.1, by omega⟩ (by omega) (by omega) (by omega) (by omega) hm (by omega) (by omega) (by omega) hG hA hB a2 b2 hY0
  obtain ⟨Q, hQ⟩ : ∃ Q, A / B = Q := ⟨_, rfl⟩
  obtain ⟨R, hR⟩ : ∃ R, A % B = R := ⟨_, rfl⟩
  rw [hQ, hR] at hop
  have r1 : R < 10 ^ J := by rw [← hR]; exact Nat.lt_of_le_of_lt (Nat.mod_le _ _) a1
  have f1 := figs_ten r1
  have hk := rndK_le n R p m
  have hr := rnd_small (n := n) (N := R) (m := m) hp.1 hp.2
  by_cases hf : figs Q ≤ p
  · refine ⟨0, G + (rndK n R p m : Int), n, rndN n R p m, rndC R p, fun w0 w σ c z x y f' e' n' N' hh hc hz hx hy _ => ?_, .inl rfl, by omega, by omega, rndC_lt R p⟩
    refine (hop w0 w σ c z x y f' e' n' N' hh hc hz hx hy).mono (fun E w' h => ?_)
    rcases h with ⟨_, h⟩ | ⟨h, _⟩
    · exact h
    · omega
  · refine ⟨3, 0, false, 0, 512, fun w0 w σ c z x y f' e' n' N' hh hc hz hx hy _ => ?_, .inr ⟨rfl, rfl, rfl⟩, by rw [digs_zero]; simp, by omega, by omega⟩
    refine (hop w0 w σ c z x y f' e' n' N' hh hc hz hx hy).mono (fun E w' h => ?_)
    rcases h with ⟨h, _⟩ | ⟨_, h⟩
    · omega
    · exact h
end Go.Proofs.YtcoljeafgiemkaaGreatDoor
namespace Go.Proofs.YtcoljeafgiemkaaGreatDoor
open Go Go.RowKit

/-- A decimal of a form is told. -/
def QFm (f : Int) (n : Bool) (e : Int) (N : Nat) (F : Int) (s : Bool) (q : Option Addr) (l cc : Nat) (e1 : Int) (w : World) : Prop := F = f ∧ s = n ∧ e1 = e ∧ l = (digs N).length ∧ RdW w q l cc (digs N)
theorem QFm.st (f : Int) (n : Bool) (e : Int) (N : Nat) : StQ (QFm f n e N) := fun _ _ _ _ _ _ _ _ _ ⟨h1, h2, h3, h4, h5⟩ hk hc => ⟨h1, h2, h3, h4, h5.chgAt hc (fun ad ha e => by have := hk ad ha; omega)⟩
/-- And where its words lie. -/
def QAt (B : Nat) (Q : Int → Bool → Option Addr → Nat → Nat → Int → World → Prop) (F : Int) (s : Bool) (q : Option Addr) (l cc : Nat) (e1 : Int) (w : World) : Prop := Q F s q l cc e1 w ∧ ∀ ad, q = some ad → B ≤ ad.block
theorem QAt.st {B : Nat} {Q : Int → Bool → Option Addr → Nat → Nat → Int → World → Prop} (h : StQ Q) : StQ (QAt B Q) := fun _ _ _ _ _ _ _ _ _ ⟨h1, h2⟩ hk hc => ⟨h _ _ _ _ _ _ _ _ _ h1 hk hc, h2⟩
theorem Hold.sz {w0 w : World} {σ : Sg} (h : Hold w0 w σ) : w0.heap.size ≤ w.heap.size := h.chg.size
theorem nanTold {w w4 : World} {τ : Sg} {d : Nat} {n : Bool} (h : Hold w w4 τ) (hd : τ d = some (dec 3 n 0 false 0)) : ToldQ (QFm 3 n 0 0) w w4 τ d := by
  have d0 := h.c0 hd
  have d1 := h.c1 hd
  have hlt := (h.lt hd).2
  unfold ToldQ QFm
  rw [digs_zero]
  replace h := Lib.hid h
  clear hd
  go_enter Tryz.func43, Tryz.ntmps43
  go_wp2
  exact bodyPost_ret (v := .agg #[.int .i64 3, .bool n, .slice none 0 0, .int .i64 0]) (by simp [results, Tryz.results43, go_sem]) rfl ⟨_, _, _, _, _, _, rfl, ⟨rfl, rfl, rfl, rfl, ⟨rfl, Nat.le_refl _, by decide, fun _ h => absurd h List.not_mem_nil, fun h => absurd h (Nat.lt_irrefl 0)⟩⟩, (fun ad h => by cases h), h.out.keep (((Chg.refl _ _).alloc _).alloc _)⟩
theorem QFm.told {B : Nat} {w w4 : World} {τ : Sg} {d : Nat} {f : Int} {n : Bool} {e : Int} {N : Nat} (h : Hold w w4 τ) (hd : τ d = some (dec f n e false N)) (hf : f = 0 ∨ f = 3 ∧ e = 0 ∧ N = 0) (hN : (digs N).length ≤ 900) (he : -100000 ≤ e ∧ e ≤ 100000) (hB : B ≤ w4.heap.size) : ToldQ (QAt B (QFm f n e N)) w w4 τ d := by
  have key : ToldQ (QFm f n e N) w w4 τ d := by
    rcases hf with rfl | ⟨rfl, rfl, rfl⟩
    · exact (toldF_c h hd hN he).mono fun _ _ ⟨p, cc, hE, hr, hl, hh⟩ => ⟨0, n, p, _, cc, e, hE, ⟨rfl, rfl, rfl, rfl, hr⟩, hl, hh⟩
    · exact nanTold h hd
  unfold ToldQ at key ⊢
  refine key.mono (fun E w5 hk => ?_)
  obtain ⟨F, s, q, l, cc, e1, hE, hq, hl, hh⟩ := hk
  exact ⟨F, s, q, l, cc, e1, hE, ⟨hq, fun ad ha => Nat.le_trans hB (hl ad ha)⟩, hl, hh⟩
/-- What is told, in one form for both. -/
def TellF (w w' : World) (E : Ending) (f : Int) (s : Bool) (e : Int) (R : Nat) (cn : Nat) : Prop := ∃ q cc, E = .returned (.tuple #[.agg #[.int .i64 f, .bool s, .slice q (digs R).length cc, .int .i64 e], .int .i64 (cn : Int), .bool true]) ∧ RdW w' q (digs R).length cc (digs R) ∧ (∀ ad, q = some ad → w.heap.size ≤ ad.block) ∧ Chg w w' (fun _ => False)
theorem tellF {B : Nat} {w w' : World} {E : Ending} {f e : Int} {n : Bool} {N cn : Nat} (hB : w.heap.size ≤ B) (h : ImplQ (QAt B (QFm f n e N)) w w' E cn) : TellF w w' E f n e N cn := by
  obtain ⟨F, s, q, l, cc, e1, hE, ⟨⟨rfl, rfl, rfl, rfl, hr⟩, hq⟩, hc⟩ := h
  exact ⟨q, cc, hE, hr, fun ad ha => Nat.le_trans hB (hq ad ha), hc⟩
end Go.Proofs.YtcoljeafgiemkaaGreatDoor
