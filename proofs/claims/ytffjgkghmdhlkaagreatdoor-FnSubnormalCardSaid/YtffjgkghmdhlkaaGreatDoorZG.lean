/- What the thin package tells: a number, or any answer. impl.Round in a context with a near limit: what is told, and the conditions' bits. Rows of words beside a block that is written. -/
import Derived.Test.YtffjgkghmdhlkaaGreatDoorC32
import Derived.Test.YtffjgkghmdhlkaaGreatDoorY14Round
import Derived.Test.YtffjgkghmdhlkaaGreatDoorY17
import Derived.Test.YtffjgkghmdhlkaaGreatDoorZA
namespace Go.Proofs.YtffjgkghmdhlkaaGreatDoor
open Go Go.RowKit

/-- What is told, but for the answer. -/
def TellC (w w' : World) (E : Ending) (cn : Int) : Prop := ∃ F s q l cc e1, E = .returned (.tuple #[.agg #[.int .i64 F, .bool s, .slice q l cc, .int .i64 e1], .int .i64 cn, .bool true]) ∧ Chg w w' (fun _ => False)
/-- A number is told. -/
def TellN (w w' : World) (E : Ending) (n : Bool) (e : Int) (N : Nat) (cn : Int) : Prop := ∃ q cc, E = .returned (.tuple #[.agg #[.int .i64 0, .bool n, .slice q (digs N).length cc, .int .i64 e], .int .i64 cn, .bool true]) ∧ RdW w' q (digs N).length cc (digs N) ∧ Chg w w' (fun _ => False)
theorem tellN {w w' : World} {E : Ending} {n : Bool} {e : Int} {N cn : Nat} (h : ImplQ (QFin n e N) w w' E cn) : TellN w w' E n e N (cn : Int) := by
  obtain ⟨F, s, q, l, cc, e1, hE, ⟨rfl, rfl, rfl, rfl, hr⟩, hc⟩ := h
  exact ⟨q, cc, hE, hr, hc⟩
theorem TellN.c {w w' : World} {E : Ending} {n : Bool} {e : Int} {N : Nat} {cn : Int} (h : TellN w w' E n e N cn) : TellC w w' E cn := by
  obtain ⟨q, cc, hE, _, hc⟩ := h
  exact ⟨_, _, _, _, _, _, hE, hc⟩
theorem tellC {w w' : World} {E : Ending} {f : Int} {n : Bool} {cn : Nat} (h : ImplQ (QForm f n) w w' E cn) : TellC w w' E (cn : Int) := by
  obtain ⟨F, s, q, l, cc, e1, hE, _, hc⟩ := h
  exact ⟨_, _, _, _, _, _, hE, hc⟩
end Go.Proofs.YtffjgkghmdhlkaaGreatDoor
namespace Go.Proofs.YtffjgkghmdhlkaaGreatDoor
open Go Go.RowKit

theorem bitsCalm {r : Nat} (h : calm r) : (bits .and .i64 (condN r : Int) 1 != 0) = false ∧ (bits .and .i64 (condN r : Int) 8 != 0) = false ∧ (bits .and .i64 (condN r : Int) 2 != 0) = false := by
  rcases h with rfl | rfl | rfl | rfl <;> exact ⟨by kernel_rfl, by kernel_rfl, by kernel_rfl⟩
theorem bitsOv {r : Nat} (h : calm r) : (bits .and .i64 (condN (ovR r) : Int) 1 != 0) = true := by
  rcases h with rfl | rfl | rfl | rfl <;> kernel_rfl
theorem bits32 : (bits .and .i64 (condN 32 : Int) 8 != 0) = true ∧ (bits .and .i64 (condN 32 : Int) 2 != 0) = false ∧ (bits .and .i64 (condN 32 : Int) 4 != 0) = false := ⟨by kernel_rfl, by kernel_rfl, by kernel_rfl⟩
theorem bitsSub (x z : Bool) : (bits .and .i64 (condN (subC x z) : Int) 8 != 0) = true ∧ (bits .and .i64 (condN (subC x z) : Int) 2 != 0) = x ∧ (bits .and .i64 (condN (subC x z) : Int) 4 != 0) = x := by
  cases x <;> cases z <;> exact ⟨by kernel_rfl, by kernel_rfl, by kernel_rfl⟩
theorem ovR_4096 {r : Nat} (h : calm r) : ovR r < 4096 ∧ ovR r % 4 = 0 := by
  rcases ovR_is h with h | h <;> rw [h] <;> omega
theorem subC_4096 (x z : Bool) : subC x z < 4096 ∧ subC x z % 4 = 0 := by cases x <;> cases z <;> decide
theorem calm_40 {r : Nat} (h : calm r) : r < 4096 ∧ r % 4 = 0 := by rcases h with rfl | rfl | rfl | rfl <;> decide
/-- impl.Round where the exponent is in the middle. -/
theorem roundIn (w : World) (hG : Glob w) (p m : Nat) (a b : Int) (hm : m < 8) (hp : 1 ≤ p ∧ p ≤ 60) (ha : -100000 ≤ a ∧ a ≤ 100000) (hb : -100000 ≤ b ∧ b ≤ 100000) (e : Int) (n : Bool) (A : Option Addr) (l c : Nat) (X : List Nat) (N : Nat) (hX : RdW w A l c X) (hN : val X = N)
    (hl : l ≤ 3) (he1 : -100 ≤ e) (he2 : e ≤ 100) (hlow : b ≤ e + (figs N : Int) - 1) (hhi : e + (rndK n N p m : Int) + (figs (rndN n N p m) : Int) - 1 ≤ a) :
    Calls Tryz.prog 14 #[.agg #[.int .u64 (p : Int), .int .i64 a, .int .i64 b, .int .i64 (m : Int)], .agg #[.int .i64 0, .bool n, .slice A l c, .int .i64 e]] w fun E w' => TellN w w' E n (e + (rndK n N p m : Int)) (rndN n N p m) (condN (rndC N p) : Int) := by
  obtain ⟨x1, x2⟩ := val3 hX.wd hX.len hl
  rw [hN] at x1 x2
  have f1 := figs_ten x1
  have hk := rndK_le n N p m
  have hR := rnd_small (n := n) (N := N) (m := m) hp.1 hp.2
  have hcm := calm_40 (rndC_calm N p)
  refine (implRoundG_c w hG p m (rndC N p) a b e n A l c X (dec 0 n (e + (rndK n N p m : Int)) false (rndN n N p m)) (QFin n (e + (rndK n N p m : Int)) (rndN n N p m)) hm (by omega) (by omega) (by omega) hcm.1 (QFin.st _ _ _)
    (fun w4 τ d h4 hd => QFin.told h4 hd (by omega) (by omega)) hX (by omega) (by omega) (fun w1 σ c1 d1 x hh hc hd hx hdx => ?_)).mono (fun E w' h => tellN h)
  rw [hN] at hx
  have hcd : c1 ≠ d1 := by rintro rfl; rw [hc] at hd; cases hd
  exact cRoundG_c hh hc hcm (by rw [upd_ne _ _ hcd]; exact hc) (RoundIn_c hh hd hx hc ⟨hp.1, by omega⟩ (by omega) (by omega) hm (by omega) hlow hhi)
/-- .. and where it is too great. -/
theorem roundOv (w : World) (hG : Glob w) (p m : Nat) (a b : Int) (hm : m < 8) (hp : 1 ≤ p ∧ p ≤ 60) (ha : -100000 ≤ a ∧ a ≤ 100000) (hb : -100000 ≤ b ∧ b ≤ 100000) (hab : b ≤ a) (e : Int) (n : Bool) (A : Option Addr) (l c : Nat) (X : List Nat) (N : Nat) (hX : RdW w A l c X) (hN : val X = N) (h0 : N ≠ 0)
    (hl : l ≤ 3) (he1 : -100 ≤ e) (he2 : e ≤ 100) (hlow : b ≤ e + (figs N : Int) - 1) (hhi : a < e + (rndK n N p m : Int) + (figs (rndN n N p m) : Int) - 1) :
    Calls Tryz.prog 14 #[.agg #[.int .u64 (p : Int), .int .i64 a, .int .i64 b, .int .i64 (m : Int)], .agg #[.int .i64 0, .bool n, .slice A l c, .int .i64 e]] w fun E w' => TellC w w' E (condN (ovR (rndC N p)) : Int) := by
  obtain ⟨x1, x2⟩ := val3 hX.wd hX.len hl
  rw [hN] at x1 x2
  have hcm := ovR_4096 (rndC_calm N p)
  refine (implRoundG_c w hG p m (ovR (rndC N p)) a b e n A l c X (dec 1 n (e + (rndK n N p m : Int)) false (rndN n N p m)) (QForm 1 n) hm (by omega) (by omega) (by omega) hcm.1 (QForm.st _ _)
    (fun w4 τ d h4 hd => QForm.told h4 hd (.inl rfl)) hX (by omega) (by omega) (fun w1 σ c1 d1 x hh hc hd hx hdx => ?_)).mono (fun E w' h => tellC h)
  rw [hN] at hx
  have hcd : c1 ≠ d1 := by rintro rfl; rw [hc] at hd; cases hd
  exact cRoundG_c hh hc hcm (by rw [upd_ne _ _ hcd]; exact hc) (RoundOv_c hh hd hx hc ⟨hp.1, by omega⟩ (by omega) (by omega) hm (by omega) h0 hab hlow hhi)
/-- .. and where it is too small: nothing is cut off. -/
theorem roundS0 (w : World) (hG : Glob w) (p m : Nat) (a b : Int) (hm : m < 8) (hp : 1 ≤ p ∧ p ≤ 60) (ha : -100000 ≤ a ∧ a ≤ 100000) (hb : -100000 ≤ b ∧ b ≤ 100000) (e : Int) (n : Bool) (A : Option Addr) (l c : Nat) (X : List Nat) (N : Nat) (hX : RdW w A l c X) (hN : val X = N) (h0 : N ≠ 0)
    (hl : l ≤ 3) (he1 : -100 ≤ e) (he2 : e ≤ 100) (hlow : e + (figs N : Int) - 1 < b) (hr : b - ((p : Int) - 1) ≤ e) :
    Calls Tryz.prog 14 #[.agg #[.int .u64 (p : Int), .int .i64 a, .int .i64 b, .int .i64 (m : Int)], .agg #[.int .i64 0, .bool n, .slice A l c, .int .i64 e]] w fun E w' => TellN w w' E n e N (condN 32 : Int) := by
  obtain ⟨x1, x2⟩ := val3 hX.wd hX.len hl
  rw [hN] at x1 x2
  have hR : (digs N).length ≤ 900 := Nat.le_trans (bits_w (k := 3) (by omega)) (by omega)
  refine (implRoundG_c w hG p m 32 a b e n A l c X (dec 0 n e false N) (QFin n e N) hm (by omega) (by omega) (by omega) (by omega) (QFin.st _ _ _)
    (fun w4 τ d h4 hd => QFin.told h4 hd hR (by omega)) hX (by omega) (by omega) (fun w1 σ c1 d1 x hh hc hd hx hdx => ?_)).mono (fun E w' h => tellN h)
  rw [hN] at hx
  have hcd : c1 ≠ d1 := by rintro rfl; rw [hc] at hd; cases hd
  exact cRoundG_c hh hc (by omega) (by rw [upd_ne _ _ hcd]; exact hc) (roundSub0_c hh hd hx hc ⟨hp.1, by omega⟩ (by omega) (by omega) (by omega) h0 hlow hr)
/-- .. and some is. -/
theorem roundS1 (w : World) (hG : Glob w) (p m k : Nat) (a b : Int) (hm : m < 8) (hp : 1 ≤ p ∧ p ≤ 60) (ha : -100000 ≤ a ∧ a ≤ 100000) (hb : -200 ≤ b ∧ b ≤ 200) (e : Int) (n : Bool) (A : Option Addr) (l c : Nat) (X : List Nat) (N : Nat) (hX : RdW w A l c X) (hN : val X = N) (h0 : N ≠ 0)
    (hl : l ≤ 3) (he1 : -100 ≤ e) (he2 : e ≤ 100) (hlow : e + (figs N : Int) - 1 < b) (hk : b - ((p : Int) - 1) - e = (k : Int)) (hk1 : 1 ≤ k) :
    Calls Tryz.prog 14 #[.agg #[.int .u64 (p : Int), .int .i64 a, .int .i64 b, .int .i64 (m : Int)], .agg #[.int .i64 0, .bool n, .slice A l c, .int .i64 e]] w fun E w' => TellN w w' E n (b - ((p : Int) - 1)) (cutN false N k m) (condN (subC (!decide (N % 10 ^ k = 0)) (decide (cutN false N k m = 0))) : Int) := by
  obtain ⟨x1, x2⟩ := val3 hX.wd hX.len hl
  rw [hN] at x1 x2
  have hc1 := (cutN_le false N k m).2
  have hc2 := Nat.div_le_self N (10 ^ k)
  have hR : (digs (cutN false N k m)).length ≤ 900 := by
    refine Nat.le_trans (digs_len_mono (show cutN false N k m ≤ N + 1 by omega)) ?_
    exact Nat.le_trans (bits_w (k := 4) (Nat.le_trans (nbits_succ N) (by omega))) (by omega)
  have hcm := subC_4096 (!decide (N % 10 ^ k = 0)) (decide (cutN false N k m = 0))
  refine (implRoundG_c w hG p m _ a b e n A l c X (dec 0 n (b - ((p : Int) - 1)) false (cutN false N k m)) (QFin n (b - ((p : Int) - 1)) (cutN false N k m)) hm (by omega) (by omega) (by omega) hcm.1 (QFin.st _ _ _)
    (fun w4 τ d h4 hd => QFin.told h4 hd hR (by omega)) hX (by omega) (by omega) (fun w1 σ c1 d1 x hh hc hd hx hdx => ?_)).mono (fun E w' h => tellN h)
  rw [hN] at hx
  have hcd : c1 ≠ d1 := by rintro rfl; rw [hc] at hd; cases hd
  exact cRoundG_c hh hc hcm (by rw [upd_ne _ _ hcd]; exact hc) (roundSub1_c hh hd hx hc ⟨hp.1, by omega⟩ (by omega) (by omega) (by omega) h0 hlow hk hk1 (by omega) hm)
end Go.Proofs.YtffjgkghmdhlkaaGreatDoor
namespace Go.Proofs.YtffjgkghmdhlkaaGreatDoor
open Go Go.RowKit

theorem RdW.chgB2 {w w' : World} {A : Option Addr} {l c : Nat} {D : List Nat} {k : Nat} (h : RdW w A l c D) (hb : Chg w w' (fun j => j = k)) (hS : ∀ ad, 0 < l → A = some ad → ad.block ≠ k) : RdW w' A l c D :=
  ⟨h.len, h.cap, h.max, h.wd, fun hl => by
    obtain ⟨ad, e, hc⟩ := h.cells hl
    exact ⟨ad, e, fun j hj => hb.cell (hc j hj) (by rw [add_block]; exact hS ad hl e)⟩⟩
theorem rowLtW {w : World} {A : Option Addr} {l c : Nat} {D : List Nat} (h : RdW w A l c D) {ad : Addr} (h0 : 0 < l) (ha : A = some ad) : ad.block < w.heap.size := by
  obtain ⟨ad2, e2, hc2⟩ := h.cells h0
  rw [e2] at ha; cases ha
  have := World.block_lt_of_cell? w _ (hc2 0 h0)
  rw [add_block] at this
  exact this
end Go.Proofs.YtffjgkghmdhlkaaGreatDoor
