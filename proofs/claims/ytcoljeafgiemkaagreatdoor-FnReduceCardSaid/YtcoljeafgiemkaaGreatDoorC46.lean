/- What impl.Reduce tells, and the reference. -/
import Derived.Test.YtcoljeafgiemkaaGreatDoorC30
import Derived.Test.YtcoljeafgiemkaaGreatDoorC34
import Derived.Test.YtcoljeafgiemkaaGreatDoorC40
import Derived.Test.YtcoljeafgiemkaaGreatDoorC42
import Derived.Test.YtcoljeafgiemkaaGreatDoorC43
namespace Go.Proofs.YtcoljeafgiemkaaGreatDoor
open Go Go.RowKit

def TellK (w w' : World) (E : Ending) (k : Int) (n : Bool) (e : Int) (N : Nat) : Prop := ∃ q cc, E = .returned (.tuple #[.int .i64 k, .agg #[.int .i64 0, .bool n, .slice q (digs N).length cc, .int .i64 e], .int .i64 0, .bool true]) ∧ RdW w' q (digs N).length cc (digs N) ∧ Chg w w' (fun _ => False)
def BareQ (w w' : World) (E : Ending) (k : Int) (n : Bool) (e : Int) (N : Nat) : Prop := ∃ q a b, E = .returned (.tuple #[.agg #[.bool n, .slice q a b, .int .i64 e], .int .i64 k]) ∧ RdD w' q a b (d16 N) ∧ Below w.heap.size w w'
theorem reduceFacts (w : World) (hG : Glob w) (p m : Nat) (hm : m < 8) (hp : 1 ≤ p ∧ p ≤ 60) (e : Int) (n : Bool) (A : Option Addr) (l c : Nat) (X : List Nat) (hX : RdW w A l c X) (hl : l ≤ 3) (he1 : -100 ≤ e) (he2 : e ≤ 100) (hX0 : val X ≠ 0) (hf : figs (val X) ≤ p) :
    ∃ (E1 K : Int) (R : Nat),
      (∀ W, Below w.heap.size w W → Calls Tryz.prog 27 #[.agg #[.int .u64 (p : Int), .int .i64 100000, .int .i64 (-100000), .int .i64 (m : Int)], .agg #[.int .i64 0, .bool n, .slice A l c, .int .i64 e]] W fun E w' => TellK W w' E K n E1 R) ∧
      (∀ W p0 m0 k0, RdD W p0 m0 k0 (d16 (val X)) → Calls Tryz.prog 26 #[.agg #[.bool n, .slice p0 m0 k0, .int .i64 e]] W fun E w' => BareQ W w' E K n E1 R) ∧
      (∀ W g lg cg v lv cv, RdW W g lg cg (digs R) → RdD W v lv cv (d16 R) → lg ≤ 1000000 → Calls Tryz.prog 19 #[.agg #[.int .i64 0, .bool n, .slice g lg cg, .int .i64 E1], .agg #[.bool n, .slice v lv cv, .int .i64 E1]] W fun E w' => E = .returned (.bool true) ∧ Below W.heap.size W w') ∧
      (digs R).length ≤ 900 := by
  obtain ⟨x1, x2⟩ := val3 hX.wd hX.len hl
  obtain ⟨N, hN⟩ : ∃ N, val X = N := ⟨_, rfl⟩
  rw [hN] at x1 x2 hf hX0
  obtain ⟨C, k, hNC, hC⟩ := bare_ex hX0
  have hfc := red_k hNC (show C ≠ 0 by rintro rfl; exact hC rfl)
  have hRw : (digs C).length ≤ 900 := Nat.le_trans (bits_w (k := 18) (Nat.le_trans (nbits_mono (show C ≤ N by rw [hNC]; exact Nat.le_mul_of_pos_right _ (ten_pos k))) (by omega))) (by omega)
  refine ⟨e + (k : Int), (k : Int), C, fun W hb => ?_, fun W p0 m0 k0 h1 => ?_, fun W g lg cg v lv cv h1 h2 h3 => ?_, hRw⟩
  · refine (implReduceG_c W (hG.bel hb) p m 0 (k : Int) 100000 (-100000) e n A l c X (dec 0 n (e + (k : Int)) false C) (QFin n (e + (k : Int)) C) hm (by omega) (by omega) (by omega) (by omega) (QFin.st _ _ _)
      (fun w4 τ d h4 hd => QFin.told h4 hd hRw (by omega)) (hX.below hb) (by omega) (by omega) (fun w1 σ c1 d1 x hh hc hd hx hdx => ?_)).mono (fun E w' h => ?_)
    · rw [hN] at hx
      exact cReduce_c hh hd hx hc ⟨hp.1, by omega⟩ (by omega) (by omega) (by omega) hm (by omega) hX0 hf hNC hC
    · obtain ⟨F, s, q, l, cc, e1, hE, ⟨rfl, rfl, rfl, rfl, hr⟩, hc⟩ := h
      exact ⟨q, cc, hE, hr, hc⟩
  · rw [hN] at h1
    refine (bareF_c W n p0 m0 k0 e N h1 (by have h3 := d16_len_ten x1; rw [h1.len] at h3; omega) (by omega) (by omega)).mono (fun E w' h => ?_)
    obtain ⟨q, a, b, C1, k1, hE, h3, h4, h5, h6⟩ := h
    obtain ⟨rfl, rfl⟩ := bare_same (h5.symm.trans hNC) (h6 hX0) hC
    exact ⟨q, a, b, hE, h3, h4⟩
  · exact isDec_c W n n g v lg cg lv cv (e + (k : Int)) C h1 h2 h3 (.inl rfl)
end Go.Proofs.YtcoljeafgiemkaaGreatDoor
