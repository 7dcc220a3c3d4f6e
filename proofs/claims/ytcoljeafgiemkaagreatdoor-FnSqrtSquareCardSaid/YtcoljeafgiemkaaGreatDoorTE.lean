/- Context.quantize. -/
import Derived.Test.YtcoljeafgiemkaaGreatDoorTM
import Derived.Test.YtcoljeafgiemkaaGreatDoorC38
import Derived.Test.YtcoljeafgiemkaaGreatDoorTD
namespace Go.Proofs.YtcoljeafgiemkaaGreatDoor
open Go Go.RowKit

theorem figs_200 {N : Nat} (h : nbits N ≤ 200) : figs N ≤ 61 := by
  refine (figs_le_iff (by omega)).2 (Nat.lt_of_lt_of_le (nbits_lt N) (Nat.le_trans (Nat.pow_le_pow_right (by omega) h) ?_))
  decide +kernel
set_option maxRecDepth 20000 in
theorem withPrec_c {w0 w : World} {σ : Sg} (h : Hold w0 w σ) {c : Nat} {p a b : Int} {M : ByteArray} (hc : σ c = some (ctxO p a b M)) (q : Int) :
    Calls Tryz.prog 116 #[.pointer (some ⟨c, 0, none⟩), .int .u32 q] w fun E w' => ∃ k, E = .returned (.pointer (some ⟨k, 0, none⟩)) ∧ w.heap.size ≤ k ∧ Hold w0 w' (upd σ k (ctxO q a b M)) := by
  have hT := h.fresh (Nat.le_refl w.heap.size)
  have hb := h.newRaw (.cells #[.int .u32 0, .int .i32 0, .int .i32 0, .int .u32 0, .string ⟨#[]⟩] 105 (0, 0))
  obtain ⟨T, hTe⟩ : ∃ T, w.heap.size = T := ⟨_, rfl⟩
  rw [hTe] at hT hb
  have hcT : c ≠ T := by rintro rfl; rw [hT] at hc; cases hc
  have hx := hb.ctx (show (upd σ T _) c = some (ctxO p a b M) by rw [upd_ne _ _ hcT]; exact hc)
  have c0 := hx.c0
  have c1 := hx.c1
  have c2 := hx.c2
  have c3 := hx.c3
  have c4 := hx.c4
  have hbr := hb.raw (upd_eq _ _ _)
  have d0 := cellB hbr (i := 0) rfl
  have d1 := cellB hbr (i := 1) rfl
  have d2 := cellB hbr (i := 2) rfl
  have d3 := cellB hbr (i := 3) rfl
  have d4 := cellB hbr (i := 4) rfl
  have f0 := frozenB hbr 0
  have f1 := frozenB hbr 1
  have f2 := frozenB hbr 2
  have f3 := frozenB hbr 3
  have f4 := frozenB hbr 4
  have hfin := (((((hb.setRaw (i := 0) (x := .int .u32 p) (upd_eq _ _ _)).setRaw (i := 1) (x := .int .i32 a) (upd_eq _ _ _)).setRaw (i := 2) (x := .int .i32 b) (upd_eq _ _ _)).setRaw (i := 3) (x := .int .u32 0) (upd_eq _ _ _)).setRaw (i := 4) (x := .string M) (upd_eq _ _ _)).setRaw (i := 0) (x := .int .u32 q) (upd_eq _ _ _)
  simp only [upd_upd] at hfin
  have hle : w.heap.size ≤ T := by omega
  replace hfin := Lib.hid hfin
  replace hTe := Lib.hid hTe
  replace hle := Lib.hid hle
  clear hb h hc hx hT hcT hbr
  go_enter Tryz.func116, Tryz.ntmps116
  go_upto_region 2 with (fail)
  rw [hTe.out]
  generalize w.alloc (.cells #[.int .u32 0, .int .i32 0, .int .i32 0, .int .u32 0, .string ⟨#[]⟩] 105 (0, 0)) = W at *
  go_wp2
  go_ret
  exact ⟨T, rfl, hle.out, hfin.out⟩

/-- What quantizing makes of a coefficient, and the conditions. -/
def QCase (n : Bool) (N : Nat) (e q : Int) (m R r : Nat) : Prop :=
  (q ≤ e ∧ R = N * 10 ^ (e - q).toNat ∧ r = 0) ∨ (e < q ∧ figs N < (q - e).toNat ∧ R = 0 ∧ r = if N = 0 then 0 else 80) ∨ (e < q ∧ (q - e).toNat ≤ figs N ∧ R = cutN n N (q - e).toNat m ∧ r = if inexN N (q - e).toNat then 80 else 64)
end Go.Proofs.YtcoljeafgiemkaaGreatDoor
