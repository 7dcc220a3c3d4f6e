/- apd.ErrDecimal: Err, update, Mul, Add, Quo, where no condition is an error. Rounder.Round where figures are cut off, to any number of figures (0 too): as quantizing calls it. Context.quantize. -/
import Derived.Test.YtonepclpllelfaaGreatDoorC02
import Derived.Test.YtonepclpllelfaaGreatDoorC33
namespace Go.Proofs.YtonepclpllelfaaGreatDoor
open Go Go.RowKit

def edO (c fl : Nat) : It := raw (.cells #[.nilIface, .pointer (some ⟨c, 0, none⟩), .int .u32 (fl : Int)] 83 (0, 0))
theorem calm_join {r s : Nat} (hr : calm r) (hs : calm s) : ∃ t, calm t ∧ bits .or .u32 (r : Int) (s : Int) = (t : Int) := by
  refine ⟨r ||| s, ?_⟩
  rcases hr with rfl | rfl | rfl | rfl <;> rcases hs with rfl | rfl | rfl | rfl
  all_goals exact ⟨by unfold calm; decide, by kernel_rfl⟩
theorem Hold.ed {w0 w : World} {σ : Sg} (h : Hold w0 w σ) {E c fl : Nat} (hE : σ E = some (edO c fl)) : w.heap[E]? = some (.cells #[.nilIface, .pointer (some ⟨c, 0, none⟩), .int .u32 (fl : Int)] 83 (0, 0)) := h.raw hE
theorem Hold.edNil {w0 w : World} {σ : Sg} (h : Hold w0 w σ) {E c fl : Nat} (hE : σ E = some (edO c fl)) : Hold w0 (w.setCell ⟨E, 0, none⟩ .nilIface) σ := by
  have h2 := h.setRaw (i := 0) (x := .nilIface) hE
  have e : upd σ E (Go.Proofs.YtonepclpllelfaaGreatDoor.raw (.cells ((#[.nilIface, .pointer (some ⟨c, 0, none⟩), .int .u32 (fl : Int)] : Array Value).setIfInBounds 0 .nilIface) 83 (0, 0))) = σ := upd_self hE
  rw [e] at h2
  exact h2
theorem Hold.edFl {w0 w : World} {σ : Sg} (h : Hold w0 w σ) {E c fl : Nat} (hE : σ E = some (edO c fl)) (t : Nat) : Hold w0 ((w.setCell ⟨E, 2, none⟩ (.int .u32 (t : Int))).setCell ⟨E, 0, none⟩ .nilIface) (upd σ E (edO c t)) := by
  have h2 := h.setRaw (i := 2) (x := .int .u32 (t : Int)) hE
  exact Hold.edNil (c := c) (fl := t) h2 (upd_eq _ _ _)
set_option maxRecDepth 20000 in
theorem edErr_c {w0 w : World} {σ : Sg} (h : Hold w0 w σ) {E c fl : Nat} {p a b : Int} {m : ByteArray} (hE : σ E = some (edO c fl)) (hc : σ c = some (ctxO p a b m)) (hf : calm fl) :
    Calls Tryz.prog 41 #[.pointer (some ⟨E, 0, none⟩)] w fun X w' => X = .returned .nilIface ∧ Hold w0 w' σ := by
  have hr := h.ed hE
  have e0 := cellB hr (i := 0) rfl
  have e1 := cellB hr (i := 1) rfl
  have e2 := cellB hr (i := 2) rfl
  have z0 := frozenB hr 0
  have kg := errH_c h.drew hc hf
  have hfin := h.drew.edNil hE
  have hrd := h.drew.ed hE
  have g0 := cellB hrd (i := 0) rfl
  have y0 := frozenB hrd 0
  have hS0 : w.drew.cell? ⟨E, 1, none⟩ = some (.pointer (some ⟨c, 0, none⟩)) ∧ w.drew.cell? ⟨E, 2, none⟩ = some (.int .u32 (fl : Int)) := ⟨cellB hrd rfl, cellB hrd rfl⟩
  have hrf := hfin.ed hE
  have hS1 : (w.drew.setCell ⟨E, 0, none⟩ .nilIface).cell? ⟨E, 1, none⟩ = some (.pointer (some ⟨c, 0, none⟩)) ∧ (w.drew.setCell ⟨E, 0, none⟩ .nilIface).cell? ⟨E, 2, none⟩ = some (.int .u32 (fl : Int)) := ⟨cellB hrf rfl, cellB hrf rfl⟩
  have q0 := cellB hrf (i := 0) rfl
  replace kg := Lib.hid kg
  replace hfin := Lib.hid hfin
  clear h hE hc hf hr hrd hrf
  go_enter Tryz.func41, Tryz.ntmps41
  go_upto_region 4 with (fail)
  go_region_held3 (fun w' => w'.cell? ⟨E, 1, none⟩ = some (.pointer (some ⟨c, 0, none⟩)) ∧ w'.cell? ⟨E, 2, none⟩ = some (.int .u32 (fl : Int))) (first | exact hS0 | exact hS1) (
    (go_at_call 43
     with_reducible refine kg.out.mono ?_
     rintro X w' ⟨rfl, hw⟩
     obtain rfl := hw))
  go_wp2
  go_ret
  exact ⟨rfl, hfin.out⟩
set_option maxRecDepth 20000 in
theorem edUpd_c {w0 w : World} {σ : Sg} (h : Hold w0 w σ) {E c fl r : Nat} (hE : σ E = some (edO c fl)) (hf : calm fl) (hr : calm r) :
    Calls Tryz.prog 59 #[.pointer (some ⟨E, 0, none⟩), .int .u32 (r : Int), .nilIface] w fun X w' => X = .returned (.tuple #[]) ∧ ∃ fl', calm fl' ∧ Hold w0 w' (upd σ E (edO c fl')) := by
  obtain ⟨t, ht, hor⟩ := calm_join hf hr
  have hb := h.ed hE
  have e0 := cellB hb (i := 0) rfl
  have e2 := cellB hb (i := 2) rfl
  have z0 := frozenB hb 0
  have z2 := frozenB hb 2
  have hfin := h.edFl hE t
  have hor2 : IntKind.u32.wrap (t : Int) = (t : Int) := by rcases ht with rfl | rfl | rfl | rfl <;> kernel_rfl
  replace hfin := Lib.hid hfin
  clear h hE hf hr hb
  go_enter Tryz.func59, Tryz.ntmps59
  go_wp2
  go_end0
  exact ⟨rfl, t, ht, hfin.out⟩
set_option maxRecDepth 20000 in
theorem edMul_c {w0 w : World} {σ : Sg} (h : Hold w0 w σ) {E c d x y fl r : Nat} {p a b : Int} {m : ByteArray} {D : It} (hE : σ E = some (edO c fl)) (hc : σ c = some (ctxO p a b m)) (hf : calm fl) (hr : calm r) (hdE : d ≠ E)
    (hop : ∀ w1, Hold w0 w1 σ → Calls Tryz.prog 60 #[.pointer (some ⟨c, 0, none⟩), .pointer (some ⟨d, 0, none⟩), .pointer (some ⟨x, 0, none⟩), .pointer (some ⟨y, 0, none⟩)] w1 fun X w' => X = .returned (.tuple #[.int .u32 (r : Int), .nilIface]) ∧ Hold w0 w' (upd σ d D)) :
    Calls Tryz.prog 36 #[.pointer (some ⟨E, 0, none⟩), .pointer (some ⟨d, 0, none⟩), .pointer (some ⟨x, 0, none⟩), .pointer (some ⟨y, 0, none⟩)] w fun X w' => X = .returned (.pointer (some ⟨d, 0, none⟩)) ∧ ∃ fl', calm fl' ∧ Hold w0 w' (upd (upd σ d D) E (edO c fl')) := by
  have ke := edErr_c h hE hc hf
  have he2 : upd σ d D E = some (edO c fl) := by rw [upd_ne _ _ (Ne.symm hdE)]; exact hE
  replace ke := Lib.hid ke
  replace hop := Lib.hid hop
  clear h hc
  go_enter Tryz.func36, Tryz.ntmps36
  go_wp2_with fail
  with_reducible refine ke.out.mono ?_
  rintro X w1 ⟨rfl, h1⟩
  have e1 := cellB (h1.ed hE) (i := 1) rfl
  have ko := hop.out _ h1
  replace ko := Lib.hid ko
  clear h1
  go_wp2_with fail
  with_reducible refine ko.out.mono ?_
  rintro X w2 ⟨rfl, h2⟩
  have ku := edUpd_c h2 he2 hf hr
  replace ku := Lib.hid ku
  clear h2
  go_wp2_with fail
  with_reducible refine ku.out.mono ?_
  rintro X w3 ⟨rfl, fl', hf', h3⟩
  replace h3 := Lib.hid h3
  go_wp2
  go_ret
  exact ⟨rfl, fl', hf', h3.out⟩
set_option maxRecDepth 20000 in
theorem edAdd_c {w0 w : World} {σ : Sg} (h : Hold w0 w σ) {E c d x y fl r : Nat} {p a b : Int} {m : ByteArray} {D : It} (hE : σ E = some (edO c fl)) (hc : σ c = some (ctxO p a b m)) (hf : calm fl) (hr : calm r) (hdE : d ≠ E)
    (hop : ∀ w1, Hold w0 w1 σ → Calls Tryz.prog 61 #[.pointer (some ⟨c, 0, none⟩), .pointer (some ⟨d, 0, none⟩), .pointer (some ⟨x, 0, none⟩), .pointer (some ⟨y, 0, none⟩)] w1 fun X w' => X = .returned (.tuple #[.int .u32 (r : Int), .nilIface]) ∧ Hold w0 w' (upd σ d D)) :
    Calls Tryz.prog 37 #[.pointer (some ⟨E, 0, none⟩), .pointer (some ⟨d, 0, none⟩), .pointer (some ⟨x, 0, none⟩), .pointer (some ⟨y, 0, none⟩)] w fun X w' => X = .returned (.pointer (some ⟨d, 0, none⟩)) ∧ ∃ fl', calm fl' ∧ Hold w0 w' (upd (upd σ d D) E (edO c fl')) := by
  have ke := edErr_c h hE hc hf
  have he2 : upd σ d D E = some (edO c fl) := by rw [upd_ne _ _ (Ne.symm hdE)]; exact hE
  replace ke := Lib.hid ke
  replace hop := Lib.hid hop
  clear h hc
  go_enter Tryz.func37, Tryz.ntmps37
  go_wp2_with fail
  with_reducible refine ke.out.mono ?_
  rintro X w1 ⟨rfl, h1⟩
  have e1 := cellB (h1.ed hE) (i := 1) rfl
  have ko := hop.out _ h1
  replace ko := Lib.hid ko
  clear h1
  go_wp2_with fail
  with_reducible refine ko.out.mono ?_
  rintro X w2 ⟨rfl, h2⟩
  have ku := edUpd_c h2 he2 hf hr
  replace ku := Lib.hid ku
  clear h2
  go_wp2_with fail
  with_reducible refine ku.out.mono ?_
  rintro X w3 ⟨rfl, fl', hf', h3⟩
  replace h3 := Lib.hid h3
  go_wp2
  go_ret
  exact ⟨rfl, fl', hf', h3.out⟩
set_option maxRecDepth 20000 in
theorem edQuo_c {w0 w : World} {σ : Sg} (h : Hold w0 w σ) {E c d x y fl r : Nat} {p a b : Int} {m : ByteArray} {D : It} (hE : σ E = some (edO c fl)) (hc : σ c = some (ctxO p a b m)) (hf : calm fl) (hr : calm r) (hdE : d ≠ E)
    (hop : ∀ w1, Hold w0 w1 σ → Calls Tryz.prog 62 #[.pointer (some ⟨c, 0, none⟩), .pointer (some ⟨d, 0, none⟩), .pointer (some ⟨x, 0, none⟩), .pointer (some ⟨y, 0, none⟩)] w1 fun X w' => X = .returned (.tuple #[.int .u32 (r : Int), .nilIface]) ∧ Hold w0 w' (upd σ d D)) :
    Calls Tryz.prog 39 #[.pointer (some ⟨E, 0, none⟩), .pointer (some ⟨d, 0, none⟩), .pointer (some ⟨x, 0, none⟩), .pointer (some ⟨y, 0, none⟩)] w fun X w' => X = .returned (.pointer (some ⟨d, 0, none⟩)) ∧ ∃ fl', calm fl' ∧ Hold w0 w' (upd (upd σ d D) E (edO c fl')) := by
  have ke := edErr_c h hE hc hf
  have he2 : upd σ d D E = some (edO c fl) := by rw [upd_ne _ _ (Ne.symm hdE)]; exact hE
  replace ke := Lib.hid ke
  replace hop := Lib.hid hop
  clear h hc
  go_enter Tryz.func39, Tryz.ntmps39
  go_wp2_with fail
  with_reducible refine ke.out.mono ?_
  rintro X w1 ⟨rfl, h1⟩
  have e1 := cellB (h1.ed hE) (i := 1) rfl
  have ko := hop.out _ h1
  replace ko := Lib.hid ko
  clear h1
  go_wp2_with fail
  with_reducible refine ko.out.mono ?_
  rintro X w2 ⟨rfl, h2⟩
  have ku := edUpd_c h2 he2 hf hr
  replace ku := Lib.hid ku
  clear h2
  go_wp2_with fail
  with_reducible refine ku.out.mono ?_
  rintro X w3 ⟨rfl, fl', hf', h3⟩
  replace h3 := Lib.hid h3
  go_wp2
  go_ret
  exact ⟨rfl, fl', hf', h3.out⟩
end Go.Proofs.YtonepclpllelfaaGreatDoor

namespace Go.Proofs.YtonepclpllelfaaGreatDoor
open Go Go.RowKit

/-- What becomes of the coefficient, how many figures are off, the conditions. -/
def Ways (n : Bool) (N k m N1 k1 r1 : Nat) : Prop :=
    (N % 10 ^ k = 0 ∧ N1 = N / 10 ^ k ∧ k1 = k ∧ r1 = 64) ∨
    (N % 10 ^ k ≠ 0 ∧ awayN n (N / 10 ^ k % 10) (ord3 (2 * (N % 10 ^ k)) (10 ^ k)) m = false ∧ N1 = N / 10 ^ k ∧ k1 = k ∧ r1 = 80) ∨
    (N % 10 ^ k ≠ 0 ∧ awayN n (N / 10 ^ k % 10) (ord3 (2 * (N % 10 ^ k)) (10 ^ k)) m = true ∧
      (figs (N / 10 ^ k) < figs (N / 10 ^ k + 1) ∧ N1 = (N / 10 ^ k + 1) / 10 ∧ k1 = k + 1 ∨
       ¬ figs (N / 10 ^ k) < figs (N / 10 ^ k + 1) ∧ N1 = N / 10 ^ k + 1 ∧ k1 = k) ∧ r1 = 80)
end Go.Proofs.YtonepclpllelfaaGreatDoor

namespace Go.Proofs.YtonepclpllelfaaGreatDoor
open Go Go.RowKit

theorem figs_200 {N : Nat} (h : nbits N ≤ 200) : figs N ≤ 61 := by
  refine (figs_le_iff (by omega)).2 (Nat.lt_of_lt_of_le (nbits_lt N) (Nat.le_trans (Nat.pow_le_pow_right (by omega) h) ?_))
  decide +kernel
set_option maxRecDepth 20000 in
theorem withPrec_c {w0 w : World} {σ : Sg} (h : Hold w0 w σ) {c : Nat} {p a b : Int} {M : ByteArray} (hc : σ c = some (ctxO p a b M)) (q : Int) :
    Calls Tryz.prog 33 #[.pointer (some ⟨c, 0, none⟩), .int .u32 q] w fun E w' => ∃ k, E = .returned (.pointer (some ⟨k, 0, none⟩)) ∧ w.heap.size ≤ k ∧ Hold w0 w' (upd σ k (ctxO q a b M)) := by
  have hT := h.fresh (Nat.le_refl w.heap.size)
  have hb := h.newRaw (.cells #[.int .u32 0, .int .i32 0, .int .i32 0, .int .u32 0, .string ⟨#[]⟩] 76 (0, 0))
  obtain ⟨T, hTe⟩ : ∃ T, w.heap.size = T := ⟨_, rfl⟩
  rw [hTe] at hT hb
  have hcT : c ≠ T := by rintro rfl; rw [hT] at hc; cases hc
  have hx := hb.ctx (show (upd σ T _) c = some (ctxO p a b M) by rw [upd_ne _ _ hcT]; exact hc)
  have c0 := hx.c0
  have c1 := hx.c1
  have c2 := hx.c2
  have c3 := hx.c3
  have c4 := hx.c4
  have hbr := hb.raw (upd_eq _ _ _)
  have d0 := cellB hbr (i := 0) rfl
  have d1 := cellB hbr (i := 1) rfl
  have d2 := cellB hbr (i := 2) rfl
  have d3 := cellB hbr (i := 3) rfl
  have d4 := cellB hbr (i := 4) rfl
  have f0 := frozenB hbr 0
  have f1 := frozenB hbr 1
  have f2 := frozenB hbr 2
  have f3 := frozenB hbr 3
  have f4 := frozenB hbr 4
  have hfin := (((((hb.setRaw (i := 0) (x := .int .u32 p) (upd_eq _ _ _)).setRaw (i := 1) (x := .int .i32 a) (upd_eq _ _ _)).setRaw (i := 2) (x := .int .i32 b) (upd_eq _ _ _)).setRaw (i := 3) (x := .int .u32 0) (upd_eq _ _ _)).setRaw (i := 4) (x := .string M) (upd_eq _ _ _)).setRaw (i := 0) (x := .int .u32 q) (upd_eq _ _ _)
  simp only [upd_upd] at hfin
  have hle : w.heap.size ≤ T := by omega
  replace hfin := Lib.hid hfin
  replace hTe := Lib.hid hTe
  replace hle := Lib.hid hle
  clear hb h hc hx hT hcT hbr
  go_enter Tryz.func33, Tryz.ntmps33
  go_upto_region 2 with (fail)
  rw [hTe.out]
  generalize w.alloc (.cells #[.int .u32 0, .int .i32 0, .int .i32 0, .int .u32 0, .string ⟨#[]⟩] 76 (0, 0)) = W at *
  go_wp2
  go_ret
  exact ⟨T, rfl, hle.out, hfin.out⟩

/-- What quantizing makes of a coefficient, and the conditions. -/
def QCase (n : Bool) (N : Nat) (e q : Int) (m R r : Nat) : Prop :=
  (q ≤ e ∧ R = N * 10 ^ (e - q).toNat ∧ r = 0) ∨ (e < q ∧ figs N < (q - e).toNat ∧ R = 0 ∧ r = if N = 0 then 0 else 80) ∨ (e < q ∧ (q - e).toNat ≤ figs N ∧ R = cutN n N (q - e).toNat m ∧ r = if inexN N (q - e).toNat then 80 else 64)
end Go.Proofs.YtonepclpllelfaaGreatDoor
