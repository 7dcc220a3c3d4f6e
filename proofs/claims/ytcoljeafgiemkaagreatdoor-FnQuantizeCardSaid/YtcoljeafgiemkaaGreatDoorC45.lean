/- Decimal.Modf: the integer part and the fraction. What the thin package tells: a number, or any answer. -/
import Derived.Test.YtcoljeafgiemkaaGreatDoorC38
import Derived.Test.YtcoljeafgiemkaaGreatDoorC40
namespace Go.Proofs.YtcoljeafgiemkaaGreatDoor
open Go Go.RowKit

theorem bigSet0_c {w0 w : World} {σ : Sg} (h : Hold w0 w σ) {bz oz : Nat} {gz : Bool} {Z : Nat} (hz : BNum σ bz oz gz Z) :
    Calls Tryz.prog 127 #[.pointer (some ⟨bz, oz, none⟩), .int .i64 0] w fun e w' => e = .returned (.pointer (some ⟨bz, oz, none⟩)) ∧ Hold w0 w' (put σ bz oz false 0) := bigSetI_c h hz 0 (by decide)
set_option maxRecDepth 20000 in
set_option maxHeartbeats 2000000 in
theorem modf_up {w0 w : World} {σ : Sg} (h : Hold w0 w σ) {x i f : Nat} {e ei ef : Int} {n ni nf gi gf : Bool} {N Ni Nf : Nat} (hx : σ x = some (dec 0 n e false N)) (hi : σ i = some (dec 0 ni ei gi Ni)) (hf : σ f = some (dec 0 nf ef gf Nf)) (hxf : x ≠ f) (hif : i ≠ f)
    (hN : nbits N < 1100) (he : 0 < e) :
    Calls Tryz.prog 143 #[.pointer (some ⟨x, 0, none⟩), .pointer (some ⟨i, 0, none⟩), .pointer (some ⟨f, 0, none⟩)] w fun E w' => E = .returned (.tuple #[]) ∧ Hold w0 w' (upd (upd σ f (dec 0 n 0 false 0)) i (dec 0 n e false N)) := by
  have x1 := h.c1 hx
  have x2 := h.c2 hx
  have f1 := h.fz hf 1
  have f2 := h.fz hf 2
  have v1 := h.c1 hf
  have v2 := h.c2 hf
  have h1 := h.setSign hf n
  have h2 := h1.setExp (upd_eq _ _ _) 0
  rw [upd_upd] at h2
  have k1 := bigSet0_c h2 (bnum_dec (upd_eq _ _ _))
  rw [put_dec (upd_eq _ _ _), upd_upd] at k1
  have k2 := fun w' (h' : Hold w0 w' (upd σ f (dec 0 n 0 false 0))) => decSet_c (d := i) (x := x) h' (by rw [upd_ne _ _ hif]; exact hi) (by rw [upd_ne _ _ hxf]; exact hx) (bits_words (by omega))
  replace k1 := Lib.hid k1
  replace k2 := Lib.hid k2
  clear h h1 h2 hx hi hf
  go_enter Tryz.func143, Tryz.ntmps143
  go_wp2_with fail
  with_reducible refine k1.out.mono ?_
  rintro E w1 ⟨rfl, h1⟩
  have k2 := k2.out _ h1
  replace k2 := Lib.hid k2
  clear h1 k1
  go_wp2_with fail
  with_reducible refine k2.out.mono ?_
  rintro E w2 ⟨rfl, h2⟩
  replace h2 := Lib.hid h2
  go_wp2
  exact bodyPost_ret (v := .tuple #[]) (by simp [results, Tryz.results143, go_sem]) rfl ⟨rfl, h2.out⟩

set_option maxRecDepth 20000 in
set_option maxHeartbeats 2000000 in
theorem modf_far {w0 w : World} {σ : Sg} (h : Hold w0 w σ) {x i f : Nat} {e ei ef : Int} {n ni nf gi gf : Bool} {N Ni Nf : Nat} (hx : σ x = some (dec 0 n e false N)) (hi : σ i = some (dec 0 ni ei gi Ni)) (hf : σ f = some (dec 0 nf ef gf Nf)) (hxi : x ≠ i) (hif : i ≠ f)
    (hN : nbits N < 1100) (he : -10000 ≤ e ∧ e ≤ 0) (hk : (figs N : Int) < -e) :
    Calls Tryz.prog 143 #[.pointer (some ⟨x, 0, none⟩), .pointer (some ⟨i, 0, none⟩), .pointer (some ⟨f, 0, none⟩)] w fun E w' => E = .returned (.tuple #[]) ∧ Hold w0 w' (upd (upd σ i (dec 0 n 0 false 0)) f (dec 0 n e false N)) := by
  have x1 := h.c1 hx
  have x2 := h.c2 hx
  have kn := decDigits_c h hx (by omega)
  have e1 : IntKind.i64.wrap e = e := IntWalk.i64_in _ (by omega)
  have e2 : IntKind.i64.wrap (-e) = -e := IntWalk.i64_in _ (by omega)
  have e3 : ¬ 0 < e := by omega
  obtain ⟨q, hq⟩ : ∃ q, figs N = q := ⟨_, rfl⟩
  rw [hq] at kn hk
  replace kn := Lib.hid kn
  replace hq := Lib.hid hq
  replace hx := Lib.hid hx
  replace hi := Lib.hid hi
  replace hf := Lib.hid hf
  clear h
  go_enter Tryz.func143, Tryz.ntmps143
  go_wp2_with fail
  with_reducible refine kn.out.mono ?_
  rintro E w1 ⟨rfl, h⟩
  clear x1 x2
  have x2 := h.c2 hx.out
  have f1 := h.fz hi.out 1
  have f2 := h.fz hi.out 2
  have v1 := h.c1 hi.out
  have v2 := h.c2 hi.out
  have h1 := h.setSign hi.out n
  have h2 := h1.setExp (upd_eq _ _ _) 0
  rw [upd_upd] at h2
  have k1 := bigSet0_c h2 (bnum_dec (upd_eq _ _ _))
  rw [put_dec (upd_eq _ _ _), upd_upd] at k1
  have k2 := fun w' (h' : Hold w0 w' (upd σ i (dec 0 n 0 false 0))) => decSet_c (d := f) (x := x) h' (by rw [upd_ne _ _ (Ne.symm hif)]; exact hf.out) (by rw [upd_ne _ _ hxi]; exact hx.out) (bits_words (by omega))
  replace k1 := Lib.hid k1
  replace k2 := Lib.hid k2
  clear h h1 h2 kn
  go_wp2_with fail
  with_reducible refine k1.out.mono ?_
  rintro E w1 ⟨rfl, h1⟩
  have k2 := k2.out _ h1
  replace k2 := Lib.hid k2
  clear h1 k1
  go_wp2_with fail
  with_reducible refine k2.out.mono ?_
  rintro E w2 ⟨rfl, h2⟩
  replace h2 := Lib.hid h2
  go_wp2
  exact bodyPost_ret (v := .tuple #[]) (by simp [results, Tryz.results143, go_sem]) rfl ⟨rfl, h2.out⟩

set_option maxRecDepth 20000 in
set_option maxHeartbeats 4000000 in
theorem modf_cut {w0 w : World} {σ : Sg} (h : Hold w0 w σ) {x i f k : Nat} {e ei ef : Int} {n ni nf : Bool} {N Ni Nf : Nat} (hx : σ x = some (dec 0 n e false N)) (hi : σ i = some (dec 0 ni ei false Ni)) (hf : σ f = some (dec 0 nf ef false Nf)) (hxi : x ≠ i) (hxf : x ≠ f) (hif : i ≠ f)
    (hN : nbits N < 1100) (he : -e = (k : Int)) (hk : k ≤ figs N) (hk4 : k ≤ 400) :
    Calls Tryz.prog 143 #[.pointer (some ⟨x, 0, none⟩), .pointer (some ⟨i, 0, none⟩), .pointer (some ⟨f, 0, none⟩)] w fun E w' => E = .returned (.tuple #[]) ∧ Hold w0 w' (upd (upd σ i (dec 0 n 0 false (N / 10 ^ k))) f (dec 0 n e false (N % 10 ^ k))) := by
  have x1 := h.c1 hx
  have x2 := h.c2 hx
  have kn := decDigits_c h hx (by omega)
  have hq401 := figs_401 (N := N) (by omega)
  have e1 : IntKind.i64.wrap e = e := IntWalk.i64_in _ (by omega)
  have e2 : IntKind.i64.wrap (k : Int) = (k : Int) := IntWalk.i64_in _ (by omega)
  have e3 : ¬ 0 < e := by omega
  obtain ⟨q, hq⟩ : ∃ q, figs N = q := ⟨_, rfl⟩
  rw [hq] at kn hk hq401
  have e4 : ¬ (q : Int) < (k : Int) := by omega
  replace kn := Lib.hid kn
  replace hq := Lib.hid hq
  replace hx := Lib.hid hx
  replace hi := Lib.hid hi
  replace hf := Lib.hid hf
  clear h
  go_enter Tryz.func143, Tryz.ntmps143
  go_wp2_with fail
  with_reducible refine kn.out.mono ?_
  rintro E w1 ⟨rfl, h⟩
  clear x1 x2
  have x2 := h.c2 hx.out
  go_upto_region 19 with (fail)
  have hfK := h.fresh (k := w1.heap.size) (Nat.le_refl _)
  have h1 := h.newBig
  obtain ⟨K, hK⟩ : ∃ K, w1.heap.size = K := ⟨_, rfl⟩
  rw [hK] at h1 hfK ⊢
  replace hK := Lib.hid hK
  generalize w1.alloc (.cells #[.bool false, .slice none 0 0, .bool false] 73 (0, 0)) = W at h1 ⊢
  have kt := tableExp_c h1 (bnum_big (upd_eq _ _ _)) k (by omega)
  rw [put_big (upd_eq _ _ _), upd_upd] at kt
  have hle : Le σ (upd σ K (big false (10 ^ k))) := Le.skip hfK (Le.refl _)
  have hKx : x ≠ K := by rintro rfl; have := hx.out; rw [hfK] at this; cases this
  have hKi : i ≠ K := by rintro rfl; have := hi.out; rw [hfK] at this; cases this
  have hKf : f ≠ K := by rintro rfl; have := hf.out; rw [hfK] at this; cases this
  replace kt := Lib.hid kt
  replace hfK := Lib.hid hfK
  clear h h1 x2 kn
  go_wp2_with fail
  with_reducible refine kt.out.mono ?_
  rintro E w2 ⟨rfl, h2⟩
  have b2 := upd_eq σ K (big false (10 ^ k))
  have hx2 := hle _ _ hx.out
  have hi2 := hle _ _ hi.out
  have hf2 := hle _ _ hf.out
  have hend0 : ∀ it jt, Le (upd (upd σ i it) f jt) (upd (upd (upd σ K (big false (10 ^ k))) i it) f jt) := fun it jt => Le.both (Le.both hle)
  replace hend0 := Lib.hid hend0
  generalize upd σ K (big false (10 ^ k)) = ρ at h2 b2 hx2 hi2 hf2 hend0
  have f1 := h2.fz hi2 1
  have f2 := h2.fz hi2 2
  have v1 := h2.c1 hi2
  have v2 := h2.c2 hi2
  have h3 := h2.setExp hi2 0
  have h4 := h3.setSign (upd_eq _ _ _) n
  rw [upd_upd] at h4
  clear kt h3
  replace h2 := Lib.hid h2
  replace h4 := Lib.hid h4
  go_upto_region 27 with (fail)
  clear f1 f2 v1 v2
  have h4 := h4.out
  generalize (w2.setCell ⟨i, 2, none⟩ (.int .i32 0)).setCell ⟨i, 1, none⟩ (.bool n) = W3 at h4 ⊢
  have hi4 := upd_eq ρ i (dec 0 n 0 false Ni)
  have hx4 : upd ρ i (dec 0 n 0 false Ni) x = some (dec 0 n e false N) := by rw [upd_ne _ _ hxi]; exact hx2
  have hf4 : upd ρ i (dec 0 n 0 false Ni) f = some (dec 0 nf ef false Nf) := by rw [upd_ne _ _ (Ne.symm hif)]; exact hf2
  have hb4 : upd ρ i (dec 0 n 0 false Ni) K = some (big false (10 ^ k)) := by rw [upd_ne _ _ (Ne.symm hKi)]; exact b2
  have hNd : (digs N).length ≤ 250 := Nat.le_trans (bits_w (k := 18) (by omega)) (by omega)
  have kq := fun w' (hc : Chg W3 w' (fun _ => False)) => bigQuoRem_c (h4.keep hc) (bnum_dec hi4) (num_dec hx4) (num_big hb4) (bnum_dec hf4) hif (Nat.ne_of_gt (ten_pos k)) hNd (ten_40 (by omega))
  rw [put_dec hi4, upd_upd, put_dec (b := f) (by rw [upd_ne _ _ (Ne.symm hif)]; exact hf2)] at kq
  replace kq := Lib.hid kq
  clear hi4 hx4 hf4 hb4
  replace h4 := Lib.hid h4
  go_cut [99] (fun _ wx => Hold w0 wx (upd (upd ρ i (dec 0 n 0 false (N / 10 ^ k))) f (dec 0 nf ef false (N % 10 ^ k))))
  case first =>
    go_region_with ((go_at_call 106; refine (kq.out _ (by exact ⟨rfl, rfl, rfl, Nat.le_refl _, fun _ _ _ => rfl⟩)).mono ?_; rintro E w7 ⟨rfl, h8⟩; replace h8 := Lib.hid h8))
    all_goals
      go_wp2_with fail
      go_meet
      exact h8.out
  case rest =>
    have h8 := hcut
    have hx8 : upd (upd ρ i (dec 0 n 0 false (N / 10 ^ k))) f (dec 0 nf ef false (N % 10 ^ k)) x = some (dec 0 n e false N) := by rw [upd_ne _ _ hxf, upd_ne _ _ hxi]; exact hx2
    have x2 := h8.c2 hx8
    have hf8 := upd_eq (upd ρ i (dec 0 n 0 false (N / 10 ^ k))) f (dec 0 nf ef false (N % 10 ^ k))
    have v1 := h8.c1 hf8
    have v2 := h8.c2 hf8
    have f1 := h8.fz hf8 1
    have f2 := h8.fz hf8 2
    have h9 := (h8.setExp hf8 e).setSign (upd_eq _ _ _) n
    rw [upd_upd, upd_upd] at h9
    replace h9 := Lib.hid h9
    clear h8 hcut kq h4 hx8 hf8
    go_wp2
    go_end0
    exact ⟨rfl, h9.out.le (hend0.out _ _)⟩
end Go.Proofs.YtcoljeafgiemkaaGreatDoor

namespace Go.Proofs.YtcoljeafgiemkaaGreatDoor
open Go Go.RowKit

/-- What is told, but for the answer. -/
def TellC (w w' : World) (E : Ending) (cn : Int) : Prop := ∃ F s q l cc e1, E = .returned (.tuple #[.agg #[.int .i64 F, .bool s, .slice q l cc, .int .i64 e1], .int .i64 cn, .bool true]) ∧ Chg w w' (fun _ => False)
/-- A number is told. -/
def TellN (w w' : World) (E : Ending) (n : Bool) (e : Int) (N : Nat) (cn : Int) : Prop := ∃ q cc, E = .returned (.tuple #[.agg #[.int .i64 0, .bool n, .slice q (digs N).length cc, .int .i64 e], .int .i64 cn, .bool true]) ∧ RdW w' q (digs N).length cc (digs N) ∧ Chg w w' (fun _ => False)
theorem tellN {w w' : World} {E : Ending} {n : Bool} {e : Int} {N cn : Nat} (h : ImplQ (QFin n e N) w w' E cn) : TellN w w' E n e N (cn : Int) := by
  obtain ⟨F, s, q, l, cc, e1, hE, ⟨rfl, rfl, rfl, rfl, hr⟩, hc⟩ := h
  exact ⟨q, cc, hE, hr, hc⟩
theorem TellN.c {w w' : World} {E : Ending} {n : Bool} {e : Int} {N : Nat} {cn : Int} (h : TellN w w' E n e N cn) : TellC w w' E cn := by
  obtain ⟨q, cc, hE, _, hc⟩ := h
  exact ⟨_, _, _, _, _, _, hE, hc⟩
theorem tellC {w w' : World} {E : Ending} {f : Int} {n : Bool} {cn : Nat} (h : ImplQ (QForm f n) w w' E cn) : TellC w w' E (cn : Int) := by
  obtain ⟨F, s, q, l, cc, e1, hE, _, hc⟩ := h
  exact ⟨_, _, _, _, _, _, hE, hc⟩
end Go.Proofs.YtcoljeafgiemkaaGreatDoor
