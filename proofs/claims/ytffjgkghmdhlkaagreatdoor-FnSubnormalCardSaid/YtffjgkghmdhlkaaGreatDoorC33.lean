/- Rounding in a context whose exponents are near: where the answer is in the middle, and where it is too great. -/
import Derived.Test.YtffjgkghmdhlkaaGreatDoorC31
namespace Go.Proofs.YtffjgkghmdhlkaaGreatDoor
open Go Go.RowKit

theorem rnd_adj (n : Bool) {N p m : Nat} (hp : 1 ≤ p) : figs N ≤ rndK n N p m + figs (rndN n N p m) := by
  by_cases h : figs N ≤ p
  · obtain ⟨h1, h2, _⟩ := rnd_few (n := n) (m := m) h
    rw [h1, h2]; omega
  · have h1 := (cutN_figs (neg := n) (C := N) (p := p) (mode := m) hp (by omega)).1
    unfold rndN rndK
    rw [if_neg h, if_neg h]
    by_cases ho : figs (cutN n N (figs N - p) m) > p
    · rw [if_pos ho, if_pos ho, cutN_over hp (by omega) ho]
      obtain ⟨q, rfl⟩ : ∃ q, p = q + 1 := ⟨p - 1, by omega⟩
      rw [ten_succ, Nat.mul_div_cancel_left _ (by omega), figs_pow]; omega
    · rw [if_neg ho, if_neg ho]
      have h2 := figs_mono h1
      rw [figs_pow] at h2
      omega
theorem rndN_ne {n : Bool} {N p m : Nat} (hp : 1 ≤ p) (h : N ≠ 0) : rndN n N p m ≠ 0 := by
  by_cases hq : figs N ≤ p
  · rw [(rnd_few (n := n) (m := m) hq).1]; exact h
  · have h1 := (cutN_figs (neg := n) (C := N) (p := p) (mode := m) hp (by omega)).1
    have h2 := ten_pos (p - 1)
    unfold rndN
    rw [if_neg hq]
    by_cases ho : figs (cutN n N (figs N - p) m) > p
    · rw [if_pos ho, cutN_over hp (by omega) ho]
      obtain ⟨q, rfl⟩ : ∃ q, p = q + 1 := ⟨p - 1, by omega⟩
      rw [ten_succ, Nat.mul_div_cancel_left _ (by omega)]
      have := ten_pos q; omega
    · rw [if_neg ho]; omega
theorem setExp2In_c {w0 w : World} {σ : Sg} (h : Hold w0 w σ) {d c r : Nat} {f0 e p a b nd : Int} {n : Bool} {N : Nat} {m : ByteArray} (u v : Int) (hd : σ d = some (dec f0 n e false N)) (hc : σ c = some (ctxO p a b m)) (hN : nbits N < 1200)
    (hnd : nd = -1 ∨ nd = (figs N : Int)) (hr : calm r) (hu : -10000 ≤ u ∧ u ≤ 10000) (hv : -10000 ≤ v ∧ v ≤ 10000) (hlo : b ≤ u + v + (figs N : Int) - 1) (hhi : u + v + (figs N : Int) - 1 ≤ a) :
    Calls Tryz.prog 76 #[.pointer (some ⟨d, 0, none⟩), .pointer (some ⟨c, 0, none⟩), .int .i64 nd, .int .u32 (r : Int), .slice (some ⟨w.heap.size, 0, none⟩) 2 2] ((w.alloc (.cells #[.int .i64 u, .int .i64 v] 2 (0, 0))).drew) fun E w' => E = .returned (.int .u32 (r : Int)) ∧ Hold w0 w' (upd σ d (dec f0 n (u + v) false N)) := by
  have k := setExpG_c (s := w.heap.size) (l := 2) (cap := 2) (h.keep (((Chg.refl w _).alloc (.cells #[.int .i64 u, .int .i64 v] 2 (0, 0))).drew)) (two u v) hd hc hN hnd hr (by omega) (fun k hk => by
    rcases (by omega : k = 0 ∨ k = 1) with rfl | rfl
    · exact hu
    · exact hv) (fun k hk => by
    rcases (by omega : k = 0 ∨ k = 1) with rfl | rfl
    · exact cellB (w := (w.alloc (.cells #[.int .i64 u, .int .i64 v] 2 (0, 0))).drew) (allocB w _) rfl
    · exact cellB (w := (w.alloc (.cells #[.int .i64 u, .int .i64 v] 2 (0, 0))).drew) (allocB w _) rfl) (by rw [sumN_two]; exact hlo) (by rw [sumN_two]; exact hhi) (by omega)
  rw [sumN_two] at k
  exact k
theorem setExp2Ov_c {w0 w : World} {σ : Sg} (h : Hold w0 w σ) {d c r : Nat} {e p a b nd : Int} {n : Bool} {N : Nat} {m : ByteArray} (u v : Int) (hd : σ d = some (dec 0 n e false N)) (hc : σ c = some (ctxO p a b m)) (hN : nbits N < 1200)
    (hnd : nd = -1 ∨ nd = (figs N : Int)) (hr : calm r) (hu : -10000 ≤ u ∧ u ≤ 10000) (hv : -10000 ≤ v ∧ v ≤ 10000) (hlo : b ≤ a) (hhi : a < u + v + (figs N : Int) - 1) (h0 : N ≠ 0) :
    Calls Tryz.prog 76 #[.pointer (some ⟨d, 0, none⟩), .pointer (some ⟨c, 0, none⟩), .int .i64 nd, .int .u32 (r : Int), .slice (some ⟨w.heap.size, 0, none⟩) 2 2] ((w.alloc (.cells #[.int .i64 u, .int .i64 v] 2 (0, 0))).drew) fun E w' => E = .returned (.int .u32 (ovR r : Int)) ∧ Hold w0 w' (upd σ d (dec 1 n (u + v) false N)) := by
  have k := setExpOv_c (s := w.heap.size) (l := 2) (cap := 2) (h.keep (((Chg.refl w _).alloc (.cells #[.int .i64 u, .int .i64 v] 2 (0, 0))).drew)) (two u v) hd hc hN hnd hr (by omega) (fun k hk => by
    rcases (by omega : k = 0 ∨ k = 1) with rfl | rfl
    · exact hu
    · exact hv) (fun k hk => by
    rcases (by omega : k = 0 ∨ k = 1) with rfl | rfl
    · exact cellB (w := (w.alloc (.cells #[.int .i64 u, .int .i64 v] 2 (0, 0))).drew) (allocB w _) rfl
    · exact cellB (w := (w.alloc (.cells #[.int .i64 u, .int .i64 v] 2 (0, 0))).drew) (allocB w _) rfl) hlo (by rw [sumN_two]; exact hhi) h0 (by omega)
  rw [sumN_two] at k
  exact k
/-- A decimal is rounded, and its exponent is in the middle. -/
theorem RoundIn_c {w0 w : World} {σ : Sg} (h : Hold w0 w σ) {d x c p m : Nat} {e f' e' a b : Int} {n n' g' : Bool} {N N' : Nat} (hd : σ d = some (dec f' n' e' g' N')) (hx : σ x = some (dec 0 n e false N)) (hc : σ c = some (ctxO p a b (modeS m)))
    (hp : 1 ≤ p ∧ p ≤ 1000) (hb : -2000000 ≤ b ∧ b ≤ 2000000) (hN : nbits N < 1100) (hm : m < 8) (he : -3000 ≤ e ∧ e ≤ 3000) (hlow : b ≤ e + (figs N : Int) - 1) (hhi : e + (rndK n N p m : Int) + (figs (rndN n N p m) : Int) - 1 ≤ a) :
    Calls Tryz.prog 92 #[.string (modeS m), .pointer (some ⟨c, 0, none⟩), .pointer (some ⟨d, 0, none⟩), .pointer (some ⟨x, 0, none⟩), .bool true] w fun E w' => E = .returned (.int .u32 (rndC N p : Int)) ∧ Hold w0 w' (upd σ d (dec 0 n (e + (rndK n N p m : Int)) false (rndN n N p m))) := by
  have hadj := rnd_adj n (N := N) (m := m) hp.1
  by_cases hq : figs N ≤ p
  · obtain ⟨h1, h2, h3⟩ := rnd_few (n := n) (m := m) hq
    rw [h1, h2] at hhi
    rw [h1, h2, h3]
    exact round_fewG (rz := 0) (fz := 0) (Nz := N) h hd hx hc hp hb hN he hq hlow ⟨by kernel_rfl, by kernel_rfl⟩ (fun w1 σ1 k1 kd kc => setExp2In_c k1 e _ kd kc (by omega) (.inr rfl) (r := 0) (.inl rfl) (by omega) (by omega) (by omega) (by omega))
  · have hq401 := figs_401 (N := N) (by omega)
    have hk := rndK_le' n N p m
    have hb2 := rndN_bits (n := n) (p := p) (m := m) hN
    have hcm := rndC_calm' N p
    exact round_cutG h hd hx hc hp hb hN hm he (by omega) hlow (calm_or hcm) (fun w1 σ1 k1 kd kc => setExp2In_c k1 e _ kd kc (by omega) (nd := -1) (.inl rfl) hcm (by omega) (by omega) (by omega) (by omega))
theorem ovR_or {r : Nat} (h : calm r) : bits .or .u32 (r : Int) (ovR r : Int) = (ovR r : Int) ∧ IntKind.u32.wrap (ovR r : Int) = (ovR r : Int) := by
  rcases h with rfl | rfl | rfl | rfl <;> exact ⟨by kernel_rfl, by kernel_rfl⟩
/-- A decimal is rounded, and its exponent is too great. -/
theorem RoundOv_c {w0 w : World} {σ : Sg} (h : Hold w0 w σ) {d x c p m : Nat} {e f' e' a b : Int} {n n' g' : Bool} {N N' : Nat} (hd : σ d = some (dec f' n' e' g' N')) (hx : σ x = some (dec 0 n e false N)) (hc : σ c = some (ctxO p a b (modeS m)))
    (hp : 1 ≤ p ∧ p ≤ 1000) (hb : -2000000 ≤ b ∧ b ≤ 2000000) (hN : nbits N < 1100) (hm : m < 8) (he : -3000 ≤ e ∧ e ≤ 3000) (h0 : N ≠ 0) (hab : b ≤ a) (hlow : b ≤ e + (figs N : Int) - 1) (hhi : a < e + (rndK n N p m : Int) + (figs (rndN n N p m) : Int) - 1) :
    Calls Tryz.prog 92 #[.string (modeS m), .pointer (some ⟨c, 0, none⟩), .pointer (some ⟨d, 0, none⟩), .pointer (some ⟨x, 0, none⟩), .bool true] w fun E w' => E = .returned (.int .u32 (ovR (rndC N p) : Int)) ∧ Hold w0 w' (upd σ d (dec 1 n (e + (rndK n N p m : Int)) false (rndN n N p m))) := by
  by_cases hq : figs N ≤ p
  · obtain ⟨h1, h2, h3⟩ := rnd_few (n := n) (m := m) hq
    rw [h1, h2] at hhi
    rw [h1, h2, h3]
    exact round_fewG (rz := ovR 0) (fz := 1) (Nz := N) h hd hx hc hp hb hN he hq hlow (ovR_or (.inl rfl)) (fun w1 σ1 k1 kd kc => setExp2Ov_c k1 e _ kd kc (by omega) (.inr rfl) (r := 0) (.inl rfl) (by omega) (by omega) hab (by omega) h0)
  · have hq401 := figs_401 (N := N) (by omega)
    have hk := rndK_le' n N p m
    have hb2 := rndN_bits (n := n) (p := p) (m := m) hN
    have hcm := rndC_calm' N p
    exact round_cutG h hd hx hc hp hb hN hm he (by omega) hlow (ovR_or hcm) (fun w1 σ1 k1 kd kc => setExp2Ov_c k1 e _ kd kc (by omega) (nd := -1) (.inl rfl) hcm (by omega) (by omega) hab (by omega) (rndN_ne hp.1 h0))
/-- Context.Round, on what Rounder.Round gives. -/
theorem cRoundG_c {w0 w : World} {σ τ : Sg} (h : Hold w0 w σ) {d x c p m r : Nat} {a b : Int} (hc : σ c = some (ctxO p a b (modeS m))) (hr : r < 4096 ∧ r % 4 = 0) (hcτ : τ c = some (ctxO p a b (modeS m)))
    (k : Calls Tryz.prog 92 #[.string (modeS m), .pointer (some ⟨c, 0, none⟩), .pointer (some ⟨d, 0, none⟩), .pointer (some ⟨x, 0, none⟩), .bool true] w fun E w' => E = .returned (.int .u32 (r : Int)) ∧ Hold w0 w' τ) :
    Calls Tryz.prog 30 #[.pointer (some ⟨c, 0, none⟩), .pointer (some ⟨d, 0, none⟩), .pointer (some ⟨x, 0, none⟩)] w fun E w' => E = .returned (.tuple #[.int .u32 (r : Int), .nilIface]) ∧ Hold w0 w' τ := by
  have k2 : Calls Tryz.prog 53 #[.pointer (some ⟨c, 0, none⟩), .pointer (some ⟨d, 0, none⟩), .pointer (some ⟨x, 0, none⟩)] w fun E w' => E = .returned (.int .u32 (r : Int)) ∧ Hold w0 w' τ := by
    have c4 := (h.ctx hc).c4
    generalize modeS m = P at *
    replace k := Lib.hid k
    clear h hc hcτ
    go_enter Tryz.func53, Tryz.ntmps53
    go_wp2_with fail
    with_reducible refine k.out.mono ?_
    rintro E w1 ⟨rfl, h1⟩
    replace h1 := Lib.hid h1
    go_wp2
    go_ret
    exact ⟨rfl, h1.out⟩
  have ke := fun w1 (h1 : Hold w0 w1 τ) => goError_c w1 c r p a b (modeS m) (h1.ctx hcτ) hr.1 hr.2
  replace k2 := Lib.hid k2
  replace ke := Lib.hid ke
  clear h hc hcτ k
  go_enter Tryz.func30, Tryz.ntmps30
  go_wp2_with fail
  with_reducible refine k2.out.mono ?_
  rintro E w1 ⟨rfl, h1⟩
  have ke := ke.out _ h1
  replace ke := Lib.hid ke
  replace h1 := Lib.hid h1
  go_wp2_with fail
  with_reducible refine ke.out.mono ?_
  rintro E w' ⟨rfl, hw⟩
  obtain rfl := hw
  go_wp2
  go_ret2
  exact ⟨rfl, h1.out⟩
end Go.Proofs.YtffjgkghmdhlkaaGreatDoor
