/- Context.Ceil, Context.Floor of finite decimals that have not more figures than the precision. -/
import Derived.Test.YtgdpljjmnmapmaaGreatDoorC35
import Derived.Test.YtgdpljjmnmapmaaGreatDoorY16
namespace Go.Proofs.YtgdpljjmnmapmaaGreatDoor
open Go Go.RowKit

theorem decOne_c {w0 w : World} {σ : Sg} (h : Hold w0 w σ) : Calls Tryz.prog 51 #[] w fun E w' => ∃ k, E = .returned (.pointer (some ⟨k, 0, none⟩)) ∧ w.heap.size ≤ k ∧ Hold w0 w' (upd σ k (dec 0 false 0 false 1)) := by
  have key : Calls Tryz.prog 87 #[.int .i64 1, .int .i32 0] w _ := newDec_c h 1 (by omega) 0
  replace key := Lib.hid key
  clear h
  go_enter Tryz.func51, Tryz.ntmps51
  go_wp2_with fail
  with_reducible refine key.out.mono ?_
  rintro e w1 ⟨k, rfl, hk, h1⟩
  replace h1 := Lib.hid h1
  go_wp2
  go_ret
  exact ⟨k, rfl, hk, h1.out⟩
set_option maxRecDepth 20000 in
set_option maxHeartbeats 4000000 in
theorem cCeil_c {w0 w : World} {σ : Sg} (h : Hold w0 w σ) {d x c p m : Nat} {e e' a b : Int} {n n' : Bool} {N N' : Nat} (hd : σ d = some (dec 0 n' e' false N')) (hx : σ x = some (dec 0 n e false N)) (hxd : x ≠ d) (hc : σ c = some (ctxO p a b (modeS m)))
    (hp : 1 ≤ p ∧ p ≤ 1000) (ha : 50000 ≤ a ∧ a ≤ 2000000) (hb : -2000000 ≤ b ∧ b ≤ -50000) (hm : m < 8) (hN : nbits N ≤ 500) (he : -400 ≤ e ∧ e ≤ 1000) (hf : figs N ≤ p) {E1 : Int} {R : Nat} (hres : (0 < e ∧ E1 = e ∧ R = N) ∨ ∃ k : Nat, -e = (k : Int) ∧ E1 = 0 ∧ R = cutN n N k 3) :
    Calls Tryz.prog 28 #[.pointer (some ⟨c, 0, none⟩), .pointer (some ⟨d, 0, none⟩), .pointer (some ⟨x, 0, none⟩)] w fun E w' => E = .returned (.tuple #[.int .u32 ((0 : Nat) : Int), .nilIface]) ∧ Hold w0 w' (upd σ d (dec 0 n E1 false R)) := by
  have hT := h.fresh (Nat.le_refl w.heap.size)
  have h1 := h.newDec 0 0 false
  obtain ⟨T, hTe⟩ : ∃ T, w.heap.size = T := ⟨_, rfl⟩
  rw [hTe] at hT h1
  have hTx : x ≠ T := by rintro rfl; rw [hT] at hx; cases hx
  have hTd : d ≠ T := by rintro rfl; rw [hT] at hd; cases hd
  have hTc : c ≠ T := by rintro rfl; rw [hT] at hc; cases hc
  have hcd : c ≠ d := by rintro rfl; rw [hc] at hd; cases hd
  have hx1 : upd σ T (dec 0 false 0 false 0) x = some (dec 0 n e false N) := by rw [upd_ne _ _ hTx]; exact hx
  have hd1 : upd σ T (dec 0 false 0 false 0) d = some (dec 0 n' e' false N') := by rw [upd_ne _ _ hTd]; exact hd
  obtain ⟨D, F, hM, hways⟩ : ∃ (D : It) (F : Nat), Calls Tryz.prog 49 #[.pointer (some ⟨x, 0, none⟩), .pointer (some ⟨d, 0, none⟩), .pointer (some ⟨T, 0, none⟩)] (w.alloc (.cells #[.int .i8 0, .bool false, .int .i32 0, .bool false, .slice none 0 0, .bool false] 64 (0, 0))) (fun E w' => E = .returned (.tuple #[]) ∧ ∃ eF, Hold w0 w' (upd (upd σ T (dec 0 n eF false F)) d D)) ∧
      ((F = 0 ∨ n = true) ∧ D = dec 0 n E1 false R ∨ F ≠ 0 ∧ n = false ∧ E1 = 0 ∧ ∃ I, D = dec 0 n 0 false I ∧ R = I + 1 ∧ figs (I + 1) ≤ p ∧ I ≤ N) := by
    rcases hres with ⟨h0, rfl, rfl⟩ | ⟨k, hk, rfl, hR⟩
    · refine ⟨dec 0 n E1 false R, 0, (modf_up h1 hx1 hd1 (upd_eq _ _ _) hTx hTd (by omega) h0).mono (fun E w' hh => ?_), .inl ⟨.inl rfl, rfl⟩⟩
      obtain ⟨hE, hh⟩ := hh
      rw [upd_upd] at hh
      exact ⟨hE, 0, hh⟩
    · refine ⟨dec 0 n 0 false (N / 10 ^ k), N % 10 ^ k, (modfC_c h1 hx1 hd1 (upd_eq _ _ _) hxd hTx hTd (by omega) hk (by omega)).mono (fun E w' hh => ?_), ?_⟩
      · obtain ⟨hE, hh⟩ := hh
        rw [upd_swap _ _ _ hTd, upd_upd] at hh
        exact ⟨hE, e, hh⟩
      · have hf1 := figs_lt N
        have hfp := figs_pos N
        by_cases hF : N % 10 ^ k = 0
        · refine .inl ⟨.inl hF, ?_⟩
          rw [hR]; unfold cutN; rw [if_pos hF]
        · by_cases hn : n = false
          · refine .inr ⟨hF, hn, rfl, _, rfl, ?_, ?_, Nat.div_le_self _ _⟩
            · rw [hR]; unfold cutN; rw [if_neg hF, hn]; rfl
            · have hk1 : k ≠ 0 := by rintro rfl; exact hF (by rw [Nat.pow_zero]; exact Nat.mod_one _)
              obtain ⟨q, rfl⟩ : ∃ q, k = q + 1 := ⟨k - 1, by omega⟩
              obtain ⟨f, hff⟩ : ∃ f, figs N = f + 1 := ⟨figs N - 1, by omega⟩
              have h2 : N / 10 ^ (q + 1) ≤ N / 10 := by
                rw [ten_succ]
                refine Nat.div_le_div_left ?_ (by omega)
                have := ten_pos q; omega
              rw [hff, ten_succ] at hf1
              have h3 := ten_pos f
              refine Nat.le_trans ((figs_le_iff (k := f + 1) (by omega)).2 ?_) (by omega)
              generalize N / 10 ^ (q + 1) = zz at h2 ⊢
              rw [ten_succ]; omega
          · refine .inl ⟨.inr (by cases n <;> simp_all), ?_⟩
            rw [hR]; unfold cutN; rw [if_neg hF]
            have : n = true := by cases n <;> simp_all
            rw [this]; rfl
  have hle : ∀ it jt, Le (upd σ d it) (upd (upd σ T jt) d it) := fun it jt => Le.both (Le.skip hT (Le.refl _))
  have hsgd : ∀ {F : Nat}, (sgD 0 n F > 0) ↔ (F ≠ 0 ∧ n = false) := fun {F} => by
    unfold sgD
    by_cases h0 : F = 0
    · simp [h0]
    · cases n <;> simp [h0]
  replace hM := Lib.hid hM
  replace hways := Lib.hid hways
  replace hle := Lib.hid hle
  replace hsgd := Lib.hid (fun F => @hsgd F)
  replace hc := Lib.hid hc
  replace hTe := Lib.hid hTe
  clear h h1 hd hx hT hx1 hd1 hres
  go_enter Tryz.func28, Tryz.ntmps28
  go_wp2_with fail
  rw [hTe.out]
  with_reducible refine hM.out.mono ?_
  rintro E w2 ⟨rfl, eF, h2⟩
  have hTT : upd (upd σ T (dec 0 n eF false F)) d D T = some (dec 0 n eF false F) := by rw [upd_ne _ _ (Ne.symm hTd), upd_eq]
  have kg := decSignH_c h2 hTT
  obtain ⟨sg, hsg⟩ : ∃ sg, sgD 0 n F = sg := ⟨_, rfl⟩
  have hsgF := hsgd.out F
  rw [hsg] at kg hsgF
  have h3 := h2.le (hle.out _ _)
  replace kg := Lib.hid kg
  replace hsg := Lib.hid hsg
  replace hsgF := Lib.hid hsgF
  replace h3 := Lib.hid h3
  clear h2 hTT
  go_wp2_with fail
  with_reducible refine kg.out.mono ?_
  rintro E w' ⟨rfl, hw⟩
  obtain rfl := hw
  rcases hways.out with ⟨hno, hD⟩ | ⟨hF0, hn, hE1, I, hD, hRI, hfI, hIN⟩
  · have hc1 : ¬ sg > 0 := fun hh => by
      obtain ⟨a1, a2⟩ := hsgF.out.1 hh
      rcases hno with h | h
      · exact a1 h
      · rw [h] at a2; cases a2
    replace hD := Lib.hid hD
    replace hno := Lib.hid hno
    go_wp2
    go_ret2
    exact ⟨rfl, by rw [← hD.out]; exact h3.out⟩
  · have hc1 : sg > 0 := hsgF.out.2 ⟨hF0, hn⟩
    have h4 := h3.out
    rw [hD] at h4
    have ko := decOne_c h4
    replace ko := Lib.hid ko
    replace hD := Lib.hid hD
    replace hn := Lib.hid hn
    replace hE1 := Lib.hid hE1
    replace hRI := Lib.hid hRI
    replace h4 := Lib.hid h4
    go_wp2_with fail
    with_reducible refine ko.out.mono ?_
    rintro E w5 ⟨k1, rfl, hk1, h5⟩
    have hfk := h4.out.fresh hk1
    have hdk : d ≠ k1 := by rintro rfl; rw [upd_eq] at hfk; cases hfk
    have hck : c ≠ k1 := by rintro rfl; rw [upd_ne _ _ hcd, hc.out] at hfk; cases hfk
    have hd5 : upd (upd σ d (dec 0 n 0 false I)) k1 (dec 0 false 0 false 1) d = some (dec 0 n 0 false I) := by rw [upd_ne _ _ hdk, upd_eq]
    have hIb : nbits I ≤ 500 := Nat.le_trans (nbits_mono hIN) hN
    have ka := cAdd_c h5 hd5 hd5 (upd_eq _ _ _) (by rw [upd_ne _ _ hck, upd_ne _ _ hcd]; exact hc.out) hp ha hb (by omega) (by decide +kernel) hm (by omega) (by omega) (by omega) (e := 0) (by rw [if_pos (Int.le_refl 0)]) (A := I) (B := 1) (by rw [Int.sub_self]; simp) (by rw [Int.sub_self]; simp) (by omega) (by decide +kernel)
    rw [show (false != false) = false from rfl, hn.out, show addS false false I 1 (decide (m = 4)) = false by unfold addS; rw [if_pos rfl], show addN false false I 1 = I + 1 by unfold addN; rw [if_pos rfl]] at ka
    unfold CRes at ka
    obtain ⟨g1, g2, g3⟩ := rnd_few (n := false) (m := m) hfI
    rw [g1, g2, g3, show (0 : Int) + ((0 : Nat) : Int) = 0 by omega] at ka
    have hsk : σ k1 = none := by rw [upd_ne _ _ (Ne.symm hdk)] at hfk; exact hfk
    have hle9 : Le (upd σ d (dec 0 false 0 false (I + 1))) (upd (upd (upd σ d (dec 0 false 0 false I)) k1 (dec 0 false 0 false 1)) d (dec 0 false 0 false (I + 1))) := by
      rw [upd_swap σ _ _ hdk, upd_upd]
      exact Le.both (Le.skip hsk (Le.refl _))
    replace ka := Lib.hid ka
    replace hle9 := Lib.hid hle9
    clear h5 hd5 hfk ko hk1 hsk
    go_wp2_with fail
    refine ka.out.mono ?_
    rintro E w7 ⟨rfl, h7⟩
    have h8 := h7.le hle9.out
    replace h8 := Lib.hid h8
    clear h7
    go_wp2
    go_ret2
    exact ⟨rfl, by rw [hn.out, hE1.out, hRI.out]; exact h8.out⟩
set_option maxRecDepth 20000 in
set_option maxHeartbeats 4000000 in
theorem cFloor_c {w0 w : World} {σ : Sg} (h : Hold w0 w σ) {d x c p m : Nat} {e e' a b : Int} {n n' : Bool} {N N' : Nat} (hd : σ d = some (dec 0 n' e' false N')) (hx : σ x = some (dec 0 n e false N)) (hxd : x ≠ d) (hc : σ c = some (ctxO p a b (modeS m)))
    (hp : 1 ≤ p ∧ p ≤ 1000) (ha : 50000 ≤ a ∧ a ≤ 2000000) (hb : -2000000 ≤ b ∧ b ≤ -50000) (hm : m < 8) (hN : nbits N ≤ 500) (he : -400 ≤ e ∧ e ≤ 1000) (hf : figs N ≤ p) {E1 : Int} {R : Nat} (hres : (0 < e ∧ E1 = e ∧ R = N) ∨ ∃ k : Nat, -e = (k : Int) ∧ E1 = 0 ∧ R = cutN n N k 4) :
    Calls Tryz.prog 35 #[.pointer (some ⟨c, 0, none⟩), .pointer (some ⟨d, 0, none⟩), .pointer (some ⟨x, 0, none⟩)] w fun E w' => E = .returned (.tuple #[.int .u32 ((0 : Nat) : Int), .nilIface]) ∧ Hold w0 w' (upd σ d (dec 0 n E1 false R)) := by
  have hT := h.fresh (Nat.le_refl w.heap.size)
  have h1 := h.newDec 0 0 false
  obtain ⟨T, hTe⟩ : ∃ T, w.heap.size = T := ⟨_, rfl⟩
  rw [hTe] at hT h1
  have hTx : x ≠ T := by rintro rfl; rw [hT] at hx; cases hx
  have hTd : d ≠ T := by rintro rfl; rw [hT] at hd; cases hd
  have hTc : c ≠ T := by rintro rfl; rw [hT] at hc; cases hc
  have hcd : c ≠ d := by rintro rfl; rw [hc] at hd; cases hd
  have hx1 : upd σ T (dec 0 false 0 false 0) x = some (dec 0 n e false N) := by rw [upd_ne _ _ hTx]; exact hx
  have hd1 : upd σ T (dec 0 false 0 false 0) d = some (dec 0 n' e' false N') := by rw [upd_ne _ _ hTd]; exact hd
  obtain ⟨D, F, hM, hways⟩ : ∃ (D : It) (F : Nat), Calls Tryz.prog 49 #[.pointer (some ⟨x, 0, none⟩), .pointer (some ⟨d, 0, none⟩), .pointer (some ⟨T, 0, none⟩)] (w.alloc (.cells #[.int .i8 0, .bool false, .int .i32 0, .bool false, .slice none 0 0, .bool false] 64 (0, 0))) (fun E w' => E = .returned (.tuple #[]) ∧ ∃ eF, Hold w0 w' (upd (upd σ T (dec 0 n eF false F)) d D)) ∧
      ((F = 0 ∨ n = false) ∧ D = dec 0 n E1 false R ∨ F ≠ 0 ∧ n = true ∧ E1 = 0 ∧ ∃ I, D = dec 0 n 0 false I ∧ R = I + 1 ∧ figs (I + 1) ≤ p ∧ I ≤ N) := by
    rcases hres with ⟨h0, rfl, rfl⟩ | ⟨k, hk, rfl, hR⟩
    · refine ⟨dec 0 n E1 false R, 0, (modf_up h1 hx1 hd1 (upd_eq _ _ _) hTx hTd (by omega) h0).mono (fun E w' hh => ?_), .inl ⟨.inl rfl, rfl⟩⟩
      obtain ⟨hE, hh⟩ := hh
      rw [upd_upd] at hh
      exact ⟨hE, 0, hh⟩
    · refine ⟨dec 0 n 0 false (N / 10 ^ k), N % 10 ^ k, (modfC_c h1 hx1 hd1 (upd_eq _ _ _) hxd hTx hTd (by omega) hk (by omega)).mono (fun E w' hh => ?_), ?_⟩
      · obtain ⟨hE, hh⟩ := hh
        rw [upd_swap _ _ _ hTd, upd_upd] at hh
        exact ⟨hE, e, hh⟩
      · have hf1 := figs_lt N
        have hfp := figs_pos N
        by_cases hF : N % 10 ^ k = 0
        · refine .inl ⟨.inl hF, ?_⟩
          rw [hR]; unfold cutN; rw [if_pos hF]
        · by_cases hn : n = true
          · refine .inr ⟨hF, hn, rfl, _, rfl, ?_, ?_, Nat.div_le_self _ _⟩
            · rw [hR]; unfold cutN; rw [if_neg hF, hn]; rfl
            · have hk1 : k ≠ 0 := by rintro rfl; exact hF (by rw [Nat.pow_zero]; exact Nat.mod_one _)
              obtain ⟨q, rfl⟩ : ∃ q, k = q + 1 := ⟨k - 1, by omega⟩
              obtain ⟨f, hff⟩ : ∃ f, figs N = f + 1 := ⟨figs N - 1, by omega⟩
              have h2 : N / 10 ^ (q + 1) ≤ N / 10 := by
                rw [ten_succ]
                refine Nat.div_le_div_left ?_ (by omega)
                have := ten_pos q; omega
              rw [hff, ten_succ] at hf1
              have h3 := ten_pos f
              refine Nat.le_trans ((figs_le_iff (k := f + 1) (by omega)).2 ?_) (by omega)
              generalize N / 10 ^ (q + 1) = zz at h2 ⊢
              rw [ten_succ]; omega
          · refine .inl ⟨.inr (by cases n <;> simp_all), ?_⟩
            rw [hR]; unfold cutN; rw [if_neg hF]
            have : n = false := by cases n <;> simp_all
            rw [this]; rfl
  have hle : ∀ it jt, Le (upd σ d it) (upd (upd σ T jt) d it) := fun it jt => Le.both (Le.skip hT (Le.refl _))
  have hsgd : ∀ {F : Nat}, (sgD 0 n F < 0) ↔ (F ≠ 0 ∧ n = true) := fun {F} => by
    unfold sgD
    by_cases h0 : F = 0
    · simp [h0]
    · cases n <;> simp [h0]
  replace hM := Lib.hid hM
  replace hways := Lib.hid hways
  replace hle := Lib.hid hle
  replace hsgd := Lib.hid (fun F => @hsgd F)
  replace hc := Lib.hid hc
  replace hTe := Lib.hid hTe
  clear h h1 hd hx hT hx1 hd1 hres
  go_enter Tryz.func35, Tryz.ntmps35
  go_wp2_with fail
  rw [hTe.out]
  with_reducible refine hM.out.mono ?_
  rintro E w2 ⟨rfl, eF, h2⟩
  have hTT : upd (upd σ T (dec 0 n eF false F)) d D T = some (dec 0 n eF false F) := by rw [upd_ne _ _ (Ne.symm hTd), upd_eq]
  have kg := decSignH_c h2 hTT
  obtain ⟨sg, hsg⟩ : ∃ sg, sgD 0 n F = sg := ⟨_, rfl⟩
  have hsgF := hsgd.out F
  rw [hsg] at kg hsgF
  have h3 := h2.le (hle.out _ _)
  replace kg := Lib.hid kg
  replace hsg := Lib.hid hsg
  replace hsgF := Lib.hid hsgF
  replace h3 := Lib.hid h3
  clear h2 hTT
  go_wp2_with fail
  with_reducible refine kg.out.mono ?_
  rintro E w' ⟨rfl, hw⟩
  obtain rfl := hw
  rcases hways.out with ⟨hno, hD⟩ | ⟨hF0, hn, hE1, I, hD, hRI, hfI, hIN⟩
  · have hc1 : ¬ sg < 0 := fun hh => by
      obtain ⟨a1, a2⟩ := hsgF.out.1 hh
      rcases hno with h | h
      · exact a1 h
      · rw [h] at a2; cases a2
    replace hD := Lib.hid hD
    replace hno := Lib.hid hno
    go_wp2
    go_ret2
    exact ⟨rfl, by rw [← hD.out]; exact h3.out⟩
  · have hc1 : sg < 0 := hsgF.out.2 ⟨hF0, hn⟩
    have h4 := h3.out
    rw [hD] at h4
    have ko := decOne_c h4
    replace ko := Lib.hid ko
    replace hD := Lib.hid hD
    replace hn := Lib.hid hn
    replace hE1 := Lib.hid hE1
    replace hRI := Lib.hid hRI
    replace h4 := Lib.hid h4
    go_wp2_with fail
    with_reducible refine ko.out.mono ?_
    rintro E w5 ⟨k1, rfl, hk1, h5⟩
    have hfk := h4.out.fresh hk1
    have hdk : d ≠ k1 := by rintro rfl; rw [upd_eq] at hfk; cases hfk
    have hck : c ≠ k1 := by rintro rfl; rw [upd_ne _ _ hcd, hc.out] at hfk; cases hfk
    have hd5 : upd (upd σ d (dec 0 n 0 false I)) k1 (dec 0 false 0 false 1) d = some (dec 0 n 0 false I) := by rw [upd_ne _ _ hdk, upd_eq]
    have hIb : nbits I ≤ 500 := Nat.le_trans (nbits_mono hIN) hN
    have ka := cSub_c h5 hd5 hd5 (upd_eq _ _ _) (by rw [upd_ne _ _ hck, upd_ne _ _ hcd]; exact hc.out) hp ha hb (by omega) (by decide +kernel) hm (by omega) (by omega) (by omega) (e := 0) (by rw [if_pos (Int.le_refl 0)]) (A := I) (B := 1) (by rw [Int.sub_self]; simp) (by rw [Int.sub_self]; simp) (by omega) (by decide +kernel)
    rw [show (false != true) = true from rfl, hn.out, show addS true true I 1 (decide (m = 4)) = true by unfold addS; rw [if_pos rfl], show addN true true I 1 = I + 1 by unfold addN; rw [if_pos rfl]] at ka
    unfold CRes at ka
    obtain ⟨g1, g2, g3⟩ := rnd_few (n := true) (m := m) hfI
    rw [g1, g2, g3, show (0 : Int) + ((0 : Nat) : Int) = 0 by omega] at ka
    have hsk : σ k1 = none := by rw [upd_ne _ _ (Ne.symm hdk)] at hfk; exact hfk
    have hle9 : Le (upd σ d (dec 0 true 0 false (I + 1))) (upd (upd (upd σ d (dec 0 true 0 false I)) k1 (dec 0 false 0 false 1)) d (dec 0 true 0 false (I + 1))) := by
      rw [upd_swap σ _ _ hdk, upd_upd]
      exact Le.both (Le.skip hsk (Le.refl _))
    replace ka := Lib.hid ka
    replace hle9 := Lib.hid hle9
    clear h5 hd5 hfk ko hk1 hsk
    go_wp2_with fail
    refine ka.out.mono ?_
    rintro E w7 ⟨rfl, h7⟩
    have h8 := h7.le hle9.out
    replace h8 := Lib.hid h8
    clear h7
    go_wp2
    go_ret2
    exact ⟨rfl, by rw [hn.out, hE1.out, hRI.out]; exact h8.out⟩
end Go.Proofs.YtgdpljjmnmapmaaGreatDoor
