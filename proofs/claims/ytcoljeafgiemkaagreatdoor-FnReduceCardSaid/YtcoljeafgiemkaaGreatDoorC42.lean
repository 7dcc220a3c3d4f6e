/- Decimal.Reduce of a finite decimal that is not 0. Context.Reduce of a finite decimal that is not 0 and has not more figures than the precision. -/
import Derived.Test.YtcoljeafgiemkaaGreatDoorC08
import Derived.Test.YtcoljeafgiemkaaGreatDoorC30
import Derived.Test.YtcoljeafgiemkaaGreatDoorC32
import Derived.Test.YtcoljeafgiemkaaGreatDoorC36
import Derived.Test.YtcoljeafgiemkaaGreatDoorC38
namespace Go.Proofs.YtcoljeafgiemkaaGreatDoor
open Go Go.RowKit

set_option maxRecDepth 20000 in
theorem setBig_c {w0 w : World} {σ : Sg} (h : Hold w0 w σ) {b d : Nat} {gz : Bool} {Z N : Nat} {f e : Int} {n : Bool} (hb : σ b = some (big gz Z)) (hd : σ d = some (dec f n e false N)) (hN : (digs N).length ≤ 1000) (hN0 : N ≠ 0) :
    Calls Tryz.prog 139 #[.pointer (some ⟨d, 0, none⟩), .pointer (some ⟨b, 0, none⟩)] w fun E w' => E = .returned (.pointer (some ⟨b, 0, none⟩)) ∧ Hold w0 w' (upd σ b (big n N)) := by
  have hdb : d ≠ b := by rintro rfl; rw [hb] at hd; cases hd
  have k1 := bigSetH_c h (bnum_big hb) (bnum_dec hd) hN
  rw [put_big hb] at k1
  have hd1 : upd σ b (big false N) d = some (dec f n e false N) := by rw [upd_ne _ _ hdb]; exact hd
  replace k1 := Lib.hid k1
  replace hd1 := Lib.hid hd1
  clear h hb hd
  go_enter Tryz.func139, Tryz.ntmps139
  go_wp2_with fail
  with_reducible refine k1.out.mono ?_
  rintro E w1 ⟨rfl, h1⟩
  have d1 := h1.c1 hd1.out
  have k2 := bigNeg_c h1 (bnum_big (upd_eq _ _ _)) (bnum_big (upd_eq _ _ _)) hN hN0
  rw [put_big (upd_eq _ _ _), upd_upd] at k2
  replace h1 := Lib.hid h1
  replace k2 := Lib.hid k2
  clear k1
  cases n with
  | false =>
    go_wp2
    go_ret
    exact ⟨rfl, h1.out⟩
  | true =>
    go_wp2_with fail
    with_reducible refine k2.out.mono ?_
    rintro E w2 ⟨rfl, h2⟩
    replace h2 := Lib.hid h2
    go_wp2
    go_ret
    exact ⟨rfl, h2.out⟩

theorem put2 (ρ : Sg) {T T' : Nat} (hn : T ≠ T') (g : Bool) (Z R Q M : Nat) : put (put (upd (upd ρ T (big g Z)) T' (big false R)) T 0 false Q) T' 0 false M = upd (upd ρ T (big false Q)) T' (big false M) := by
  rw [put_big (by rw [upd_ne _ _ hn, upd_eq] : (upd (upd ρ T (big g Z)) T' (big false R)) T = some (big g Z)), upd_swap (upd ρ T (big g Z)) _ _ (Ne.symm hn), upd_upd, put_big (upd_eq _ _ _), upd_upd]
theorem upd3 (ρ : Sg) {d T T' : Nat} (h1 : d ≠ T) (h2 : d ≠ T') (A A' B C : It) : upd (upd (upd (upd ρ d A) T B) T' C) d A' = upd (upd (upd ρ d A') T B) T' C := by
  rw [upd_swap _ _ _ (Ne.symm h2), upd_swap _ _ _ (Ne.symm h1), upd_upd]
theorem red_k {X a k : Nat} (h : X = a * 10 ^ k) (ha : a ≠ 0) : figs a + k = figs X := by rw [h, figs_mul_pow ha]

/-- What Reduce gives: the number without noughts, and how many there were. -/
def RedRes (w0 : World) (σ : Sg) (d : Nat) (n : Bool) (e : Int) (X : Nat) (E : Ending) (w' : World) : Prop :=
  ∃ C k : Nat, E = .returned (.tuple #[.pointer (some ⟨d, 0, none⟩), .int .i64 (k : Int)]) ∧ Hold w0 w' (upd σ d (dec 0 n (e + (k : Int)) false C)) ∧ X = C * 10 ^ k ∧ C % 10 ≠ 0
/-- What the loop by tens holds. -/
def RedI (w0 : World) (σ : Sg) (d T T' : Nat) (n : Bool) (e : Int) (X a k : Nat) (wr : World) : Prop :=
  X = a * 10 ^ k ∧ a ≠ 0 ∧ ∃ (gz : Bool) (Z R : Nat), Hold w0 wr (upd (upd (upd σ d (dec 0 n e false a)) T (big gz Z)) T' (big false R))

set_option maxRecDepth 20000 in
set_option maxHeartbeats 4000000 in
theorem decReduce_c {w0 w : World} {σ : Sg} (h : Hold w0 w σ) {d x : Nat} {e f' e' : Int} {n n' g' : Bool} {X N' : Nat} (hd : σ d = some (dec f' n' e' g' N')) (hx : σ x = some (dec 0 n e false X)) (hX0 : X ≠ 0) (hXb : nbits X ≤ 1000) (he : -100000 ≤ e ∧ e ≤ 100000) :
    Calls Tryz.prog 93 #[.pointer (some ⟨d, 0, none⟩), .pointer (some ⟨x, 0, none⟩)] w (RedRes w0 σ d n e X) := by
  have x0 := h.c0 hx
  have ks := decSignH_c h hx
  have hXl : (digs X).length ≤ 250 := Nat.le_trans (bits_w (k := 18) (by omega)) (by omega)
  have kS := decSet_c h hd hx (by omega)
  have hF : figs X ≤ 401 := figs_401 (by omega)
  obtain ⟨sg, hsg⟩ : ∃ sg, sgD 0 n X = sg := ⟨_, rfl⟩
  rw [hsg] at ks
  have hs0 : sg ≠ 0 := by rw [← hsg]; unfold sgD; rw [if_neg (by simp [hX0])]; cases n <;> decide
  have hs1 : n = true → sg = -1 := fun hn => by rw [← hsg, hn]; unfold sgD; rw [if_neg (by simp [hX0])]; rfl
  have hs2 : n = false → sg = 1 := fun hn => by rw [← hsg, hn]; unfold sgD; rw [if_neg (by simp [hX0])]; rfl
  have hfr := fun w2 (σ2 : Sg) (h2 : Hold w0 w2 σ2) => h2
  unfold RedRes
  replace ks := Lib.hid ks
  replace kS := Lib.hid kS
  replace hsg := Lib.hid hsg
  replace hs1 := Lib.hid hs1
  replace hs2 := Lib.hid hs2
  clear h hd hx hfr
  go_enter Tryz.func93, Tryz.ntmps93
  go_wp2_with fail
  with_reducible refine ks.out.mono ?_
  rintro E w' ⟨rfl, hw⟩
  obtain rfl := hw
  clear x0
  go_upto_block 0 with (fail)
  go_cut [6, 7] (fun nd v wx => nd = .int .i64 ((0 : Nat) : Int) ∧ v = .bool n ∧ w = wx)
  case first =>
    cases n with
    | false =>
      have hs := hs2.out rfl
      subst hs
      go_wp2_with fail
      go_meet
      exact ⟨rfl, rfl, rfl⟩
    | true =>
      have hs := hs1.out rfl
      subst hs
      go_wp2_with fail
      go_meet
      exact ⟨rfl, rfl, rfl⟩
  case rest =>
    obtain ⟨rfl, rfl, hw⟩ := hcut
    obtain rfl := hw
    clear hs0 ks hs1 hs2 hsg
    go_wp2_with fail
    with_reducible refine kS.out.mono ?_
    rintro E w1 ⟨rfl, h1⟩
    have ku := bigIsU_c h1 (bnum_dec (upd_eq _ _ _))
    have kv := fun hX => bigU64_c h1 (bnum_dec (upd_eq _ _ _)) hX
    replace ku := Lib.hid ku
    replace kv := Lib.hid kv
    replace h1 := Lib.hid h1
    clear kS
    by_cases hl : (digs X).length ≤ 1
    · have hXW : X < WB := by have := digs_len_le.1 hl; rwa [Nat.pow_one] at this
      have kv2 := kv.out hXW
      rw [decide_eq_true hl] at ku
      replace kv2 := Lib.hid kv2
      have hXW2 : X < 18446744073709551616 := by rw [WB_eq] at hXW; exact hXW
      clear kv hXW
      go_wp2_with fail
      with_reducible refine ku.out.mono ?_
      rintro E w' ⟨rfl, hw⟩
      obtain rfl := hw
      go_wp2_with fail
      with_reducible refine kv2.out.mono ?_
      rintro E w' ⟨rfl, hw⟩
      obtain rfl := hw
      clear ku kv2
      go_upto_block 1 with (fail)
      go_cut [6, 8] (fun nd i wx => ∃ a k : Nat, nd = .int .i64 (k : Int) ∧ i = .int .u64 (a : Int) ∧ X = a * 10 ^ k ∧ a ≠ 0 ∧ Hold w0 wx (upd σ d (dec 0 n e false X)))
      case first =>
        go_wp2_with fail
        go_loop [6, 8] (fun nd i => ∃ a k : Nat, nd = .int .i64 (k : Int) ∧ i = .int .u64 (a : Int) ∧ X = a * 10 ^ k ∧ a ≠ 0) (fun _ i => (intOf i).toNat)
        case atStart => exact ⟨X, 0, rfl, rfl, (by rw [Nat.pow_zero, Nat.mul_one]), hX0⟩
        case round =>
          obtain ⟨a, k, rfl, rfl, hXa, ha⟩ := hrel
          have hfk := red_k hXa ha
          have hpa := figs_pos a
          have haX : a ≤ X := by rw [hXa]; exact Nat.le_mul_of_pos_right _ (ten_pos k)
          have hk : k ≤ 401 := by omega
          replace hXa := Lib.hid hXa
          by_cases h1a : 10000 ≤ a
          · have hge : (10000 : Int) ≤ (a : Int) := by omega
            obtain ⟨r, hr⟩ : ∃ r, a % 10000 = r := ⟨_, rfl⟩
            obtain ⟨q, hq⟩ : ∃ q, a / 10000 = q := ⟨_, rfl⟩
            have hrb : r < 10000 := by omega
            have hqb : q < 18446744073709551616 := by omega
            have em : IntKind.u64.wrap ((a : Int).tmod 10000) = (r : Int) := by rw [← hr, Int.tmod_eq_emod_of_nonneg (by omega), show (a : Int) % 10000 = ((a % 10000 : Nat) : Int) by omega]; exact IntWalk.u64_in _ (by omega)
            have em2 : (a : Int) % 10000 = (r : Int) := by omega
            have ed : IntKind.u64.wrap ((a : Int).tdiv 10000) = (q : Int) := by rw [← hq, Int.tdiv_eq_ediv_of_nonneg (by omega), show (a : Int) / 10000 = ((a / 10000 : Nat) : Int) by omega]; exact IntWalk.u64_in _ (by omega)
            have ed2 : (a : Int) / 10000 = (q : Int) := by omega
            have ek : IntKind.i64.wrap ((k : Int) + 4) = ((k + 4 : Nat) : Int) := by rw [show (k : Int) + 4 = ((k + 4 : Nat) : Int) by omega]; exact IntWalk.i64_in _ (by omega)
            by_cases h2 : r = 0
            · subst h2
              have hqX : X = q * 10 ^ (k + 4) := by
                rw [ten4, ← Nat.mul_assoc, show q * 10000 = a by omega]; exact hXa.out
              have hq0 : q ≠ 0 := by omega
              have hqa : q < a := by omega
              replace hqX := Lib.hid hqX
              replace hr := Lib.hid hr
              replace hq := Lib.hid hq
              go_wp2
              go_round
              case rel => exact ⟨q, k + 4, rfl, rfl, hqX.out, hq0⟩
              case measure => simp [intOf]; omega
            · have hne : ((r : Int) == 0) = false := by simp; omega
              replace hr := Lib.hid hr
              replace hq := Lib.hid hq
              go_wp2
              go_meet
              exact ⟨a, k, rfl, rfl, hXa.out, ha, h1.out⟩
          · have hge : ¬ (10000 : Int) ≤ (a : Int) := by omega
            go_wp2
            go_meet
            exact ⟨a, k, rfl, rfl, hXa.out, ha, h1.out⟩
      case rest =>
        obtain ⟨a0, k0, rfl, rfl, hXa0, ha0, h2⟩ := hcut
        clear h1
        replace h2 := Lib.hid h2
        replace hXa0 := Lib.hid hXa0
        go_wp2_with fail
        go_loop [6, 8] (fun nd i => ∃ a k : Nat, nd = .int .i64 (k : Int) ∧ i = .int .u64 (a : Int) ∧ X = a * 10 ^ k ∧ a ≠ 0) (fun _ i => (intOf i).toNat)
        case atStart => exact ⟨a0, k0, rfl, rfl, hXa0.out, ha0⟩
        case round =>
          obtain ⟨a, k, rfl, rfl, hXa, ha⟩ := hrel
          have hfk := red_k hXa ha
          have hpa := figs_pos a
          have haX : a ≤ X := by rw [hXa]; exact Nat.le_mul_of_pos_right _ (ten_pos k)
          have hk : k ≤ 401 := by omega
          replace hXa := Lib.hid hXa
          obtain ⟨r, hr⟩ : ∃ r, a % 10 = r := ⟨_, rfl⟩
          obtain ⟨q, hq⟩ : ∃ q, a / 10 = q := ⟨_, rfl⟩
          have hrb : r < 10 := by omega
          have hqb : q < 18446744073709551616 := by omega
          have em : IntKind.u64.wrap ((a : Int).tmod 10) = (r : Int) := by rw [← hr, Int.tmod_eq_emod_of_nonneg (by omega), show (a : Int) % 10 = ((a % 10 : Nat) : Int) by omega]; exact IntWalk.u64_in _ (by omega)
          have em2 : (a : Int) % 10 = (r : Int) := by omega
          have ed : IntKind.u64.wrap ((a : Int).tdiv 10) = (q : Int) := by rw [← hq, Int.tdiv_eq_ediv_of_nonneg (by omega), show (a : Int) / 10 = ((a / 10 : Nat) : Int) by omega]; exact IntWalk.u64_in _ (by omega)
          have ed2 : (a : Int) / 10 = (q : Int) := by omega
          have ek : IntKind.i64.wrap ((k : Int) + 1) = ((k + 1 : Nat) : Int) := by rw [show (k : Int) + 1 = ((k + 1 : Nat) : Int) by omega]; exact IntWalk.i64_in _ (by omega)
          by_cases h2r : r = 0
          · subst h2r
            have hqX : X = q * 10 ^ (k + 1) := by
              rw [ten_succ, ← Nat.mul_assoc, show q * 10 = a by omega]; exact hXa.out
            have hq0 : q ≠ 0 := by omega
            have hqa : q < a := by omega
            replace hqX := Lib.hid hqX
            replace hr := Lib.hid hr
            replace hq := Lib.hid hq
            go_wp2
            go_round
            case rel => exact ⟨q, k + 1, rfl, rfl, hqX.out, hq0⟩
            case measure => simp [intOf]; omega
          · have hne : ((r : Int) == 0) = false := by simp; omega
            have ha10 : a % 10 ≠ 0 := by omega
            replace ha10 := Lib.hid ha10
            replace hr := Lib.hid hr
            replace hq := Lib.hid hq
            by_cases hk0 : k = 0
            · subst hk0
              have haX2 : X = a := by have := hXa.out; rwa [Nat.pow_zero, Nat.mul_one] at this
              have hend : Hold w0 wc (upd σ d (dec 0 n (e + ((0 : Nat) : Int)) false a)) := by
                have := h2.out
                rw [haX2] at this
                rw [show e + ((0 : Nat) : Int) = e by omega]; exact this
              replace hend := Lib.hid hend
              replace haX2 := Lib.hid haX2
              go_wp2
              go_ret2
              exact ⟨a, 0, rfl, hend.out, hXa.out, ha10.out⟩
            · have hkn : ((k : Int) != 0) = true := by simp; omega
              have h3 := h2.out
              have c2 := h3.c2 (upd_eq _ _ _)
              have f2 := h3.fz (upd_eq _ _ _) 2
              have e1 : IntKind.i32.wrap (k : Int) = (k : Int) := IntWalk.i32_in _ (by omega)
              have e2 : IntKind.i32.wrap (e + (k : Int)) = e + (k : Int) := IntWalk.i32_in _ (by omega)
              have h4 := h3.setExp (upd_eq _ _ _) (e + (k : Int))
              rw [upd_upd] at h4
              have kt := bigSetU_c h4 (bnum_dec (upd_eq _ _ _)) a (by rw [WB_eq]; omega)
              rw [put_dec (upd_eq _ _ _), upd_upd] at kt
              replace kt := Lib.hid kt
              clear h3 h4
              go_wp2_with fail
              with_reducible refine kt.out.mono ?_
              rintro E w5 ⟨rfl, h5⟩
              have c1 := h5.c1 (upd_eq _ _ _)
              have f1 := h5.fz (upd_eq _ _ _) 1
              have h6 := h5.setSign (upd_eq _ _ _) n
              rw [upd_upd] at h6
              replace h6 := Lib.hid h6
              clear h5 kt c2 f2
              go_wp2
              go_ret2
              exact ⟨a, k, rfl, h6.out, hXa.out, ha10.out⟩
    · rw [decide_eq_false hl] at ku
      clear kv
      go_wp2_with fail
      with_reducible refine ku.out.mono ?_
      rintro E w' ⟨rfl, hw⟩
      obtain rfl := hw
      have h2 := h1.out
      have hT := h2.fresh (Nat.le_refl w1.heap.size)
      have h3 := h2.newBig
      have hT' := h3.fresh (Nat.le_refl _)
      have h4 := h3.newBig
      rw [World.size_alloc] at hT' h4
      obtain ⟨T, hTe⟩ : ∃ T, w1.heap.size = T := ⟨_, rfl⟩
      rw [hTe] at hT hT' h4
      have hdT : d ≠ T := by rintro rfl; rw [upd_eq] at hT; cases hT
      have hdT' : d ≠ T + 1 := by rintro rfl; rw [upd_ne _ _ (by omega), upd_eq] at hT'; cases hT'
      have hTT : T ≠ T + 1 := by omega
      have hsT : σ T = none := by rw [upd_ne _ _ (Ne.symm hdT)] at hT; exact hT
      have hsT' : σ (T + 1) = none := by rw [upd_ne _ _ (by omega), upd_ne _ _ (Ne.symm hdT')] at hT'; exact hT'
      have kb := setBig_c h4 (b := T) (d := d) (by rw [upd_ne _ _ hTT, upd_eq]) (by rw [upd_ne _ _ hdT', upd_ne _ _ hdT, upd_eq]) (by omega) hX0
      rw [upd_swap (upd (upd σ d (dec 0 n e false X)) T (big false 0)) _ _ (Ne.symm hTT), upd_upd] at kb
      have hle : ∀ a (k : Nat) B C, Le (upd σ d (dec 0 n (e + (k : Int)) false a)) (upd (upd (upd σ d (dec 0 n (e + (k : Int)) false a)) T B) (T + 1) C) := fun a k B C => by
        refine Le.skip ?_ (Le.skip ?_ (Le.refl _))
        · rw [upd_ne _ _ (Ne.symm hdT')]; exact hsT'
        · rw [upd_ne _ _ (Ne.symm hdT)]; exact hsT
      replace hTe := Lib.hid hTe
      replace kb := Lib.hid kb
      replace hle := Lib.hid hle
      clear h2 h3 h4 hT hT' hsT hsT' h1 ku
      go_wp2_with fail
      try simp only [World.size_alloc]
      rw [hTe.out]
      with_reducible refine kb.out.mono ?_
      rintro E w2 ⟨rfl, h2⟩
      have hI0 : RedI w0 σ d T (T + 1) n e X X 0 w2 := ⟨by rw [Nat.pow_zero, Nat.mul_one], hX0, n, X, 0, h2⟩
      replace hI0 := Lib.hid hI0
      clear h2 kb
      go_wp2_with fail
      go_loopw [6] (fun nd wr => ∃ a k : Nat, nd = .int .i64 (k : Int) ∧ RedI w0 σ d T (T + 1) n e X a k wr) (fun nd _ => 1000 - (intOf nd).toNat)
      case atStart => exact ⟨X, 0, rfl, hI0.out⟩
      case round =>
        obtain ⟨a, k, rfl, hXa, ha, gz, Z, R, h2⟩ := hrel
        have hfk := red_k hXa ha
        have hpa := figs_pos a
        have haX : a ≤ X := by rw [hXa]; exact Nat.le_mul_of_pos_right _ (ten_pos k)
        have hk : k ≤ 401 := by omega
        have hab : nbits a ≤ 1000 := Nat.le_trans (nbits_mono haX) hXb
        have hal : (digs a).length ≤ 250 := Nat.le_trans (bits_w (k := 18) (by omega)) (by omega)
        have hql : (digs (a / 10)).length ≤ 1000 := Nat.le_trans (bits_w (k := 18) (Nat.le_trans (nbits_mono (Nat.div_le_self a 10)) (by omega))) (by omega)
        have ek : IntKind.i64.wrap ((k : Int) + 1) = ((k + 1 : Nat) : Int) := by rw [show (k : Int) + 1 = ((k + 1 : Nat) : Int) by omega]; exact IntWalk.i64_in _ (by omega)
        have hdi : (upd (upd (upd σ d (dec 0 n e false a)) T (big gz Z)) (T + 1) (big false R)) d = some (dec 0 n e false a) := by rw [upd_ne _ _ hdT', upd_ne _ _ hdT, upd_eq]
        have hTi : (upd (upd (upd σ d (dec 0 n e false a)) T (big gz Z)) (T + 1) (big false R)) T = some (big gz Z) := by rw [upd_ne _ _ hTT, upd_eq]
        have hTi' : (upd (upd (upd σ d (dec 0 n e false a)) T (big gz Z)) (T + 1) (big false R)) (T + 1) = some (big false R) := upd_eq _ _ _
        have hp2 := put2 (upd σ d (dec 0 n e false a)) hTT gz Z R (a / 10) (a % 10)
        obtain ⟨τ, hτ⟩ : ∃ τ, upd (upd (upd σ d (dec 0 n e false a)) T (big gz Z)) (T + 1) (big false R) = τ := ⟨_, rfl⟩
        rw [hτ] at h2 hdi hTi hTi' hp2
        have hpi : (put τ T 0 false (a / 10)) (T + 1) = some (big false R) := by rw [put_ne (Ne.symm hTT)]; exact hTi'
        have kt := fun wx (hc : Chg wr wx (fun _ => False)) => bigTen_c (h2.keep hc)
        have hfr := fun wx (hc : Chg wr wx (fun _ => False)) m (hm : wx.heap.size ≤ m) => (h2.keep hc).fresh hm
        have kq := fun w5 wx m (h5 : Hold w0 w5 (upd τ m (big false 10))) (hm : τ m = none) (hc : Chg w5 wx (fun _ => False)) => bigQuoRemG_c (h5.keep hc) ((bnum_big hTi).upd hm) ((num_dec hdi).upd hm) (num_big (upd_eq τ m (big false 10))) ((bnum_big hTi').upd hm) hTT (by decide) hal (Nat.lt_of_le_of_lt (bits_w (k := 1) (by decide +kernel)) (by omega))
        have hlq := fun m (hm : τ m = none) => Le.put (Le.put (Le.skip (jt := big false 10) hm (Le.refl τ)) T 0 false (a / 10) hTi) (T + 1) 0 false (a % 10) hpi
        rw [hp2] at hlq
        replace kt := Lib.hid kt
        replace hfr := Lib.hid hfr
        replace kq := Lib.hid kq
        replace hlq := Lib.hid hlq
        replace hXa := Lib.hid hXa
        clear h2 hdi hTi hTi' hp2 hτ hpi
        go_upto_region 29 with (fail)
        go_region_held3 (fun w' => Anyw w') (exact anyw _) (first
          | (go_at_call 105
             refine (kt.out _ (by exact ⟨rfl, rfl, rfl, Nat.le_refl _, fun _ _ _ => rfl⟩)).mono ?_
             rintro E w5 ⟨m, rfl, hm, h5⟩
             have hfm := hfr.out _ (by exact ⟨rfl, rfl, rfl, Nat.le_refl _, fun _ _ _ => rfl⟩) m hm
             replace h5 := Lib.hid h5
             replace hfm := Lib.hid hfm
             clear hm)
          | (go_at_call 106
             refine (kq.out _ _ _ h5.out hfm.out (by exact ⟨rfl, rfl, rfl, Nat.le_refl _, fun _ _ _ => rfl⟩)).mono ?_
             rintro E w6 ⟨rfl, h6'⟩
             have h6 := h6'.le (hlq.out _ hfm.out)
             replace h6 := Lib.hid h6
             clear h6'))
        have h7 := h6.out
        have kg := bigSignH_c h7 (bnum_big (upd_eq _ _ _))
        have hd7 : (upd (upd (upd σ d (dec 0 n e false a)) T (big false (a / 10))) (T + 1) (big false (a % 10))) d = some (dec 0 n e false a) := by rw [upd_ne _ _ hdT', upd_ne _ _ hdT, upd_eq]
        by_cases hr : a % 10 = 0
        · have hg0 : sgN false (a % 10) = 0 := by unfold sgN; rw [if_pos hr]
          rw [hg0] at kg
          have kc := bigSetH_c h7 (bnum_dec hd7) (bnum_big (by rw [upd_ne _ _ hTT, upd_eq] : (upd (upd (upd σ d (dec 0 n e false a)) T (big false (a / 10))) (T + 1) (big false (a % 10))) T = _)) hql
          rw [put_dec hd7, upd3 _ hdT hdT'] at kc
          have hqX : X = a / 10 * 10 ^ (k + 1) := by
            rw [ten_succ, ← Nat.mul_assoc, show a / 10 * 10 = a by omega]; exact hXa.out
          have hq0 : a / 10 ≠ 0 := by omega
          replace kg := Lib.hid kg
          replace kc := Lib.hid kc
          replace hqX := Lib.hid hqX
          clear h7 hd7 h6 kt kq hlq hfr
          go_wp2_with fail
          with_reducible refine kg.out.mono ?_
          rintro E w' ⟨rfl, hw⟩
          obtain rfl := hw
          go_wp2_with fail
          with_reducible refine kc.out.mono ?_
          rintro E w8 ⟨rfl, h8⟩
          replace h8 := Lib.hid h8
          clear kg kc
          go_wp2
          go_roundw
          case rel => exact ⟨a / 10, k + 1, rfl, hqX.out, hq0, false, _, _, h8.out⟩
          case measure =>
            show 1000 - (intOf (.int .i64 ((k + 1 : Nat) : Int))).toNat < 1000 - (intOf (.int .i64 (k : Int))).toNat
            simp only [intOf]; omega
        · have hg0 : sgN false (a % 10) = 1 := by unfold sgN; rw [if_neg hr]; rfl
          rw [hg0] at kg
          have c2 := h7.c2 hd7
          have f2 := h7.fz hd7 2
          have e1 : IntKind.i32.wrap (k : Int) = (k : Int) := IntWalk.i32_in _ (by omega)
          have e2 : IntKind.i32.wrap (e + (k : Int)) = e + (k : Int) := IntWalk.i32_in _ (by omega)
          have h8 := h7.setExp hd7 (e + (k : Int))
          rw [upd3 _ hdT hdT'] at h8
          have h9 := h8.le (hle.out _ _ _ _)
          replace kg := Lib.hid kg
          replace h9 := Lib.hid h9
          replace hr := Lib.hid hr
          clear h7 hd7 h6 kt kq hlq hfr h8
          go_wp2_with fail
          with_reducible refine kg.out.mono ?_
          rintro E w' ⟨rfl, hw⟩
          obtain rfl := hw
          go_wp2
          go_ret2
          exact ⟨a, k, rfl, h9.out, hXa.out, hr.out⟩
end Go.Proofs.YtcoljeafgiemkaaGreatDoor

namespace Go.Proofs.YtcoljeafgiemkaaGreatDoor
open Go Go.RowKit

theorem bare_ex {X : Nat} (h : X ≠ 0) : ∃ C k : Nat, X = C * 10 ^ k ∧ C % 10 ≠ 0 := by
  induction X using Nat.strongRecOn with
  | ind X ih =>
    by_cases h1 : X % 10 = 0
    · obtain ⟨C, k, h2, h3⟩ := ih (X / 10) (by omega) (by omega)
      refine ⟨C, k + 1, ?_, h3⟩
      rw [ten_succ, ← Nat.mul_assoc, Nat.mul_right_comm, ← h2]; omega
    · exact ⟨X, 0, by rw [Nat.pow_zero, Nat.mul_one], h1⟩

set_option maxRecDepth 20000 in
theorem cReduce_c {w0 w : World} {σ : Sg} (h : Hold w0 w σ) {d x c p m : Nat} {e f' e' a b : Int} {n n' g' : Bool} {X N' C k : Nat} (hd : σ d = some (dec f' n' e' g' N')) (hx : σ x = some (dec 0 n e false X)) (hc : σ c = some (ctxO p a b (modeS m)))
    (hp : 1 ≤ p ∧ p ≤ 1000) (ha : 50000 ≤ a ∧ a ≤ 2000000) (hb : -2000000 ≤ b ∧ b ≤ -50000) (hX : nbits X ≤ 1000) (hm : m < 8) (he : -1000 ≤ e ∧ e ≤ 1000) (hX0 : X ≠ 0) (hf : figs X ≤ p) (hXC : X = C * 10 ^ k) (hC : C % 10 ≠ 0) :
    Calls Tryz.prog 56 #[.pointer (some ⟨c, 0, none⟩), .pointer (some ⟨d, 0, none⟩), .pointer (some ⟨x, 0, none⟩)] w fun E w' => E = .returned (.tuple #[.int .i64 (k : Int), .int .u32 ((0 : Nat) : Int), .nilIface]) ∧ Hold w0 w' (upd σ d (dec 0 n (e + (k : Int)) false C)) := by
  have kn := shouldNaN1_c w (.pointer (some ⟨c, 0, none⟩)) x 0 (h.c0 hx) (by omega)
  rw [show decide ((2 : Int) ≤ 0) = false from rfl] at kn
  have x1 := h.c1 hx
  have ka := decReduce_c h hd hx hX0 hX (by omega)
  have hfc := red_k hXC (show C ≠ 0 by rintro rfl; exact hC rfl)
  have hF := figs_401 (N := X) (by omega)
  have hCb : nbits C < 1100 := Nat.lt_of_le_of_lt (nbits_mono (show C ≤ X by rw [hXC]; exact Nat.le_mul_of_pos_right _ (ten_pos k))) (by omega)
  have hcd : c ≠ d := by rintro rfl; rw [hc] at hd; cases hd
  have hc1 : upd σ d (dec 0 n (e + (k : Int)) false C) c = some (ctxO p a b (modeS m)) := by rw [upd_ne _ _ hcd]; exact hc
  have kr := fun w1 (h1 : Hold w0 w1 (upd σ d (dec 0 n (e + (k : Int)) false C))) => round_c h1 (upd_eq _ _ _) (upd_eq _ _ _) hc1 hp ha hb hCb hm (by omega)
  obtain ⟨g1, g2, g3⟩ := rnd_few (n := n) (N := C) (p := p) (m := m) (by omega)
  simp only [upd_upd, g1, g2, g3, show e + (k : Int) + ((0 : Nat) : Int) = e + (k : Int) by omega] at kr
  have ke := fun w1 (h1 : Hold w0 w1 (upd σ d (dec 0 n (e + (k : Int)) false C))) => errH_c h1 hc1 (r := 0) (.inl rfl)
  unfold RedRes at ka
  replace kn := Lib.hid kn
  replace ka := Lib.hid ka
  replace kr := Lib.hid kr
  replace ke := Lib.hid ke
  replace hXC := Lib.hid hXC
  clear h hd hx hc hc1 g1 g2 g3
  go_enter Tryz.func56, Tryz.ntmps56
  go_wp2_with fail
  with_reducible refine kn.out.mono ?_
  rintro E w' ⟨rfl, hw⟩
  obtain rfl := hw
  go_wp2_with fail
  with_reducible refine ka.out.mono ?_
  rintro E w1 ⟨C1, k1, rfl, h1, hX1, hC1⟩
  obtain ⟨rfl, rfl⟩ := bare_same (hX1.symm.trans hXC.out) hC1 hC
  clear hX1 hC1
  have d1 := h1.c1 (upd_eq _ _ _)
  have f1 := h1.fz (upd_eq _ _ _) 1
  have h2 := h1.setSign (upd_eq _ _ _) n
  rw [upd_upd] at h2
  have kr := kr.out _ h2
  replace kr := Lib.hid kr
  clear h1 h2
  go_wp2_with fail
  with_reducible refine kr.out.mono ?_
  rintro E w2 ⟨rfl, h2⟩
  have ke := ke.out _ h2
  replace ke := Lib.hid ke
  replace h2 := Lib.hid h2
  go_wp2_with fail
  refine ke.out.mono ?_
  rintro E w' ⟨rfl, hw⟩
  obtain rfl := hw
  go_wp2
  go_ret3
  exact ⟨rfl, h2.out⟩
end Go.Proofs.YtcoljeafgiemkaaGreatDoor
