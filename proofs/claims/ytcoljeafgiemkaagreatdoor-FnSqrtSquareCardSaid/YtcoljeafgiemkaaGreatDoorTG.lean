/- apd.ErrDecimal: Err, update, Mul, Add, Quo, where no condition is an error. The root's iteration: one step's three operations, on what is held. The root's first guess, on what is held; and one round of the iteration. The root's beginning and end: small contracts, on what is held. -/
import Derived.Test.YtcoljeafgiemkaaGreatDoorC38
import Derived.Test.YtcoljeafgiemkaaGreatDoorTF
import Derived.Test.YtcoljeafgiemkaaGreatDoorC40
import Derived.Test.YtcoljeafgiemkaaGreatDoorC41
import Derived.Test.YtcoljeafgiemkaaGreatDoorC48
import Derived.Test.YtcoljeafgiemkaaGreatDoorC28
import Derived.Test.YtcoljeafgiemkaaGreatDoorTE
namespace Go.Proofs.YtcoljeafgiemkaaGreatDoor
open Go Go.RowKit

def edO (c fl : Nat) : It := raw (.cells #[.nilIface, .pointer (some ⟨c, 0, none⟩), .int .u32 (fl : Int)] 145 (0, 0))
theorem calm_join {r s : Nat} (hr : calm r) (hs : calm s) : ∃ t, calm t ∧ bits .or .u32 (r : Int) (s : Int) = (t : Int) := by
  refine ⟨r ||| s, ?_⟩
  rcases hr with rfl | rfl | rfl | rfl <;> rcases hs with rfl | rfl | rfl | rfl
  all_goals exact ⟨by unfold calm; decide, by kernel_rfl⟩
theorem Hold.ed {w0 w : World} {σ : Sg} (h : Hold w0 w σ) {E c fl : Nat} (hE : σ E = some (edO c fl)) : w.heap[E]? = some (.cells #[.nilIface, .pointer (some ⟨c, 0, none⟩), .int .u32 (fl : Int)] 145 (0, 0)) := h.raw hE
theorem Hold.edNil {w0 w : World} {σ : Sg} (h : Hold w0 w σ) {E c fl : Nat} (hE : σ E = some (edO c fl)) : Hold w0 (w.setCell ⟨E, 0, none⟩ .nilIface) σ := by
  have h2 := h.setRaw (i := 0) (x := .nilIface) hE
  have e : upd σ E (Go.Proofs.YtcoljeafgiemkaaGreatDoor.raw (.cells ((#[.nilIface, .pointer (some ⟨c, 0, none⟩), .int .u32 (fl : Int)] : Array Value).setIfInBounds 0 .nilIface) 145 (0, 0))) = σ := upd_self hE
  rw [e] at h2
  exact h2
theorem Hold.edFl {w0 w : World} {σ : Sg} (h : Hold w0 w σ) {E c fl : Nat} (hE : σ E = some (edO c fl)) (t : Nat) : Hold w0 ((w.setCell ⟨E, 2, none⟩ (.int .u32 (t : Int))).setCell ⟨E, 0, none⟩ .nilIface) (upd σ E (edO c t)) := by
  have h2 := h.setRaw (i := 2) (x := .int .u32 (t : Int)) hE
  exact Hold.edNil (c := c) (fl := t) h2 (upd_eq _ _ _)
set_option maxRecDepth 20000 in
theorem edErr_c {w0 w : World} {σ : Sg} (h : Hold w0 w σ) {E c fl : Nat} {p a b : Int} {m : ByteArray} (hE : σ E = some (edO c fl)) (hc : σ c = some (ctxO p a b m)) (hf : calm fl) :
    Calls Tryz.prog 124 #[.pointer (some ⟨E, 0, none⟩)] w fun X w' => X = .returned .nilIface ∧ Hold w0 w' σ := by
  have hr := h.ed hE
  have e0 := cellB hr (i := 0) rfl
  have e1 := cellB hr (i := 1) rfl
  have e2 := cellB hr (i := 2) rfl
  have z0 := frozenB hr 0
  have kg := errH_c h.drew hc hf
  have hfin := h.drew.edNil hE
  have hrd := h.drew.ed hE
  have g0 := cellB hrd (i := 0) rfl
  have y0 := frozenB hrd 0
  have hS0 : w.drew.cell? ⟨E, 1, none⟩ = some (.pointer (some ⟨c, 0, none⟩)) ∧ w.drew.cell? ⟨E, 2, none⟩ = some (.int .u32 (fl : Int)) := ⟨cellB hrd rfl, cellB hrd rfl⟩
  have hrf := hfin.ed hE
  have hS1 : (w.drew.setCell ⟨E, 0, none⟩ .nilIface).cell? ⟨E, 1, none⟩ = some (.pointer (some ⟨c, 0, none⟩)) ∧ (w.drew.setCell ⟨E, 0, none⟩ .nilIface).cell? ⟨E, 2, none⟩ = some (.int .u32 (fl : Int)) := ⟨cellB hrf rfl, cellB hrf rfl⟩
  have q0 := cellB hrf (i := 0) rfl
  replace kg := Lib.hid kg
  replace hfin := Lib.hid hfin
  clear h hE hc hf hr hrd hrf
  go_enter Tryz.func124, Tryz.ntmps124
  go_upto_region 4 with (fail)
  go_region_held3 (fun w' => w'.cell? ⟨E, 1, none⟩ = some (.pointer (some ⟨c, 0, none⟩)) ∧ w'.cell? ⟨E, 2, none⟩ = some (.int .u32 (fl : Int))) (first | exact hS0 | exact hS1) (
    (go_at_call 78
     with_reducible refine kg.out.mono ?_
     rintro X w' ⟨rfl, hw⟩
     obtain rfl := hw))
  go_wp2
  go_ret
  exact ⟨rfl, hfin.out⟩
set_option maxRecDepth 20000 in
theorem edUpd_c {w0 w : World} {σ : Sg} (h : Hold w0 w σ) {E c fl r : Nat} (hE : σ E = some (edO c fl)) (hf : calm fl) (hr : calm r) :
    Calls Tryz.prog 167 #[.pointer (some ⟨E, 0, none⟩), .int .u32 (r : Int), .nilIface] w fun X w' => X = .returned (.tuple #[]) ∧ ∃ fl', calm fl' ∧ Hold w0 w' (upd σ E (edO c fl')) := by
  obtain ⟨t, ht, hor⟩ := calm_join hf hr
  have hb := h.ed hE
  have e0 := cellB hb (i := 0) rfl
  have e2 := cellB hb (i := 2) rfl
  have z0 := frozenB hb 0
  have z2 := frozenB hb 2
  have hfin := h.edFl hE t
  have hor2 : IntKind.u32.wrap (t : Int) = (t : Int) := by rcases ht with rfl | rfl | rfl | rfl <;> kernel_rfl
  replace hfin := Lib.hid hfin
  clear h hE hf hr hb
  go_enter Tryz.func167, Tryz.ntmps167
  go_wp2
  go_end0
  exact ⟨rfl, t, ht, hfin.out⟩
set_option maxRecDepth 20000 in
theorem edMul_c {w0 w : World} {σ : Sg} (h : Hold w0 w σ) {E c d x y fl r : Nat} {p a b : Int} {m : ByteArray} {D : It} (hE : σ E = some (edO c fl)) (hc : σ c = some (ctxO p a b m)) (hf : calm fl) (hr : calm r) (hdE : d ≠ E)
    (hop : ∀ w1, Hold w0 w1 σ → Calls Tryz.prog 59 #[.pointer (some ⟨c, 0, none⟩), .pointer (some ⟨d, 0, none⟩), .pointer (some ⟨x, 0, none⟩), .pointer (some ⟨y, 0, none⟩)] w1 fun X w' => X = .returned (.tuple #[.int .u32 (r : Int), .nilIface]) ∧ Hold w0 w' (upd σ d D)) :
    Calls Tryz.prog 119 #[.pointer (some ⟨E, 0, none⟩), .pointer (some ⟨d, 0, none⟩), .pointer (some ⟨x, 0, none⟩), .pointer (some ⟨y, 0, none⟩)] w fun X w' => X = .returned (.pointer (some ⟨d, 0, none⟩)) ∧ ∃ fl', calm fl' ∧ Hold w0 w' (upd (upd σ d D) E (edO c fl')) := by
  have ke := edErr_c h hE hc hf
  have he2 : upd σ d D E = some (edO c fl) := by rw [upd_ne _ _ (Ne.symm hdE)]; exact hE
  replace ke := Lib.hid ke
  replace hop := Lib.hid hop
  clear h hc
  go_enter Tryz.func119, Tryz.ntmps119
  go_wp2_with fail
  with_reducible refine ke.out.mono ?_
  rintro X w1 ⟨rfl, h1⟩
  have e1 := cellB (h1.ed hE) (i := 1) rfl
  have ko := hop.out _ h1
  replace ko := Lib.hid ko
  clear h1
  go_wp2_with fail
  with_reducible refine ko.out.mono ?_
  rintro X w2 ⟨rfl, h2⟩
  have ku := edUpd_c h2 he2 hf hr
  replace ku := Lib.hid ku
  clear h2
  go_wp2_with fail
  with_reducible refine ku.out.mono ?_
  rintro X w3 ⟨rfl, fl', hf', h3⟩
  replace h3 := Lib.hid h3
  go_wp2
  go_ret
  exact ⟨rfl, fl', hf', h3.out⟩
set_option maxRecDepth 20000 in
theorem edAdd_c {w0 w : World} {σ : Sg} (h : Hold w0 w σ) {E c d x y fl r : Nat} {p a b : Int} {m : ByteArray} {D : It} (hE : σ E = some (edO c fl)) (hc : σ c = some (ctxO p a b m)) (hf : calm fl) (hr : calm r) (hdE : d ≠ E)
    (hop : ∀ w1, Hold w0 w1 σ → Calls Tryz.prog 57 #[.pointer (some ⟨c, 0, none⟩), .pointer (some ⟨d, 0, none⟩), .pointer (some ⟨x, 0, none⟩), .pointer (some ⟨y, 0, none⟩)] w1 fun X w' => X = .returned (.tuple #[.int .u32 (r : Int), .nilIface]) ∧ Hold w0 w' (upd σ d D)) :
    Calls Tryz.prog 120 #[.pointer (some ⟨E, 0, none⟩), .pointer (some ⟨d, 0, none⟩), .pointer (some ⟨x, 0, none⟩), .pointer (some ⟨y, 0, none⟩)] w fun X w' => X = .returned (.pointer (some ⟨d, 0, none⟩)) ∧ ∃ fl', calm fl' ∧ Hold w0 w' (upd (upd σ d D) E (edO c fl')) := by
  have ke := edErr_c h hE hc hf
  have he2 : upd σ d D E = some (edO c fl) := by rw [upd_ne _ _ (Ne.symm hdE)]; exact hE
  replace ke := Lib.hid ke
  replace hop := Lib.hid hop
  clear h hc
  go_enter Tryz.func120, Tryz.ntmps120
  go_wp2_with fail
  with_reducible refine ke.out.mono ?_
  rintro X w1 ⟨rfl, h1⟩
  have e1 := cellB (h1.ed hE) (i := 1) rfl
  have ko := hop.out _ h1
  replace ko := Lib.hid ko
  clear h1
  go_wp2_with fail
  with_reducible refine ko.out.mono ?_
  rintro X w2 ⟨rfl, h2⟩
  have ku := edUpd_c h2 he2 hf hr
  replace ku := Lib.hid ku
  clear h2
  go_wp2_with fail
  with_reducible refine ku.out.mono ?_
  rintro X w3 ⟨rfl, fl', hf', h3⟩
  replace h3 := Lib.hid h3
  go_wp2
  go_ret
  exact ⟨rfl, fl', hf', h3.out⟩
set_option maxRecDepth 20000 in
theorem edQuo_c {w0 w : World} {σ : Sg} (h : Hold w0 w σ) {E c d x y fl r : Nat} {p a b : Int} {m : ByteArray} {D : It} (hE : σ E = some (edO c fl)) (hc : σ c = some (ctxO p a b m)) (hf : calm fl) (hr : calm r) (hdE : d ≠ E)
    (hop : ∀ w1, Hold w0 w1 σ → Calls Tryz.prog 60 #[.pointer (some ⟨c, 0, none⟩), .pointer (some ⟨d, 0, none⟩), .pointer (some ⟨x, 0, none⟩), .pointer (some ⟨y, 0, none⟩)] w1 fun X w' => X = .returned (.tuple #[.int .u32 (r : Int), .nilIface]) ∧ Hold w0 w' (upd σ d D)) :
    Calls Tryz.prog 122 #[.pointer (some ⟨E, 0, none⟩), .pointer (some ⟨d, 0, none⟩), .pointer (some ⟨x, 0, none⟩), .pointer (some ⟨y, 0, none⟩)] w fun X w' => X = .returned (.pointer (some ⟨d, 0, none⟩)) ∧ ∃ fl', calm fl' ∧ Hold w0 w' (upd (upd σ d D) E (edO c fl')) := by
  have ke := edErr_c h hE hc hf
  have he2 : upd σ d D E = some (edO c fl) := by rw [upd_ne _ _ (Ne.symm hdE)]; exact hE
  replace ke := Lib.hid ke
  replace hop := Lib.hid hop
  clear h hc
  go_enter Tryz.func122, Tryz.ntmps122
  go_wp2_with fail
  with_reducible refine ke.out.mono ?_
  rintro X w1 ⟨rfl, h1⟩
  have e1 := cellB (h1.ed hE) (i := 1) rfl
  have ko := hop.out _ h1
  replace ko := Lib.hid ko
  clear h1
  go_wp2_with fail
  with_reducible refine ko.out.mono ?_
  rintro X w2 ⟨rfl, h2⟩
  have ku := edUpd_c h2 he2 hf hr
  replace ku := Lib.hid ku
  clear h2
  go_wp2_with fail
  with_reducible refine ku.out.mono ?_
  rintro X w3 ⟨rfl, fl', hf', h3⟩
  replace h3 := Lib.hid h3
  go_wp2
  go_ret
  exact ⟨rfl, fl', hf', h3.out⟩
end Go.Proofs.YtcoljeafgiemkaaGreatDoor
namespace Go.Proofs.YtcoljeafgiemkaaGreatDoor
open Go Go.RowKit

/-- What the iteration holds: the dividend f, approx, tmp, the context at precision q, the collected conditions. -/
structure SqS (σ ρ : Sg) (Bf Ba Bt Bn Be X : Nat) (eF : Int) (C : Nat) (e : Int) (T : Nat) (eT : Int) (q : Nat) (P : ByteArray) : Prop where
  f : ρ Bf = some (dec 0 false eF false X)
  ap : ρ Ba = some (dec 0 false e false C)
  tm : ρ Bt = some (dec 0 false eT false T)
  nc : ρ Bn = some (ctxO q 100000 (-100000) P)
  ed : ∃ fl, calm fl ∧ ρ Be = some (edO Bn fl)
  le : Le σ ρ
/-- The blocks are apart, and new. -/
structure SqB (σ : Sg) (Bf Ba Bt Bn Be : Nat) : Prop where
  fa : Bf ≠ Ba
  ft : Bf ≠ Bt
  fn : Bf ≠ Bn
  fe : Bf ≠ Be
  at_ : Ba ≠ Bt
  an : Ba ≠ Bn
  ae : Ba ≠ Be
  tn : Bt ≠ Bn
  te : Bt ≠ Be
  ne : Bn ≠ Be
  sa : σ Ba = none
  st : σ Bt = none
  sn : σ Bn = none
  se : σ Be = none
theorem SqS.setT {σ ρ : Sg} {Bf Ba Bt Bn Be X C T q : Nat} {eF e eT : Int} {P : ByteArray} (s : SqS σ ρ Bf Ba Bt Bn Be X eF C e T eT q P) (b : SqB σ Bf Ba Bt Bn Be) (T' : Nat) (eT' : Int) {fl : Nat} (hf : calm fl) :
    SqS σ (upd (upd ρ Bt (dec 0 false eT' false T')) Be (edO Bn fl)) Bf Ba Bt Bn Be X eF C e T' eT' q P :=
  ⟨by rw [upd_ne _ _ b.fe, upd_ne _ _ b.ft]; exact s.f, by rw [upd_ne _ _ b.ae, upd_ne _ _ b.at_]; exact s.ap, by rw [upd_ne _ _ b.te, upd_eq], by rw [upd_ne _ _ b.ne, upd_ne _ _ (Ne.symm b.tn)]; exact s.nc, ⟨fl, hf, upd_eq _ _ _⟩, Le.skip b.se (Le.skip b.st s.le)⟩
theorem SqS.setA {σ ρ : Sg} {Bf Ba Bt Bn Be X C T q : Nat} {eF e eT : Int} {P : ByteArray} (s : SqS σ ρ Bf Ba Bt Bn Be X eF C e T eT q P) (b : SqB σ Bf Ba Bt Bn Be) (C' : Nat) (e' : Int) {fl : Nat} (hf : calm fl) :
    SqS σ (upd (upd ρ Ba (dec 0 false e' false C')) Be (edO Bn fl)) Bf Ba Bt Bn Be X eF C' e' T eT q P :=
  ⟨by rw [upd_ne _ _ b.fe, upd_ne _ _ b.fa]; exact s.f, by rw [upd_ne _ _ b.ae, upd_eq], by rw [upd_ne _ _ b.te, upd_ne _ _ (Ne.symm b.at_)]; exact s.tm, by rw [upd_ne _ _ b.ne, upd_ne _ _ (Ne.symm b.an)]; exact s.nc, ⟨fl, hf, upd_eq _ _ _⟩, Le.skip b.se (Le.skip b.sa s.le)⟩
theorem SqS.new {σ ρ : Sg} {Bf Ba Bt Bn Be X C T q k : Nat} {eF e eT : Int} {P : ByteArray} {it : It} (s : SqS σ ρ Bf Ba Bt Bn Be X eF C e T eT q P) (hk : ρ k = none) : SqS σ (upd ρ k it) Bf Ba Bt Bn Be X eF C e T eT q P := by
  have hn : ∀ {j : Nat} {jt : It}, ρ j = some jt → j ≠ k := fun h e0 => by rw [e0, hk] at h; cases h
  obtain ⟨fl, hf, he⟩ := s.ed
  exact ⟨by rw [upd_ne _ _ (hn s.f)]; exact s.f, by rw [upd_ne _ _ (hn s.ap)]; exact s.ap, by rw [upd_ne _ _ (hn s.tm)]; exact s.tm, by rw [upd_ne _ _ (hn s.nc)]; exact s.nc, ⟨fl, hf, by rw [upd_ne _ _ (hn he)]; exact he⟩, fun c jt hc => by rw [upd_ne _ _ (hn (s.le _ _ hc))]; exact s.le _ _ hc⟩
theorem SqS.prec {σ ρ : Sg} {Bf Ba Bt Bn Be X C T q : Nat} {eF e eT : Int} {P : ByteArray} (s : SqS σ ρ Bf Ba Bt Bn Be X eF C e T eT q P) (b : SqB σ Bf Ba Bt Bn Be) (q' : Nat) (P' : ByteArray) : SqS σ (upd ρ Bn (ctxO q' 100000 (-100000) P')) Bf Ba Bt Bn Be X eF C e T eT q' P' := by
  obtain ⟨fl, hf, he⟩ := s.ed
  exact ⟨by rw [upd_ne _ _ b.fn]; exact s.f, by rw [upd_ne _ _ b.an]; exact s.ap, by rw [upd_ne _ _ b.tn]; exact s.tm, upd_eq _ _ _, ⟨fl, hf, by rw [upd_ne _ _ (Ne.symm b.ne)]; exact he⟩, Le.skip b.sn s.le⟩

/-- What an operation into tmp leaves. -/
def SqT (w0 : World) (σ : Sg) (Bf Ba Bt Bn Be X : Nat) (eF : Int) (C : Nat) (e : Int) (T : Nat) (eT : Int) (q : Nat) (P : ByteArray) (w' : World) : Prop := ∃ ρ, Hold w0 w' ρ ∧ SqS σ ρ Bf Ba Bt Bn Be X eF C e T eT q P
theorem sq_quo {w0 w : World} {σ : Sg} {Bf Ba Bt Bn Be X C T q : Nat} {eF e eT : Int} (h : SqT w0 σ Bf Ba Bt Bn Be X eF C e T eT q (modeS 2) w) (b : SqB σ Bf Ba Bt Bn Be) (hX0 : X ≠ 0) (hC0 : C ≠ 0) (hX : nbits X ≤ 500) (hC : C < 10 ^ 100) (hq : 1 ≤ q ∧ q ≤ 100) (heF : -300 ≤ eF ∧ eF ≤ 0) (he : -300 ≤ e ∧ e ≤ 0) :
    Calls Tryz.prog 122 #[.pointer (some ⟨Be, 0, none⟩), .pointer (some ⟨Bt, 0, none⟩), .pointer (some ⟨Bf, 0, none⟩), .pointer (some ⟨Ba, 0, none⟩)] w fun E w' => E = .returned (.pointer (some ⟨Bt, 0, none⟩)) ∧ SqT w0 σ Bf Ba Bt Bn Be X eF C e (qC X C q) (stQ X eF C e q) q (modeS 2) w' := by
  obtain ⟨ρ, h, s⟩ := h
  obtain ⟨fl, hf, hed⟩ := s.ed
  obtain ⟨D, hD⟩ : ∃ D, X * 10 ^ (quoU X C + (q - 1)) = D := ⟨_, rfl⟩
  obtain ⟨E, hE⟩ : ∃ E, C * 10 ^ (figs X - figs C) = E := ⟨_, rfl⟩
  obtain ⟨rq, hrq, hr⟩ : ∃ rq : Nat, ((D % E = 0 ∧ rq = 0) ∨ (D % E ≠ 0 ∧ rq = 80)) ∧ calm rq := by
    by_cases h : D % E = 0
    · exact ⟨0, .inl ⟨h, rfl⟩, .inl rfl⟩
    · exact ⟨80, .inr ⟨h, rfl⟩, .inr (.inr (.inr rfl))⟩
  have hCb := nb_ten hC
  refine (edQuo_c (D := dec 0 false (stQ X eF C e q) false (qC X C q)) h hed s.nc hf hr b.te (fun w1 h1 => ?_)).mono (fun E' w' hh => ?_)
  · have k := cQuo_c h1 s.tm s.f s.ap s.nc (p := q) (m := 2) (by omega) (by omega) (by omega) (by omega) (by omega) hX0 hC0 (by omega) (by omega) (by omega) hD hE (nn := false) rfl rfl hrq
    unfold stQ qC
    rw [hD, hE]
    exact k
  · obtain ⟨hE', fl', hf', h3⟩ := hh
    exact ⟨hE', _, h3, s.setT b _ _ hf'⟩
theorem sq_add {w0 w : World} {σ : Sg} {Bf Ba Bt Bn Be X C q : Nat} {eF e : Int} (h : SqT w0 σ Bf Ba Bt Bn Be X eF C e (qC X C q) (stQ X eF C e q) q (modeS 2) w) (b : SqB σ Bf Ba Bt Bn Be) (hX0 : X ≠ 0) (hC0 : C ≠ 0) (hC : C < 10 ^ 100) (hq : 1 ≤ q ∧ q ≤ 100) (he : -110 ≤ e ∧ e ≤ 0) (hs : -110 ≤ stQ X eF C e q ∧ stQ X eF C e q ≤ 10) :
    Calls Tryz.prog 120 #[.pointer (some ⟨Be, 0, none⟩), .pointer (some ⟨Bt, 0, none⟩), .pointer (some ⟨Bt, 0, none⟩), .pointer (some ⟨Ba, 0, none⟩)] w fun E w' => E = .returned (.pointer (some ⟨Bt, 0, none⟩)) ∧ SqT w0 σ Bf Ba Bt Bn Be X eF C e (stH X eF C e q) (stHe X eF C e q) q (modeS 2) w' := by
  obtain ⟨ρ, h, s⟩ := h
  obtain ⟨fl, hf, hed⟩ := s.ed
  have hqc : qC X C q < 10 ^ 101 := Nat.lt_of_lt_of_le (qC_small hX0 hC0 hq.1) (ten_le (by omega))
  have hqb := nb_ten hqc
  have hCb := nb_ten hC
  obtain ⟨S, hS⟩ : ∃ S, stQ X eF C e q = S := ⟨_, rfl⟩
  rw [hS] at s hs
  have e1 : (S - e).toNat = (S - min S e).toNat := by omega
  have e2 : (e - S).toNat = (e - min S e).toNat := by omega
  refine (edAdd_c (D := dec 0 false (stHe X eF C e q) false (stH X eF C e q)) h hed s.nc hf (rndC_calm' (stSum X eF C e q) q) b.te (fun w1 h1 => ?_)).mono (fun E' w' hh => ?_)
  · have k := cAdd_c h1 s.tm s.tm s.ap s.nc (p := q) (m := 2) (by omega) (by omega) (by omega) (by omega) (by omega) (by omega) (by omega) (by omega) (by omega) (e := min S e) (by split <;> omega) rfl rfl (Nat.le_trans (nbits_wide hqb) (by omega)) (Nat.le_trans (nbits_wide hCb) (by omega))
    rw [show (false != false) = false from rfl, show ∀ A B fl, addS false false A B fl = false from fun A B fl => by unfold addS; rw [if_pos rfl], show ∀ A B, addN false false A B = A + B from fun A B => by unfold addN; rw [if_pos rfl], e1, e2] at k
    unfold CRes at k
    unfold stHe stH stSum
    rw [hS]
    exact k
  · obtain ⟨hE', fl', hf', h3⟩ := hh
    exact ⟨hE', _, h3, s.setT b _ _ hf'⟩
theorem sq_mul {w0 w : World} {σ : Sg} {Bf Ba Bt Bn Be X C q H : Nat} {eF e : Int} {ρ : Sg} (h : Hold w0 w (upd ρ H (dec 0 false (-1) false 5))) (hH : ρ H = none) (s : SqS σ ρ Bf Ba Bt Bn Be X eF C e (stH X eF C e q) (stHe X eF C e q) q (modeS 2)) (b : SqB σ Bf Ba Bt Bn Be) (hq : 1 ≤ q ∧ q ≤ 100) (hs : -500 ≤ stHe X eF C e q ∧ stHe X eF C e q ≤ 500) :
    Calls Tryz.prog 119 #[.pointer (some ⟨Be, 0, none⟩), .pointer (some ⟨Ba, 0, none⟩), .pointer (some ⟨Bt, 0, none⟩), .pointer (some ⟨H, 0, none⟩)] w fun E w' => E = .returned (.pointer (some ⟨Ba, 0, none⟩)) ∧ SqT w0 σ Bf Ba Bt Bn Be X eF (stY X eF C e q) (stYe X eF C e q) (stH X eF C e q) (stHe X eF C e q) q (modeS 2) w' := by
  have s2 := s.new (it := dec 0 false (-1) false 5) hH
  obtain ⟨fl, hf, hed⟩ := s2.ed
  have hHb : stH X eF C e q < 10 ^ 100 := Nat.lt_of_lt_of_le (rndN_small false hq.1) (ten_le hq.2)
  have hTH : Bt ≠ H := by rintro rfl; have := s.tm; rw [hH] at this; cases this
  have hAH : Ba ≠ H := by rintro rfl; have := s.ap; rw [hH] at this; cases this
  have hnb := nb_ten hHb
  refine (edMul_c (D := dec 0 false (stYe X eF C e q) false (stY X eF C e q)) h hed s2.nc hf (rndC_calm' (stH X eF C e q * 5) q) b.ae (fun w1 h1 => ?_)).mono (fun E' w' hh => ?_)
  · have k := cMul_c h1 s2.ap s2.tm (upd_eq _ _ _) hTH b.at_ hAH s2.nc (p := q) (m := 2) (by omega) (by omega) (by omega) (by omega) (by decide +kernel) (by omega) (by omega) (by omega)
    rw [show (false != false) = false from rfl, show stHe X eF C e q + -1 = stHe X eF C e q - 1 by omega] at k
    unfold CRes at k
    unfold stYe stY
    exact k
  · obtain ⟨hE', fl', hf', h3⟩ := hh
    exact ⟨hE', _, h3, s2.setA b _ _ hf'⟩
end Go.Proofs.YtcoljeafgiemkaaGreatDoor
namespace Go.Proofs.YtcoljeafgiemkaaGreatDoor
open Go Go.RowKit

/-- Before the iteration: the dividend, approx, the context, the collected conditions. -/
structure SqG (σ ρ : Sg) (Bf Ba Bn Be X : Nat) (eF : Int) (C : Nat) (e : Int) (q : Nat) : Prop where
  f : ρ Bf = some (dec 0 false eF false X)
  ap : ρ Ba = some (dec 0 false e false C)
  nc : ρ Bn = some (ctxO q 100000 (-100000) (modeS 2))
  ed : ∃ fl, calm fl ∧ ρ Be = some (edO Bn fl)
  le : Le σ ρ
structure SqD (σ : Sg) (Bf Ba Bn Be : Nat) : Prop where
  fa : Bf ≠ Ba
  fn : Bf ≠ Bn
  fe : Bf ≠ Be
  an : Ba ≠ Bn
  ae : Ba ≠ Be
  ne : Bn ≠ Be
  sf : σ Bf = none
  sa : σ Ba = none
  sn : σ Bn = none
  se : σ Be = none
def SqU (w0 : World) (σ : Sg) (Bf Ba Bn Be X : Nat) (eF : Int) (C : Nat) (e : Int) (q : Nat) (w' : World) : Prop := ∃ ρ, Hold w0 w' ρ ∧ SqG σ ρ Bf Ba Bn Be X eF C e q
theorem SqG.setA {σ ρ : Sg} {Bf Ba Bn Be X C q : Nat} {eF e : Int} (s : SqG σ ρ Bf Ba Bn Be X eF C e q) (b : SqD σ Bf Ba Bn Be) (C' : Nat) (e' : Int) : SqG σ (upd ρ Ba (dec 0 false e' false C')) Bf Ba Bn Be X eF C' e' q := by
  obtain ⟨fl, hf, he⟩ := s.ed
  exact ⟨by rw [upd_ne _ _ b.fa]; exact s.f, upd_eq _ _ _, by rw [upd_ne _ _ (Ne.symm b.an)]; exact s.nc, ⟨fl, hf, by rw [upd_ne _ _ (Ne.symm b.ae)]; exact he⟩, Le.skip b.sa s.le⟩
theorem SqG.setAE {σ ρ : Sg} {Bf Ba Bn Be X C q : Nat} {eF e : Int} (s : SqG σ ρ Bf Ba Bn Be X eF C e q) (b : SqD σ Bf Ba Bn Be) (C' : Nat) (e' : Int) {fl : Nat} (hf : calm fl) : SqG σ (upd (upd ρ Ba (dec 0 false e' false C')) Be (edO Bn fl)) Bf Ba Bn Be X eF C' e' q :=
  ⟨by rw [upd_ne _ _ b.fe, upd_ne _ _ b.fa]; exact s.f, by rw [upd_ne _ _ b.ae, upd_eq], by rw [upd_ne _ _ b.ne, upd_ne _ _ (Ne.symm b.an)]; exact s.nc, ⟨fl, hf, upd_eq _ _ _⟩, Le.skip b.se (Le.skip b.sa s.le)⟩
theorem SqG.setF {σ ρ : Sg} {Bf Ba Bn Be X C q : Nat} {eF e : Int} (s : SqG σ ρ Bf Ba Bn Be X eF C e q) (b : SqD σ Bf Ba Bn Be) (eF' : Int) : SqG σ (upd ρ Bf (dec 0 false eF' false X)) Bf Ba Bn Be X eF' C e q := by
  obtain ⟨fl, hf, he⟩ := s.ed
  exact ⟨upd_eq _ _ _, by rw [upd_ne _ _ (Ne.symm b.fa)]; exact s.ap, by rw [upd_ne _ _ (Ne.symm b.fn)]; exact s.nc, ⟨fl, hf, by rw [upd_ne _ _ (Ne.symm b.fe)]; exact he⟩, Le.skip b.sf s.le⟩
theorem SqG.new {σ ρ : Sg} {Bf Ba Bn Be X C q k : Nat} {eF e : Int} {it : It} (s : SqG σ ρ Bf Ba Bn Be X eF C e q) (hk : ρ k = none) : SqG σ (upd ρ k it) Bf Ba Bn Be X eF C e q := by
  have hn : ∀ {j : Nat} {jt : It}, ρ j = some jt → j ≠ k := fun h e0 => by rw [e0, hk] at h; cases h
  obtain ⟨fl, hf, he⟩ := s.ed
  exact ⟨by rw [upd_ne _ _ (hn s.f)]; exact s.f, by rw [upd_ne _ _ (hn s.ap)]; exact s.ap, by rw [upd_ne _ _ (hn s.nc)]; exact s.nc, ⟨fl, hf, by rw [upd_ne _ _ (hn he)]; exact he⟩, fun c jt hc => by rw [upd_ne _ _ (hn (s.le _ _ hc))]; exact s.le _ _ hc⟩
theorem SqG.toS {σ ρ : Sg} {Bf Ba Bt Bn Be X C q : Nat} {eF e : Int} (s : SqG σ ρ Bf Ba Bn Be X eF C e q) (hk : ρ Bt = none) : SqS σ (upd ρ Bt (dec 0 false 0 false 0)) Bf Ba Bt Bn Be X eF C e 0 0 q (modeS 2) := by
  have s2 := s.new (it := dec 0 false 0 false 0) hk
  exact ⟨s2.f, s2.ap, upd_eq _ _ _, s2.nc, s2.ed, s2.le⟩
theorem sg_fin {w0 w : World} {σ : Sg} {Bf Ba Bn Be X C q : Nat} {eF e : Int} (h : SqU w0 σ Bf Ba Bn Be X eF C e q w) (b : SqD σ Bf Ba Bn Be) (m : Nat) (hm : m ≤ 9223372036854775807) (e' : Int) :
    Calls Tryz.prog 118 #[.pointer (some ⟨Ba, 0, none⟩), .int .i64 (m : Int), .int .i32 e'] w fun E w' => E = .returned (.pointer (some ⟨Ba, 0, none⟩)) ∧ SqU w0 σ Bf Ba Bn Be X eF m e' q w' := by
  obtain ⟨ρ, h, s⟩ := h
  refine (setFin_c h s.ap m hm e').mono (fun E w' hh => ?_)
  exact ⟨hh.1, _, hh.2, s.setA b _ _⟩
theorem sg_mul {w0 w : World} {σ : Sg} {Bf Ba Bn Be X al q : Nat} {eF ea : Int} (h : SqU w0 σ Bf Ba Bn Be X eF al ea q w) (b : SqD σ Bf Ba Bn Be) (hq : 1 ≤ q ∧ q ≤ 100) (hX : nbits X ≤ 500) (hal : al < 10 ^ 100) (heF : -300 ≤ eF ∧ eF ≤ 0) (hea : -10 ≤ ea ∧ ea ≤ 0) :
    Calls Tryz.prog 119 #[.pointer (some ⟨Be, 0, none⟩), .pointer (some ⟨Ba, 0, none⟩), .pointer (some ⟨Ba, 0, none⟩), .pointer (some ⟨Bf, 0, none⟩)] w fun E w' => E = .returned (.pointer (some ⟨Ba, 0, none⟩)) ∧ SqU w0 σ Bf Ba Bn Be X eF (gA X al q) (gAe X al q eF ea) q w' := by
  obtain ⟨ρ, h, s⟩ := h
  obtain ⟨fl, hf, hed⟩ := s.ed
  have hal2 := nb_ten hal
  refine (edMul_c (D := dec 0 false (gAe X al q eF ea) false (gA X al q)) h hed s.nc hf (rndC_calm' (al * X) q) b.ae (fun w1 h1 => ?_)).mono (fun E' w' hh => ?_)
  · have k := cMulX_c h1 s.ap s.f (Ne.symm b.fa) s.nc (p := q) (m := 2) (by omega) (by omega) (by omega) (by omega) (by omega) (by omega) (by omega) (by omega)
    rw [show (false != false) = false from rfl] at k
    unfold CRes at k
    unfold gAe gA
    exact k
  · obtain ⟨hE', fl', hf', h3⟩ := hh
    exact ⟨hE', _, h3, s.setAE b _ _ hf'⟩
theorem sg_add {w0 w : World} {σ ρ : Sg} {Bf Ba Bn Be X al be q K : Nat} {eF ea eb : Int} (h : Hold w0 w (upd ρ K (dec 0 false eb false be))) (hK : ρ K = none) (s : SqG σ ρ Bf Ba Bn Be X eF (gA X al q) (gAe X al q eF ea) q) (b : SqD σ Bf Ba Bn Be) (hq : 1 ≤ q ∧ q ≤ 100) (hbe : be < 10 ^ 10) (hA : -300 ≤ gAe X al q eF ea ∧ gAe X al q eF ea ≤ 10) (heb : -10 ≤ eb ∧ eb ≤ 0)
    (hA1 : nbits (gA X al q * 10 ^ (gAe X al q eF ea - min (gAe X al q eF ea) eb).toNat) ≤ 1000) (hA2 : nbits (be * 10 ^ (eb - min (gAe X al q eF ea) eb).toNat) ≤ 1090) :
    Calls Tryz.prog 120 #[.pointer (some ⟨Be, 0, none⟩), .pointer (some ⟨Ba, 0, none⟩), .pointer (some ⟨Ba, 0, none⟩), .pointer (some ⟨K, 0, none⟩)] w fun E w' => E = .returned (.pointer (some ⟨Ba, 0, none⟩)) ∧ SqU w0 σ Bf Ba Bn Be X eF (gC X al be q eF ea eb) (gE X al be q eF ea eb) q w' := by
  have s2 := s.new (it := dec 0 false eb false be) hK
  obtain ⟨fl, hf, hed⟩ := s2.ed
  have hbe2 := nb_ten hbe
  have hA0 : gA X al q < 10 ^ 100 := Nat.lt_of_lt_of_le (rndN_small false hq.1) (ten_le hq.2)
  have hA3 := nb_ten hA0
  obtain ⟨T, hT⟩ : ∃ T, gAe X al q eF ea = T := ⟨_, rfl⟩
  rw [hT] at hA hA1 hA2
  have e1 : (T - eb).toNat = (T - min T eb).toNat := by omega
  have e2 : (eb - T).toNat = (eb - min T eb).toNat := by omega
  refine (edAdd_c (D := dec 0 false (gE X al be q eF ea eb) false (gC X al be q eF ea eb)) h hed s2.nc hf (rndC_calm' (gSum X al be q eF ea eb) q) b.ae (fun w1 h1 => ?_)).mono (fun E' w' hh => ?_)
  · have k := cAdd_c h1 s2.ap s2.ap (upd_eq _ _ _) s2.nc (p := q) (m := 2) (by omega) (by omega) (by omega) (by omega) (by omega) (by omega) (by omega) (by omega) (by omega) (e := min T eb) (by rw [hT]; split <;> omega) rfl rfl (by rw [hT, e1]; omega) (by rw [hT, e2]; omega)
    rw [show (false != false) = false from rfl, show ∀ A B fl, addS false false A B fl = false from fun A B fl => by unfold addS; rw [if_pos rfl], show ∀ A B, addN false false A B = A + B from fun A B => by unfold addN; rw [if_pos rfl], hT, e1, e2] at k
    unfold CRes at k
    unfold gE gC gSum
    rw [hT]
    exact k
  · obtain ⟨hE', fl', hf', h3⟩ := hh
    exact ⟨hE', _, h3, s2.setAE b _ _ hf'⟩
theorem stHe_bd {X C q : Nat} {eF e : Int} (hX0 : X ≠ 0) (hC0 : C ≠ 0) (hC : C < 10 ^ 100) (hq : 1 ≤ q ∧ q ≤ 100) (he : -110 ≤ e ∧ e ≤ 0) (hs : -110 ≤ stQ X eF C e q ∧ stQ X eF C e q ≤ 10) : -500 ≤ stHe X eF C e q ∧ stHe X eF C e q ≤ 500 := by
  have h1 := qC_small hX0 hC0 hq.1
  have h2 := rndK_le' false (stSum X eF C e q) q 2
  have h3 : stSum X eF C e q < 10 ^ 222 := by
    unfold stSum
    obtain ⟨J, hJ⟩ : ∃ J, J = 221 := ⟨_, rfl⟩
    have a1 : ∀ (N j k : Nat), N < 10 ^ j → j + k ≤ J → N * 10 ^ k < 10 ^ J := by
      intro N j k hN hjk
      refine Nat.lt_of_lt_of_le ?_ (ten_le hjk)
      rw [Nat.pow_add]; exact Nat.mul_lt_mul_of_pos_right hN (ten_pos k)
    have b1 := a1 (qC X C q) (q + 1) (stQ X eF C e q - min (stQ X eF C e q) e).toNat h1 (by omega)
    have b2 := a1 C 100 (e - min (stQ X eF C e q) e).toNat hC (by omega)
    rw [show (222 : Nat) = J + 1 by omega, ten_succ]
    omega
  have h4 := (figs_le_iff (n := stSum X eF C e q) (k := 222) (by omega)).2 h3
  unfold stHe
  omega
theorem guess_bounds {X al be w : Nat} {eF ea eb : Int} (hal : al < 10 ^ 3) (hbe : be < 10 ^ 3) (hw : figs X ≤ w ∧ 7 ≤ w ∧ w ≤ 61) (heF : -62 ≤ eF ∧ eF ≤ 0) (hea : -4 ≤ ea ∧ ea ≤ 0) (heb : -4 ≤ eb ∧ eb ≤ 0) :
    (-70 ≤ gAe X al w eF ea ∧ gAe X al w eF ea ≤ 5) ∧ nbits (gA X al w * 10 ^ (gAe X al w eF ea - min (gAe X al w eF ea) eb).toNat) ≤ 1000 ∧ nbits (be * 10 ^ (eb - min (gAe X al w eF ea) eb).toNat) ≤ 1000 := by
  have h1 : figs (al * X) ≤ figs X + 3 := by
    refine (figs_le_iff (by omega)).2 ?_
    rw [Nat.add_comm, Nat.pow_add]
    exact Nat.mul_lt_mul'' hal (figs_lt X)
  have h2 : rndK false (al * X) w 2 ≤ 4 := by
    unfold rndK
    split
    · omega
    · split <;> omega
  have h3 : -70 ≤ gAe X al w eF ea ∧ gAe X al w eF ea ≤ 5 := by unfold gAe; omega
  have h4 : gA X al w < 10 ^ 61 := Nat.lt_of_lt_of_le (rndN_small false (by omega)) (ten_le hw.2.2)
  have hk : ∀ (N j k : Nat), N < 10 ^ j → j + k ≤ 200 → nbits (N * 10 ^ k) ≤ 1000 := by
    intro N j k hN hjk
    have h5 : N * 10 ^ k < 10 ^ (j + k) := by rw [Nat.pow_add]; exact Nat.mul_lt_mul_of_pos_right hN (ten_pos k)
    have := nb_ten h5
    omega
  exact ⟨h3, hk _ 61 _ h4 (by omega), hk _ 3 _ hbe (by omega)⟩
end Go.Proofs.YtcoljeafgiemkaaGreatDoor
namespace Go.Proofs.YtcoljeafgiemkaaGreatDoor
open Go Go.RowKit

theorem Hold.ctxM {w0 w : World} {σ : Sg} (h : Hold w0 w σ) {c : Nat} {p a b : Int} {m : ByteArray} (hc : σ c = some (ctxO p a b m)) (m' : ByteArray) : Hold w0 (w.setCell ⟨c, 4, none⟩ (.string m')) (upd σ c (ctxO p a b m')) := h.setRaw (i := 4) (x := .string m') hc
theorem Hold.ctxQ {w0 w : World} {σ : Sg} (h : Hold w0 w σ) {c : Nat} {p a b : Int} {m : ByteArray} (hc : σ c = some (ctxO p a b m)) (p' : Int) : Hold w0 (w.setCell ⟨c, 0, none⟩ (.int .u32 p')) (upd σ c (ctxO p' a b m)) := h.setRaw (i := 0) (x := .int .u32 p') hc
theorem Hold.ctxFz {w0 w : World} {σ : Sg} (h : Hold w0 w σ) {c : Nat} {p a b : Int} {m : ByteArray} (hc : σ c = some (ctxO p a b m)) (i : Nat) : w.frozen? ⟨c, i, none⟩ = false := frozenB (h.raw hc) i
theorem mkEd_c (w : World) (c : Nat) : Calls Tryz.prog 117 #[.pointer (some ⟨c, 0, none⟩)] w fun E w' => E = .returned (.agg #[.nilIface, .pointer (some ⟨c, 0, none⟩), .int .u32 0]) ∧ Chg w w' (fun _ => False) := by
  go_enter Tryz.func117, Tryz.ntmps117
  go_upto_region 1 with (fail)
  go_wp2
  exact bodyPost_ret (v := .agg #[.nilIface, .pointer (some ⟨c, 0, none⟩), .int .u32 0]) (by simp [results, Tryz.results117, go_sem]) rfl ⟨rfl, ((Chg.refl w (fun _ => False)).alloc _).mono (fun _ _ h => h.elim)⟩
set_option maxRecDepth 20000 in
theorem rootSp_c {w0 w : World} {σ : Sg} (h : Hold w0 w σ) {c d x X : Nat} {e : Int} (hx : σ x = some (dec 0 false e false X)) (hX0 : X ≠ 0) :
    Calls Tryz.prog 115 #[.pointer (some ⟨c, 0, none⟩), .pointer (some ⟨d, 0, none⟩), .pointer (some ⟨x, 0, none⟩), .int .i32 2] w fun E w' => E = .returned (.tuple #[.bool false, .int .u32 0, .nilIface]) ∧ w = w' := by
  have kn := shouldNaN1_c w (.pointer (some ⟨c, 0, none⟩)) x 0 (h.c0 hx) (by omega)
  rw [show decide ((2 : Int) ≤ 0) = false from rfl] at kn
  have ks := decSignH_c h hx
  rw [show sgD 0 false X = 1 by unfold sgD; rw [if_neg (by simp [hX0])]; rfl] at ks
  have x0 := h.c0 hx
  replace kn := Lib.hid kn
  replace ks := Lib.hid ks
  clear h hx hX0
  go_enter Tryz.func115, Tryz.ntmps115
  go_wp2_with fail
  with_reducible refine kn.out.mono ?_
  rintro E w' ⟨rfl, hw⟩
  obtain rfl := hw
  go_wp2_with fail
  with_reducible refine ks.out.mono ?_
  rintro E w' ⟨rfl, hw⟩
  obtain rfl := hw
  go_wp2
  go_ret3
  exact ⟨rfl, rfl⟩
set_option maxRecDepth 20000 in
theorem rootSp0_c {w0 w : World} {σ : Sg} (h : Hold w0 w σ) {c d x N' : Nat} {e f' e' : Int} {n n' g' : Bool} (hd : σ d = some (dec f' n' e' g' N')) (hx : σ x = some (dec 0 n e false 0)) (he : -1000 ≤ e ∧ e ≤ 1000) :
    Calls Tryz.prog 115 #[.pointer (some ⟨c, 0, none⟩), .pointer (some ⟨d, 0, none⟩), .pointer (some ⟨x, 0, none⟩), .int .i32 2] w fun E w' => E = .returned (.tuple #[.bool true, .int .u32 0, .nilIface]) ∧ Hold w0 w' (upd σ d (dec 0 n (Int.tdiv e 2) false 0)) := by
  have kn := shouldNaN1_c w (.pointer (some ⟨c, 0, none⟩)) x 0 (h.c0 hx) (by omega)
  rw [show decide ((2 : Int) ≤ 0) = false from rfl] at kn
  have ks := decSignH_c h hx
  rw [show sgD 0 n 0 = 0 by unfold sgD; rw [if_pos (by simp)]] at ks
  have x0 := h.c0 hx
  have kS := decSet_c h hd hx (by rw [digs_zero]; simp)
  have ht : IntKind.i32.wrap (Int.tdiv e 2) = Int.tdiv e 2 := by
    have h1 := Int.natAbs_tdiv_le_natAbs e 2
    have h2 : -1000 ≤ Int.tdiv e 2 ∧ Int.tdiv e 2 ≤ 1000 := by omega
    exact IntWalk.i32_in _ (by omega)
  replace kn := Lib.hid kn
  replace ks := Lib.hid ks
  replace kS := Lib.hid kS
  clear h hd hx
  go_enter Tryz.func115, Tryz.ntmps115
  go_wp2_with fail
  with_reducible refine kn.out.mono ?_
  rintro E w' ⟨rfl, hw⟩
  obtain rfl := hw
  go_wp2_with fail
  with_reducible refine ks.out.mono ?_
  rintro E w' ⟨rfl, hw⟩
  obtain rfl := hw
  go_wp2_with fail
  with_reducible refine kS.out.mono ?_
  rintro E w1 ⟨rfl, h1⟩
  have c2 := h1.c2 (upd_eq _ _ _)
  have f2 := h1.fz (upd_eq _ _ _) 2
  have h2 := h1.setExp (upd_eq _ _ _) (Int.tdiv e 2)
  rw [upd_upd] at h2
  replace h2 := Lib.hid h2
  clear h1
  go_wp2
  go_ret3
  exact ⟨rfl, h2.out⟩
/-- The root of 0. -/
theorem cSqrt0_c {w0 w : World} {σ : Sg} (h : Hold w0 w σ) {c d x N' : Nat} {e f' e' : Int} {n n' g' : Bool} (hd : σ d = some (dec f' n' e' g' N')) (hx : σ x = some (dec 0 n e false 0)) (he : -1000 ≤ e ∧ e ≤ 1000) :
    Calls Tryz.prog 68 #[.pointer (some ⟨c, 0, none⟩), .pointer (some ⟨d, 0, none⟩), .pointer (some ⟨x, 0, none⟩)] w fun E w' => E = .returned (.tuple #[.int .u32 ((0 : Nat) : Int), .nilIface]) ∧ Hold w0 w' (upd σ d (dec 0 n (Int.tdiv e 2) false 0)) := by
  have kr := rootSp0_c h (c := c) hd hx he
  replace kr := Lib.hid kr
  clear h hd hx
  go_enter Tryz.func68, Tryz.ntmps68
  go_wp2_with fail
  with_reducible refine kr.out.mono ?_
  rintro E w1 ⟨rfl, h1⟩
  replace h1 := Lib.hid h1
  go_wp2
  go_ret2
  exact ⟨rfl, h1.out⟩
end Go.Proofs.YtcoljeafgiemkaaGreatDoor
