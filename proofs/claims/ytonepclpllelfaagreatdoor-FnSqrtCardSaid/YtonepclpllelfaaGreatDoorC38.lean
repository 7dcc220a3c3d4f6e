/- The root's iteration: one step's three operations, on what is held. The root's first guess, on what is held; and one round of the iteration. The root's beginning and end: small contracts, on what is held. Context.Sqrt of a decimal above 0. -/
import Derived.Test.YtonepclpllelfaaGreatDoorC09
import Derived.Test.YtonepclpllelfaaGreatDoorC29
import Derived.Test.YtonepclpllelfaaGreatDoorC34
import Derived.Test.YtonepclpllelfaaGreatDoorC35
import Derived.Test.YtonepclpllelfaaGreatDoorC36
import Derived.Test.YtonepclpllelfaaGreatDoorC37
import Derived.Test.YtonepclpllelfaaGreatDoorC39
namespace Go.Proofs.YtonepclpllelfaaGreatDoor
open Go Go.RowKit

/-- What the iteration holds: the dividend f, approx, tmp, the context at precision q, the collected conditions. -/
structure SqS (σ ρ : Sg) (Bf Ba Bt Bn Be X : Nat) (eF : Int) (C : Nat) (e : Int) (T : Nat) (eT : Int) (q : Nat) (P : ByteArray) : Prop where
  f : ρ Bf = some (dec 0 false eF false X)
  ap : ρ Ba = some (dec 0 false e false C)
  tm : ρ Bt = some (dec 0 false eT false T)
  nc : ρ Bn = some (ctxO q 100000 (-100000) P)
  ed : ∃ fl, calm fl ∧ ρ Be = some (edO Bn fl)
  le : Le σ ρ
/-- The blocks are apart, and new. -/
structure SqB (σ : Sg) (Bf Ba Bt Bn Be : Nat) : Prop where
  fa : Bf ≠ Ba
  ft : Bf ≠ Bt
  fn : Bf ≠ Bn
  fe : Bf ≠ Be
  at_ : Ba ≠ Bt
  an : Ba ≠ Bn
  ae : Ba ≠ Be
  tn : Bt ≠ Bn
  te : Bt ≠ Be
  ne : Bn ≠ Be
  sa : σ Ba = none
  st : σ Bt = none
  sn : σ Bn = none
  se : σ Be = none
theorem SqS.setT {σ ρ : Sg} {Bf Ba Bt Bn Be X C T q : Nat} {eF e eT : Int} {P : ByteArray} (s : SqS σ ρ Bf Ba Bt Bn Be X eF C e T eT q P) (b : SqB σ Bf Ba Bt Bn Be) (T' : Nat) (eT' : Int) {fl : Nat} (hf : calm fl) :
    SqS σ (upd (upd ρ Bt (dec 0 false eT' false T')) Be (edO Bn fl)) Bf Ba Bt Bn Be X eF C e T' eT' q P :=
  ⟨by rw [upd_ne _ _ b.fe, upd_ne _ _ b.ft]; exact s.f, by rw [upd_ne _ _ b.ae, upd_ne _ _ b.at_]; exact s.ap, by rw [upd_ne _ _ b.te, upd_eq], by rw [upd_ne _ _ b.ne, upd_ne _ _ (Ne.symm b.tn)]; exact s.nc, ⟨fl, hf, upd_eq _ _ _⟩, Le.skip b.se (Le.skip b.st s.le)⟩
theorem SqS.setA {σ ρ : Sg} {Bf Ba Bt Bn Be X C T q : Nat} {eF e eT : Int} {P : ByteArray} (s : SqS σ ρ Bf Ba Bt Bn Be X eF C e T eT q P) (b : SqB σ Bf Ba Bt Bn Be) (C' : Nat) (e' : Int) {fl : Nat} (hf : calm fl) :
    SqS σ (upd (upd ρ Ba (dec 0 false e' false C')) Be (edO Bn fl)) Bf Ba Bt Bn Be X eF C' e' T eT q P :=
  ⟨by rw [upd_ne _ _ b.fe, upd_ne _ _ b.fa]; exact s.f, by rw [upd_ne _ _ b.ae, upd_eq], by rw [upd_ne _ _ b.te, upd_ne _ _ (Ne.symm b.at_)]; exact s.tm, by rw [upd_ne _ _ b.ne, upd_ne _ _ (Ne.symm b.an)]; exact s.nc, ⟨fl, hf, upd_eq _ _ _⟩, Le.skip b.se (Le.skip b.sa s.le)⟩
theorem SqS.new {σ ρ : Sg} {Bf Ba Bt Bn Be X C T q k : Nat} {eF e eT : Int} {P : ByteArray} {it : It} (s : SqS σ ρ Bf Ba Bt Bn Be X eF C e T eT q P) (hk : ρ k = none) : SqS σ (upd ρ k it) Bf Ba Bt Bn Be X eF C e T eT q P := by
  have hn : ∀ {j : Nat} {jt : It}, ρ j = some jt → j ≠ k := fun h e0 => by rw [e0, hk] at h; cases h
  obtain ⟨fl, hf, he⟩ := s.ed
  exact ⟨by rw [upd_ne _ _ (hn s.f)]; exact s.f, by rw [upd_ne _ _ (hn s.ap)]; exact s.ap, by rw [upd_ne _ _ (hn s.tm)]; exact s.tm, by rw [upd_ne _ _ (hn s.nc)]; exact s.nc, ⟨fl, hf, by rw [upd_ne _ _ (hn he)]; exact he⟩, fun c jt hc => by rw [upd_ne _ _ (hn (s.le _ _ hc))]; exact s.le _ _ hc⟩
theorem SqS.prec {σ ρ : Sg} {Bf Ba Bt Bn Be X C T q : Nat} {eF e eT : Int} {P : ByteArray} (s : SqS σ ρ Bf Ba Bt Bn Be X eF C e T eT q P) (b : SqB σ Bf Ba Bt Bn Be) (q' : Nat) (P' : ByteArray) : SqS σ (upd ρ Bn (ctxO q' 100000 (-100000) P')) Bf Ba Bt Bn Be X eF C e T eT q' P' := by
  obtain ⟨fl, hf, he⟩ := s.ed
  exact ⟨by rw [upd_ne _ _ b.fn]; exact s.f, by rw [upd_ne _ _ b.an]; exact s.ap, by rw [upd_ne _ _ b.tn]; exact s.tm, upd_eq _ _ _, ⟨fl, hf, by rw [upd_ne _ _ (Ne.symm b.ne)]; exact he⟩, Le.skip b.sn s.le⟩

/-- What an operation into tmp leaves. -/
def SqT (w0 : World) (σ : Sg) (Bf Ba Bt Bn Be X : Nat) (eF : Int) (C : Nat) (e : Int) (T : Nat) (eT : Int) (q : Nat) (P : ByteArray) (w' : World) : Prop := ∃ ρ, Hold w0 w' ρ ∧ SqS σ ρ Bf Ba Bt Bn Be X eF C e T eT q P
theorem sq_quo {w0 w : World} {σ : Sg} {Bf Ba Bt Bn Be X C T q : Nat} {eF e eT : Int} (h : SqT w0 σ Bf Ba Bt Bn Be X eF C e T eT q (modeS 2) w) (b : SqB σ Bf Ba Bt Bn Be) (hX0 : X ≠ 0) (hC0 : C ≠ 0) (hX : nbits X ≤ 500) (hC : C < 10 ^ 100) (hq : 1 ≤ q ∧ q ≤ 100) (heF : -300 ≤ eF ∧ eF ≤ 0) (he : -300 ≤ e ∧ e ≤ 0) :
    Calls Tryz.prog 39 #[.pointer (some ⟨Be, 0, none⟩), .pointer (some ⟨Bt, 0, none⟩), .pointer (some ⟨Bf, 0, none⟩), .pointer (some ⟨Ba, 0, none⟩)] w fun E w' => E = .returned (.pointer (some ⟨Bt, 0, none⟩)) ∧ SqT w0 σ Bf Ba Bt Bn Be X eF C e (qC X C q) (stQ X eF C e q) q (modeS 2) w' := by
  obtain ⟨ρ, h, s⟩ := h
  obtain ⟨fl, hf, hed⟩ := s.ed
  obtain ⟨D, hD⟩ : ∃ D, X * 10 ^ (quoU X C + (q - 1)) = D := ⟨_, rfl⟩
  obtain ⟨E, hE⟩ : ∃ E, C * 10 ^ (figs X - figs C) = E := ⟨_, rfl⟩
  obtain ⟨rq, hrq, hr⟩ : ∃ rq : Nat, ((D % E = 0 ∧ rq = 0) ∨ (D % E ≠ 0 ∧ rq = 80)) ∧ calm rq := by
    by_cases h : D % E = 0
    · exact ⟨0, .inl ⟨h, rfl⟩, .inl rfl⟩
    · exact ⟨80, .inr ⟨h, rfl⟩, .inr (.inr (.inr rfl))⟩
  have hCb := nb_ten hC
  refine (edQuo_c (D := dec 0 false (stQ X eF C e q) false (qC X C q)) h hed s.nc hf hr b.te (fun w1 h1 => ?_)).mono (fun E' w' hh => ?_)
  · have k := cQuo_c h1 s.tm s.f s.ap s.nc (p := q) (m := 2) (by omega) (by omega) (by omega) (by omega) (by omega) hX0 hC0 (by omega) (by omega) (by omega) hD hE (nn := false) rfl rfl hrq
    unfold stQ qC
    rw [hD, hE]
    exact k
  · obtain ⟨hE', fl', hf', h3⟩ := hh
    exact ⟨hE', _, h3, s.setT b _ _ hf'⟩
theorem sq_add {w0 w : World} {σ : Sg} {Bf Ba Bt Bn Be X C q : Nat} {eF e : Int} (h : SqT w0 σ Bf Ba Bt Bn Be X eF C e (qC X C q) (stQ X eF C e q) q (modeS 2) w) (b : SqB σ Bf Ba Bt Bn Be) (hX0 : X ≠ 0) (hC0 : C ≠ 0) (hC : C < 10 ^ 100) (hq : 1 ≤ q ∧ q ≤ 100) (he : -110 ≤ e ∧ e ≤ 0) (hs : -110 ≤ stQ X eF C e q ∧ stQ X eF C e q ≤ 10) :
    Calls Tryz.prog 37 #[.pointer (some ⟨Be, 0, none⟩), .pointer (some ⟨Bt, 0, none⟩), .pointer (some ⟨Bt, 0, none⟩), .pointer (some ⟨Ba, 0, none⟩)] w fun E w' => E = .returned (.pointer (some ⟨Bt, 0, none⟩)) ∧ SqT w0 σ Bf Ba Bt Bn Be X eF C e (stH X eF C e q) (stHe X eF C e q) q (modeS 2) w' := by
  obtain ⟨ρ, h, s⟩ := h
  obtain ⟨fl, hf, hed⟩ := s.ed
  have hqc : qC X C q < 10 ^ 101 := Nat.lt_of_lt_of_le (qC_small hX0 hC0 hq.1) (ten_le (by omega))
  have hqb := nb_ten hqc
  have hCb := nb_ten hC
  obtain ⟨S, hS⟩ : ∃ S, stQ X eF C e q = S := ⟨_, rfl⟩
  rw [hS] at s hs
  have e1 : (S - e).toNat = (S - min S e).toNat := by omega
  have e2 : (e - S).toNat = (e - min S e).toNat := by omega
  refine (edAdd_c (D := dec 0 false (stHe X eF C e q) false (stH X eF C e q)) h hed s.nc hf (rndC_calm' (stSum X eF C e q) q) b.te (fun w1 h1 => ?_)).mono (fun E' w' hh => ?_)
  · have k := cAdd_c h1 s.tm s.tm s.ap s.nc (p := q) (m := 2) (by omega) (by omega) (by omega) (by omega) (by omega) (by omega) (by omega) (by omega) (by omega) (e := min S e) (by split <;> omega) rfl rfl (Nat.le_trans (nbits_wide hqb) (by omega)) (Nat.le_trans (nbits_wide hCb) (by omega))
    rw [show (false != false) = false from rfl, show ∀ A B fl, addS false false A B fl = false from fun A B fl => by unfold addS; rw [if_pos rfl], show ∀ A B, addN false false A B = A + B from fun A B => by unfold addN; rw [if_pos rfl], e1, e2] at k
    unfold CRes at k
    unfold stHe stH stSum
    rw [hS]
    exact k
  · obtain ⟨hE', fl', hf', h3⟩ := hh
    exact ⟨hE', _, h3, s.setT b _ _ hf'⟩
theorem sq_mul {w0 w : World} {σ : Sg} {Bf Ba Bt Bn Be X C q H : Nat} {eF e : Int} {ρ : Sg} (h : Hold w0 w (upd ρ H (dec 0 false (-1) false 5))) (hH : ρ H = none) (s : SqS σ ρ Bf Ba Bt Bn Be X eF C e (stH X eF C e q) (stHe X eF C e q) q (modeS 2)) (b : SqB σ Bf Ba Bt Bn Be) (hq : 1 ≤ q ∧ q ≤ 100) (hs : -500 ≤ stHe X eF C e q ∧ stHe X eF C e q ≤ 500) :
    Calls Tryz.prog 36 #[.pointer (some ⟨Be, 0, none⟩), .pointer (some ⟨Ba, 0, none⟩), .pointer (some ⟨Bt, 0, none⟩), .pointer (some ⟨H, 0, none⟩)] w fun E w' => E = .returned (.pointer (some ⟨Ba, 0, none⟩)) ∧ SqT w0 σ Bf Ba Bt Bn Be X eF (stY X eF C e q) (stYe X eF C e q) (stH X eF C e q) (stHe X eF C e q) q (modeS 2) w' := by
  have s2 := s.new (it := dec 0 false (-1) false 5) hH
  obtain ⟨fl, hf, hed⟩ := s2.ed
  have hHb : stH X eF C e q < 10 ^ 100 := Nat.lt_of_lt_of_le (rndN_small false hq.1) (ten_le hq.2)
  have hTH : Bt ≠ H := by rintro rfl; have := s.tm; rw [hH] at this; cases this
  have hAH : Ba ≠ H := by rintro rfl; have := s.ap; rw [hH] at this; cases this
  have hnb := nb_ten hHb
  refine (edMul_c (D := dec 0 false (stYe X eF C e q) false (stY X eF C e q)) h hed s2.nc hf (rndC_calm' (stH X eF C e q * 5) q) b.ae (fun w1 h1 => ?_)).mono (fun E' w' hh => ?_)
  · have k := cMul_c h1 s2.ap s2.tm (upd_eq _ _ _) hTH b.at_ hAH s2.nc (p := q) (m := 2) (by omega) (by omega) (by omega) (by omega) (by decide +kernel) (by omega) (by omega) (by omega)
    rw [show (false != false) = false from rfl, show stHe X eF C e q + -1 = stHe X eF C e q - 1 by omega] at k
    unfold CRes at k
    unfold stYe stY
    exact k
  · obtain ⟨hE', fl', hf', h3⟩ := hh
    exact ⟨hE', _, h3, s2.setA b _ _ hf'⟩
end Go.Proofs.YtonepclpllelfaaGreatDoor

namespace Go.Proofs.YtonepclpllelfaaGreatDoor
open Go Go.RowKit

/-- Before the iteration: the dividend, approx, the context, the collected conditions. -/
structure SqG (σ ρ : Sg) (Bf Ba Bn Be X : Nat) (eF : Int) (C : Nat) (e : Int) (q : Nat) : Prop where
  f : ρ Bf = some (dec 0 false eF false X)
  ap : ρ Ba = some (dec 0 false e false C)
  nc : ρ Bn = some (ctxO q 100000 (-100000) (modeS 2))
  ed : ∃ fl, calm fl ∧ ρ Be = some (edO Bn fl)
  le : Le σ ρ
structure SqD (σ : Sg) (Bf Ba Bn Be : Nat) : Prop where
  fa : Bf ≠ Ba
  fn : Bf ≠ Bn
  fe : Bf ≠ Be
  an : Ba ≠ Bn
  ae : Ba ≠ Be
  ne : Bn ≠ Be
  sf : σ Bf = none
  sa : σ Ba = none
  sn : σ Bn = none
  se : σ Be = none
def SqU (w0 : World) (σ : Sg) (Bf Ba Bn Be X : Nat) (eF : Int) (C : Nat) (e : Int) (q : Nat) (w' : World) : Prop := ∃ ρ, Hold w0 w' ρ ∧ SqG σ ρ Bf Ba Bn Be X eF C e q
theorem SqG.setA {σ ρ : Sg} {Bf Ba Bn Be X C q : Nat} {eF e : Int} (s : SqG σ ρ Bf Ba Bn Be X eF C e q) (b : SqD σ Bf Ba Bn Be) (C' : Nat) (e' : Int) : SqG σ (upd ρ Ba (dec 0 false e' false C')) Bf Ba Bn Be X eF C' e' q := by
  obtain ⟨fl, hf, he⟩ := s.ed
  exact ⟨by rw [upd_ne _ _ b.fa]; exact s.f, upd_eq _ _ _, by rw [upd_ne _ _ (Ne.symm b.an)]; exact s.nc, ⟨fl, hf, by rw [upd_ne _ _ (Ne.symm b.ae)]; exact he⟩, Le.skip b.sa s.le⟩
theorem SqG.setAE {σ ρ : Sg} {Bf Ba Bn Be X C q : Nat} {eF e : Int} (s : SqG σ ρ Bf Ba Bn Be X eF C e q) (b : SqD σ Bf Ba Bn Be) (C' : Nat) (e' : Int) {fl : Nat} (hf : calm fl) : SqG σ (upd (upd ρ Ba (dec 0 false e' false C')) Be (edO Bn fl)) Bf Ba Bn Be X eF C' e' q :=
  ⟨by rw [upd_ne _ _ b.fe, upd_ne _ _ b.fa]; exact s.f, by rw [upd_ne _ _ b.ae, upd_eq], by rw [upd_ne _ _ b.ne, upd_ne _ _ (Ne.symm b.an)]; exact s.nc, ⟨fl, hf, upd_eq _ _ _⟩, Le.skip b.se (Le.skip b.sa s.le)⟩
theorem SqG.setF {σ ρ : Sg} {Bf Ba Bn Be X C q : Nat} {eF e : Int} (s : SqG σ ρ Bf Ba Bn Be X eF C e q) (b : SqD σ Bf Ba Bn Be) (eF' : Int) : SqG σ (upd ρ Bf (dec 0 false eF' false X)) Bf Ba Bn Be X eF' C e q := by
  obtain ⟨fl, hf, he⟩ := s.ed
  exact ⟨upd_eq _ _ _, by rw [upd_ne _ _ (Ne.symm b.fa)]; exact s.ap, by rw [upd_ne _ _ (Ne.symm b.fn)]; exact s.nc, ⟨fl, hf, by rw [upd_ne _ _ (Ne.symm b.fe)]; exact he⟩, Le.skip b.sf s.le⟩
theorem SqG.new {σ ρ : Sg} {Bf Ba Bn Be X C q k : Nat} {eF e : Int} {it : It} (s : SqG σ ρ Bf Ba Bn Be X eF C e q) (hk : ρ k = none) : SqG σ (upd ρ k it) Bf Ba Bn Be X eF C e q := by
  have hn : ∀ {j : Nat} {jt : It}, ρ j = some jt → j ≠ k := fun h e0 => by rw [e0, hk] at h; cases h
  obtain ⟨fl, hf, he⟩ := s.ed
  exact ⟨by rw [upd_ne _ _ (hn s.f)]; exact s.f, by rw [upd_ne _ _ (hn s.ap)]; exact s.ap, by rw [upd_ne _ _ (hn s.nc)]; exact s.nc, ⟨fl, hf, by rw [upd_ne _ _ (hn he)]; exact he⟩, fun c jt hc => by rw [upd_ne _ _ (hn (s.le _ _ hc))]; exact s.le _ _ hc⟩
theorem SqG.toS {σ ρ : Sg} {Bf Ba Bt Bn Be X C q : Nat} {eF e : Int} (s : SqG σ ρ Bf Ba Bn Be X eF C e q) (hk : ρ Bt = none) : SqS σ (upd ρ Bt (dec 0 false 0 false 0)) Bf Ba Bt Bn Be X eF C e 0 0 q (modeS 2) := by
  have s2 := s.new (it := dec 0 false 0 false 0) hk
  exact ⟨s2.f, s2.ap, upd_eq _ _ _, s2.nc, s2.ed, s2.le⟩
theorem sg_fin {w0 w : World} {σ : Sg} {Bf Ba Bn Be X C q : Nat} {eF e : Int} (h : SqU w0 σ Bf Ba Bn Be X eF C e q w) (b : SqD σ Bf Ba Bn Be) (m : Nat) (hm : m ≤ 9223372036854775807) (e' : Int) :
    Calls Tryz.prog 35 #[.pointer (some ⟨Ba, 0, none⟩), .int .i64 (m : Int), .int .i32 e'] w fun E w' => E = .returned (.pointer (some ⟨Ba, 0, none⟩)) ∧ SqU w0 σ Bf Ba Bn Be X eF m e' q w' := by
  obtain ⟨ρ, h, s⟩ := h
  refine (setFin_c h s.ap m hm e').mono (fun E w' hh => ?_)
  exact ⟨hh.1, _, hh.2, s.setA b _ _⟩
theorem sg_mul {w0 w : World} {σ : Sg} {Bf Ba Bn Be X al q : Nat} {eF ea : Int} (h : SqU w0 σ Bf Ba Bn Be X eF al ea q w) (b : SqD σ Bf Ba Bn Be) (hq : 1 ≤ q ∧ q ≤ 100) (hX : nbits X ≤ 500) (hal : al < 10 ^ 100) (heF : -300 ≤ eF ∧ eF ≤ 0) (hea : -10 ≤ ea ∧ ea ≤ 0) :
    Calls Tryz.prog 36 #[.pointer (some ⟨Be, 0, none⟩), .pointer (some ⟨Ba, 0, none⟩), .pointer (some ⟨Ba, 0, none⟩), .pointer (some ⟨Bf, 0, none⟩)] w fun E w' => E = .returned (.pointer (some ⟨Ba, 0, none⟩)) ∧ SqU w0 σ Bf Ba Bn Be X eF (gA X al q) (gAe X al q eF ea) q w' := by
  obtain ⟨ρ, h, s⟩ := h
  obtain ⟨fl, hf, hed⟩ := s.ed
  have hal2 := nb_ten hal
  refine (edMul_c (D := dec 0 false (gAe X al q eF ea) false (gA X al q)) h hed s.nc hf (rndC_calm' (al * X) q) b.ae (fun w1 h1 => ?_)).mono (fun E' w' hh => ?_)
  · have k := cMulX_c h1 s.ap s.f (Ne.symm b.fa) s.nc (p := q) (m := 2) (by omega) (by omega) (by omega) (by omega) (by omega) (by omega) (by omega) (by omega)
    rw [show (false != false) = false from rfl] at k
    unfold CRes at k
    unfold gAe gA
    exact k
  · obtain ⟨hE', fl', hf', h3⟩ := hh
    exact ⟨hE', _, h3, s.setAE b _ _ hf'⟩
theorem sg_add {w0 w : World} {σ ρ : Sg} {Bf Ba Bn Be X al be q K : Nat} {eF ea eb : Int} (h : Hold w0 w (upd ρ K (dec 0 false eb false be))) (hK : ρ K = none) (s : SqG σ ρ Bf Ba Bn Be X eF (gA X al q) (gAe X al q eF ea) q) (b : SqD σ Bf Ba Bn Be) (hq : 1 ≤ q ∧ q ≤ 100) (hbe : be < 10 ^ 10) (hA : -300 ≤ gAe X al q eF ea ∧ gAe X al q eF ea ≤ 10) (heb : -10 ≤ eb ∧ eb ≤ 0)
    (hA1 : nbits (gA X al q * 10 ^ (gAe X al q eF ea - min (gAe X al q eF ea) eb).toNat) ≤ 1000) (hA2 : nbits (be * 10 ^ (eb - min (gAe X al q eF ea) eb).toNat) ≤ 1090) :
    Calls Tryz.prog 37 #[.pointer (some ⟨Be, 0, none⟩), .pointer (some ⟨Ba, 0, none⟩), .pointer (some ⟨Ba, 0, none⟩), .pointer (some ⟨K, 0, none⟩)] w fun E w' => E = .returned (.pointer (some ⟨Ba, 0, none⟩)) ∧ SqU w0 σ Bf Ba Bn Be X eF (gC X al be q eF ea eb) (gE X al be q eF ea eb) q w' := by
  have s2 := s.new (it := dec 0 false eb false be) hK
  obtain ⟨fl, hf, hed⟩ := s2.ed
  have hbe2 := nb_ten hbe
  have hA0 : gA X al q < 10 ^ 100 := Nat.lt_of_lt_of_le (rndN_small false hq.1) (ten_le hq.2)
  have hA3 := nb_ten hA0
  obtain ⟨T, hT⟩ : ∃ T, gAe X al q eF ea = T := ⟨_, rfl⟩
  rw [hT] at hA hA1 hA2
  have e1 : (T - eb).toNat = (T - min T eb).toNat := by omega
  have e2 : (eb - T).toNat = (eb - min T eb).toNat := by omega
  refine (edAdd_c (D := dec 0 false (gE X al be q eF ea eb) false (gC X al be q eF ea eb)) h hed s2.nc hf (rndC_calm' (gSum X al be q eF ea eb) q) b.ae (fun w1 h1 => ?_)).mono (fun E' w' hh => ?_)
  · have k := cAdd_c h1 s2.ap s2.ap (upd_eq _ _ _) s2.nc (p := q) (m := 2) (by omega) (by omega) (by omega) (by omega) (by omega) (by omega) (by omega) (by omega) (by omega) (e := min T eb) (by rw [hT]; split <;> omega) rfl rfl (by rw [hT, e1]; omega) (by rw [hT, e2]; omega)
    rw [show (false != false) = false from rfl, show ∀ A B fl, addS false false A B fl = false from fun A B fl => by unfold addS; rw [if_pos rfl], show ∀ A B, addN false false A B = A + B from fun A B => by unfold addN; rw [if_pos rfl], hT, e1, e2] at k
    unfold CRes at k
    unfold gE gC gSum
    rw [hT]
    exact k
  · obtain ⟨hE', fl', hf', h3⟩ := hh
    exact ⟨hE', _, h3, s2.setAE b _ _ hf'⟩
theorem stHe_bd {X C q : Nat} {eF e : Int} (hX0 : X ≠ 0) (hC0 : C ≠ 0) (hC : C < 10 ^ 100) (hq : 1 ≤ q ∧ q ≤ 100) (he : -110 ≤ e ∧ e ≤ 0) (hs : -110 ≤ stQ X eF C e q ∧ stQ X eF C e q ≤ 10) : -500 ≤ stHe X eF C e q ∧ stHe X eF C e q ≤ 500 := by
  have h1 := qC_small hX0 hC0 hq.1
  have h2 := rndK_le' false (stSum X eF C e q) q 2
  have h3 : stSum X eF C e q < 10 ^ 222 := by
    unfold stSum
    obtain ⟨J, hJ⟩ : ∃ J, J = 221 := ⟨_, rfl⟩
    have a1 : ∀ (N j k : Nat), N < 10 ^ j → j + k ≤ J → N * 10 ^ k < 10 ^ J := by
      intro N j k hN hjk
      refine Nat.lt_of_lt_of_le ?_ (ten_le hjk)
      rw [Nat.pow_add]; exact Nat.mul_lt_mul_of_pos_right hN (ten_pos k)
    have b1 := a1 (qC X C q) (q + 1) (stQ X eF C e q - min (stQ X eF C e q) e).toNat h1 (by omega)
    have b2 := a1 C 100 (e - min (stQ X eF C e q) e).toNat hC (by omega)
    rw [show (222 : Nat) = J + 1 by omega, ten_succ]
    omega
  have h4 := (figs_le_iff (n := stSum X eF C e q) (k := 222) (by omega)).2 h3
  unfold stHe
  omega
theorem guess_bounds {X al be w : Nat} {eF ea eb : Int} (hal : al < 10 ^ 3) (hbe : be < 10 ^ 3) (hw : figs X ≤ w ∧ 7 ≤ w ∧ w ≤ 61) (heF : -62 ≤ eF ∧ eF ≤ 0) (hea : -4 ≤ ea ∧ ea ≤ 0) (heb : -4 ≤ eb ∧ eb ≤ 0) :
    (-70 ≤ gAe X al w eF ea ∧ gAe X al w eF ea ≤ 5) ∧ nbits (gA X al w * 10 ^ (gAe X al w eF ea - min (gAe X al w eF ea) eb).toNat) ≤ 1000 ∧ nbits (be * 10 ^ (eb - min (gAe X al w eF ea) eb).toNat) ≤ 1000 := by
  have h1 : figs (al * X) ≤ figs X + 3 := by
    refine (figs_le_iff (by omega)).2 ?_
    rw [Nat.add_comm, Nat.pow_add]
    exact Nat.mul_lt_mul'' hal (figs_lt X)
  have h2 : rndK false (al * X) w 2 ≤ 4 := by
    unfold rndK
    split
    · omega
    · split <;> omega
  have h3 : -70 ≤ gAe X al w eF ea ∧ gAe X al w eF ea ≤ 5 := by unfold gAe; omega
  have h4 : gA X al w < 10 ^ 61 := Nat.lt_of_lt_of_le (rndN_small false (by omega)) (ten_le hw.2.2)
  have hk : ∀ (N j k : Nat), N < 10 ^ j → j + k ≤ 200 → nbits (N * 10 ^ k) ≤ 1000 := by
    intro N j k hN hjk
    have h5 : N * 10 ^ k < 10 ^ (j + k) := by rw [Nat.pow_add]; exact Nat.mul_lt_mul_of_pos_right hN (ten_pos k)
    have := nb_ten h5
    omega
  exact ⟨h3, hk _ 61 _ h4 (by omega), hk _ 3 _ hbe (by omega)⟩
end Go.Proofs.YtonepclpllelfaaGreatDoor

namespace Go.Proofs.YtonepclpllelfaaGreatDoor
open Go Go.RowKit

theorem Hold.ctxM {w0 w : World} {σ : Sg} (h : Hold w0 w σ) {c : Nat} {p a b : Int} {m : ByteArray} (hc : σ c = some (ctxO p a b m)) (m' : ByteArray) : Hold w0 (w.setCell ⟨c, 4, none⟩ (.string m')) (upd σ c (ctxO p a b m')) := h.setRaw (i := 4) (x := .string m') hc
theorem Hold.ctxQ {w0 w : World} {σ : Sg} (h : Hold w0 w σ) {c : Nat} {p a b : Int} {m : ByteArray} (hc : σ c = some (ctxO p a b m)) (p' : Int) : Hold w0 (w.setCell ⟨c, 0, none⟩ (.int .u32 p')) (upd σ c (ctxO p' a b m)) := h.setRaw (i := 0) (x := .int .u32 p') hc
theorem Hold.ctxFz {w0 w : World} {σ : Sg} (h : Hold w0 w σ) {c : Nat} {p a b : Int} {m : ByteArray} (hc : σ c = some (ctxO p a b m)) (i : Nat) : w.frozen? ⟨c, i, none⟩ = false := frozenB (h.raw hc) i
theorem mkEd_c (w : World) (c : Nat) : Calls Tryz.prog 34 #[.pointer (some ⟨c, 0, none⟩)] w fun E w' => E = .returned (.agg #[.nilIface, .pointer (some ⟨c, 0, none⟩), .int .u32 0]) ∧ Chg w w' (fun _ => False) := by
  go_enter Tryz.func34, Tryz.ntmps34
  go_upto_region 1 with (fail)
  go_wp2
  exact bodyPost_ret (v := .agg #[.nilIface, .pointer (some ⟨c, 0, none⟩), .int .u32 0]) (by simp [results, Tryz.results34, go_sem]) rfl ⟨rfl, ((Chg.refl w (fun _ => False)).alloc _).mono (fun _ _ h => h.elim)⟩
set_option maxRecDepth 20000 in
theorem rootSp_c {w0 w : World} {σ : Sg} (h : Hold w0 w σ) {c d x X : Nat} {e : Int} (hx : σ x = some (dec 0 false e false X)) (hX0 : X ≠ 0) :
    Calls Tryz.prog 30 #[.pointer (some ⟨c, 0, none⟩), .pointer (some ⟨d, 0, none⟩), .pointer (some ⟨x, 0, none⟩), .int .i32 2] w fun E w' => E = .returned (.tuple #[.bool false, .int .u32 0, .nilIface]) ∧ w = w' := by
  have kn := shouldNaN1_c w (.pointer (some ⟨c, 0, none⟩)) x 0 (h.c0 hx) (by omega)
  rw [show decide ((2 : Int) ≤ 0) = false from rfl] at kn
  have ks := decSignH_c h hx
  rw [show sgD 0 false X = 1 by unfold sgD; rw [if_neg (by simp [hX0])]; rfl] at ks
  have x0 := h.c0 hx
  replace kn := Lib.hid kn
  replace ks := Lib.hid ks
  clear h hx hX0
  go_enter Tryz.func30, Tryz.ntmps30
  go_wp2_with fail
  with_reducible refine kn.out.mono ?_
  rintro E w' ⟨rfl, hw⟩
  obtain rfl := hw
  go_wp2_with fail
  with_reducible refine ks.out.mono ?_
  rintro E w' ⟨rfl, hw⟩
  obtain rfl := hw
  go_wp2
  go_ret3
  exact ⟨rfl, rfl⟩
end Go.Proofs.YtonepclpllelfaaGreatDoor

namespace Go.Proofs.YtonepclpllelfaaGreatDoor
open Go Go.RowKit

set_option maxRecDepth 20000 in
set_option maxHeartbeats 8000000 in
theorem cSqrt_c {w0 w : World} {σ : Sg} (h : Hold w0 w σ) {d x c p X N' : Nat} {ex f' e' : Int} {n' g' : Bool} {M : ByteArray} (hd : σ d = some (dec f' n' e' g' N')) (hx : σ x = some (dec 0 false ex false X)) (hc : σ c = some (ctxO p 100000 (-100000) M)) (hp : 1 ≤ p ∧ p ≤ 60) (hX0 : X ≠ 0) (hX : nbits X ≤ 200) (hex : -300 ≤ ex ∧ ex ≤ 300) {CL : Nat} {eL : Int} (hR : sqR X ex p = (CL, eL)) :
    Calls Tryz.prog 17 #[.pointer (some ⟨c, 0, none⟩), .pointer (some ⟨d, 0, none⟩), .pointer (some ⟨x, 0, none⟩)] w fun E w' => E = .returned (.tuple #[.int .u32 (rndC CL p : Int), .nilIface]) ∧ Hold w0 w' (upd σ d (dec 0 false (eL + sqE2 X ex / 2 + (rndK false CL p 2 : Int)) false (rndN false CL p 2))) := by
  have hF61 := figs_200 hX
  have hF1 := figs_pos X
  obtain ⟨hf, hinv, hw7, hwp, hw61⟩ := sq_start (ex := ex) hX0 hF61 hp
  have hbeg := sq_begin hX0 hF61 hp hR
  have hend := sq_end hX0 hF61 hp hR
  have hE2v := sqE2_ev X ex
  have hE2x : sqE2 X ex = if sqEv X ex then (figs X : Int) + ex else (figs X : Int) + ex + 1 := rfl
  obtain ⟨F, hFe⟩ : ∃ F, figs X = F := ⟨_, rfl⟩
  have hE2a : sqEv X ex → sqE2 X ex = (F : Int) + ex := fun hh => by rw [hE2x, if_pos hh, hFe]
  have hE2b : ¬ sqEv X ex → sqE2 X ex = (F : Int) + ex + 1 := fun hh => by rw [hE2x, if_neg hh, hFe]
  have hEFa : sqEv X ex → sqEF X ex = -(F : Int) := fun hh => by unfold sqEF; rw [if_pos hh, hFe]
  have hEFb : ¬ sqEv X ex → sqEF X ex = -(F : Int) - 1 := fun hh => by unfold sqEF; rw [if_neg hh, hFe]
  clear hE2x
  have hwd : sqW X p = max (max (p + 1) (figs X)) 7 := rfl
  have kr := rootSp_c h (c := c) (d := d) hx hX0
  have kd := fun wx (hh : Hold w0 wx σ) => decDigits_c hh hx (by omega)
  have hXl : (digs X).length ≤ 1000 := Nat.le_trans (bits_w (k := 18) (by omega)) (by omega)
  obtain ⟨wq, hwq⟩ : ∃ wq, sqW X p = wq := ⟨_, rfl⟩
  rw [hwq] at hf hinv hbeg hend hw7 hwp hw61 hwd
  rw [hFe] at hwd hF61 hF1
  simp only [hFe] at kd
  have c0 := (h.ctx hc).c0
  have ew1 : IntKind.u32.wrap ((p : Int) + 1) = ((p + 1 : Nat) : Int) := by rw [show (p : Int) + 1 = ((p + 1 : Nat) : Int) by omega]; exact IntWalk.u32_in _ (by omega)
  have ewF : IntKind.u32.wrap (F : Int) = (F : Int) := IntWalk.u32_in _ (by omega)
  replace kr := Lib.hid kr
  replace kd := Lib.hid kd
  replace hf := Lib.hid hf
  replace hinv := Lib.hid hinv
  replace hbeg := Lib.hid hbeg
  replace hend := Lib.hid hend
  replace hE2v := Lib.hid hE2v
  replace hE2a := Lib.hid hE2a
  replace hE2b := Lib.hid hE2b
  replace hEFa := Lib.hid hEFa
  replace hEFb := Lib.hid hEFb
  replace hR := Lib.hid hR
  replace hFe := Lib.hid hFe
  replace hwq := Lib.hid hwq
  replace hX0 := Lib.hid hX0
  replace h := Lib.hid h
  replace hd := Lib.hid hd
  replace hx := Lib.hid hx
  replace hc := Lib.hid hc
  go_enter Tryz.func17, Tryz.ntmps17
  go_wp2_with fail
  with_reducible refine kr.out.mono ?_
  rintro E w' ⟨rfl, hw⟩
  obtain rfl := hw
  clear kr
  go_wp2_with fail
  with_reducible refine (kd.out _ h.out).mono ?_
  rintro E w1 ⟨rfl, h1⟩
  replace h1 := Lib.hid h1
  clear kd
  obtain ⟨w7, hw7e⟩ : ∃ w7, max (p + 1) F = w7 := ⟨_, rfl⟩
  rw [hw7e] at hwd
  replace hw7e := Lib.hid hw7e
  replace hwd := Lib.hid hwd
  go_upto_if 45 with (fail)
  go_cut [11] (fun v wx => v = .int .u32 (w7 : Int) ∧ w1 = wx)
  case first =>
    by_cases hlt : p + 1 < F
    · have l1 : ((p + 1 : Nat) : Int) < (F : Int) := by omega
      have l2 : w7 = F := by have := hw7e.out; omega
      go_wp2_with fail
      go_meet
      exact ⟨by rw [l2]; first | done | rfl | simp, rfl⟩
    · have l1 : ¬ ((p + 1 : Nat) : Int) < (F : Int) := by omega
      have l2 : w7 = p + 1 := by have := hw7e.out; omega
      go_wp2_with fail
      go_meet
      exact ⟨by rw [l2]; first | done | rfl | simp, rfl⟩
  case rest =>
  obtain ⟨rfl, hw⟩ := hcut
  obtain rfl := hw
  go_upto_if 48 with (fail)
  go_cut [11] (fun v wx => v = .int .u32 (wq : Int) ∧ w1 = wx)
  case first =>
    by_cases hlt : w7 < 7
    · have l1 : (w7 : Int) < 7 := by omega
      have l2 : wq = 7 := by have := hwd.out; omega
      go_wp2_with fail
      go_meet
      exact ⟨by rw [l2]; first | done | rfl | simp, rfl⟩
    · have l1 : ¬ (w7 : Int) < 7 := by omega
      have l2 : wq = w7 := by have := hwd.out; omega
      go_wp2_with fail
      go_meet
      exact ⟨by rw [l2]; first | done | rfl | simp, rfl⟩
  case rest =>
  obtain ⟨rfl, hw⟩ := hcut
  obtain rfl := hw
  clear c0 ew1 ewF
  have h2 := h1.out.newDec 0 0 false
  have sf := h1.out.fresh (Nat.le_refl w1.heap.size)
  obtain ⟨Bf, hBf⟩ : ∃ Bf, w1.heap.size = Bf := ⟨_, rfl⟩
  rw [hBf] at h2 sf
  have hxf : x ≠ Bf := by rintro rfl; have := hx.out; rw [sf] at this; cases this
  have hcf : c ≠ Bf := by rintro rfl; have := hc.out; rw [sf] at this; cases this
  have hx2 : ∀ it, (upd σ Bf it) x = some (dec 0 false ex false X) := fun it => by rw [upd_ne _ _ hxf]; exact hx.out
  have hc2 : ∀ it, (upd σ Bf it) c = some (ctxO p 100000 (-100000) M) := fun it => by rw [upd_ne _ _ hcf]; exact hc.out
  go_upto_region 11 with (fail)
  try rw [hBf]
  generalize w1.alloc (.cells #[.int .i8 0, .bool false, .int .i32 0, .bool false, .slice none 0 0, .bool false] 55 (0, 0)) = W2 at h2 ⊢
  have kS := decSet_c h2 (upd_eq _ _ _) (hx2 _) hXl
  rw [upd_upd] at kS
  replace kS := Lib.hid kS
  replace hBf := Lib.hid hBf
  replace sf := Lib.hid sf
  replace hx2 := Lib.hid hx2
  replace hc2 := Lib.hid hc2
  clear h2
  go_wp2_with fail
  with_reducible refine kS.out.mono ?_
  rintro E w3 ⟨rfl, h3⟩
  have kd2 := decDigits_c h3 (hx2.out _) (by omega)
  rw [hFe.out] at kd2
  replace kd2 := Lib.hid kd2
  clear h3 kS
  go_wp2_with fail
  with_reducible refine kd2.out.mono ?_
  rintro E w4 ⟨rfl, h4⟩
  have x2 := h4.c2 (hx2.out _)
  have y2 := h4.c2 (upd_eq _ _ _)
  have z2 := h4.fz (upd_eq _ _ _) 2
  have e1 : IntKind.i64.wrap ex = ex := IntWalk.i64_in _ (by omega)
  have e2 : IntKind.i64.wrap ((F : Int) + ex) = (F : Int) + ex := IntWalk.i64_in _ (by omega)
  have e3 : IntKind.i64.wrap (-(F : Int)) = -(F : Int) := IntWalk.i64_in _ (by omega)
  have e4 : IntKind.i32.wrap (-(F : Int)) = -(F : Int) := IntWalk.i32_in _ (by omega)
  have h5 := h4.setExp (upd_eq _ _ _) (-(F : Int))
  rw [upd_upd] at h5
  have kwp := withPrec_c h5 (hc2.out _) (wq : Int)
  have hfr5 := fun k (hk : (w4.setCell ⟨Bf, 2, none⟩ (.int .i32 (-(F : Int)))).heap.size ≤ k) => h5.fresh hk
  replace kwp := Lib.hid kwp
  replace hfr5 := Lib.hid hfr5
  clear h4 h5 kd2
  go_wp2_with fail
  with_reducible refine kwp.out.mono ?_
  rintro E w6 ⟨Bn, rfl, hBn, h6⟩
  have sn0 := hfr5.out Bn hBn
  have hfn : Bf ≠ Bn := by rintro rfl; rw [upd_eq] at sn0; cases sn0
  have sn : σ Bn = none := by rw [upd_ne _ _ (Ne.symm hfn)] at sn0; exact sn0
  have n4 := (h6.ctx (upd_eq _ _ _)).c4
  have m4 := h6.ctxFz (upd_eq _ _ _) 4
  have h7 := h6.ctxM (upd_eq _ _ _) (modeS 2)
  rw [upd_upd] at h7
  have ked := mkEd_c (w6.setCell ⟨Bn, 4, none⟩ (.string (modeS 2))) Bn
  replace ked := Lib.hid ked
  replace h7 := Lib.hid h7
  replace sn := Lib.hid sn
  clear h6 sn0 hBn kwp hfr5 x2 y2 z2
  go_wp2_with fail
  refine ked.out.mono ?_
  rintro E w8 ⟨rfl, hch⟩
  have h8 := h7.out.keep hch
  clear n4 m4 ked hch
  have h9 := h8.newRaw (.cells #[.nilIface, .pointer (some ⟨Bn, 0, none⟩), .int .u32 0] 83 (0, 0))
  have se0 := h8.fresh (Nat.le_refl w8.heap.size)
  have h10 := h9.newDec 0 0 false
  have sa0 := h9.fresh (Nat.le_refl _)
  rw [World.size_alloc] at h10 sa0
  obtain ⟨Be, hBe⟩ : ∃ Be, w8.heap.size = Be := ⟨_, rfl⟩
  rw [hBe] at h10 se0 sa0
  have hne : Bn ≠ Be := by rintro rfl; rw [upd_eq] at se0; cases se0
  have hfe : Bf ≠ Be := by rintro rfl; rw [upd_ne _ _ hfn, upd_eq] at se0; cases se0
  have se : σ Be = none := by rw [upd_ne _ _ (Ne.symm hne), upd_ne _ _ (Ne.symm hfe)] at se0; exact se0
  have hae : Be ≠ Be + 1 := by omega
  have hna : Bn ≠ Be + 1 := by rintro rfl; rw [upd_ne _ _ (Ne.symm hae), upd_eq] at sa0; cases sa0
  have hfa : Bf ≠ Be + 1 := by rintro rfl; rw [upd_ne _ _ (Ne.symm hae), upd_ne _ _ hfn, upd_eq] at sa0; cases sa0
  have sa : σ (Be + 1) = none := by rw [upd_ne _ _ (Ne.symm hae), upd_ne _ _ (Ne.symm hna), upd_ne _ _ (Ne.symm hfa)] at sa0; exact sa0
  have hD : SqD σ Bf (Be + 1) Bn Be := ⟨hfa, hfn, hfe, Ne.symm hna, Ne.symm hae, hne, sf.out, sa, sn.out, se⟩
  have hU : SqU w0 σ Bf (Be + 1) Bn Be X (-(F : Int)) 0 0 wq ((w8.alloc (.cells #[.nilIface, .pointer (some ⟨Bn, 0, none⟩), .int .u32 0] 83 (0, 0))).alloc (.cells #[.int .i8 0, .bool false, .int .i32 0, .bool false, .slice none 0 0, .bool false] 55 (0, 0))) := by
    refine ⟨_, h10, ?_, upd_eq _ _ _, ?_, ⟨0, .inl rfl, ?_⟩, ?_⟩
    · rw [upd_ne _ _ hfa, upd_ne _ _ hfe, upd_ne _ _ hfn, upd_eq]
    · rw [upd_ne _ _ hna, upd_ne _ _ hne, upd_eq]
    · rw [upd_ne _ _ hae, upd_eq]; rfl
    · exact Le.skip sa (Le.skip se (Le.skip sn.out (Le.skip sf.out (Le.refl _))))
  obtain ⟨Ba, hBa⟩ : ∃ Ba, Be + 1 = Ba := ⟨_, rfl⟩
  rw [hBa] at hD hU
  replace hD := Lib.hid hD
  replace hBe := Lib.hid hBe
  replace hBa := Lib.hid hBa
  clear h7 h8 h9 h10 se0 sa0 hne hfe se hae hna hfa sa hfn sn sf
  go_upto_if 74 with (fail)
  try simp only [World.size_alloc]
  rw [hBe.out, hBa.out]
  generalize (w8.alloc (.cells #[.nilIface, .pointer (some ⟨Bn, 0, none⟩), .int .u32 0] 83 (0, 0))).alloc (.cells #[.int .i8 0, .bool false, .int .i32 0, .bool false, .slice none 0 0, .bool false] 55 (0, 0)) = W10 at hU ⊢
  replace hU := Lib.hid hU
  have hq1 : 1 ≤ wq ∧ wq ≤ 100 := by omega
  have hX5 : nbits X ≤ 500 := by omega
  go_cut [15] (fun v wx => v = .int .i64 (sqE2 X ex) ∧ SqU w0 σ Bf Ba Bn Be X (sqEF X ex) (sqC0 X ex wq) (sqE0 X ex wq) wq wx)
  case first =>
    by_cases hev : sqEv X ex
    · have hEF1 : sqEF X ex = -(F : Int) := hEFa.out hev
      have hE21 : sqE2 X ex = (F : Int) + ex := hE2a.out hev
      have hC01 : sqC0 X ex wq = gC X 819 259 wq (-(F : Int)) (-3) (-3) := by unfold sqC0; rw [if_pos hev, hFe.out]
      have hE01 : sqE0 X ex wq = gE X 819 259 wq (-(F : Int)) (-3) (-3) := by unfold sqE0; rw [if_pos hev, hFe.out]
      have htm : ((F : Int) + ex).tmod 2 = 0 := (tmod2 _).2.2.2 (by rw [← hFe.out]; exact hev)
      have htw : IntKind.i64.wrap (((F : Int) + ex).tmod 2) = 0 := by rw [htm]; kernel_rfl
      obtain ⟨gb1, gb2, gb3⟩ := guess_bounds (X := X) (al := 819) (be := 259) (w := wq) (eF := -(F : Int)) (ea := -3) (eb := -3) (by decide) (by decide) ⟨by rw [hFe.out]; have := hwd.out; have := hw7e.out; omega, by omega, by omega⟩ (by omega) (by omega) (by omega)
      have kfin := (show Calls Tryz.prog 35 #[.pointer (some ⟨Ba, 0, none⟩), .int .i64 819, .int .i32 (-3)] W10 _ from sg_fin hU.out hD.out 819 (by omega) (-3))
      replace kfin := Lib.hid kfin
      replace hEF1 := Lib.hid hEF1
      replace hE21 := Lib.hid hE21
      replace hC01 := Lib.hid hC01
      replace hE01 := Lib.hid hE01
      clear hev
      go_wp2_with fail
      with_reducible refine kfin.out.mono ?_
      rintro E w8 ⟨rfl, h8⟩
      have kmul := sg_mul h8 hD.out (al := 819) (ea := (-3)) (by omega) (by omega) (Nat.lt_of_lt_of_le (show 819 < 10 ^ 3 by decide) (ten_le (by omega))) (by omega) (by omega)
      replace kmul := Lib.hid kmul
      replace h8 := Lib.hid h8
      clear kfin
      go_wp2_with fail
      with_reducible refine kmul.out.mono ?_
      rintro E w9 ⟨rfl, h9⟩
      obtain ⟨ρ9, h9, s9⟩ := h9
      have knew := (show Calls Tryz.prog 38 #[.int .i64 259, .int .i32 (-3)] w9 _ from newDec_c h9 259 (by omega) (-3))
      have hfr := fun m (hm : w9.heap.size ≤ m) => h9.fresh hm
      replace knew := Lib.hid knew
      replace hfr := Lib.hid hfr
      replace s9 := Lib.hid s9
      clear kmul h9
      go_wp2_with fail
      with_reducible refine knew.out.mono ?_
      rintro E w10 ⟨K, rfl, hK, h10⟩
      have kadd := sg_add h10 (hfr.out _ hK) s9.out hD.out (be := 259) (by omega) (by decide) (by omega) (by omega) gb2 (by omega)
      replace kadd := Lib.hid kadd
      clear hK h10 knew hfr
      go_wp2_with fail
      with_reducible refine kadd.out.mono ?_
      rintro E w11 ⟨rfl, h11⟩
      replace h11 := Lib.hid h11
      go_wp2_with fail
      go_meet
      exact ⟨by rw [hE21.out], by rw [hEF1.out, hC01.out, hE01.out]; exact h11.out⟩
    · have hEF1 : sqEF X ex = -(F : Int) - 1 := hEFb.out hev
      have hE21 : sqE2 X ex = (F : Int) + ex + 1 := hE2b.out hev
      have hC01 : sqC0 X ex wq = gC X 259 819 wq (-(F : Int) - 1) (-2) (-4) := by unfold sqC0; rw [if_neg hev, hFe.out]
      have hE01 : sqE0 X ex wq = gE X 259 819 wq (-(F : Int) - 1) (-2) (-4) := by unfold sqE0; rw [if_neg hev, hFe.out]
      have htm : ((F : Int) + ex).tmod 2 ≠ 0 := fun h0 => hev (by have h1 := (tmod2 _).2.2.1 h0; rw [← hFe.out] at h1; exact h1)
      obtain ⟨htb1, htb2, -⟩ := tmod2 ((F : Int) + ex)
      obtain ⟨tm, htm1⟩ : ∃ tm, ((F : Int) + ex).tmod 2 = tm := ⟨_, rfl⟩
      rw [htm1] at htm htb1 htb2
      have htw : IntKind.i64.wrap tm = tm := IntWalk.i64_in _ (by omega)
      have htz : (tm == 0) = false := beq_eq_false_iff_ne.2 htm
      have e5 : IntKind.i32.wrap (-(F : Int) - 1) = -(F : Int) - 1 := IntWalk.i32_in _ (by omega)
      have e6 : IntKind.i64.wrap ((F : Int) + ex + 1) = (F : Int) + ex + 1 := IntWalk.i64_in _ (by omega)
      obtain ⟨gb1, gb2, gb3⟩ := guess_bounds (X := X) (al := 259) (be := 819) (w := wq) (eF := -(F : Int) - 1) (ea := -2) (eb := -4) (by decide) (by decide) ⟨by rw [hFe.out]; have := hwd.out; have := hw7e.out; omega, by omega, by omega⟩ (by omega) (by omega) (by omega)
      obtain ⟨ρ0, hr0, sr0⟩ := hU.out
      have y2 := hr0.c2 sr0.f
      have z2 := hr0.fz sr0.f 2
      have hr1 := hr0.setExp sr0.f (-(F : Int) - 1)
      have hU1 : SqU w0 σ Bf Ba Bn Be X (-(F : Int) - 1) 0 0 wq _ := ⟨_, hr1, sr0.setF hD.out _⟩
      have kfin := (show Calls Tryz.prog 35 #[.pointer (some ⟨Ba, 0, none⟩), .int .i64 259, .int .i32 (-2)] (W10.setCell ⟨Bf, 2, none⟩ (.int .i32 (-(F : Int) - 1))) _ from sg_fin hU1 hD.out 259 (by omega) (-2))
      replace kfin := Lib.hid kfin
      replace hEF1 := Lib.hid hEF1
      replace hE21 := Lib.hid hE21
      replace hC01 := Lib.hid hC01
      replace hE01 := Lib.hid hE01
      clear hev hr0 sr0 hr1 hU1
      go_wp2_with fail
      with_reducible refine kfin.out.mono ?_
      rintro E w8 ⟨rfl, h8⟩
      have kmul := sg_mul h8 hD.out (al := 259) (ea := (-2)) (by omega) (by omega) (Nat.lt_of_lt_of_le (show 259 < 10 ^ 3 by decide) (ten_le (by omega))) (by omega) (by omega)
      replace kmul := Lib.hid kmul
      replace h8 := Lib.hid h8
      clear kfin
      go_wp2_with fail
      with_reducible refine kmul.out.mono ?_
      rintro E w9 ⟨rfl, h9⟩
      obtain ⟨ρ9, h9, s9⟩ := h9
      have knew := (show Calls Tryz.prog 38 #[.int .i64 819, .int .i32 (-4)] w9 _ from newDec_c h9 819 (by omega) (-4))
      have hfr := fun m (hm : w9.heap.size ≤ m) => h9.fresh hm
      replace knew := Lib.hid knew
      replace hfr := Lib.hid hfr
      replace s9 := Lib.hid s9
      clear kmul h9
      go_wp2_with fail
      with_reducible refine knew.out.mono ?_
      rintro E w10 ⟨K, rfl, hK, h10⟩
      have kadd := sg_add h10 (hfr.out _ hK) s9.out hD.out (be := 819) (by omega) (by decide) (by omega) (by omega) gb2 (by omega)
      replace kadd := Lib.hid kadd
      clear hK h10 knew hfr
      go_wp2_with fail
      with_reducible refine kadd.out.mono ?_
      rintro E w11 ⟨rfl, h11⟩
      replace h11 := Lib.hid h11
      go_wp2_with fail
      go_meet
      exact ⟨by rw [hE21.out], by rw [hEF1.out, hC01.out, hE01.out]; exact h11.out⟩
  case rest =>
  obtain ⟨rfl, hU2⟩ := hcut
  obtain ⟨ρ2, hr2, s2⟩ := hU2
  have hr3 := hr2.newDec 0 0 false
  have st0 := hr2.fresh (Nat.le_refl wc.heap.size)
  obtain ⟨Bt, hBt⟩ : ∃ Bt, wc.heap.size = Bt := ⟨_, rfl⟩
  rw [hBt] at hr3 st0
  have hneT : ∀ {j : Nat} {jt : It}, ρ2 j = some jt → j ≠ Bt := fun h e0 => by rw [e0, st0] at h; cases h
  have st : σ Bt = none := by
    cases hh : σ Bt with
    | none => rfl
    | some it => have := s2.le _ _ hh; rw [st0] at this; cases this
  obtain ⟨fl2, hfl2, hed2⟩ := s2.ed
  have hB : SqB σ Bf Ba Bt Bn Be := ⟨hD.out.fa, hneT s2.f, hD.out.fn, hD.out.fe, hneT s2.ap, hD.out.an, hD.out.ae, Ne.symm (hneT s2.nc), Ne.symm (hneT hed2), hD.out.ne, hD.out.sa, st, hD.out.sn, hD.out.se⟩
  have hT0 : SqT w0 σ Bf Ba Bt Bn Be X (sqEF X ex) (sqC0 X ex wq) (sqE0 X ex wq) 0 0 wq (modeS 2) _ := ⟨_, hr3, s2.toS st0⟩
  replace hB := Lib.hid hB
  replace hBt := Lib.hid hBt
  have hefb : -1 ≤ (figs X : Int) + sqEF X ex ∧ (figs X : Int) + sqEF X ex ≤ 0 := by
    rw [hFe.out]
    by_cases hev : sqEv X ex
    · rw [hEFa.out hev]; omega
    · rw [hEFb.out hev]; omega
  obtain ⟨eF, heF⟩ : ∃ eF, sqEF X ex = eF := ⟨_, rfl⟩
  have hf2 := hf.out
  have hbeg2 := hbeg.out
  rw [heF] at hT0 hefb hf2 hbeg2
  replace hf2 := Lib.hid hf2
  replace hbeg2 := Lib.hid hbeg2
  replace heF := Lib.hid heF
  replace hefb := Lib.hid hefb
  have ewM : IntKind.u32.wrap ((wq : Int) + 5) = ((wq + 5 : Nat) : Int) := by rw [show (wq : Int) + 5 = ((wq + 5 : Nat) : Int) by omega]; exact IntWalk.u32_in _ (by omega)
  clear hr2 s2 hr3 st0 hneT st hed2 hfl2 hD hU
  go_upto_region 30 with (fail)
  rw [hBt.out]
  generalize wc.alloc (.cells #[.int .i8 0, .bool false, .int .i32 0, .bool false, .slice none 0 0, .bool false] 55 (0, 0)) = W12 at hT0 ⊢
  replace hT0 := Lib.hid hT0
  go_wp2_with fail
  go_loopw [19] (fun v wr => ∃ (k pp C n : Nat) (e eT : Int) (T q0 : Nat), v = .int .u32 (pp : Int) ∧ SqL 1000 X eF (wq + 5) CL eL k pp C e n ∧ SqT w0 σ Bf Ba Bt Bn Be X eF C e T eT q0 (modeS 2) wr) (fun v _ => 1000 - (intOf v).toNat)
  case atStart => exact ⟨6, 3, _, _, _, _, _, _, by rfl, hbeg2.out, hT0.out⟩
  case round =>
    obtain ⟨k, pp, C, n, e, eT, T, q0, rfl, hL, hT⟩ := hrel
    clear hT0
    have hle := hL.le
    by_cases hpM : pp = wq + 5
    · subst hpM
      have hrun := hL.run
      rw [sqRun_end] at hrun
      injection hrun with hC1 hC2
      subst hC1 hC2
      obtain ⟨ρ, hr, s⟩ := hT
      obtain ⟨fl, hfl, hed⟩ := s.ed
      have kee := edErr_c hr hed s.nc hfl
      replace kee := Lib.hid kee
      replace s := Lib.hid s
      clear hr hed hL
      go_wp2_with fail
      with_reducible refine kee.out.mono ?_
      rintro E w20 ⟨rfl, hr20⟩
      have hC66 := hend.out.2.1
      have hCl : (digs C).length ≤ 1000 := Nat.le_trans (bits_w (k := 18) (Nat.le_trans (nb_ten (Nat.lt_of_lt_of_le (figs_lt C) (ten_le hC66))) (by omega))) (by omega)
      have kS := decSet_c hr20 (s.out.le _ _ hd.out) s.out.ap hCl
      replace kS := Lib.hid kS
      clear hr20 kee
      go_wp2_with fail
      with_reducible refine kS.out.mono ?_
      rintro E w21 ⟨rfl, hr21⟩
      obtain ⟨hh, hhe⟩ : ∃ hh, sqE2 X ex / 2 = hh := ⟨_, rfl⟩
      have hE2k : sqE2 X ex = 2 * hh := by have := hE2v.out; omega
      have hhb : -400 ≤ hh ∧ hh ≤ 400 := by
        by_cases hev : sqEv X ex
        · have := hE2a.out hev; omega
        · have := hE2b.out hev; omega
      have heL := hend.out.2.2.2
      have td : IntKind.i64.wrap ((sqE2 X ex).tdiv 2) = hh := by rw [hE2k, Int.mul_tdiv_cancel_left _ (by decide)]; exact IntWalk.i64_in _ (by omega)
      have td2 : (sqE2 X ex).tdiv 2 = hh := by rw [hE2k, Int.mul_tdiv_cancel_left _ (by decide)]
      have te : IntKind.i32.wrap hh = hh := IntWalk.i32_in _ (by omega)
      have tf : IntKind.i32.wrap (e + hh) = e + hh := IntWalk.i32_in _ (by omega)
      have d2 := hr21.c2 (upd_eq _ _ _)
      have g2 := hr21.fz (upd_eq _ _ _) 2
      have hcd : c ≠ d := by rintro rfl; have h1 := hc.out; rw [hd.out] at h1; cases h1
      have hdn : d ≠ Bn := by rintro rfl; have h1 := hd.out; rw [hB.out.sn] at h1; cases h1
      have hcn : c ≠ Bn := by rintro rfl; have h1 := hc.out; rw [hB.out.sn] at h1; cases h1
      have hr22 := hr21.setExp (upd_eq _ _ _) (e + hh)
      rw [upd_upd] at hr22
      have hn22 : (upd ρ d (dec 0 false (e + hh) false C)) Bn = _ := (upd_ne _ _ (Ne.symm hdn)).trans s.out.nc
      have hc22 : (upd ρ d (dec 0 false (e + hh) false C)) c = _ := (upd_ne _ _ hcd).trans (s.out.le _ _ hc.out)
      have p0 := (hr22.ctx hc22).c0
      have n0 := (hr22.ctx hn22).c0
      have m0 := hr22.ctxFz hn22 0
      have hr23 := hr22.ctxQ hn22 (p : Int)
      have n4 := (hr23.ctx (upd_eq _ _ _)).c4
      have m4 := hr23.ctxFz (upd_eq _ _ _) 4
      have hr24 := hr23.ctxM (upd_eq _ _ _) (modeS 2)
      rw [upd_upd] at hr24
      have hd24 : (upd (upd ρ d (dec 0 false (e + hh) false C)) Bn (ctxO p 100000 (-100000) (modeS 2))) d = some (dec 0 false (e + hh) false C) := by rw [upd_ne _ _ hdn, upd_eq]
      have hnb := nb_ten (Nat.lt_of_lt_of_le (figs_lt C) (ten_le hC66))
      have krd := round_c hr24 (m := 2) (p := p) hd24 hd24 (upd_eq _ _ _) (by omega) (by omega) (by omega) (by omega) (by omega) (by omega)
      have hle : Le σ ρ := s.out.le
      have hsn := hB.out.sn
      rw [upd_swap _ _ _ (Ne.symm hdn), upd_upd] at krd
      have kge := fun w25 (h25 : Hold w0 w25 (upd (upd ρ d (dec 0 false (e + hh + (rndK false C p 2 : Int)) false (rndN false C p 2))) Bn (ctxO p 100000 (-100000) (modeS 2)))) => errH_c h25 (c := Bn) (upd_eq _ _ _) (rndC_calm C p)
      replace krd := Lib.hid krd
      replace kge := Lib.hid kge
      replace hle := Lib.hid hle
      replace hsn := Lib.hid hsn
      replace hdn := Lib.hid hdn
      replace hhe := Lib.hid hhe
      replace hE2k := Lib.hid hE2k
      clear hr21 hr22 hr23 hr24 hn22 hc22 hd24 kS
      go_wp2_with fail
      refine krd.out.mono ?_
      rintro E w25 ⟨rfl, h25⟩
      have kge2 := kge.out _ h25
      replace kge2 := Lib.hid kge2
      replace h25 := Lib.hid h25
      clear d2 g2 p0 n0 m0 n4 m4 krd kge
      go_wp2_with fail
      refine kge2.out.mono ?_
      rintro E w' ⟨rfl, hw⟩
      obtain rfl := hw
      go_wp2
      go_ret2
      exact ⟨rfl, by rw [hhe.out]; exact h25.out.le (Le.skip (by rw [upd_ne _ _ (Ne.symm hdn.out)]; exact hsn.out) (Le.both hle.out))⟩
    · obtain ⟨k', hk, hL2⟩ := hL.step hf2.out hpM
      obtain ⟨q, hq⟩ : ∃ q, min (2 * pp - 2) (wq + 5) = q := ⟨_, rfl⟩
      rw [hq] at hL2
      have hpp3 : 3 ≤ pp := by have := hL.pp; omega
      have hqb : 1 ≤ q ∧ q ≤ 100 := by omega
      have hn1 := hL.n1
      have hC0 := hL.inv.ne
      have hCf := hL.inv.figs
      have heb : -110 ≤ e ∧ e ≤ 0 := by have := hL.inv.lo; have := hL.inv.hi; omega
      have hC100 : C < 10 ^ 100 := Nat.lt_of_lt_of_le (figs_lt C) (ten_le (by omega))
      have hmag := sq_mag hpp3 hL.inv (by omega) hn1 hf2.out.v1 (Nat.le_of_lt hf2.out.v2)
      have hsq := stQ_mag (q := q) hqb.1 hefb.out hmag
      have hsb := stHe_bd (eF := eF) hX0.out hC0 hC100 hqb heb (by omega)
      have hlo := hf2.out.lo
      have hhi := hf2.out.hi
      have ewp1 : IntKind.u32.wrap (2 * (pp : Int)) = 2 * (pp : Int) := IntWalk.u32_in _ (by omega)
      have ewp2 : IntKind.u32.wrap (2 * (pp : Int) - 2) = 2 * (pp : Int) - 2 := IntWalk.u32_in _ (by omega)
      have hppM : (pp : Int) ≠ ((wq + 5 : Nat) : Int) := by omega
      have hppN : (pp : Int) ≠ (wq : Int) + 5 := by omega
      have hqpp : pp < q := by omega
      replace hL2 := Lib.hid hL2
      replace hT := Lib.hid hT
      replace hmag := Lib.hid hmag
      go_upto_if 99 with (fail)
      go_cut [19] from 91 to 108 (fun v wx => v = .int .u32 (q : Int) ∧ wr = wx)
      case first =>
        by_cases hgt : wq + 5 < 2 * pp - 2
        · have l1 : ((wq + 5 : Nat) : Int) < 2 * (pp : Int) - 2 := by omega
          have l2 : (wq : Int) + 5 < 2 * (pp : Int) - 2 := by omega
          have l3 : q = wq + 5 := by omega
          go_wp2_with fail
          go_meet
          exact ⟨by rw [l3]; first | done | rfl | simp, rfl⟩
        · have l1 : ¬ ((wq + 5 : Nat) : Int) < 2 * (pp : Int) - 2 := by omega
          have l2 : ¬ (wq : Int) + 5 < 2 * (pp : Int) - 2 := by omega
          have l3 : (q : Int) = 2 * (pp : Int) - 2 := by omega
          go_wp2_with fail
          go_meet
          exact ⟨by rw [l3], rfl⟩
      case rest =>
      obtain ⟨rfl, hw⟩ := hcut
      obtain rfl := hw
      obtain ⟨ρ, hr, s⟩ := hT.out
      have n0 := (hr.ctx s.nc).c0
      have m0 := hr.ctxFz s.nc 0
      have hT2 : SqT w0 σ Bf Ba Bt Bn Be X eF C e T eT q (modeS 2) (wr.setCell ⟨Bn, 0, none⟩ (.int .u32 (q : Int))) := ⟨_, hr.ctxQ s.nc (q : Int), s.prec hB.out q (modeS 2)⟩
      have kq := sq_quo hT2 hB.out hX0.out hC0 (by omega) hC100 hqb (by omega) (by omega)
      replace kq := Lib.hid kq
      clear hr s hT2 hT
      go_wp2_with fail
      with_reducible refine kq.out.mono ?_
      rintro E w31 ⟨rfl, h31⟩
      have ka := sq_add h31 hB.out hX0.out hC0 hC100 hqb heb (by omega)
      replace ka := Lib.hid ka
      clear h31 kq n0 m0
      go_wp2_with fail
      with_reducible refine ka.out.mono ?_
      rintro E w32 ⟨rfl, ρ2, hr2, s2⟩
      have kh := decHalf_c hr2
      have hfr := fun m (hm : w32.heap.size ≤ m) => hr2.fresh hm
      replace kh := Lib.hid kh
      replace hfr := Lib.hid hfr
      replace s2 := Lib.hid s2
      clear hr2 ka
      go_wp2_with fail
      with_reducible refine kh.out.mono ?_
      rintro E w33 ⟨H, rfl, hH, h33⟩
      have km := sq_mul h33 (hfr.out _ hH) s2.out hB.out hqb hsb
      replace km := Lib.hid km
      clear h33 hH kh hfr s2
      go_wp2_with fail
      with_reducible refine km.out.mono ?_
      rintro E w34 ⟨rfl, h34⟩
      replace h34 := Lib.hid h34
      clear km
      go_wp2
      go_roundw
      case rel => exact ⟨k', q, _, q, _, _, _, q, rfl, hL2.out, h34.out⟩
      case measure => simp [intOf]; omega
end Go.Proofs.YtonepclpllelfaaGreatDoor
