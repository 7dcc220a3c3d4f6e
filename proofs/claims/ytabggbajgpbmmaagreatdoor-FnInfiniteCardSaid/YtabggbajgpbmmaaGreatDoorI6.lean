/- Signs; sums of infinities. -/
import Derived.Test.YtabggbajgpbmmaaGreatDoorI5
namespace Go.Proofs.YtabggbajgpbmmaaGreatDoor
open Go Go.RowKit

/-- A decimal in memory: form, sign, exponent, coefficient (in a place of its own). -/
def DecA (w : World) (b : Nat) (form : Int) (neg : Bool) (exp : Int) (N : Nat) (o : Option Nat) : Prop :=
  ∃ v, w.heap[b]? = some (.cells #[.int .i8 form, .bool neg, .int .i32 exp, .bool false, v, .bool false] 58 (0, 0)) ∧ IsNat w v N o
theorem DecZ.toA {w : World} {b : Nat} {f e : Int} {n : Bool} (h : DecZ w b f n e) : DecA w b f n e 0 none := ⟨_, h, IsNat.zero w⟩
theorem DecA.chg {w w' : World} {S : Nat → Prop} {b : Nat} {f e : Int} {n : Bool} {N : Nat} {o : Option Nat} (h : DecA w b f n e N o) (hc : Chg w w' S) (hn : ¬ S b) (ho : ∀ k, o = some k → ¬ S k) : DecA w' b f n e N o := by
  obtain ⟨v, h1, h2⟩ := h
  exact ⟨v, hc.heapB h1 hn, h2.chg hc ho⟩
theorem DecA.drewN {w : World} {b : Nat} {f e : Int} {n : Bool} {N : Nat} {o : Option Nat} (h : DecA w b f n e N o) (k : Nat) : DecA (w.drewN k) b f n e N o := h.chg (S := fun _ => False) ((Chg.refl w _).drewN k) (fun h => h) (fun _ _ h => h)
theorem DecA.c0 {w : World} {b : Nat} {f e : Int} {n : Bool} {N : Nat} {o : Option Nat} (h : DecA w b f n e N o) : w.cell? ⟨b, 0, none⟩ = some (.int .i8 f) := by obtain ⟨v, h, _⟩ := h; exact cellB h rfl
theorem DecA.c1 {w : World} {b : Nat} {f e : Int} {n : Bool} {N : Nat} {o : Option Nat} (h : DecA w b f n e N o) : w.cell? ⟨b, 1, none⟩ = some (.bool n) := by obtain ⟨v, h, _⟩ := h; exact cellB h rfl
theorem DecA.c2 {w : World} {b : Nat} {f e : Int} {n : Bool} {N : Nat} {o : Option Nat} (h : DecA w b f n e N o) : w.cell? ⟨b, 2, none⟩ = some (.int .i32 e) := by obtain ⟨v, h, _⟩ := h; exact cellB h rfl
theorem DecA.c3 {w : World} {b : Nat} {f e : Int} {n : Bool} {N : Nat} {o : Option Nat} (h : DecA w b f n e N o) : w.cell? ⟨b, 3, none⟩ = some (.bool false) := by obtain ⟨v, h, _⟩ := h; exact cellB h rfl
theorem DecA.c4 {w : World} {b : Nat} {f e : Int} {n : Bool} {N : Nat} {o : Option Nat} (h : DecA w b f n e N o) : ∃ v, w.cell? ⟨b, 4, none⟩ = some v ∧ IsNat w v N o := by obtain ⟨v, h, h2⟩ := h; exact ⟨v, cellB h rfl, h2⟩
theorem DecA.c5 {w : World} {b : Nat} {f e : Int} {n : Bool} {N : Nat} {o : Option Nat} (h : DecA w b f n e N o) : w.cell? ⟨b, 5, none⟩ = some (.bool false) := by obtain ⟨v, h, _⟩ := h; exact cellB h rfl
theorem DecA.lt {w : World} {b : Nat} {f e : Int} {n : Bool} {N : Nat} {o : Option Nat} (h : DecA w b f n e N o) : b < w.heap.size := by obtain ⟨v, h, _⟩ := h; exact ltB h

/-- -1, 0 or 1. -/
def sgN (n : Bool) (N : Nat) : Int := if N = 0 then 0 else if n then -1 else 1

theorem intSign_c (w : World) (b o : Nat) (n : Bool) (N : Nat) (v : Value) (ob : Option Nat) (h0 : w.cell? ⟨b, o, none⟩ = some (.bool n)) (h1 : w.cell? ⟨b, o + 1, none⟩ = some v) (hv : IsNat w v N ob) :
    Calls Tryz.prog 90 #[.pointer (some ⟨b, o, none⟩)] w fun e w' => e = .returned (.int .i64 (sgN n N)) ∧ w = w' := by
  obtain ⟨p, c, rfl, hl, hc⟩ := hv.shape
  clear hv
  by_cases hN : N = 0
  · subst hN
    have hs : sgN n 0 = 0 := by simp [sgN]
    rw [digs_zero] at h1 hl
    replace hs := Lib.hid hs
    go_enter Tryz.func90, Tryz.ntmps90
    go_wp2
    go_ret
    exact ⟨by rw [hs.out]; rfl, rfl⟩
  · have e0 := int_eq0 (digs_len_pos hN)
    have hs : sgN n N = if n then -1 else 1 := by simp [sgN, hN]
    replace hs := Lib.hid hs
    generalize (digs N).length = L at *
    cases n
    · go_enter Tryz.func90, Tryz.ntmps90
      go_wp2
      go_ret
      exact ⟨by rw [hs.out]; rfl, rfl⟩
    · go_enter Tryz.func90, Tryz.ntmps90
      go_wp2
      go_ret
      exact ⟨by rw [hs.out]; rfl, rfl⟩

theorem bigSign_c (w : World) (b o : Nat) (n : Bool) (N : Nat) (v : Value) (ob : Option Nat) (h0 : w.cell? ⟨b, o, none⟩ = some (.bool n)) (h1 : w.cell? ⟨b, o + 1, none⟩ = some v) (h2 : w.cell? ⟨b, o + 2, none⟩ = some (.bool false)) (hv : IsNat w v N ob) :
    Calls Tryz.prog 43 #[.pointer (some ⟨b, o, none⟩)] w fun e w' => e = .returned (.int .i64 (sgN n N)) ∧ w = w' := by
  have key := intSign_c w b o n N v ob h0 h1 hv
  clear hv h0 h1
  go_enter Tryz.func43, Tryz.ntmps43
  go_wp2_with fail
  refine key.mono ?_
  rintro e w' ⟨rfl, hw⟩
  obtain rfl := hw
  go_wp2
  go_ret
  exact ⟨rfl, rfl⟩

/-- The sign of a decimal: of a finite one by its coefficient. -/
def sgD (f : Int) (n : Bool) (N : Nat) : Int := if f = 0 ∧ N = 0 then 0 else if n then -1 else 1
theorem decSign_c (w : World) (b : Nat) (f e : Int) (n : Bool) (N : Nat) (o : Option Nat) (h : DecA w b f n e N o) (hf : 0 ≤ f ∧ f ≤ 3) :
    Calls Tryz.prog 77 #[.pointer (some ⟨b, 0, none⟩)] w fun e w' => e = .returned (.int .i64 (sgD f n N)) ∧ w = w' := by
  have h0 := h.c0
  have h1 := h.c1
  by_cases hf0 : f = 0
  · subst hf0
    obtain ⟨v, h4, hv⟩ := h.c4
    have key := bigSign_c w b 3 false N v o h.c3 h4 h.c5 hv
    by_cases hN : N = 0
    · subst hN
      have hs : sgD 0 n 0 = 0 := by simp [sgD]
      have hz : sgN false 0 = 0 := by simp [sgN]
      rw [hz] at key
      replace hs := Lib.hid hs
      clear h h4 hv hf
      go_enter Tryz.func77, Tryz.ntmps77
      go_wp2_with fail
      refine key.mono ?_
      rintro e w' ⟨rfl, hw⟩
      obtain rfl := hw
      go_wp2
      go_ret
      exact ⟨by rw [hs.out]; rfl, rfl⟩
    · have hs : sgD 0 n N = if n then -1 else 1 := by simp [sgD, hN]
      have hz : sgN false N = 1 := by simp [sgN, hN]
      rw [hz] at key
      replace hs := Lib.hid hs
      replace hN := Lib.hid hN
      clear h h4 hv hf
      cases n
      all_goals
        go_enter Tryz.func77, Tryz.ntmps77
        go_wp2_with fail
        refine key.mono ?_
        rintro e w' ⟨rfl, hw⟩
        obtain rfl := hw
        go_wp2
        go_ret
        exact ⟨by rw [hs.out]; rfl, rfl⟩
  · have hs : sgD f n N = if n then -1 else 1 := by simp [sgD, hf0]
    have e0 : (f == 0) = false := by simp [hf0]
    replace hs := Lib.hid hs
    clear h
    cases n
    all_goals
      go_enter Tryz.func77, Tryz.ntmps77
      go_wp2
      go_ret
      exact ⟨by rw [hs.out]; rfl, rfl⟩

theorem isZero_c (w : World) (b : Nat) (f e : Int) (n : Bool) (N : Nat) (o : Option Nat) (h : DecA w b f n e N o) (hf : 0 ≤ f ∧ f ≤ 3) :
    Calls Tryz.prog 31 #[.pointer (some ⟨b, 0, none⟩)] w fun e w' => e = .returned (.bool (decide (f = 0 ∧ N = 0))) ∧ w = w' := by
  have key := decSign_c w b f e n N o h hf
  by_cases hz : f = 0 ∧ N = 0
  · have hs : sgD f n N = 0 := by simp [sgD, hz]
    rw [hs] at key
    have hd : decide (f = 0 ∧ N = 0) = true := by simp [hz]
    rw [hd]
    clear h hz hs hd
    go_enter Tryz.func31, Tryz.ntmps31
    go_wp2_with fail
    refine key.mono ?_
    rintro e w' ⟨rfl, hw⟩
    obtain rfl := hw
    go_wp2
    go_ret
    exact ⟨rfl, rfl⟩
  · have hs : sgD f n N = if n then -1 else 1 := by simp only [sgD]; rw [if_neg hz]
    rw [hs] at key
    have hd : decide (f = 0 ∧ N = 0) = false := by simp [hz]
    rw [hd]
    clear h hz hs hd
    cases n
    all_goals
      go_enter Tryz.func31, Tryz.ntmps31
      go_wp2_with fail
      refine key.mono ?_
      rintro e w' ⟨rfl, hw⟩
      obtain rfl := hw
      go_wp2
      go_ret
      exact ⟨rfl, rfl⟩
end Go.Proofs.YtabggbajgpbmmaaGreatDoor
