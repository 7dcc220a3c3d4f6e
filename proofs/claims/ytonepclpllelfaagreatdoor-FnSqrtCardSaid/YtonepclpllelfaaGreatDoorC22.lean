/- nat: expNN of a word by a word. -/
import Derived.Test.YtonepclpllelfaaGreatDoorC21
namespace Go.Proofs.YtonepclpllelfaaGreatDoor
open Go Go.RowKit

set_option maxRecDepth 200000 in
set_option maxHeartbeats 4000000 in
theorem expNN0_a (w : World) (pz : Option Addr) (lz cz : Nat) (x y : Value) (X : Nat) (oz ox oy : Option Nat) (hz : Stor w (.slice pz lz cz) oz) (hx : IsNat w x X ox) (hy : IsNat w y 0 oy) (hX2 : 2 ≤ X) (hXW : X < WB)
    (hd1 : decide (oz = ox ∧ oz ≠ none) = true) (z1 : Value) (o1 : Option Nat) (hz1 : z1 = .slice none 0 0) (hst : Stor w z1 o1) (hoz : o1 = oz ∨ o1 = none) :
    Calls Tryz.prog 173 #[.slice pz lz cz, .pointer none, x, y, .slice none 0 0, .bool false] w fun e w' => ∃ r, e = .returned r ∧ NatRes w w' oz r (X ^ 0) := by
  have ka := fun w2 (hc : Chg w w2 (fun _ => False)) => alias_c w2 (.slice pz lz cz) x oz ox (hz.chg hc (fun _ _ h => h)) (hx.stor.chg hc (fun _ _ h => h))
  have kb := fun w2 (hc : Chg w w2 (fun _ => False)) => alias_c w2 (.slice pz lz cz) y oz oy (hz.chg hc (fun _ _ h => h)) (hy.stor.chg hc (fun _ _ h => h))
  rw [hd1] at ka
  have ks : ∀ w2 r N, Chg w w2 (fun _ => False) → ∀ w3, NatRes w2 w3 o1 r N → NatRes w w3 oz r N := by
    intro w2 r N hc w3 h
    have h1 := h.after hc
    rcases hoz with rfl | rfl
    · exact h1
    · exact h1.of_none
  have eX := digs_word hXW (by omega)
  have bX1 : ((X : Int) == 1) = false := by rw [beq_eq_false_iff_ne]; omega
  obtain ⟨bx, cx, Cx, rfl, rfl, hax, _, _, htx, hlx, _⟩ := hx.pos (by omega)
  rw [eX] at htx hlx
  simp only [List.length_cons, List.length_nil, Nat.zero_add] at htx hlx
  have eX0 : nth Cx 0 = X := by have := nth_take (l := Cx) (i := 0) (k := 1) (by omega); rw [htx] at this; rw [← this]; rfl
  have x0 := hax.cellN (i := 0) (by omega)
  rw [eX0] at x0
  obtain ⟨py, cy, rfl, _, _⟩ := hy.shape
  have kset := fun w2 (hc : Chg w w2 (fun _ => False)) => show Calls Tryz.prog 151 #[z1, .int .u64 1] w2 (fun e w' => ∃ r, e = .returned r ∧ NatRes w2 w' o1 r 1) from setWord_c w2 z1 1 o1 (hst.chg hc (fun _ _ h => h)) (by rw [WB_eq]; omega)
  rw [digs_zero] at kb ⊢
  rw [eX] at ka ⊢
  simp only [List.length_cons, List.length_nil, Nat.zero_add] at ka kb ⊢
  rw [Nat.pow_zero]
  rw [hz1] at kset
  clear hx hy hz hst hz1 hoz htx hlx eX0 eX
  replace hax := Lib.hid hax
  replace ka := Lib.hid ka
  replace kb := Lib.hid kb
  replace kset := Lib.hid kset
  replace ks := Lib.hid ks
  go_enter_defers Tryz.func173, Tryz.ntmps173
  go_wp2_with fail
  with_reducible refine (ka.out _ (by exact ⟨rfl, rfl, rfl, Nat.le_refl _, fun _ _ _ => rfl⟩)).mono ?_
  rintro e w1 ⟨rfl, n1, rfl⟩
  go_wp2_with fail
  with_reducible refine (kset.out _ (by exact ⟨rfl, rfl, rfl, Nat.le_refl _, fun _ _ _ => rfl⟩)).mono ?_
  rintro e w3 ⟨r0, rfl, hr⟩
  have hr2 := ks.out _ r0 _ (by exact ⟨rfl, rfl, rfl, Nat.le_refl _, fun _ _ _ => rfl⟩) w3 hr
  replace hr2 := Lib.hid hr2
  clear hr
  go_wp2
  exact ⟨r0, by simp [results, Tryz.results173, go_sem], _, rfl, hr2.out⟩

set_option maxRecDepth 200000 in
set_option maxHeartbeats 4000000 in
theorem expNN0_b (w : World) (pz : Option Addr) (lz cz : Nat) (x y : Value) (X : Nat) (oz ox oy : Option Nat) (hz : Stor w (.slice pz lz cz) oz) (hx : IsNat w x X ox) (hy : IsNat w y 0 oy) (hX2 : 2 ≤ X) (hXW : X < WB)
    (hd1 : decide (oz = ox ∧ oz ≠ none) = false) (hd2 : decide (oz = oy ∧ oz ≠ none) = true) (z1 : Value) (o1 : Option Nat) (hz1 : z1 = .slice none 0 0) (hst : Stor w z1 o1) (hoz : o1 = oz ∨ o1 = none) :
    Calls Tryz.prog 173 #[.slice pz lz cz, .pointer none, x, y, .slice none 0 0, .bool false] w fun e w' => ∃ r, e = .returned r ∧ NatRes w w' oz r (X ^ 0) := by
  have ka := fun w2 (hc : Chg w w2 (fun _ => False)) => alias_c w2 (.slice pz lz cz) x oz ox (hz.chg hc (fun _ _ h => h)) (hx.stor.chg hc (fun _ _ h => h))
  have kb := fun w2 (hc : Chg w w2 (fun _ => False)) => alias_c w2 (.slice pz lz cz) y oz oy (hz.chg hc (fun _ _ h => h)) (hy.stor.chg hc (fun _ _ h => h))
  rw [hd1] at ka
  rw [hd2] at kb
  have ks : ∀ w2 r N, Chg w w2 (fun _ => False) → ∀ w3, NatRes w2 w3 o1 r N → NatRes w w3 oz r N := by
    intro w2 r N hc w3 h
    have h1 := h.after hc
    rcases hoz with rfl | rfl
    · exact h1
    · exact h1.of_none
  have eX := digs_word hXW (by omega)
  have bX1 : ((X : Int) == 1) = false := by rw [beq_eq_false_iff_ne]; omega
  obtain ⟨bx, cx, Cx, rfl, rfl, hax, _, _, htx, hlx, _⟩ := hx.pos (by omega)
  rw [eX] at htx hlx
  simp only [List.length_cons, List.length_nil, Nat.zero_add] at htx hlx
  have eX0 : nth Cx 0 = X := by have := nth_take (l := Cx) (i := 0) (k := 1) (by omega); rw [htx] at this; rw [← this]; rfl
  have x0 := hax.cellN (i := 0) (by omega)
  rw [eX0] at x0
  obtain ⟨py, cy, rfl, _, _⟩ := hy.shape
  have kset := fun w2 (hc : Chg w w2 (fun _ => False)) => show Calls Tryz.prog 151 #[z1, .int .u64 1] w2 (fun e w' => ∃ r, e = .returned r ∧ NatRes w2 w' o1 r 1) from setWord_c w2 z1 1 o1 (hst.chg hc (fun _ _ h => h)) (by rw [WB_eq]; omega)
  rw [digs_zero] at kb ⊢
  rw [eX] at ka ⊢
  simp only [List.length_cons, List.length_nil, Nat.zero_add] at ka kb ⊢
  rw [Nat.pow_zero]
  rw [hz1] at kset
  clear hx hy hz hst hz1 hoz htx hlx eX0 eX
  replace hax := Lib.hid hax
  replace ka := Lib.hid ka
  replace kb := Lib.hid kb
  replace kset := Lib.hid kset
  replace ks := Lib.hid ks
  go_enter_defers Tryz.func173, Tryz.ntmps173
  go_wp2_with fail
  with_reducible refine (ka.out _ (by exact ⟨rfl, rfl, rfl, Nat.le_refl _, fun _ _ _ => rfl⟩)).mono ?_
  rintro e w1 ⟨rfl, n1, rfl⟩
  go_wp2_with fail
  with_reducible refine (kb.out _ (by exact ⟨rfl, rfl, rfl, Nat.le_refl _, fun _ _ _ => rfl⟩)).mono ?_
  rintro e w1 ⟨rfl, n2, rfl⟩
  go_wp2_with fail
  with_reducible refine (kset.out _ (by exact ⟨rfl, rfl, rfl, Nat.le_refl _, fun _ _ _ => rfl⟩)).mono ?_
  rintro e w3 ⟨r0, rfl, hr⟩
  have hr2 := ks.out _ r0 _ (by exact ⟨rfl, rfl, rfl, Nat.le_refl _, fun _ _ _ => rfl⟩) w3 hr
  replace hr2 := Lib.hid hr2
  clear hr
  go_wp2
  exact ⟨r0, by simp [results, Tryz.results173, go_sem], _, rfl, hr2.out⟩

set_option maxRecDepth 200000 in
set_option maxHeartbeats 4000000 in
theorem expNN0_c (w : World) (pz : Option Addr) (lz cz : Nat) (x y : Value) (X : Nat) (oz ox oy : Option Nat) (hz : Stor w (.slice pz lz cz) oz) (hx : IsNat w x X ox) (hy : IsNat w y 0 oy) (hX2 : 2 ≤ X) (hXW : X < WB)
    (hd1 : decide (oz = ox ∧ oz ≠ none) = false) (hd2 : decide (oz = oy ∧ oz ≠ none) = false) (z1 : Value) (o1 : Option Nat) (hz1 : z1 = .slice pz lz cz) (hst : Stor w z1 o1) (hoz : o1 = oz ∨ o1 = none) :
    Calls Tryz.prog 173 #[.slice pz lz cz, .pointer none, x, y, .slice none 0 0, .bool false] w fun e w' => ∃ r, e = .returned r ∧ NatRes w w' oz r (X ^ 0) := by
  have ka := fun w2 (hc : Chg w w2 (fun _ => False)) => alias_c w2 (.slice pz lz cz) x oz ox (hz.chg hc (fun _ _ h => h)) (hx.stor.chg hc (fun _ _ h => h))
  have kb := fun w2 (hc : Chg w w2 (fun _ => False)) => alias_c w2 (.slice pz lz cz) y oz oy (hz.chg hc (fun _ _ h => h)) (hy.stor.chg hc (fun _ _ h => h))
  rw [hd1] at ka
  rw [hd2] at kb
  have ks : ∀ w2 r N, Chg w w2 (fun _ => False) → ∀ w3, NatRes w2 w3 o1 r N → NatRes w w3 oz r N := by
    intro w2 r N hc w3 h
    have h1 := h.after hc
    rcases hoz with rfl | rfl
    · exact h1
    · exact h1.of_none
  have eX := digs_word hXW (by omega)
  have bX1 : ((X : Int) == 1) = false := by rw [beq_eq_false_iff_ne]; omega
  obtain ⟨bx, cx, Cx, rfl, rfl, hax, _, _, htx, hlx, _⟩ := hx.pos (by omega)
  rw [eX] at htx hlx
  simp only [List.length_cons, List.length_nil, Nat.zero_add] at htx hlx
  have eX0 : nth Cx 0 = X := by have := nth_take (l := Cx) (i := 0) (k := 1) (by omega); rw [htx] at this; rw [← this]; rfl
  have x0 := hax.cellN (i := 0) (by omega)
  rw [eX0] at x0
  obtain ⟨py, cy, rfl, _, _⟩ := hy.shape
  have kset := fun w2 (hc : Chg w w2 (fun _ => False)) => show Calls Tryz.prog 151 #[z1, .int .u64 1] w2 (fun e w' => ∃ r, e = .returned r ∧ NatRes w2 w' o1 r 1) from setWord_c w2 z1 1 o1 (hst.chg hc (fun _ _ h => h)) (by rw [WB_eq]; omega)
  rw [digs_zero] at kb ⊢
  rw [eX] at ka ⊢
  simp only [List.length_cons, List.length_nil, Nat.zero_add] at ka kb ⊢
  rw [Nat.pow_zero]
  rw [hz1] at kset
  clear hx hy hz hst hz1 hoz htx hlx eX0 eX
  replace hax := Lib.hid hax
  replace ka := Lib.hid ka
  replace kb := Lib.hid kb
  replace kset := Lib.hid kset
  replace ks := Lib.hid ks
  go_enter_defers Tryz.func173, Tryz.ntmps173
  go_wp2_with fail
  with_reducible refine (ka.out _ (by exact ⟨rfl, rfl, rfl, Nat.le_refl _, fun _ _ _ => rfl⟩)).mono ?_
  rintro e w1 ⟨rfl, n1, rfl⟩
  go_wp2_with fail
  with_reducible refine (kb.out _ (by exact ⟨rfl, rfl, rfl, Nat.le_refl _, fun _ _ _ => rfl⟩)).mono ?_
  rintro e w1 ⟨rfl, n2, rfl⟩
  go_wp2_with fail
  with_reducible refine (kset.out _ (by exact ⟨rfl, rfl, rfl, Nat.le_refl _, fun _ _ _ => rfl⟩)).mono ?_
  rintro e w3 ⟨r0, rfl, hr⟩
  have hr2 := ks.out _ r0 _ (by exact ⟨rfl, rfl, rfl, Nat.le_refl _, fun _ _ _ => rfl⟩) w3 hr
  replace hr2 := Lib.hid hr2
  clear hr
  go_wp2
  exact ⟨r0, by simp [results, Tryz.results173, go_sem], _, rfl, hr2.out⟩

set_option maxRecDepth 200000 in
set_option maxHeartbeats 4000000 in
theorem expNN1_a (w : World) (pz : Option Addr) (lz cz : Nat) (x y : Value) (X : Nat) (oz ox oy : Option Nat) (hz : Stor w (.slice pz lz cz) oz) (hx : IsNat w x X ox) (hy : IsNat w y 1 oy) (hX2 : 2 ≤ X) (hXW : X < WB)
    (hd1 : decide (oz = ox ∧ oz ≠ none) = true) (z1 : Value) (o1 : Option Nat) (hz1 : z1 = .slice none 0 0) (hst : Stor w z1 o1) (hoz : o1 = oz ∨ o1 = none) :
    Calls Tryz.prog 173 #[.slice pz lz cz, .pointer none, x, y, .slice none 0 0, .bool false] w fun e w' => ∃ r, e = .returned r ∧ NatRes w w' oz r (X ^ 1) := by
  have ka := fun w2 (hc : Chg w w2 (fun _ => False)) => alias_c w2 (.slice pz lz cz) x oz ox (hz.chg hc (fun _ _ h => h)) (hx.stor.chg hc (fun _ _ h => h))
  have kb := fun w2 (hc : Chg w w2 (fun _ => False)) => alias_c w2 (.slice pz lz cz) y oz oy (hz.chg hc (fun _ _ h => h)) (hy.stor.chg hc (fun _ _ h => h))
  rw [hd1] at ka
  have ks : ∀ w2 r N, Chg w w2 (fun _ => False) → ∀ w3, NatRes w2 w3 o1 r N → NatRes w w3 oz r N := by
    intro w2 r N hc w3 h
    have h1 := h.after hc
    rcases hoz with rfl | rfl
    · exact h1
    · exact h1.of_none
  have eX := digs_word hXW (by omega)
  have bX1 : ((X : Int) == 1) = false := by rw [beq_eq_false_iff_ne]; omega
  obtain ⟨bx, cx, Cx, rfl, rfl, hax, _, _, htx, hlx, _⟩ := hx.pos (by omega)
  rw [eX] at htx hlx
  simp only [List.length_cons, List.length_nil, Nat.zero_add] at htx hlx
  have eX0 : nth Cx 0 = X := by have := nth_take (l := Cx) (i := 0) (k := 1) (by omega); rw [htx] at this; rw [← this]; rfl
  have x0 := hax.cellN (i := 0) (by omega)
  rw [eX0] at x0
  have eY := digs_word (x := 1) (by rw [WB_eq]; omega) (by omega)
  obtain ⟨by_, cy, Cy, rfl, rfl, hay, _, _, hty, hly, _⟩ := hy.pos (by omega)
  rw [eY] at hty hly
  simp only [List.length_cons, List.length_nil, Nat.zero_add] at hty hly
  have eY0 : nth Cy 0 = 1 := by have := nth_take (l := Cy) (i := 0) (k := 1) (by omega); rw [hty] at this; rw [← this]; rfl
  have y0 := hay.cellN (i := 0) (by omega)
  rw [eY0] at y0
  have kset := fun w2 (hc : Chg w w2 (fun _ => False)) => set_c w2 z1 _ X o1 _ (hst.chg hc (fun _ _ h => h)) (hx.chg hc (fun _ _ h => h)) (by rw [eX]; simp)
  rw [eY] at kb ⊢
  rw [eX] at ka kset ⊢
  simp only [List.length_cons, List.length_nil, Nat.zero_add] at ka kb kset ⊢
  rw [Nat.pow_one]
  rw [hz1] at kset
  clear hx hy hz hst hz1 hoz htx hlx eX0 eX hay hty hly eY0 eY
  replace hax := Lib.hid hax
  replace ka := Lib.hid ka
  replace kb := Lib.hid kb
  replace kset := Lib.hid kset
  replace ks := Lib.hid ks
  go_enter_defers Tryz.func173, Tryz.ntmps173
  go_wp2_with fail
  with_reducible refine (ka.out _ (by exact ⟨rfl, rfl, rfl, Nat.le_refl _, fun _ _ _ => rfl⟩)).mono ?_
  rintro e w1 ⟨rfl, n1, rfl⟩
  go_wp2_with fail
  with_reducible refine (kset.out _ (by exact ⟨rfl, rfl, rfl, Nat.le_refl _, fun _ _ _ => rfl⟩)).mono ?_
  rintro e w3 ⟨r0, rfl, hr⟩
  have hr2 := ks.out _ r0 _ (by exact ⟨rfl, rfl, rfl, Nat.le_refl _, fun _ _ _ => rfl⟩) w3 hr
  replace hr2 := Lib.hid hr2
  clear hr
  go_wp2
  exact ⟨r0, by simp [results, Tryz.results173, go_sem], _, rfl, hr2.out⟩

set_option maxRecDepth 200000 in
set_option maxHeartbeats 4000000 in
theorem expNN1_b (w : World) (pz : Option Addr) (lz cz : Nat) (x y : Value) (X : Nat) (oz ox oy : Option Nat) (hz : Stor w (.slice pz lz cz) oz) (hx : IsNat w x X ox) (hy : IsNat w y 1 oy) (hX2 : 2 ≤ X) (hXW : X < WB)
    (hd1 : decide (oz = ox ∧ oz ≠ none) = false) (hd2 : decide (oz = oy ∧ oz ≠ none) = true) (z1 : Value) (o1 : Option Nat) (hz1 : z1 = .slice none 0 0) (hst : Stor w z1 o1) (hoz : o1 = oz ∨ o1 = none) :
    Calls Tryz.prog 173 #[.slice pz lz cz, .pointer none, x, y, .slice none 0 0, .bool false] w fun e w' => ∃ r, e = .returned r ∧ NatRes w w' oz r (X ^ 1) := by
  have ka := fun w2 (hc : Chg w w2 (fun _ => False)) => alias_c w2 (.slice pz lz cz) x oz ox (hz.chg hc (fun _ _ h => h)) (hx.stor.chg hc (fun _ _ h => h))
  have kb := fun w2 (hc : Chg w w2 (fun _ => False)) => alias_c w2 (.slice pz lz cz) y oz oy (hz.chg hc (fun _ _ h => h)) (hy.stor.chg hc (fun _ _ h => h))
  rw [hd1] at ka
  rw [hd2] at kb
  have ks : ∀ w2 r N, Chg w w2 (fun _ => False) → ∀ w3, NatRes w2 w3 o1 r N → NatRes w w3 oz r N := by
    intro w2 r N hc w3 h
    have h1 := h.after hc
    rcases hoz with rfl | rfl
    · exact h1
    · exact h1.of_none
  have eX := digs_word hXW (by omega)
  have bX1 : ((X : Int) == 1) = false := by rw [beq_eq_false_iff_ne]; omega
  obtain ⟨bx, cx, Cx, rfl, rfl, hax, _, _, htx, hlx, _⟩ := hx.pos (by omega)
  rw [eX] at htx hlx
  simp only [List.length_cons, List.length_nil, Nat.zero_add] at htx hlx
  have eX0 : nth Cx 0 = X := by have := nth_take (l := Cx) (i := 0) (k := 1) (by omega); rw [htx] at this; rw [← this]; rfl
  have x0 := hax.cellN (i := 0) (by omega)
  rw [eX0] at x0
  have eY := digs_word (x := 1) (by rw [WB_eq]; omega) (by omega)
  obtain ⟨by_, cy, Cy, rfl, rfl, hay, _, _, hty, hly, _⟩ := hy.pos (by omega)
  rw [eY] at hty hly
  simp only [List.length_cons, List.length_nil, Nat.zero_add] at hty hly
  have eY0 : nth Cy 0 = 1 := by have := nth_take (l := Cy) (i := 0) (k := 1) (by omega); rw [hty] at this; rw [← this]; rfl
  have y0 := hay.cellN (i := 0) (by omega)
  rw [eY0] at y0
  have kset := fun w2 (hc : Chg w w2 (fun _ => False)) => set_c w2 z1 _ X o1 _ (hst.chg hc (fun _ _ h => h)) (hx.chg hc (fun _ _ h => h)) (by rw [eX]; simp)
  rw [eY] at kb ⊢
  rw [eX] at ka kset ⊢
  simp only [List.length_cons, List.length_nil, Nat.zero_add] at ka kb kset ⊢
  rw [Nat.pow_one]
  rw [hz1] at kset
  clear hx hy hz hst hz1 hoz htx hlx eX0 eX hay hty hly eY0 eY
  replace hax := Lib.hid hax
  replace ka := Lib.hid ka
  replace kb := Lib.hid kb
  replace kset := Lib.hid kset
  replace ks := Lib.hid ks
  go_enter_defers Tryz.func173, Tryz.ntmps173
  go_wp2_with fail
  with_reducible refine (ka.out _ (by exact ⟨rfl, rfl, rfl, Nat.le_refl _, fun _ _ _ => rfl⟩)).mono ?_
  rintro e w1 ⟨rfl, n1, rfl⟩
  go_wp2_with fail
  with_reducible refine (kb.out _ (by exact ⟨rfl, rfl, rfl, Nat.le_refl _, fun _ _ _ => rfl⟩)).mono ?_
  rintro e w1 ⟨rfl, n2, rfl⟩
  go_wp2_with fail
  with_reducible refine (kset.out _ (by exact ⟨rfl, rfl, rfl, Nat.le_refl _, fun _ _ _ => rfl⟩)).mono ?_
  rintro e w3 ⟨r0, rfl, hr⟩
  have hr2 := ks.out _ r0 _ (by exact ⟨rfl, rfl, rfl, Nat.le_refl _, fun _ _ _ => rfl⟩) w3 hr
  replace hr2 := Lib.hid hr2
  clear hr
  go_wp2
  exact ⟨r0, by simp [results, Tryz.results173, go_sem], _, rfl, hr2.out⟩

set_option maxRecDepth 200000 in
set_option maxHeartbeats 4000000 in
theorem expNN1_c (w : World) (pz : Option Addr) (lz cz : Nat) (x y : Value) (X : Nat) (oz ox oy : Option Nat) (hz : Stor w (.slice pz lz cz) oz) (hx : IsNat w x X ox) (hy : IsNat w y 1 oy) (hX2 : 2 ≤ X) (hXW : X < WB)
    (hd1 : decide (oz = ox ∧ oz ≠ none) = false) (hd2 : decide (oz = oy ∧ oz ≠ none) = false) (z1 : Value) (o1 : Option Nat) (hz1 : z1 = .slice pz lz cz) (hst : Stor w z1 o1) (hoz : o1 = oz ∨ o1 = none) :
    Calls Tryz.prog 173 #[.slice pz lz cz, .pointer none, x, y, .slice none 0 0, .bool false] w fun e w' => ∃ r, e = .returned r ∧ NatRes w w' oz r (X ^ 1) := by
  have ka := fun w2 (hc : Chg w w2 (fun _ => False)) => alias_c w2 (.slice pz lz cz) x oz ox (hz.chg hc (fun _ _ h => h)) (hx.stor.chg hc (fun _ _ h => h))
  have kb := fun w2 (hc : Chg w w2 (fun _ => False)) => alias_c w2 (.slice pz lz cz) y oz oy (hz.chg hc (fun _ _ h => h)) (hy.stor.chg hc (fun _ _ h => h))
  rw [hd1] at ka
  rw [hd2] at kb
  have ks : ∀ w2 r N, Chg w w2 (fun _ => False) → ∀ w3, NatRes w2 w3 o1 r N → NatRes w w3 oz r N := by
    intro w2 r N hc w3 h
    have h1 := h.after hc
    rcases hoz with rfl | rfl
    · exact h1
    · exact h1.of_none
  have eX := digs_word hXW (by omega)
  have bX1 : ((X : Int) == 1) = false := by rw [beq_eq_false_iff_ne]; omega
  obtain ⟨bx, cx, Cx, rfl, rfl, hax, _, _, htx, hlx, _⟩ := hx.pos (by omega)
  rw [eX] at htx hlx
  simp only [List.length_cons, List.length_nil, Nat.zero_add] at htx hlx
  have eX0 : nth Cx 0 = X := by have := nth_take (l := Cx) (i := 0) (k := 1) (by omega); rw [htx] at this; rw [← this]; rfl
  have x0 := hax.cellN (i := 0) (by omega)
  rw [eX0] at x0
  have eY := digs_word (x := 1) (by rw [WB_eq]; omega) (by omega)
  obtain ⟨by_, cy, Cy, rfl, rfl, hay, _, _, hty, hly, _⟩ := hy.pos (by omega)
  rw [eY] at hty hly
  simp only [List.length_cons, List.length_nil, Nat.zero_add] at hty hly
  have eY0 : nth Cy 0 = 1 := by have := nth_take (l := Cy) (i := 0) (k := 1) (by omega); rw [hty] at this; rw [← this]; rfl
  have y0 := hay.cellN (i := 0) (by omega)
  rw [eY0] at y0
  have kset := fun w2 (hc : Chg w w2 (fun _ => False)) => set_c w2 z1 _ X o1 _ (hst.chg hc (fun _ _ h => h)) (hx.chg hc (fun _ _ h => h)) (by rw [eX]; simp)
  rw [eY] at kb ⊢
  rw [eX] at ka kset ⊢
  simp only [List.length_cons, List.length_nil, Nat.zero_add] at ka kb kset ⊢
  rw [Nat.pow_one]
  rw [hz1] at kset
  clear hx hy hz hst hz1 hoz htx hlx eX0 eX hay hty hly eY0 eY
  replace hax := Lib.hid hax
  replace ka := Lib.hid ka
  replace kb := Lib.hid kb
  replace kset := Lib.hid kset
  replace ks := Lib.hid ks
  go_enter_defers Tryz.func173, Tryz.ntmps173
  go_wp2_with fail
  with_reducible refine (ka.out _ (by exact ⟨rfl, rfl, rfl, Nat.le_refl _, fun _ _ _ => rfl⟩)).mono ?_
  rintro e w1 ⟨rfl, n1, rfl⟩
  go_wp2_with fail
  with_reducible refine (kb.out _ (by exact ⟨rfl, rfl, rfl, Nat.le_refl _, fun _ _ _ => rfl⟩)).mono ?_
  rintro e w1 ⟨rfl, n2, rfl⟩
  go_wp2_with fail
  with_reducible refine (kset.out _ (by exact ⟨rfl, rfl, rfl, Nat.le_refl _, fun _ _ _ => rfl⟩)).mono ?_
  rintro e w3 ⟨r0, rfl, hr⟩
  have hr2 := ks.out _ r0 _ (by exact ⟨rfl, rfl, rfl, Nat.le_refl _, fun _ _ _ => rfl⟩) w3 hr
  replace hr2 := Lib.hid hr2
  clear hr
  go_wp2
  exact ⟨r0, by simp [results, Tryz.results173, go_sem], _, rfl, hr2.out⟩

theorem natExp_c (w : World) (z x y : Value) (X Y : Nat) (oz ox oy : Option Nat) (hG : Glob w) (hz : Stor w z oz) (hx : IsNat w x X ox) (hy : IsNat w y Y oy) (hX2 : 2 ≤ X) (hXW : X < WB) (hYW : Y < WB) (hXY : X ^ Y < WB ^ 22) :
    Calls Tryz.prog 173 #[z, .pointer none, x, y, .slice none 0 0, .bool false] w fun e w' => ∃ r, e = .returned r ∧ NatRes w w' oz r (X ^ Y) := by
  obtain ⟨pz, lz, cz, rfl⟩ := stor_slice hz
  by_cases h1 : oz = ox ∧ oz ≠ none
  · rcases (by omega : Y = 0 ∨ Y = 1 ∨ 2 ≤ Y) with rfl | rfl | hY
    · exact expNN0_a w pz lz cz x y X oz ox oy hz hx hy hX2 hXW (decide_eq_true h1) _ none rfl (stor_none w) (.inr rfl)
    · exact expNN1_a w pz lz cz x y X oz ox oy hz hx hy hX2 hXW (decide_eq_true h1) _ none rfl (stor_none w) (.inr rfl)
    · exact expNN_a w pz lz cz x y X Y oz ox oy hG hz hx hy hX2 hXW hY hYW hXY (decide_eq_true h1) _ none rfl (stor_none w) (.inr rfl) (fun _ h => by cases h) (fun _ h => by cases h)
  · by_cases h2 : oz = oy ∧ oz ≠ none
    · rcases (by omega : Y = 0 ∨ Y = 1 ∨ 2 ≤ Y) with rfl | rfl | hY
      · exact expNN0_b w pz lz cz x y X oz ox oy hz hx hy hX2 hXW (decide_eq_false h1) (decide_eq_true h2) _ none rfl (stor_none w) (.inr rfl)
      · exact expNN1_b w pz lz cz x y X oz ox oy hz hx hy hX2 hXW (decide_eq_false h1) (decide_eq_true h2) _ none rfl (stor_none w) (.inr rfl)
      · exact expNN_b w pz lz cz x y X Y oz ox oy hG hz hx hy hX2 hXW hY hYW hXY (decide_eq_false h1) (decide_eq_true h2) _ none rfl (stor_none w) (.inr rfl) (fun _ h => by cases h) (fun _ h => by cases h)
    · have e1 : ∀ b, oz = some b → ox ≠ some b := fun b hb h => h1 ⟨hb.trans h.symm, by rw [hb]; simp⟩
      have e2 : ∀ b, oz = some b → oy ≠ some b := fun b hb h => h2 ⟨hb.trans h.symm, by rw [hb]; simp⟩
      rcases (by omega : Y = 0 ∨ Y = 1 ∨ 2 ≤ Y) with rfl | rfl | hY
      · exact expNN0_c w pz lz cz x y X oz ox oy hz hx hy hX2 hXW (decide_eq_false h1) (decide_eq_false h2) _ oz rfl hz (.inl rfl)
      · exact expNN1_c w pz lz cz x y X oz ox oy hz hx hy hX2 hXW (decide_eq_false h1) (decide_eq_false h2) _ oz rfl hz (.inl rfl)
      · exact expNN_c w pz lz cz x y X Y oz ox oy hG hz hx hy hX2 hXW hY hYW hXY (decide_eq_false h1) (decide_eq_false h2) _ oz rfl hz (.inl rfl) e1 e2
end Go.Proofs.YtonepclpllelfaaGreatDoor
