/- laws.did where one operand is no number, the other one finite. -/
import Derived.Test.YtabggbajgpbmmaaGreatDoorJ6
import Derived.Test.YtabggbajgpbmmaaGreatDoorH0
import Derived.Test.YtabggbajgpbmmaaGreatDoorQ2
import Derived.Test.YtabggbajgpbmmaaGreatDoorN8
namespace Go.Proofs.YtabggbajgpbmmaaGreatDoor
open Go Go.RowKit

/-- A finite decimal that was made. -/
def PF (n : Bool) (ex : Int) (N : Nat) (w : World) (k : Nat) : Prop := ∃ o, DecA w k 0 n ex N o
theorem PF.st {n : Bool} {ex : Int} {N : Nat} : ∀ w1 w2 k, PF n ex N w1 k → Chg w1 w2 (fun _ => False) → PF n ex N w2 k := fun _ _ _ ⟨o, h⟩ hc => ⟨o, h.chg hc (fun h => h) (fun _ _ h => h)⟩
theorem madeP (w : World) (n : Bool) (A : Option Addr) (l c : Nat) (X : List Nat) (ex : Int) (hX : RdW w A l c X) (hl : l ≤ 900) (he : -2147483648 ≤ ex ∧ ex ≤ 2147483647) :
    Calls Tryz.prog 19 #[.agg #[.int .i64 0, .bool n, .slice A l c, .int .i64 ex]] w fun e w2 => ∃ k, e = .returned (.pointer (some ⟨k, 0, none⟩)) ∧ w.heap.size ≤ k ∧ k < w2.heap.size ∧ PF n ex (val X) w2 k ∧ Chg w w2 (fun _ => False) :=
  (madeF_c w n A l c X ex hX hl he).mono fun _ _ ⟨k, o, h1, h2, h3, h4, _, h5⟩ => ⟨k, h1, h2, h3, ⟨o, h4⟩, h5⟩
theorem RdW.chg {w w' : World} {A : Option Addr} {l c : Nat} {X : List Nat} (h : RdW w A l c X) (hb : Chg w w' (fun _ => False)) : RdW w' A l c X :=
  h.below ⟨hb.os, hb.tape, hb.output, hb.size, fun k hk => hb.block k hk (fun h => h)⟩

theorem didNaN0x (w : World) (p a b : Int) (m : Nat) (F : Int) (n : Bool) (A : Option Addr) (l c : Nat) (X : List Nat) (e : Int) (hm : m < 8) (hp : 0 ≤ p ∧ p ≤ 4294967295) (ha : -2147483648 ≤ a ∧ a ≤ 2147483647) (hb : -2147483648 ≤ b ∧ b ≤ 2147483647) (hX : RdW w A l c X) (hl : l ≤ 900) (he : -2147483648 ≤ e ∧ e ≤ 2147483647) (hF : F = 2 ∨ F = 3) :
    Calls Tryz.prog 15 #[.int .i64 0, .agg #[.int .u64 p, .int .i64 a, .int .i64 b, .int .i64 (m : Int)], .agg #[.int .i64 F, .bool false, .slice none 0 0, .int .i64 0], .agg #[.int .i64 0, .bool n, .slice A l c, .int .i64 e]] w (Told w (QSp 3 false (condN (nanR F) : Int))) := by
  refine did0_c w p a b m F 0 0 e false n none A 0 0 l c _ QSp.st ?_
  intro w1 hc1
  refine told_of (implAdd_c w1 p a b m F 0 0 e false n none A 0 0 l c (fun w k => DecZ w k F false 0) (PF n e (val X)) (nanR F) 3 false hm hp ha hb (by rcases hF with rfl | rfl <;> decide) (by omega) (stS _ _) PF.st
    (fun w2 _ => madeS w2 F false (by omega) _ _ _ _) (fun w2 hc2 => madeP w2 n A l c X e ((hX.chg hc1).chg hc2) hl he) ?_)
  intro w2 c d x y _ hc hd hx hy hdx hdy hdc hxy
  obtain ⟨o, ho⟩ := hy
  exact cAdd_of w2 c d x y _ SpR.ret (addNaNx_c w2 c d x y p a b _ 0 F 0 0 0 false false false hc hd hx ho.c0 hF (.inl rfl) hdx hdc)

theorem didNaN0y (w : World) (p a b : Int) (m : Nat) (F : Int) (n : Bool) (A : Option Addr) (l c : Nat) (X : List Nat) (e : Int) (hm : m < 8) (hp : 0 ≤ p ∧ p ≤ 4294967295) (ha : -2147483648 ≤ a ∧ a ≤ 2147483647) (hb : -2147483648 ≤ b ∧ b ≤ 2147483647) (hX : RdW w A l c X) (hl : l ≤ 900) (he : -2147483648 ≤ e ∧ e ≤ 2147483647) (hF : F = 2 ∨ F = 3) :
    Calls Tryz.prog 15 #[.int .i64 0, .agg #[.int .u64 p, .int .i64 a, .int .i64 b, .int .i64 (m : Int)], .agg #[.int .i64 0, .bool n, .slice A l c, .int .i64 e], .agg #[.int .i64 F, .bool false, .slice none 0 0, .int .i64 0]] w (Told w (QSp 3 false (condN (nanR F) : Int))) := by
  refine did0_c w p a b m 0 e F 0 n false A none l c 0 0 _ QSp.st ?_
  intro w1 hc1
  refine told_of (implAdd_c w1 p a b m 0 e F 0 n false A none l c 0 0 (PF n e (val X)) (fun w k => DecZ w k F false 0) (nanR F) 3 false hm hp ha hb (by rcases hF with rfl | rfl <;> decide) (by omega) PF.st (stS _ _)
    (fun w2 hc2 => madeP w2 n A l c X e ((hX.chg hc1).chg hc2) hl he) (fun w2 _ => madeS w2 F false (by omega) _ _ _ _) ?_)
  intro w2 c d x y _ hc hd hx hy hdx hdy hdc hxy
  obtain ⟨o, ho⟩ := hx
  exact cAdd_of w2 c d x y _ SpR.ret (addNaNy_c w2 c d x y p a b _ 0 0 F 0 0 false false false hc hd hy ho.c0 hF (.inl rfl) hdy hdc)

theorem didNaN1x (w : World) (p a b : Int) (m : Nat) (F : Int) (n : Bool) (A : Option Addr) (l c : Nat) (X : List Nat) (e : Int) (hm : m < 8) (hp : 0 ≤ p ∧ p ≤ 4294967295) (ha : -2147483648 ≤ a ∧ a ≤ 2147483647) (hb : -2147483648 ≤ b ∧ b ≤ 2147483647) (hX : RdW w A l c X) (hl : l ≤ 900) (he : -2147483648 ≤ e ∧ e ≤ 2147483647) (hF : F = 2 ∨ F = 3) :
    Calls Tryz.prog 15 #[.int .i64 1, .agg #[.int .u64 p, .int .i64 a, .int .i64 b, .int .i64 (m : Int)], .agg #[.int .i64 F, .bool false, .slice none 0 0, .int .i64 0], .agg #[.int .i64 0, .bool n, .slice A l c, .int .i64 e]] w (Told w (QSp 3 false (condN (nanR F) : Int))) := by
  refine did1_c w p a b m F 0 0 e false n none A 0 0 l c _ QSp.st ?_
  intro w1 hc1
  refine told_of (implSub_c w1 p a b m F 0 0 e false n none A 0 0 l c (fun w k => DecZ w k F false 0) (PF n e (val X)) (nanR F) 3 false hm hp ha hb (by rcases hF with rfl | rfl <;> decide) (by omega) (stS _ _) PF.st
    (fun w2 _ => madeS w2 F false (by omega) _ _ _ _) (fun w2 hc2 => madeP w2 n A l c X e ((hX.chg hc1).chg hc2) hl he) ?_)
  intro w2 c d x y _ hc hd hx hy hdx hdy hdc hxy
  obtain ⟨o, ho⟩ := hy
  exact cSub_of w2 c d x y _ SpR.ret (addNaNx_c w2 c d x y p a b _ 0 F 0 0 0 false false true hc hd hx ho.c0 hF (.inl rfl) hdx hdc)

theorem didNaN1y (w : World) (p a b : Int) (m : Nat) (F : Int) (n : Bool) (A : Option Addr) (l c : Nat) (X : List Nat) (e : Int) (hm : m < 8) (hp : 0 ≤ p ∧ p ≤ 4294967295) (ha : -2147483648 ≤ a ∧ a ≤ 2147483647) (hb : -2147483648 ≤ b ∧ b ≤ 2147483647) (hX : RdW w A l c X) (hl : l ≤ 900) (he : -2147483648 ≤ e ∧ e ≤ 2147483647) (hF : F = 2 ∨ F = 3) :
    Calls Tryz.prog 15 #[.int .i64 1, .agg #[.int .u64 p, .int .i64 a, .int .i64 b, .int .i64 (m : Int)], .agg #[.int .i64 0, .bool n, .slice A l c, .int .i64 e], .agg #[.int .i64 F, .bool false, .slice none 0 0, .int .i64 0]] w (Told w (QSp 3 false (condN (nanR F) : Int))) := by
  refine did1_c w p a b m 0 e F 0 n false A none l c 0 0 _ QSp.st ?_
  intro w1 hc1
  refine told_of (implSub_c w1 p a b m 0 e F 0 n false A none l c 0 0 (PF n e (val X)) (fun w k => DecZ w k F false 0) (nanR F) 3 false hm hp ha hb (by rcases hF with rfl | rfl <;> decide) (by omega) PF.st (stS _ _)
    (fun w2 hc2 => madeP w2 n A l c X e ((hX.chg hc1).chg hc2) hl he) (fun w2 _ => madeS w2 F false (by omega) _ _ _ _) ?_)
  intro w2 c d x y _ hc hd hx hy hdx hdy hdc hxy
  obtain ⟨o, ho⟩ := hx
  exact cSub_of w2 c d x y _ SpR.ret (addNaNy_c w2 c d x y p a b _ 0 0 F 0 0 false false true hc hd hy ho.c0 hF (.inl rfl) hdy hdc)

theorem didNaN2x (w : World) (p a b : Int) (m : Nat) (F : Int) (n : Bool) (A : Option Addr) (l c : Nat) (X : List Nat) (e : Int) (hm : m < 8) (hp : 0 ≤ p ∧ p ≤ 4294967295) (ha : -2147483648 ≤ a ∧ a ≤ 2147483647) (hb : -2147483648 ≤ b ∧ b ≤ 2147483647) (hX : RdW w A l c X) (hl : l ≤ 900) (he : -2147483648 ≤ e ∧ e ≤ 2147483647) (hF : F = 2 ∨ F = 3) :
    Calls Tryz.prog 15 #[.int .i64 2, .agg #[.int .u64 p, .int .i64 a, .int .i64 b, .int .i64 (m : Int)], .agg #[.int .i64 F, .bool false, .slice none 0 0, .int .i64 0], .agg #[.int .i64 0, .bool n, .slice A l c, .int .i64 e]] w (Told w (QSp 3 false (condN (nanR F) : Int))) := by
  refine did2_c w p a b m F 0 0 e false n none A 0 0 l c _ QSp.st ?_
  intro w1 hc1
  refine told_of (implMul_c w1 p a b m F 0 0 e false n none A 0 0 l c (fun w k => DecZ w k F false 0) (PF n e (val X)) (nanR F) 3 false hm hp ha hb (by rcases hF with rfl | rfl <;> decide) (by omega) (stS _ _) PF.st
    (fun w2 _ => madeS w2 F false (by omega) _ _ _ _) (fun w2 hc2 => madeP w2 n A l c X e ((hX.chg hc1).chg hc2) hl he) ?_)
  intro w2 c d x y _ hc hd hx hy hdx hdy hdc hxy
  obtain ⟨o, ho⟩ := hy
  exact mulNaNx_c w2 c d x y p a b _ 0 F 0 0 0 false false hc hd hx ho.c0 hF (.inl rfl) hdx hdc

theorem didNaN2y (w : World) (p a b : Int) (m : Nat) (F : Int) (n : Bool) (A : Option Addr) (l c : Nat) (X : List Nat) (e : Int) (hm : m < 8) (hp : 0 ≤ p ∧ p ≤ 4294967295) (ha : -2147483648 ≤ a ∧ a ≤ 2147483647) (hb : -2147483648 ≤ b ∧ b ≤ 2147483647) (hX : RdW w A l c X) (hl : l ≤ 900) (he : -2147483648 ≤ e ∧ e ≤ 2147483647) (hF : F = 2 ∨ F = 3) :
    Calls Tryz.prog 15 #[.int .i64 2, .agg #[.int .u64 p, .int .i64 a, .int .i64 b, .int .i64 (m : Int)], .agg #[.int .i64 0, .bool n, .slice A l c, .int .i64 e], .agg #[.int .i64 F, .bool false, .slice none 0 0, .int .i64 0]] w (Told w (QSp 3 false (condN (nanR F) : Int))) := by
  refine did2_c w p a b m 0 e F 0 n false A none l c 0 0 _ QSp.st ?_
  intro w1 hc1
  refine told_of (implMul_c w1 p a b m 0 e F 0 n false A none l c 0 0 (PF n e (val X)) (fun w k => DecZ w k F false 0) (nanR F) 3 false hm hp ha hb (by rcases hF with rfl | rfl <;> decide) (by omega) PF.st (stS _ _)
    (fun w2 hc2 => madeP w2 n A l c X e ((hX.chg hc1).chg hc2) hl he) (fun w2 _ => madeS w2 F false (by omega) _ _ _ _) ?_)
  intro w2 c d x y _ hc hd hx hy hdx hdy hdc hxy
  obtain ⟨o, ho⟩ := hx
  exact mulNaNy_c w2 c d x y p a b _ 0 0 F 0 0 false false hc hd hy ho.c0 hF (.inl rfl) hdy hdc

theorem didNaN3x (w : World) (p a b : Int) (m : Nat) (F : Int) (n : Bool) (A : Option Addr) (l c : Nat) (X : List Nat) (e : Int) (hm : m < 8) (hp : 0 ≤ p ∧ p ≤ 4294967295) (ha : -2147483648 ≤ a ∧ a ≤ 2147483647) (hb : -2147483648 ≤ b ∧ b ≤ 2147483647) (hX : RdW w A l c X) (hl : l ≤ 900) (he : -2147483648 ≤ e ∧ e ≤ 2147483647) (hF : F = 2 ∨ F = 3) :
    Calls Tryz.prog 15 #[.int .i64 3, .agg #[.int .u64 p, .int .i64 a, .int .i64 b, .int .i64 (m : Int)], .agg #[.int .i64 F, .bool false, .slice none 0 0, .int .i64 0], .agg #[.int .i64 0, .bool n, .slice A l c, .int .i64 e]] w (Told w (QSp 3 false (condN (nanR F) : Int))) := by
  refine did3_c w p a b m F 0 0 e false n none A 0 0 l c _ QSp.st ?_
  intro w1 hc1
  refine told_of (implQuo_c w1 p a b m F 0 0 e false n none A 0 0 l c (fun w k => DecZ w k F false 0) (PF n e (val X)) (nanR F) 3 false hm hp ha hb (by rcases hF with rfl | rfl <;> decide) (by omega) (stS _ _) PF.st
    (fun w2 _ => madeS w2 F false (by omega) _ _ _ _) (fun w2 hc2 => madeP w2 n A l c X e ((hX.chg hc1).chg hc2) hl he) ?_)
  intro w2 c d x y _ hc hd hx hy hdx hdy hdc hxy
  obtain ⟨o, ho⟩ := hy
  exact quo_sp w2 c d x y _ _ _ (quoSpNaNx_c w2 c d x y p a b _ 0 F 0 0 0 false false true hc hd hx ho.c0 hF (.inl rfl) hdx hdc)

theorem didNaN3y (w : World) (p a b : Int) (m : Nat) (F : Int) (n : Bool) (A : Option Addr) (l c : Nat) (X : List Nat) (e : Int) (hm : m < 8) (hp : 0 ≤ p ∧ p ≤ 4294967295) (ha : -2147483648 ≤ a ∧ a ≤ 2147483647) (hb : -2147483648 ≤ b ∧ b ≤ 2147483647) (hX : RdW w A l c X) (hl : l ≤ 900) (he : -2147483648 ≤ e ∧ e ≤ 2147483647) (hF : F = 2 ∨ F = 3) :
    Calls Tryz.prog 15 #[.int .i64 3, .agg #[.int .u64 p, .int .i64 a, .int .i64 b, .int .i64 (m : Int)], .agg #[.int .i64 0, .bool n, .slice A l c, .int .i64 e], .agg #[.int .i64 F, .bool false, .slice none 0 0, .int .i64 0]] w (Told w (QSp 3 false (condN (nanR F) : Int))) := by
  refine did3_c w p a b m 0 e F 0 n false A none l c 0 0 _ QSp.st ?_
  intro w1 hc1
  refine told_of (implQuo_c w1 p a b m 0 e F 0 n false A none l c 0 0 (PF n e (val X)) (fun w k => DecZ w k F false 0) (nanR F) 3 false hm hp ha hb (by rcases hF with rfl | rfl <;> decide) (by omega) PF.st (stS _ _)
    (fun w2 hc2 => madeP w2 n A l c X e ((hX.chg hc1).chg hc2) hl he) (fun w2 _ => madeS w2 F false (by omega) _ _ _ _) ?_)
  intro w2 c d x y _ hc hd hx hy hdx hdy hdc hxy
  obtain ⟨o, ho⟩ := hx
  exact quo_sp w2 c d x y _ _ _ (quoSpNaNy_c w2 c d x y p a b _ 0 0 F 0 0 false false true hc hd hy ho.c0 hF (.inl rfl) hdy hdc)

theorem didNaN4x (w : World) (p a b : Int) (m : Nat) (F : Int) (n : Bool) (A : Option Addr) (l c : Nat) (X : List Nat) (e : Int) (hm : m < 8) (hp : 0 ≤ p ∧ p ≤ 4294967295) (ha : -2147483648 ≤ a ∧ a ≤ 2147483647) (hb : -2147483648 ≤ b ∧ b ≤ 2147483647) (hX : RdW w A l c X) (hl : l ≤ 900) (he : -2147483648 ≤ e ∧ e ≤ 2147483647) (hF : F = 2 ∨ F = 3) :
    Calls Tryz.prog 15 #[.int .i64 4, .agg #[.int .u64 p, .int .i64 a, .int .i64 b, .int .i64 (m : Int)], .agg #[.int .i64 F, .bool false, .slice none 0 0, .int .i64 0], .agg #[.int .i64 0, .bool n, .slice A l c, .int .i64 e]] w (Told w (QSp 3 false (condN (nanR F) : Int))) := by
  refine did4_c w p a b m F 0 0 e false n none A 0 0 l c _ QSp.st ?_
  intro w1 hc1
  refine told_of (implQuoInteger_c w1 p a b m F 0 0 e false n none A 0 0 l c (fun w k => DecZ w k F false 0) (PF n e (val X)) (nanR F) 3 false hm hp ha hb (by rcases hF with rfl | rfl <;> decide) (by omega) (stS _ _) PF.st
    (fun w2 _ => madeS w2 F false (by omega) _ _ _ _) (fun w2 hc2 => madeP w2 n A l c X e ((hX.chg hc1).chg hc2) hl he) ?_)
  intro w2 c d x y _ hc hd hx hy hdx hdy hdc hxy
  obtain ⟨o, ho⟩ := hy
  exact quoInt_sp w2 c d x y _ _ _ (quoSpNaNx_c w2 c d x y p a b _ 0 F 0 0 0 false false false hc hd hx ho.c0 hF (.inl rfl) hdx hdc)

theorem didNaN4y (w : World) (p a b : Int) (m : Nat) (F : Int) (n : Bool) (A : Option Addr) (l c : Nat) (X : List Nat) (e : Int) (hm : m < 8) (hp : 0 ≤ p ∧ p ≤ 4294967295) (ha : -2147483648 ≤ a ∧ a ≤ 2147483647) (hb : -2147483648 ≤ b ∧ b ≤ 2147483647) (hX : RdW w A l c X) (hl : l ≤ 900) (he : -2147483648 ≤ e ∧ e ≤ 2147483647) (hF : F = 2 ∨ F = 3) :
    Calls Tryz.prog 15 #[.int .i64 4, .agg #[.int .u64 p, .int .i64 a, .int .i64 b, .int .i64 (m : Int)], .agg #[.int .i64 0, .bool n, .slice A l c, .int .i64 e], .agg #[.int .i64 F, .bool false, .slice none 0 0, .int .i64 0]] w (Told w (QSp 3 false (condN (nanR F) : Int))) := by
  refine did4_c w p a b m 0 e F 0 n false A none l c 0 0 _ QSp.st ?_
  intro w1 hc1
  refine told_of (implQuoInteger_c w1 p a b m 0 e F 0 n false A none l c 0 0 (PF n e (val X)) (fun w k => DecZ w k F false 0) (nanR F) 3 false hm hp ha hb (by rcases hF with rfl | rfl <;> decide) (by omega) PF.st (stS _ _)
    (fun w2 hc2 => madeP w2 n A l c X e ((hX.chg hc1).chg hc2) hl he) (fun w2 _ => madeS w2 F false (by omega) _ _ _ _) ?_)
  intro w2 c d x y _ hc hd hx hy hdx hdy hdc hxy
  obtain ⟨o, ho⟩ := hx
  exact quoInt_sp w2 c d x y _ _ _ (quoSpNaNy_c w2 c d x y p a b _ 0 0 F 0 0 false false false hc hd hy ho.c0 hF (.inl rfl) hdy hdc)

theorem didNaN5x (w : World) (p a b : Int) (m : Nat) (F : Int) (n : Bool) (A : Option Addr) (l c : Nat) (X : List Nat) (e : Int) (hm : m < 8) (hp : 0 ≤ p ∧ p ≤ 4294967295) (ha : -2147483648 ≤ a ∧ a ≤ 2147483647) (hb : -2147483648 ≤ b ∧ b ≤ 2147483647) (hX : RdW w A l c X) (hl : l ≤ 900) (he : -2147483648 ≤ e ∧ e ≤ 2147483647) (hF : F = 2 ∨ F = 3) :
    Calls Tryz.prog 15 #[.int .i64 5, .agg #[.int .u64 p, .int .i64 a, .int .i64 b, .int .i64 (m : Int)], .agg #[.int .i64 F, .bool false, .slice none 0 0, .int .i64 0], .agg #[.int .i64 0, .bool n, .slice A l c, .int .i64 e]] w (Told w (QSp 3 false (condN (nanR F) : Int))) := by
  refine did5_c w p a b m F 0 0 e false n none A 0 0 l c _ QSp.st ?_
  intro w1 hc1
  refine told_of (implRem_c w1 p a b m F 0 0 e false n none A 0 0 l c (fun w k => DecZ w k F false 0) (PF n e (val X)) (nanR F) 3 false hm hp ha hb (by rcases hF with rfl | rfl <;> decide) (by omega) (stS _ _) PF.st
    (fun w2 _ => madeS w2 F false (by omega) _ _ _ _) (fun w2 hc2 => madeP w2 n A l c X e ((hX.chg hc1).chg hc2) hl he) ?_)
  intro w2 c d x y _ hc hd hx hy hdx hdy hdc hxy
  obtain ⟨o, ho⟩ := hy
  exact remNaNx_c w2 c d x y p a b _ 0 F 0 0 0 false false hc hd hx ho.c0 hF (.inl rfl) hdx hdc

theorem didNaN5y (w : World) (p a b : Int) (m : Nat) (F : Int) (n : Bool) (A : Option Addr) (l c : Nat) (X : List Nat) (e : Int) (hm : m < 8) (hp : 0 ≤ p ∧ p ≤ 4294967295) (ha : -2147483648 ≤ a ∧ a ≤ 2147483647) (hb : -2147483648 ≤ b ∧ b ≤ 2147483647) (hX : RdW w A l c X) (hl : l ≤ 900) (he : -2147483648 ≤ e ∧ e ≤ 2147483647) (hF : F = 2 ∨ F = 3) :
    Calls Tryz.prog 15 #[.int .i64 5, .agg #[.int .u64 p, .int .i64 a, .int .i64 b, .int .i64 (m : Int)], .agg #[.int .i64 0, .bool n, .slice A l c, .int .i64 e], .agg #[.int .i64 F, .bool false, .slice none 0 0, .int .i64 0]] w (Told w (QSp 3 false (condN (nanR F) : Int))) := by
  refine did5_c w p a b m 0 e F 0 n false A none l c 0 0 _ QSp.st ?_
  intro w1 hc1
  refine told_of (implRem_c w1 p a b m 0 e F 0 n false A none l c 0 0 (PF n e (val X)) (fun w k => DecZ w k F false 0) (nanR F) 3 false hm hp ha hb (by rcases hF with rfl | rfl <;> decide) (by omega) PF.st (stS _ _)
    (fun w2 hc2 => madeP w2 n A l c X e ((hX.chg hc1).chg hc2) hl he) (fun w2 _ => madeS w2 F false (by omega) _ _ _ _) ?_)
  intro w2 c d x y _ hc hd hx hy hdx hdy hdc hxy
  obtain ⟨o, ho⟩ := hx
  exact remNaNy_c w2 c d x y p a b _ 0 0 F 0 0 false false hc hd hy ho.c0 hF (.inl rfl) hdy hdc

/-- By one operand that is no number. -/
theorem didNaN (w : World) (k : Int) (hk : 0 ≤ k ∧ k < 6) (p a b : Int) (m : Nat) (F : Int) (n second : Bool) (A : Option Addr) (l c : Nat) (X : List Nat) (e : Int) (hm : m < 8) (hp : 0 ≤ p ∧ p ≤ 4294967295) (ha : -2147483648 ≤ a ∧ a ≤ 2147483647) (hb : -2147483648 ≤ b ∧ b ≤ 2147483647) (hX : RdW w A l c X) (hl : l ≤ 900) (he : -2147483648 ≤ e ∧ e ≤ 2147483647) (hF : F = 2 ∨ F = 3) :
    Calls Tryz.prog 15 #[.int .i64 k, .agg #[.int .u64 p, .int .i64 a, .int .i64 b, .int .i64 (m : Int)], if second then .agg #[.int .i64 F, .bool false, .slice none 0 0, .int .i64 0] else .agg #[.int .i64 0, .bool n, .slice A l c, .int .i64 e], if second then .agg #[.int .i64 0, .bool n, .slice A l c, .int .i64 e] else .agg #[.int .i64 F, .bool false, .slice none 0 0, .int .i64 0]] w (Told w (QSp 3 false (condN (nanR F) : Int))) := by
  rcases (by omega : k = 0 ∨ k = 1 ∨ k = 2 ∨ k = 3 ∨ k = 4 ∨ k = 5) with rfl | rfl | rfl | rfl | rfl | rfl <;> cases second
  · exact didNaN0y w p a b m F n A l c X e hm hp ha hb hX hl he hF
  · exact didNaN0x w p a b m F n A l c X e hm hp ha hb hX hl he hF
  · exact didNaN1y w p a b m F n A l c X e hm hp ha hb hX hl he hF
  · exact didNaN1x w p a b m F n A l c X e hm hp ha hb hX hl he hF
  · exact didNaN2y w p a b m F n A l c X e hm hp ha hb hX hl he hF
  · exact didNaN2x w p a b m F n A l c X e hm hp ha hb hX hl he hF
  · exact didNaN3y w p a b m F n A l c X e hm hp ha hb hX hl he hF
  · exact didNaN3x w p a b m F n A l c X e hm hp ha hb hX hl he hF
  · exact didNaN4y w p a b m F n A l c X e hm hp ha hb hX hl he hF
  · exact didNaN4x w p a b m F n A l c X e hm hp ha hb hX hl he hF
  · exact didNaN5y w p a b m F n A l c X e hm hp ha hb hX hl he hF
  · exact didNaN5x w p a b m F n A l c X e hm hp ha hb hX hl he hF

def Bp (a b : Nat) (fx ex fy ey : Int) (nx ny : Bool) (Ax Ay : Option Addr) (lx cx ly cy : Nat) (w : World) : Prop := Bx1 a fx nx Ax lx cx ex w ∧ Bx1 b fy ny Ay ly cy ey w
theorem Bp.chg {a b : Nat} {fx ex fy ey : Int} {nx ny : Bool} {Ax Ay : Option Addr} {lx cx ly cy : Nat} {w w' : World} (h : Bp a b fx ex fy ey nx ny Ax Ay lx cx ly cy w) (hc : Chg w w' (fun _ => False)) : Bp a b fx ex fy ey nx ny Ax Ay lx cx ly cy w' := ⟨h.1.chg hc, h.2.chg hc⟩
theorem Bp.cells {a b : Nat} {fx ex fy ey : Int} {nx ny : Bool} {Ax Ay : Option Addr} {lx cx ly cy : Nat} {w : World} (h : Bp a b fx ex fy ey nx ny Ax Ay lx cx ly cy w) :
    w.cell? ⟨a, 0, none⟩ = some (.int .i64 fx) ∧ w.cell? ⟨a, 1, none⟩ = some (.bool nx) ∧ w.cell? ⟨a, 2, none⟩ = some (.slice Ax lx cx) ∧ w.cell? ⟨a, 3, none⟩ = some (.int .i64 ex) ∧
    w.cell? ⟨b, 0, none⟩ = some (.int .i64 fy) ∧ w.cell? ⟨b, 1, none⟩ = some (.bool ny) ∧ w.cell? ⟨b, 2, none⟩ = some (.slice Ay ly cy) ∧ w.cell? ⟨b, 3, none⟩ = some (.int .i64 ey) :=
  ⟨h.1.cells.1, h.1.cells.2.1, h.1.cells.2.2.1, h.1.cells.2.2.2, h.2.cells.1, h.2.cells.2.1, h.2.cells.2.2.1, h.2.cells.2.2.2⟩
theorem Bp.set4 {a b : Nat} {fx ex fy ey : Int} {nx ny : Bool} {Ax Ay : Option Addr} {lx cx ly cy : Nat} {w : World} (h : Bp a b fx ex fy ey nx ny Ax Ay lx cx ly cy w) (zb : Nat) (h0 : a ≠ zb) (h1 : b ≠ zb) (v0 v1 v2 v3 : Value) :
    Bp a b fx ex fy ey nx ny Ax Ay lx cx ly cy ((((w.setCell ⟨zb, 0, none⟩ v0).setCell ⟨zb, 1, none⟩ v1).setCell ⟨zb, 2, none⟩ v2).setCell ⟨zb, 3, none⟩ v3) := ⟨h.1.set4 zb h0 v0 v1 v2 v3, h.2.set4 zb h1 v0 v1 v2 v3⟩
/-- A block that was laid before a call. -/
theorem laid1 {w w1 : World} {o : Obj} (h : Chg (w.alloc o).drew w1 (fun _ => False)) : w1.heap[w.heap.size]? = some o := h.heapB (show (w.alloc o).drew.heap[w.heap.size]? = some o from allocB w o) (fun h => h)
theorem laid2 {w w1 : World} {o : Obj} (h : Chg (w.alloc o) w1 (fun _ => False)) : w1.heap[w.heap.size]? = some o := h.heapB (allocB w o) (fun h => h)
theorem chg4 (w : World) (zb : Nat) (v0 v1 v2 v3 : Value) : Chg w ((((w.setCell ⟨zb, 0, none⟩ v0).setCell ⟨zb, 1, none⟩ v1).setCell ⟨zb, 2, none⟩ v2).setCell ⟨zb, 3, none⟩ v3) (fun k => k = zb) :=
  (((chg_setB w zb 0 v0).trans ((chg_setB _ zb 1 v1).mono (fun _ _ h => .inl h))).trans ((chg_setB _ zb 2 v2).mono (fun _ _ h => .inl h))).trans ((chg_setB _ zb 3 v3).mono (fun _ _ h => .inl h))
theorem Chg.below {w w' : World} (h : Chg w w' (fun _ => False)) : Below w.heap.size w w' := ⟨h.os, h.tape, h.output, h.size, fun k hk => h.block k hk (fun h => h)⟩
/-- A block is written whole. -/
theorem end4 {w : World} {k : Nat} {a b c d : Value} {T : TypeId} (h : w.heap[k]? = some (.cells #[a, b, c, d] T (0, 0))) (v0 v1 v2 v3 : Value) :
    ((((w.setCell ⟨k, 0, none⟩ v0).setCell ⟨k, 1, none⟩ v1).setCell ⟨k, 2, none⟩ v2).setCell ⟨k, 3, none⟩ v3).heap[k]? = some (.cells #[v0, v1, v2, v3] T (0, 0)) :=
  setB (i := 3) (v := v3) (setB (i := 2) (v := v2) (setB (i := 1) (v := v1) (setB (i := 0) (v := v0) h)))

end Go.Proofs.YtabggbajgpbmmaaGreatDoor
