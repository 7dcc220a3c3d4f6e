/- The laws' contexts; operations of the thin package at special operands. -/
import Derived.Test.YtabggbajgpbmmaaGreatDoorJ2
namespace Go.Proofs.YtabggbajgpbmmaaGreatDoor
open Go Go.RowKit

/-- A context of a precision from 1 to 60 and a mode. -/
theorem wide_c (w : World) (prec mode : Int) (m : Nat) (hp : 0 ≤ prec ∧ prec ≤ 255) (hm : 0 ≤ mode ∧ mode ≤ 255) (hmm : mode % 8 = (m : Int)) :
    Calls Tryz.prog 13 #[.int .u8 prec, .int .u8 mode] w fun e w' => e = .returned (.agg #[.int .u64 (1 + prec % 60), .int .i64 100000, .int .i64 (-100000), .int .i64 (m : Int)]) ∧ Chg w w' (fun _ => False) := by
  obtain ⟨hp1, hp2⟩ := hp
  obtain ⟨hm1, hm2⟩ := hm
  have i1 : IntKind.u64.wrap (prec % 60) = prec % 60 := IntWalk.u64_in _ (by omega)
  have i2 : IntKind.u64.wrap (1 + prec % 60) = 1 + prec % 60 := IntWalk.u64_in _ (by omega)
  rw [← hmm]
  clear hmm
  go_enter Tryz.func13, Tryz.ntmps13
  go_wp2
  exact bodyPost_ret (v := .agg #[.int .u64 (1 + prec % 60), .int .i64 100000, .int .i64 (-100000), .int .i64 (mode % 8)]) (by simp [results, Tryz.results13, go_sem]) rfl ⟨rfl, (Chg.refl w _).alloc _⟩

/-- A special form is made: as the operations' contracts want it. -/
theorem madeS (w : World) (f : Int) (n : Bool) (hf : f = 1 ∨ f = 2 ∨ f = 3) (A : Option Addr) (l c : Nat) (ex : Int) :
    Calls Tryz.prog 19 #[.agg #[.int .i64 f, .bool n, .slice A l c, .int .i64 ex]] w fun e w2 => ∃ k, e = .returned (.pointer (some ⟨k, 0, none⟩)) ∧ w.heap.size ≤ k ∧ k < w2.heap.size ∧ DecZ w2 k f n 0 ∧ Chg w w2 (fun _ => False) :=
  (madeZ_c w f n hf A l c ex).mono fun _ _ ⟨d, he, h1, h2, h3⟩ => ⟨d, he, h1, ltB h2, h2, h3⟩
theorem stS (f : Int) (n : Bool) : ∀ w1 w2 k, DecZ w1 k f n 0 → Chg w1 w2 (fun _ => False) → DecZ w2 k f n 0 := fun _ _ _ h hc => h.chg hc (fun h => h)
theorem SpR.ret {w : World} {d r : Nat} {f : Int} {n : Bool} : ∀ e w', SpR w d r f n e w' → ∃ r : Int, e = .returned (.tuple #[.int .u32 r, .nilIface]) := fun _ _ h => ⟨_, h.1⟩

/-- What is told where the answer is infinite or no number. -/
def QSp (f0 : Int) (n0 : Bool) (cn0 : Int) (f : Int) (n : Bool) (_A : Option Addr) (_l _c : Nat) (_e cn : Int) (ok : Bool) (_w : World) : Prop := f = f0 ∧ n = n0 ∧ cn = cn0 ∧ ok = true
theorem told_of {w : World} {f : Int} {n : Bool} {cn : Int} {F : FuncId} {args : Array Value}
    (h : Calls Tryz.prog F args w fun e w' => e = .returned (.tuple #[.agg #[.int .i64 f, .bool n, .slice none 0 0, .int .i64 0], .int .i64 cn, .bool true]) ∧ Chg w w' (fun _ => False)) : Calls Tryz.prog F args w (Told w (QSp f n cn)) :=
  h.mono fun _ _ ⟨he, hc⟩ => ⟨f, n, none, 0, 0, 0, cn, true, he, ⟨rfl, rfl, rfl, rfl⟩, hc⟩
theorem QSp.st {f0 : Int} {n0 : Bool} {cn0 : Int} : ∀ f n A l c e cn ok w1 w2, QSp f0 n0 cn0 f n A l c e cn ok w1 → Chg w1 w2 (DecBlk w1) → QSp f0 n0 cn0 f n A l c e cn ok w2 := fun _ _ _ _ _ _ _ _ _ _ h _ => h
end Go.Proofs.YtabggbajgpbmmaaGreatDoor
