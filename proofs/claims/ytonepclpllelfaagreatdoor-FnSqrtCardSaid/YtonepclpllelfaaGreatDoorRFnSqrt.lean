/- FnSqrt of the set holds for every input. Conditions: the listed package-level variables start as the program's text lays them (tied by the card). -/
import Derived.Test.YtonepclpllelfaaGreatDoorFFnSqrt
import Derived.Test.YtonepclpllelfaaGreatDoorCards
import Derived.Test.YtonepclpllelfaaGreatDoorTie
import Derived.Test.YtonepclpllelfaaGreatDoorC10
import Derived.Test.YtonepclpllelfaaGreatDoorKFnSqrt
namespace Go.Proofs.YtonepclpllelfaaGreatDoor.fnSqrt
open Go.ChangeShapes Go.WideShapes Go.ChangeAt Go.RowKit Go.Joins

set_option maxRecDepth 100000 in
theorem contract (H : Type) (enc : TypeId × Value → H) (W : World) (base : Nat) (args : Array Value) (ds gs : List (DataW H)) (before : List MemPlace)
    (hval : ∀ (j : Nat) t v, Tryz.f3.params[j]? = some t → args[j]? = some v → Value.okWide Tryz.prog W .any base t v)
    (hW : DataW.Whole enc Tryz.prog Tryz.f3.params.toList Rows.fnSqrtSpec.vars false W args.toList ds gs before) (hL : laidMetH Tryz.prog Rows.fnSqrtRow.laid W) :
    Calls Tryz.prog 3 args W fun e W' => ∃ v, e = .returned v ∧ Rows.fnSqrtSpec.post enc Tryz.prog Tryz.f3 false true false false W args v W' := by
  have hG := glob_of_laid hL
  have hW' := hW
  obtain ⟨p, q, hA0, hV, rfl, hfz, hnd⟩ := hW
  have hA : DataW.TrodAll enc Tryz.prog W 0 (fun _ => true) true Tryz.f3.params.toList args.toList ds p := hA0
  rw [Tryz.params3] at hA hval
  obtain ⟨v0, vs0, d0, ds0, p0, q0, hargs, rfl, rfl, h0, r0⟩ := trodAll_cons hA
  obtain ⟨v1, vs1, d1, ds1, p1, q1, rfl, rfl, rfl, h1, r1⟩ := trodAll_cons r0
  obtain ⟨v2, vs2, d2, ds2, p2, q2, rfl, rfl, rfl, h2, r2⟩ := trodAll_cons r1
  obtain ⟨rfl, rfl, rfl⟩ := trodAll_nil r2
  obtain rfl : args = #[v0, v1, v2] := Array.ext' hargs
  obtain ⟨x0, rfl, rfl, rfl, w0⟩ := open_int Tryz.underlying5 (hval 0 5 v0 rfl rfl) h0
  obtain ⟨x1, rfl, rfl, rfl, w1⟩ := open_int Tryz.underlying5 (hval 1 5 v1 rfl rfl) h1
  obtain ⟨f2, n2, A2, l2, c2, X2, e2, rfl, o2⟩ := open_dec (hval 2 24 v2 rfl rfl) h2
  refine (FnSqrt_walk x0 x1 f2 n2 A2 l2 c2 X2 e2 W hG (bounds_u8 w0) (bounds_u8 w1) o2).mono fun e W' ⟨he, hb⟩ => ⟨_, he, ?_⟩
  obtain ⟨g1, g2, g3, g4, g5, rfl⟩ : ∃ g1 g2 g3 g4 g5, gs = [g1, g2, g3, g4, g5] := five_of (trodVars_len hV)
  exact post_ro laidOut (by kernel_rfl) (by kernel_rfl) hW' rfl Tryz.underlying4 rfl hb

theorem laid_met (os : Os) : laidMet Tryz.prog Rows.fnSqrtRow.laid ((laidWorld os).forCall (fun _ _ => 0) ⟨#[], #[.int .u8 0, .int .u8 0, .agg #[.int .i64 0, .bool false, .slice none 0 0, .int .i64 0]], []⟩).memory :=
  laidMet_of_run' 8 (by kernel_rfl) (by kernel_rfl)
theorem reads (os : Os) {H : Type} (enc : TypeId × Value → H) : ∃ (x : List (DataW H) × List (DataW H)) (places : List MemPlace), DataW.whole enc Tryz.prog ((laidWorld os).forCall (fun _ _ => 0) ⟨#[], #[.int .u8 0, .int .u8 0, .agg #[.int .i64 0, .bool false, .slice none 0 0, .int .i64 0]], []⟩).memory Tryz.f3.params.toList Rows.fnSqrtSpec.vars false (#[.int .u8 0, .int .u8 0, .agg #[.int .i64 0, .bool false, .slice none 0 0, .int .i64 0]] : Array Value).toList 8 = some (x.1, x.2, places) :=
  ⟨([.lit (.int .u8 0), .lit (.int .u8 0), .agg [.lit (.int .i64 0), .lit (.bool false), .nil, .lit (.int .i64 0)]], [.lit (.int .i64 8), .lit (.int .i64 40), .lit (.int .i64 40), .lit (.int .i64 12), .lit (.int .i64 80)]), [.cell 6 0, .cell 3 0, .cell 2 0, .cell 0 0, .cell 1 0], by kernel_rfl⟩

set_option maxRecDepth 100000 in
theorem lifted (os : Os) (started : os.Started) (H : Type) (enc : TypeId × Value → H) (F : Stop.Interp) :
    ReturnsInHanded {} Tryz.checked os 3 .any ((OpenSpec.ofChange Rows.fnSqrtSpec).preRow enc Tryz.prog Tryz.f3 Rows.fnSqrtRow.domain false Rows.fnSqrtRow.laid) (((OpenSpec.ofChange Rows.fnSqrtSpec).at F).post enc Tryz.prog Tryz.f3 false true false false) := by
  obtain ⟨x, places, hx⟩ := reads os enc
  refine returnsInHanded_of_row (C := Tryz.checked) (s := OpenSpec.ofChange Rows.fnSqrtSpec) own started (by kernel_rfl) Tryz.func3
    (witness_row_at (enc := enc) (C := Tryz.checked) false (laidWorld os) #[.int .u8 0, .int .u8 0, .agg #[.int .i64 0, .bool false, .slice none 0 0, .int .i64 0]] rfl (by kernel_rfl) (by kernel_rfl) (by kernel_rfl)
      (OpenSpec.preRow_of_cond 8 hx (by kernel_rfl) (fun k hk => by cases hk) (by kernel_rfl) (laid_met os))) ?_
  intro W base args ds gs before hval hW _ _ _ hL _ _
  exact contract H enc W base args ds gs before hval hW hL

set_option maxRecDepth 1000000 in
theorem closed : joinedFacts Tryz.prog 3 Tryz.f3 (OpenSpec.ofChange Rows.fnSqrtSpec).bare Rows.fnSqrtRow = true := by
  unfold joinedFacts
  exact band (band (band (band (band (band (band (band (band (band (band (band (band (band (band (band (band (band (band (band (band (band (band (band (band (band (band (band (band (band (band (k0) laidOut) fact2) k3) k4) k5) fact6) k7) fact8) k9) k10) k11) k12) k13) k14) k15) k16) k17) k18) k19) k20) k21) fact22) k23) fact24) fact25) fact26) fact27) k28) k29) k30) k31

theorem said : Rows.FnSqrtSaid :=
  OpenClaim.holds_of_cond 3 Tryz.f3 rfl rfl rfl rfl rfl rfl rfl ⟨rfl, rfl, rfl, rfl, rfl⟩ rfl rfl rfl rfl rfl (by kernel_rfl) Tryz.func3 closed
    (of_decide_eq_true (by kernel_rfl)) (by unfold Func.isWrapper; rw [if_neg (of_decide_eq_false (by kernel_rfl))]; exact ⟨rfl, rfl⟩)
    (fun os started H enc _ F => by rw [OpenClaim.pre_eq_preRow]; exact lifted os started H enc F)

theorem plain (f : FuncId) (fn : Func) (hf : Tryz.pinned.checked.prog.funcNamed "loop.example/pub-g03241/laws.FnSqrt" = some f) (hfn : Tryz.pinned.checked.prog.funcs[f]? = some fn) :
    false = Tryz.pinned.checked.prog.looks [] ∧ ∀ (j : Nat) t, fn.params[j]? = some t → Tryz.pinned.checked.prog.wantsStandIn t = false := by
  obtain rfl : f = 3 := Option.some.inj ((show Tryz.prog.funcNamed "loop.example/pub-g03241/laws.FnSqrt" = some 3 by kernel_rfl).symm.trans hf) |>.symm
  obtain rfl : fn = Tryz.f3 := (Option.some.inj (Tryz.func3.symm.trans hfn)).symm
  refine ⟨by kernel_rfl, fun j t ht => ?_⟩
  have hall : (Tryz.f3.params.toList.all fun t => Tryz.prog.wantsStandIn t == false) = true := by kernel_rfl
  have := List.all_eq_true.1 hall t (by have := Array.mem_of_getElem? ht; simpa using this)
  have h2 : Tryz.prog.wantsStandIn t = false := by simpa using this
  exact h2

theorem card : Rows.FnSqrtCardSaid :=
  Claim7.holds_tied_plain_at .later [] _ _ _ _ said (fun _ h => by cases h) (by kernel_rfl) (fun _ h => by cases h) fnSqrt_row_tie rfl ⟨rfl, rfl⟩ (by kernel_rfl) rfl plain (by kernel_rfl)
end Go.Proofs.YtonepclpllelfaaGreatDoor.fnSqrt
