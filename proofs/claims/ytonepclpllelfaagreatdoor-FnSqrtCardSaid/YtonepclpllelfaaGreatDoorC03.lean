/- What every law's row leans on: a call that turns nothing that was there, and the listed variables. -/
import Derived.Test.YtonepclpllelfaaGreatDoorRows
import Derived.WalkKit
import Derived.ProofKit
import Derived.OpenShut
import Derived.OpenVars
import Derived.Deep.DeepHandedRow
import Derived.Lib.LaidTab
import Derived.Lib.SmallJoins
namespace Go.Proofs.YtonepclpllelfaaGreatDoor
open Go.ChangeShapes Go.WideShapes Go.ChangeAt Go.RowKit

theorem trodAll_stays {H : Type} {enc : TypeId × Value → H} {P : Program} (hl : laidOutB P = true) {W W' : World} (hb : Below W.heap.size W W') {sp' : Nat → Bool} :
    ∀ {ts : List TypeId} {vs : List Value} {ds : List (DataW H)} {ps : List MemPlace}, (ts.all fun t => P.readableRec t && decide (t < P.types.size)) = true → DataW.TrodAll enc P W 0 (fun _ => true) true ts vs ds ps →
      (∀ p ∈ ps, p.block < W.heap.size) → (∀ p ∈ ps, sp' p.block = true) → DataW.TrodAll enc P W' 0 sp' true ts vs ds ps
  | [], vs, ds, ps, _, h, _, _ => by
    obtain ⟨rfl, rfl, rfl⟩ := trodAll_nil h
    exact trodAll_mk0
  | t :: ts, vs, ds, ps, hr, h, hlt, hs => by
    obtain ⟨v, vs', d, ds', p, p', rfl, rfl, rfl, h0, h1⟩ := trodAll_cons h
    simp only [List.all_cons, Bool.and_eq_true, decide_eq_true_eq] at hr
    exact trodAll_cons_mk (WideElems.Trod_stays hl hr.1.1 hr.1.2 h0 (fun x hx => hb.same (hlt x (by simp [hx]))) (fun x hx => hs x (by simp [hx])))
      (trodAll_stays hl hb (by simpa using hr.2) h1 (fun x hx => hlt x (by simp [hx])) (fun x hx => hs x (by simp [hx])))

theorem post_ro {H : Type} {enc : TypeId × Value → H} {P : Program} {f : Func} {s : ChangeSpec} {W W' : World} {args : Array Value} {ds gs : List (DataW H)} {before : List MemPlace} {T : TypeId}
    (hl : laidOutB P = true) (hp : (f.params.toList.all fun t => P.readableRec t && decide (t < P.types.size)) = true) (hv : varsRowed P s.vars = true)
    (hW : DataW.Whole enc P f.params.toList s.vars false W args.toList ds gs before) (hr : f.resultTypes = #[T]) (hT : P.underlying T = some .bool)
    (hfn : s.fn H (ds ++ gs) = { results := [.lit (.bool true)], args := ds, vars := gs }) (hb : Below W.heap.size W W') :
    s.post enc P f false true false false W args (.bool true) W' := by
  have hlt : ∀ p ∈ before, p.block < W.heap.size := fun p hp => hW.lt p hp
  have hW' := hW
  obtain ⟨p, q, hA, hV, rfl, hz, hn⟩ := hW
  have hltp : ∀ x ∈ p, x.block < W.heap.size := fun x hx => hlt x (List.mem_append.2 (.inl hx))
  refine ⟨ds, gs, p ++ q, [], p, q, hW', ?_, ?_, ?_, World.keptBut_mono (fun x hx => ⟨hx, ?_⟩) (hb.frame (· ∈ p ++ q)), fun h => by cases h⟩
  · rw [hfn, hr]
    exact trodAll_cons_mk (shut_bool hT true) trodAll_mk0
  · rw [hfn]
    exact trodAll_stays hl hb hp hA hltp (fun x hx => by simpa using hltp x hx)
  · rw [hfn]
    exact Below.trodVars hl hb hv hV
  · rcases List.mem_append.1 hx with h | h
    · exact .inr (.inl h)
    · exact .inr (.inr h)

/-- A listed variable that is a number. -/
theorem laid_int {P : Program} {w : World} {k : IntKind} {x : Int} {n : String} {g : Nat} {t : TypeId} (hg : P.globalNamed n = some g) (hty : (P.globals[g]?).map (·.type) = some t) (ht : P.underlying t = some (.int k)) :
    ∀ {l : List (String × DataW Unit)} {ps : List MemPlace}, DataW.LaidVars P w l ps → (n, DataW.lit (.int k x)) ∈ l → w.cell? ⟨g, 0, none⟩ = some (.int k x)
  | [], _, _, h => by cases h
  | (n', d) :: l, ps, hl, h => by
    obtain ⟨g', t', cs, fuel, p, q, hg', ht', hvar, hd, hrest, _⟩ := hl
    rcases List.mem_cons.1 h with he | he
    · obtain ⟨rfl, rfl⟩ : n = n' ∧ DataW.lit (.int k x) = d := by injection he with a b; exact ⟨a, b⟩
      obtain rfl := Option.some.inj (hg.symm.trans hg')
      obtain rfl := Option.some.inj (hty.symm.trans ht')
      obtain ⟨y, hc, hy, _⟩ := DataW.trod_int ht hd
      simp only [Prod.mk.injEq, DataW.lit.injEq, Lit.int.injEq, true_and] at hy
      obtain ⟨rfl, _⟩ := hy
      have h0 : cs[0]? = some (.int k x) := by
        have := congrArg (fun l : List Value => l[0]?) hc
        simpa using this
      rw [World.var?_cell hg hvar 0, h0]
    · exact laid_int hg hty ht hrest he

theorem laidOut : laidOutB Tryz.prog = true := by kernel_rfl
theorem own : ownKnob Tryz.prog.godebug = none := by kernel_rfl
end Go.Proofs.YtonepclpllelfaaGreatDoor
