/- Signs; sums of infinities. What every law's row leans on: a call that turns nothing that was there, and the listed variables. A decimal as plain data that comes in. impl.whole: words that come in, as a number. -/
import Derived.Test.YtlnillnngckegaaGreatDoorRows
import Derived.WalkKit
import Derived.ProofKit
import Derived.OpenShut
import Derived.OpenVars
import Derived.Deep.DeepHandedRow
import Derived.Lib.LaidTab
import Derived.Lib.SmallJoins
import Derived.Laws.OwnMore
import Derived.Test.YtlnillnngckegaaGreatDoorM02
import Derived.Test.YtlnillnngckegaaGreatDoorM11
import Derived.Test.YtlnillnngckegaaGreatDoorM14
namespace Go.Proofs.YtlnillnngckegaaGreatDoor
open Go Go.RowKit

/-- A decimal in memory: form, sign, exponent, coefficient (in a place of its own). -/
def DecA (w : World) (b : Nat) (form : Int) (neg : Bool) (exp : Int) (N : Nat) (o : Option Nat) : Prop :=
  ∃ v, w.heap[b]? = some (.cells #[.int .i8 form, .bool neg, .int .i32 exp, .bool false, v, .bool false] 56 (0, 0)) ∧ IsNat w v N o
theorem DecZ.toA {w : World} {b : Nat} {f e : Int} {n : Bool} (h : DecZ w b f n e) : DecA w b f n e 0 none := ⟨_, h, IsNat.zero w⟩
theorem DecA.chg {w w' : World} {S : Nat → Prop} {b : Nat} {f e : Int} {n : Bool} {N : Nat} {o : Option Nat} (h : DecA w b f n e N o) (hc : Chg w w' S) (hn : ¬ S b) (ho : ∀ k, o = some k → ¬ S k) : DecA w' b f n e N o := by
  obtain ⟨v, h1, h2⟩ := h
  exact ⟨v, hc.heapB h1 hn, h2.chg hc ho⟩
theorem DecA.drewN {w : World} {b : Nat} {f e : Int} {n : Bool} {N : Nat} {o : Option Nat} (h : DecA w b f n e N o) (k : Nat) : DecA (w.drewN k) b f n e N o := h.chg (S := fun _ => False) ((Chg.refl w _).drewN k) (fun h => h) (fun _ _ h => h)
theorem DecA.c0 {w : World} {b : Nat} {f e : Int} {n : Bool} {N : Nat} {o : Option Nat} (h : DecA w b f n e N o) : w.cell? ⟨b, 0, none⟩ = some (.int .i8 f) := by obtain ⟨v, h, _⟩ := h; exact cellB h rfl
theorem DecA.c1 {w : World} {b : Nat} {f e : Int} {n : Bool} {N : Nat} {o : Option Nat} (h : DecA w b f n e N o) : w.cell? ⟨b, 1, none⟩ = some (.bool n) := by obtain ⟨v, h, _⟩ := h; exact cellB h rfl
theorem DecA.c2 {w : World} {b : Nat} {f e : Int} {n : Bool} {N : Nat} {o : Option Nat} (h : DecA w b f n e N o) : w.cell? ⟨b, 2, none⟩ = some (.int .i32 e) := by obtain ⟨v, h, _⟩ := h; exact cellB h rfl
theorem DecA.c3 {w : World} {b : Nat} {f e : Int} {n : Bool} {N : Nat} {o : Option Nat} (h : DecA w b f n e N o) : w.cell? ⟨b, 3, none⟩ = some (.bool false) := by obtain ⟨v, h, _⟩ := h; exact cellB h rfl
theorem DecA.c4 {w : World} {b : Nat} {f e : Int} {n : Bool} {N : Nat} {o : Option Nat} (h : DecA w b f n e N o) : ∃ v, w.cell? ⟨b, 4, none⟩ = some v ∧ IsNat w v N o := by obtain ⟨v, h, h2⟩ := h; exact ⟨v, cellB h rfl, h2⟩
theorem DecA.c5 {w : World} {b : Nat} {f e : Int} {n : Bool} {N : Nat} {o : Option Nat} (h : DecA w b f n e N o) : w.cell? ⟨b, 5, none⟩ = some (.bool false) := by obtain ⟨v, h, _⟩ := h; exact cellB h rfl
theorem DecA.lt {w : World} {b : Nat} {f e : Int} {n : Bool} {N : Nat} {o : Option Nat} (h : DecA w b f n e N o) : b < w.heap.size := by obtain ⟨v, h, _⟩ := h; exact ltB h

/-- -1, 0 or 1. -/
def sgN (n : Bool) (N : Nat) : Int := if N = 0 then 0 else if n then -1 else 1

theorem intSign_c (w : World) (b o : Nat) (n : Bool) (N : Nat) (v : Value) (ob : Option Nat) (h0 : w.cell? ⟨b, o, none⟩ = some (.bool n)) (h1 : w.cell? ⟨b, o + 1, none⟩ = some v) (hv : IsNat w v N ob) :
    Calls Tryz.prog 121 #[.pointer (some ⟨b, o, none⟩)] w fun e w' => e = .returned (.int .i64 (sgN n N)) ∧ w = w' := by
  obtain ⟨p, c, rfl, hl, hc⟩ := hv.shape
  clear hv
  by_cases hN : N = 0
  · subst hN
    have hs : sgN n 0 = 0 := by simp [sgN]
    rw [digs_zero] at h1 hl
    replace hs := Lib.hid hs
    go_enter Tryz.func121, Tryz.ntmps121
    go_wp2
    go_ret
    exact ⟨by rw [hs.out]; rfl, rfl⟩
  · have e0 := int_eq0 (digs_len_pos hN)
    have hs : sgN n N = if n then -1 else 1 := by simp [sgN, hN]
    replace hs := Lib.hid hs
    generalize (digs N).length = L at *
    cases n
    · go_enter Tryz.func121, Tryz.ntmps121
      go_wp2
      go_ret
      exact ⟨by rw [hs.out]; rfl, rfl⟩
    · go_enter Tryz.func121, Tryz.ntmps121
      go_wp2
      go_ret
      exact ⟨by rw [hs.out]; rfl, rfl⟩

theorem bigSign_c (w : World) (b o : Nat) (n : Bool) (N : Nat) (v : Value) (ob : Option Nat) (h0 : w.cell? ⟨b, o, none⟩ = some (.bool n)) (h1 : w.cell? ⟨b, o + 1, none⟩ = some v) (h2 : w.cell? ⟨b, o + 2, none⟩ = some (.bool false)) (hv : IsNat w v N ob) :
    Calls Tryz.prog 93 #[.pointer (some ⟨b, o, none⟩)] w fun e w' => e = .returned (.int .i64 (sgN n N)) ∧ w = w' := by
  have key := intSign_c w b o n N v ob h0 h1 hv
  clear hv h0 h1
  go_enter Tryz.func93, Tryz.ntmps93
  go_wp2_with fail
  refine key.mono ?_
  rintro e w' ⟨rfl, hw⟩
  obtain rfl := hw
  go_wp2
  go_ret
  exact ⟨rfl, rfl⟩

/-- The sign of a decimal: of a finite one by its coefficient. -/
def sgD (f : Int) (n : Bool) (N : Nat) : Int := if f = 0 ∧ N = 0 then 0 else if n then -1 else 1
theorem decSign_c (w : World) (b : Nat) (f e : Int) (n : Bool) (N : Nat) (o : Option Nat) (h : DecA w b f n e N o) (hf : 0 ≤ f ∧ f ≤ 3) :
    Calls Tryz.prog 79 #[.pointer (some ⟨b, 0, none⟩)] w fun e w' => e = .returned (.int .i64 (sgD f n N)) ∧ w = w' := by
  have h0 := h.c0
  have h1 := h.c1
  by_cases hf0 : f = 0
  · subst hf0
    obtain ⟨v, h4, hv⟩ := h.c4
    have key := bigSign_c w b 3 false N v o h.c3 h4 h.c5 hv
    by_cases hN : N = 0
    · subst hN
      have hs : sgD 0 n 0 = 0 := by simp [sgD]
      have hz : sgN false 0 = 0 := by simp [sgN]
      rw [hz] at key
      replace hs := Lib.hid hs
      clear h h4 hv hf
      go_enter Tryz.func79, Tryz.ntmps79
      go_wp2_with fail
      refine key.mono ?_
      rintro e w' ⟨rfl, hw⟩
      obtain rfl := hw
      go_wp2
      go_ret
      exact ⟨by rw [hs.out]; rfl, rfl⟩
    · have hs : sgD 0 n N = if n then -1 else 1 := by simp [sgD, hN]
      have hz : sgN false N = 1 := by simp [sgN, hN]
      rw [hz] at key
      replace hs := Lib.hid hs
      replace hN := Lib.hid hN
      clear h h4 hv hf
      cases n
      all_goals
        go_enter Tryz.func79, Tryz.ntmps79
        go_wp2_with fail
        refine key.mono ?_
        rintro e w' ⟨rfl, hw⟩
        obtain rfl := hw
        go_wp2
        go_ret
        exact ⟨by rw [hs.out]; rfl, rfl⟩
  · have hs : sgD f n N = if n then -1 else 1 := by simp [sgD, hf0]
    have e0 : (f == 0) = false := by simp [hf0]
    replace hs := Lib.hid hs
    clear h
    cases n
    all_goals
      go_enter Tryz.func79, Tryz.ntmps79
      go_wp2
      go_ret
      exact ⟨by rw [hs.out]; rfl, rfl⟩

theorem isZero_c (w : World) (b : Nat) (f e : Int) (n : Bool) (N : Nat) (o : Option Nat) (h : DecA w b f n e N o) (hf : 0 ≤ f ∧ f ≤ 3) :
    Calls Tryz.prog 56 #[.pointer (some ⟨b, 0, none⟩)] w fun e w' => e = .returned (.bool (decide (f = 0 ∧ N = 0))) ∧ w = w' := by
  have key := decSign_c w b f e n N o h hf
  by_cases hz : f = 0 ∧ N = 0
  · have hs : sgD f n N = 0 := by simp [sgD, hz]
    rw [hs] at key
    have hd : decide (f = 0 ∧ N = 0) = true := by simp [hz]
    rw [hd]
    clear h hz hs hd
    go_enter Tryz.func56, Tryz.ntmps56
    go_wp2_with fail
    refine key.mono ?_
    rintro e w' ⟨rfl, hw⟩
    obtain rfl := hw
    go_wp2
    go_ret
    exact ⟨rfl, rfl⟩
  · have hs : sgD f n N = if n then -1 else 1 := by simp only [sgD]; rw [if_neg hz]
    rw [hs] at key
    have hd : decide (f = 0 ∧ N = 0) = false := by simp [hz]
    rw [hd]
    clear h hz hs hd
    cases n
    all_goals
      go_enter Tryz.func56, Tryz.ntmps56
      go_wp2_with fail
      refine key.mono ?_
      rintro e w' ⟨rfl, hw⟩
      obtain rfl := hw
      go_wp2
      go_ret
      exact ⟨rfl, rfl⟩
end Go.Proofs.YtlnillnngckegaaGreatDoor

namespace Go.Proofs.YtlnillnngckegaaGreatDoor
open Go.ChangeShapes Go.WideShapes Go.ChangeAt Go.RowKit

theorem trodAll_stays {H : Type} {enc : TypeId × Value → H} {P : Program} (hl : laidOutB P = true) {W W' : World} (hb : Below W.heap.size W W') {sp' : Nat → Bool} :
    ∀ {ts : List TypeId} {vs : List Value} {ds : List (DataW H)} {ps : List MemPlace}, (ts.all fun t => P.readableRec t && decide (t < P.types.size)) = true → DataW.TrodAll enc P W 0 (fun _ => true) true ts vs ds ps →
      (∀ p ∈ ps, p.block < W.heap.size) → (∀ p ∈ ps, sp' p.block = true) → DataW.TrodAll enc P W' 0 sp' true ts vs ds ps
  | [], vs, ds, ps, _, h, _, _ => by
    obtain ⟨rfl, rfl, rfl⟩ := trodAll_nil h
    exact trodAll_mk0
  | t :: ts, vs, ds, ps, hr, h, hlt, hs => by
    obtain ⟨v, vs', d, ds', p, p', rfl, rfl, rfl, h0, h1⟩ := trodAll_cons h
    simp only [List.all_cons, Bool.and_eq_true, decide_eq_true_eq] at hr
    exact trodAll_cons_mk (WideElems.Trod_stays hl hr.1.1 hr.1.2 h0 (fun x hx => hb.same (hlt x (by simp [hx]))) (fun x hx => hs x (by simp [hx])))
      (trodAll_stays hl hb (by simpa using hr.2) h1 (fun x hx => hlt x (by simp [hx])) (fun x hx => hs x (by simp [hx])))

theorem post_ro {H : Type} {enc : TypeId × Value → H} {P : Program} {f : Func} {s : ChangeSpec} {W W' : World} {args : Array Value} {ds gs : List (DataW H)} {before : List MemPlace} {T : TypeId}
    (hl : laidOutB P = true) (hp : (f.params.toList.all fun t => P.readableRec t && decide (t < P.types.size)) = true) (hv : varsRowed P s.vars = true)
    (hW : DataW.Whole enc P f.params.toList s.vars false W args.toList ds gs before) (hr : f.resultTypes = #[T]) (hT : P.underlying T = some .bool)
    (hfn : s.fn H (ds ++ gs) = { results := [.lit (.bool true)], args := ds, vars := gs }) (hb : Below W.heap.size W W') :
    s.post enc P f false true false false W args (.bool true) W' := by
  have hlt : ∀ p ∈ before, p.block < W.heap.size := fun p hp => hW.lt p hp
  have hW' := hW
  obtain ⟨p, q, hA, hV, rfl, hz, hn⟩ := hW
  have hltp : ∀ x ∈ p, x.block < W.heap.size := fun x hx => hlt x (List.mem_append.2 (.inl hx))
  refine ⟨ds, gs, p ++ q, [], p, q, hW', ?_, ?_, ?_, World.keptBut_mono (fun x hx => ⟨hx, ?_⟩) (hb.frame (· ∈ p ++ q)), fun h => by cases h⟩
  · rw [hfn, hr]
    exact trodAll_cons_mk (shut_bool hT true) trodAll_mk0
  · rw [hfn]
    exact trodAll_stays hl hb hp hA hltp (fun x hx => by simpa using hltp x hx)
  · rw [hfn]
    exact Below.trodVars hl hb hv hV
  · rcases List.mem_append.1 hx with h | h
    · exact .inr (.inl h)
    · exact .inr (.inr h)

/-- A listed variable that is a number. -/
theorem laid_int {P : Program} {w : World} {k : IntKind} {x : Int} {n : String} {g : Nat} {t : TypeId} (hg : P.globalNamed n = some g) (hty : (P.globals[g]?).map (·.type) = some t) (ht : P.underlying t = some (.int k)) :
    ∀ {l : List (String × DataW Unit)} {ps : List MemPlace}, DataW.LaidVars P w l ps → (n, DataW.lit (.int k x)) ∈ l → w.cell? ⟨g, 0, none⟩ = some (.int k x)
  | [], _, _, h => by cases h
  | (n', d) :: l, ps, hl, h => by
    obtain ⟨g', t', cs, fuel, p, q, hg', ht', hvar, hd, hrest, _⟩ := hl
    rcases List.mem_cons.1 h with he | he
    · obtain ⟨rfl, rfl⟩ : n = n' ∧ DataW.lit (.int k x) = d := by injection he with a b; exact ⟨a, b⟩
      obtain rfl := Option.some.inj (hg.symm.trans hg')
      obtain rfl := Option.some.inj (hty.symm.trans ht')
      obtain ⟨y, hc, hy, _⟩ := DataW.trod_int ht hd
      simp only [Prod.mk.injEq, DataW.lit.injEq, Lit.int.injEq, true_and] at hy
      obtain ⟨rfl, _⟩ := hy
      have h0 : cs[0]? = some (.int k x) := by
        have := congrArg (fun l : List Value => l[0]?) hc
        simpa using this
      rw [World.var?_cell hg hvar 0, h0]
    · exact laid_int hg hty ht hrest he

theorem laidOut : laidOutB Tryz.prog = true := by kernel_rfl
theorem own : ownKnob Tryz.prog.godebug = none := by kernel_rfl
end Go.Proofs.YtlnillnngckegaaGreatDoor

namespace Go.Proofs.YtlnillnngckegaaGreatDoor
open Go.ChangeShapes Go.WideShapes Go.ChangeAt Go.RowKit Go.Joins

/-- A row of words that is read. -/
structure RdW (w : World) (A : Option Addr) (l c : Nat) (X : List Nat) : Prop where
  len : X.length = l
  cap : l ≤ c
  max : c ≤ 9223372036854775807
  wd : Wd X
  cells : 0 < l → ∃ ad, A = some ad ∧ ∀ j, j < l → w.cell? (ad.add j) = some (.int .u64 (nth X j : Int))
theorem RdW.below {w w' : World} {A : Option Addr} {l c : Nat} {X : List Nat} (h : RdW w A l c X) (hb : Below w.heap.size w w') : RdW w' A l c X :=
  ⟨h.len, h.cap, h.max, h.wd, fun hl => by
    obtain ⟨ad, e, hc⟩ := h.cells hl
    exact ⟨ad, e, fun j hj => (hb.cell (World.block_lt_of_cell? w _ (hc j hj))).trans (hc j hj)⟩⟩

/-- A decimal as plain data that comes in: form, sign, words, exponent. -/
structure DecIn (w : World) (f : Int) (A : Option Addr) (l c : Nat) (X : List Nat) (e : Int) : Prop where
  rd : RdW w A l c X
  form : -9223372036854775808 ≤ f ∧ f ≤ 9223372036854775807
  exp : -9223372036854775808 ≤ e ∧ e ≤ 9223372036854775807
theorem DecIn.below {w w' : World} {f e : Int} {A : Option Addr} {l c : Nat} {X : List Nat} (h : DecIn w f A l c X e) (hb : Below w.heap.size w w') : DecIn w' f A l c X e := ⟨h.rd.below hb, h.form, h.exp⟩

theorem cellsDec : Tryz.prog.cellsOf 24 = 4 := by kernel_rfl
theorem cellsUint : Tryz.prog.cellsOf 32 = 1 := by kernel_rfl
set_option maxRecDepth 100000 in
theorem open_dec {H : Type} {enc : TypeId × Value → H} {w : World} {base b0 : Nat} {spare : Nat → Bool} {held : Bool} {r : Reach} {v : Value} {d : DataW H} {p : List MemPlace}
    (hv : Value.okWide Tryz.prog w r b0 24 v) (h : DataW.Trod enc Tryz.prog w base spare held 24 v d p) :
    ∃ (f : Int) (n : Bool) (A : Option Addr) (l c : Nat) (X : List Nat) (e : Int), v = .agg #[.int .i64 f, .bool n, .slice A l c, .int .i64 e] ∧ DecIn w f A l c X e := by
  obtain ⟨v0, v1, v2, v3, y0, y1, y2, y3, m, rfl, rfl, rfl, h0, h1, h2, h3⟩ := open_agg4 Tryz.underlying24 (by kernel_rfl) cellsDec hv h
  obtain ⟨f, e0, _, wf⟩ := DataW.trod_int Tryz.underlying3 h0
  obtain ⟨n, e1, _⟩ := DataW.trod_bool Tryz.underlying4 h1
  obtain ⟨e, e3, _, we⟩ := DataW.trod_int Tryz.underlying3 h3
  have bf := bounds_i64 wf
  have be := bounds_i64 we
  simp only [List.cons.injEq, and_true] at e0 e1 e3
  subst e0 e1 e3
  rcases open_ints Tryz.underlying22 Tryz.underlying32 cellsUint h2 with ⟨e2, _⟩ | ⟨a, len, cap, zs, e2, _, hl, hm, hz, _, hc, hw⟩
  · simp only [List.cons.injEq, and_true] at e2
    subst e2
    exact ⟨f, n, none, 0, 0, [], e, rfl, ⟨rfl, Nat.le_refl _, Nat.zero_le _, Wd.nil, fun h => by omega⟩, bf, be⟩
  · simp only [List.cons.injEq, and_true] at e2
    subst e2
    have hlen : len ≤ zs.length := by rw [hz]; split <;> omega
    have hr : ∀ x ∈ zs, 0 ≤ x ∧ x ≤ 18446744073709551615 := fun x hx => bounds_u64 (hw x hx)
    refine ⟨f, n, some a, len, cap, (zs.take len).map Int.toNat, e, rfl, ⟨by simp; omega, hl, by unfold maxLen at hm; omega, ?_, fun _ => ⟨a, rfl, fun j hj => ?_⟩⟩, bf, be⟩
    · intro x hx
      obtain ⟨y, hy, rfl⟩ := List.mem_map.1 hx
      have := hr y (List.mem_of_mem_take hy)
      rw [WB_eq]; omega
    · rw [hc j (by omega)]
      have h1 : zs[j]? = some (zs[j]'(by omega)) := List.getElem?_eq_getElem (by omega)
      have h2 := hr _ (List.mem_of_getElem? h1)
      unfold nth
      rw [List.getElem?_map, List.getElem?_take_of_lt hj, h1, List.getD_eq_getElem?_getD, h1]
      simp
      omega
end Go.Proofs.YtlnillnngckegaaGreatDoor

namespace Go.Proofs.YtlnillnngckegaaGreatDoor
open Go Go.RowKit

/-- Words that are read at the head of a block. -/
def RdN (w : World) (b : Nat) (L : List Nat) : Prop := ∀ j, j < L.length → w.cell? ⟨b, j, none⟩ = some (.int .u64 (nth L j : Int))

set_option maxHeartbeats 400000 in
theorem norm_rd (w : World) (b cap : Nat) (L : List Nat) (hb : RdN w b L) (hW : Wd L) (hlc : L.length ≤ cap) (hn : L.length ≤ 1000000) (_hc : cap ≤ 9223372036854775807) :
    Calls Tryz.prog 100 #[.slice (some ⟨b, 0, none⟩) L.length cap] w fun e w' => e = .returned (.slice (some ⟨b, 0, none⟩) (digs (val L)).length cap) ∧ w = w' := by
  replace hb := Lib.hid hb
  obtain ⟨l, hl⟩ : ∃ l, L.length = l := ⟨_, rfl⟩
  rw [hl] at hlc hn ⊢
  replace hl := Lib.hid hl
  go_enter Tryz.func100, Tryz.ntmps100
  go_wp2
  go_loop [3] (fun i => ∃ k : Nat, k ≤ l ∧ i = .int .i64 k ∧ ∀ j, k ≤ j → j < l → nth L j = 0) (fun i => (intOf i).toNat)
  case atStart => exact ⟨l, Nat.le_refl _, rfl, fun j h1 h2 => by omega⟩
  case round =>
    obtain ⟨k, hk, rfl, hz⟩ := hrel
    replace hz := Lib.hid hz
    by_cases hk0 : k = 0
    · subst hk0
      go_wp2
      go_ret
      have := digs_val_cut hW (k := 0) (Nat.zero_le _) (fun j h1 h2 => hz.out j h1 (by rw [hl.out] at h2; exact h2)) (.inl rfl)
      exact ⟨by rw [this]; rfl, rfl⟩
    · obtain ⟨j, rfl⟩ : ∃ j, k = j + 1 := ⟨k - 1, by omega⟩
      have hcell := hb.out j (by rw [hl.out]; omega)
      by_cases h0 : nth L j = 0
      · rw [h0] at hcell
        replace h0 := Lib.hid h0
        go_wp2
        go_round
        case rel =>
          refine ⟨j, by omega, rfl, fun i h1 h2 => ?_⟩
          by_cases e : i = j
          · subst e; exact h0.out
          · exact hz.out i (by omega) h2
        case measure => simp [intOf]
      · have e0 : ((nth L j : Int) == 0) = false := by simp; omega
        replace h0 := Lib.hid h0
        go_wp2
        go_ret
        have := digs_val_cut hW (k := j + 1) (by rw [hl.out]; omega) (fun i h1 h2 => hz.out i h1 (by rw [hl.out] at h2; exact h2)) (.inr (by rw [Nat.add_sub_cancel]; exact h0.out))
        exact ⟨by rw [this]; rfl, rfl⟩

/-- The words of a number that are read, set into nothing. -/
theorem set_rd (w : World) (b cap N : Nat) (hb : RdN w b (digs N)) (h0 : N ≠ 0) (hn : (digs N).length ≤ 1000) :
    Calls Tryz.prog 99 #[.slice none 0 0, .slice (some ⟨b, 0, none⟩) (digs N).length cap] w fun e w' => ∃ r, e = .returned r ∧ NatRes w w' none r N := by
  have hpx := digs_len_pos h0
  have hmk := make_c w (.slice none 0 0) none (stor_none w) (digs N).length hpx hn
  replace hb := Lib.hid hb
  go_enter Tryz.func99, Tryz.ntmps99
  go_wp2_with fail
  refine hmk.mono ?_
  rintro e w1 ⟨r, rfl, bz, capz, C, rfl, ha, hC, hnc, hcap, hbz, hchg⟩
  have hwd := Wd_digs N
  have hsrc : ∀ j, j < (digs N).length → w1.cell? ⟨b, 0 + j, none⟩ = some (.int .u64 (nth (digs N) j : Int)) := by
    intro j hj
    rw [Nat.zero_add]
    exact hchg.cell (hb.out j hj) (fun h => h)
  have hmin : (digs N).length = Nat.min (digs N).length (digs N).length := by simp
  replace hsrc := Lib.hid hsrc
  replace hmin := Lib.hid hmin
  go_upto_region 2 with (fail)
  refine wp_region_lit ?_
  go_wp2_with (refine wpList_copyW rfl (.tmp 9) (.tmp 10) 50 50 rfl Tryz.underlying50 bz 0 _ capz b 0 _ cap rfl rfl C (digs N) ha hwd hmin.out (by omega) hsrc.out ?_)
  intro w2 hS
  go_wp2
  go_ret
  have h1 : (spl C 0 (digs N)).length = capz := by rw [spl_length (by omega), hC]
  have := natRes_of hbz hchg hS h1 hnc hcap
  rw [spl_zero_take (by omega), val_digs] at this
  exact ⟨_, rfl, this⟩

/-- An Int in a block of its own. -/
def IntBlk (w : World) (b : Nat) (n : Bool) (v : Value) : Prop := w.heap[b]? = some (.cells #[.bool n, v] 52 (0, 0))
def BigBlk (w : World) (b : Nat) (n : Bool) (v : Value) (m : Bool) : Prop := w.heap[b]? = some (.cells #[.bool n, v, .bool m] 54 (0, 0))

theorem setBits_c (w : World) (z : Nat) (n : Bool) (u : Value) (p p' : Option Addr) (l l' c c' : Nat) (hz : IntBlk w z n u)
    (hn : Calls Tryz.prog 100 #[.slice p l c] w fun e w' => e = .returned (.slice p' l' c') ∧ w = w') :
    Calls Tryz.prog 70 #[.pointer (some ⟨z, 0, none⟩), .slice p l c] w fun e w' => e = .returned (.pointer (some ⟨z, 0, none⟩)) ∧ IntBlk w' z false (.slice p' l' c') ∧ Chg w w' (fun k => k = z) := by
  have z0 : w.cell? ⟨z, 0, none⟩ = some (.bool n) := cellB hz rfl
  have z1 : w.cell? ⟨z, 1, none⟩ = some u := cellB hz rfl
  have f0 := frozenB hz 0
  have f1 := frozenB hz 1
  replace hn := Lib.hid hn
  replace hz := Lib.hid hz
  go_enter Tryz.func70, Tryz.ntmps70
  go_wp2_with fail
  with_reducible refine hn.out.mono ?_
  rintro e w' ⟨rfl, hw⟩
  obtain rfl := hw
  go_wp2
  go_ret
  exact ⟨rfl, setB (i := 0) (v := .bool false) (setB (i := 1) (v := .slice p' l' c') hz.out), (chg_setB w z 1 _).trans ((chg_setB _ z 0 _).mono (fun _ _ h => .inl h))⟩

/-- What an Int is after a number is set: its cells, its words. -/
def IntRes (w w' : World) (pz oz : Nat) (cs : Array Value) (T : TypeId) (o : Option Nat) (n : Bool) (N : Nat) : Prop :=
  ∃ v' o', w'.heap[pz]? = some (.cells ((cs.setIfInBounds (oz + 1) v').setIfInBounds oz (.bool n)) T (0, 0)) ∧ IsNat w' v' N o' ∧ (o' = o ∨ o' = none ∨ ∃ b, o' = some b ∧ w.heap.size ≤ b) ∧ Chg w w' (fun k => k = pz ∨ some k = o)

theorem IsNat.setCell {w : World} {v : Value} {N : Nat} {o : Option Nat} (h : IsNat w v N o) (b i : Nat) (u : Value) (hb : o ≠ some b) : IsNat (w.setCell ⟨b, i, none⟩ u) v N o :=
  h.chg (chg_setB w b i u) (fun k hk e => hb (by rw [hk, e]))

theorem Arr.ne2 {w : World} {b t : Nat} {C : List Nat} {cs : Array Value} {T : TypeId} (ha : Arr w b C) (ht : w.heap[t]? = some (.cells cs T (0, 0))) (hT : T ≠ 104) : b ≠ t := by
  rintro rfl
  have := ha.heap
  rw [ht] at this
  simp only [Option.some.injEq, Obj.cells.injEq] at this
  exact hT this.2.1
theorem Stor.ne2 {w : World} {v : Value} {b t : Nat} {cs : Array Value} {T : TypeId} (h : Stor w v (some b)) (ht : w.heap[t]? = some (.cells cs T (0, 0))) (hT : T ≠ 104) : b ≠ t := by
  rcases h with ⟨_, h⟩ | ⟨b', l, cap, C, h, _, _, ha, _⟩
  · cases h
  · cases h; exact ha.ne2 ht hT
theorem set_size {α : Type} {a : Array α} {i : Nat} {v : α} (h : a[i]? = some v) : i < a.size := by
  rcases Nat.lt_or_ge i a.size with h' | h'
  · exact h'
  · rw [Array.getElem?_eq_none h'] at h; cases h

set_option maxHeartbeats 400000 in
/-- Set, of another block's Int. -/
theorem intSet_c (w : World) (pz oz px ox : Nat) (cs cx : Array Value) (T Tx : TypeId) (o : Option Nat) (nz n : Bool) (u v : Value) (N : Nat) (hz : w.heap[pz]? = some (.cells cs T (0, 0))) (hT : T ≠ 104) (hz0 : cs[oz]? = some (.bool nz)) (hz1 : cs[oz + 1]? = some u)
    (hx : w.heap[px]? = some (.cells cx Tx (0, 0))) (hTx : Tx ≠ 104) (hx0 : cx[ox]? = some (.bool n)) (hx1 : cx[ox + 1]? = some v) (hne : pz ≠ px) (hu : Stor w u o) (hvs : ∃ p l c, v = .slice p l c)
    (hs : ∀ w2 k, w2 = w.drewN k → Calls Tryz.prog 99 #[u, v] w2 fun e w' => ∃ r, e = .returned r ∧ NatRes w2 w' o r N) :
    Calls Tryz.prog 68 #[.pointer (some ⟨pz, oz, none⟩), .pointer (some ⟨px, ox, none⟩)] w fun e w' => e = .returned (.pointer (some ⟨pz, oz, none⟩)) ∧ IntRes w w' pz oz cs T o n N := by
  have hq := neqInt (oa := oz) (ob := ox) (fun e => hne (congrArg Addr.block e)) hz hx
  have z0 := cellB hz hz0
  have z1 := cellB hz hz1
  have f0 := frozenB hz oz
  have f1 := frozenB hz (oz + 1)
  have x0 := cellB hx hx0
  have x1 := cellB hx hx1
  have hpo : ∀ b, o = some b → b ≠ pz := fun b e => by subst e; exact hu.ne2 hz hT
  have hxo : ∀ b, o = some b → b ≠ px := fun b e => by subst e; exact hu.ne2 hx hTx
  obtain ⟨p, l, c, rfl⟩ := hvs
  obtain ⟨pu, lu, cu, rfl⟩ := stor_slice hu
  replace hs := Lib.hid hs
  replace hz := Lib.hid hz
  replace hx := Lib.hid hx
  replace hpo := Lib.hid hpo
  replace hxo := Lib.hid hxo
  have hz0i := Lib.hid hz0
  have hz1i := Lib.hid hz1
  have hx0i := Lib.hid hx0
  clear hu hz0 hz1 hx0 hx1 hT hTx
  go_enter Tryz.func68, Tryz.ntmps68
  go_wp2
  go_region_with ((go_at_call 99; refine (hs.out _ 1 (by rfl)).mono ?_; rintro e w1 ⟨r, rfl, o', hr, ho', hch⟩; obtain ⟨pr, cr, rfl, hr1, hr2⟩ := hr.shape; have hz1 := hch.heapB (show w.drew.heap[pz]? = _ from hz.out) (fun e => hpo.out _ e.symm rfl); have hx1 := hch.heapB (show w.drew.heap[px]? = _ from hx.out) (fun e => hxo.out _ e.symm rfl); have y1 := cellB hz1 hz1i.out; have y0 := cellB hz1 hz0i.out; have g0 := frozenB hz1 oz; have g1 := frozenB hz1 (oz + 1); have k0 := cellB hx1 hx0i.out; replace hz1 := Lib.hid hz1; replace hch := Lib.hid hch; replace hr := Lib.hid hr; replace ho' := Lib.hid ho'; clear hx1 hr1 hr2))
  all_goals
    go_wp2
    go_ret
    have hb1 : o' ≠ some pz := by
      intro e
      rcases ho'.out with h | h | ⟨b, hb, hlt⟩
      · exact hpo.out _ (h ▸ e) rfl
      · rw [h] at e; cases e
      · rw [hb] at e
        cases e
        have := ltB hz.out
        have h2 : w.drew.heap.size = w.heap.size := rfl
        omega
    refine ⟨rfl, _, o', setB (i := oz) (v := .bool n) (setB (i := oz + 1) hz1.out), (hr.out.setCell pz (oz + 1) _ hb1).setCell pz oz _ hb1, ho'.out, ?_⟩
    exact (((Chg.refl w (fun k => k = pz ∨ some k = o)).drew.trans (hch.out.mono (fun _ _ h => .inl (.inr h)))).trans ((chg_setB w1 pz (oz + 1) _).mono (fun _ _ h => .inl (.inl h)))).trans ((chg_setB _ pz oz _).mono (fun _ _ h => .inl (.inl h)))
end Go.Proofs.YtlnillnngckegaaGreatDoor
