/- A decimal as plain data that comes in. -/
import Derived.Test.YtgdpljjmnmapmaaGreatDoorC01
import Derived.Test.YtgdpljjmnmapmaaGreatDoorC03
namespace Go.Proofs.YtgdpljjmnmapmaaGreatDoor
open Go.ChangeShapes Go.WideShapes Go.ChangeAt Go.RowKit Go.Joins

/-- A row of words that is read. -/
structure RdW (w : World) (A : Option Addr) (l c : Nat) (X : List Nat) : Prop where
  len : X.length = l
  cap : l ≤ c
  max : c ≤ 9223372036854775807
  wd : Wd X
  cells : 0 < l → ∃ ad, A = some ad ∧ ∀ j, j < l → w.cell? (ad.add j) = some (.int .u64 (nth X j : Int))
theorem RdW.below {w w' : World} {A : Option Addr} {l c : Nat} {X : List Nat} (h : RdW w A l c X) (hb : Below w.heap.size w w') : RdW w' A l c X :=
  ⟨h.len, h.cap, h.max, h.wd, fun hl => by
    obtain ⟨ad, e, hc⟩ := h.cells hl
    exact ⟨ad, e, fun j hj => (hb.cell (World.block_lt_of_cell? w _ (hc j hj))).trans (hc j hj)⟩⟩

/-- A decimal as plain data that comes in: form, sign, words, exponent. -/
structure DecIn (w : World) (f : Int) (A : Option Addr) (l c : Nat) (X : List Nat) (e : Int) : Prop where
  rd : RdW w A l c X
  form : -9223372036854775808 ≤ f ∧ f ≤ 9223372036854775807
  exp : -9223372036854775808 ≤ e ∧ e ≤ 9223372036854775807
theorem DecIn.below {w w' : World} {f e : Int} {A : Option Addr} {l c : Nat} {X : List Nat} (h : DecIn w f A l c X e) (hb : Below w.heap.size w w') : DecIn w' f A l c X e := ⟨h.rd.below hb, h.form, h.exp⟩

theorem cellsDec : Tryz.prog.cellsOf 24 = 4 := by kernel_rfl
theorem cellsUint : Tryz.prog.cellsOf 32 = 1 := by kernel_rfl
set_option maxRecDepth 100000 in
theorem open_dec {H : Type} {enc : TypeId × Value → H} {w : World} {base b0 : Nat} {spare : Nat → Bool} {held : Bool} {r : Reach} {v : Value} {d : DataW H} {p : List MemPlace}
    (hv : Value.okWide Tryz.prog w r b0 24 v) (h : DataW.Trod enc Tryz.prog w base spare held 24 v d p) :
    ∃ (f : Int) (n : Bool) (A : Option Addr) (l c : Nat) (X : List Nat) (e : Int), v = .agg #[.int .i64 f, .bool n, .slice A l c, .int .i64 e] ∧ DecIn w f A l c X e := by
  obtain ⟨v0, v1, v2, v3, y0, y1, y2, y3, m, rfl, rfl, rfl, h0, h1, h2, h3⟩ := open_agg4 Tryz.underlying24 (by kernel_rfl) cellsDec hv h
  obtain ⟨f, e0, _, wf⟩ := DataW.trod_int Tryz.underlying3 h0
  obtain ⟨n, e1, _⟩ := DataW.trod_bool Tryz.underlying4 h1
  obtain ⟨e, e3, _, we⟩ := DataW.trod_int Tryz.underlying3 h3
  have bf := bounds_i64 wf
  have be := bounds_i64 we
  simp only [List.cons.injEq, and_true] at e0 e1 e3
  subst e0 e1 e3
  rcases open_ints Tryz.underlying22 Tryz.underlying32 cellsUint h2 with ⟨e2, _⟩ | ⟨a, len, cap, zs, e2, _, hl, hm, hz, _, hc, hw⟩
  · simp only [List.cons.injEq, and_true] at e2
    subst e2
    exact ⟨f, n, none, 0, 0, [], e, rfl, ⟨rfl, Nat.le_refl _, Nat.zero_le _, Wd.nil, fun h => by omega⟩, bf, be⟩
  · simp only [List.cons.injEq, and_true] at e2
    subst e2
    have hlen : len ≤ zs.length := by rw [hz]; split <;> omega
    have hr : ∀ x ∈ zs, 0 ≤ x ∧ x ≤ 18446744073709551615 := fun x hx => bounds_u64 (hw x hx)
    refine ⟨f, n, some a, len, cap, (zs.take len).map Int.toNat, e, rfl, ⟨by simp; omega, hl, by unfold maxLen at hm; omega, ?_, fun _ => ⟨a, rfl, fun j hj => ?_⟩⟩, bf, be⟩
    · intro x hx
      obtain ⟨y, hy, rfl⟩ := List.mem_map.1 hx
      have := hr y (List.mem_of_mem_take hy)
      rw [WB_eq]; omega
    · rw [hc j (by omega)]
      have h1 : zs[j]? = some (zs[j]'(by omega)) := List.getElem?_eq_getElem (by omega)
      have h2 := hr _ (List.mem_of_getElem? h1)
      unfold nth
      rw [List.getElem?_map, List.getElem?_take_of_lt hj, h1, List.getD_eq_getElem?_getD, h1]
      simp
      omega
end Go.Proofs.YtgdpljjmnmapmaaGreatDoor
