/- Division of two words by one: the numbers alone. A decimal as plain data that comes in. -/
import Derived.Test.YtonepclpllelfaaGreatDoorC01
import Derived.Test.YtonepclpllelfaaGreatDoorC03
namespace Go.Proofs.YtonepclpllelfaaGreatDoor

/-- One step of a long division by halves of words: the guess q is at least the true digit; r is what it leaves of the upper part. -/
structure Guess (H a b u v q r : Nat) : Prop where
  split : q * a + r = u
  ge : (u * H + v) / (a * H + b) ≤ q
  le : q ≤ H + 1

theorem Guess.start {H a b u v : Nat} (ha : 0 < a) (hH : H ≤ 2 * a) (hb : b < H) (hv : v < H) (hu : u < a * H + b) : Guess H a b u v (u / a) (u % a) := by
  refine ⟨Nat.div_add_mod' u a, ?_, ?_⟩
  · rw [Nat.div_le_iff_le_mul_add_pred (by have := Nat.mul_pos ha (Nat.lt_of_le_of_lt (Nat.zero_le b) hb); omega)]
    have h1 : u < (u / a + 1) * a := by rw [Nat.add_mul]; have := Nat.div_add_mod' u a; have := Nat.mod_lt u ha; omega
    have h2 : (u + 1) * H ≤ ((u / a + 1) * a) * H := Nat.mul_le_mul_right H h1
    rw [Nat.add_mul, Nat.one_mul] at h2
    have h3 : ((u / a + 1) * a) * H = (a * H) * (u / a) + a * H := by rw [Nat.add_mul, Nat.one_mul, Nat.add_mul, Nat.mul_comm (u / a) a, Nat.mul_right_comm]
    have h4 : (a * H) * (u / a) ≤ (a * H + b) * (u / a) := Nat.mul_le_mul_right _ (Nat.le_add_right _ _)
    have h5 : 0 < a * H := Nat.mul_pos ha (Nat.lt_of_le_of_lt (Nat.zero_le b) hb)
    omega
  · have h1 : u / a ≤ (a * H + (H - 1)) / a := Nat.div_le_div_right (by omega)
    have h2 : (a * H + (H - 1)) / a = H + (H - 1) / a := Nat.mul_add_div ha _ _
    have h3 : (H - 1) / a ≤ 1 := by
      have : (H - 1) / a < 2 := by rw [Nat.div_lt_iff_lt_mul ha]; omega
      omega
    omega

theorem Guess.done {H a b u v q r : Nat} (h : Guess H a b u v q r) (hc : q * b ≤ H * r + v) (hd : 0 < a * H + b) : q = (u * H + v) / (a * H + b) := by
  refine Nat.le_antisymm ?_ h.ge
  rw [Nat.le_div_iff_mul_le hd]
  rw [Nat.mul_add, ← h.split, Nat.add_mul, ← Nat.mul_assoc, Nat.mul_comm r H]
  omega

theorem Guess.next {H a b u v q r : Nat} (h : Guess H a b u v q r) (hv : v < H) (hu : u < a * H + b) (hc : H ≤ q ∨ H * r + v < q * b) : 0 < q ∧ Guess H a b u v (q - 1) (r + a) := by
  have hd : 0 < a * H + b := by omega
  have hq : (u * H + v) / (a * H + b) < q := by
    rw [Nat.div_lt_iff_lt_mul hd]
    rcases hc with h1 | h1
    · have h2 : (u + 1) * H ≤ (a * H + b) * H := Nat.mul_le_mul_right H hu
      rw [Nat.add_mul, Nat.one_mul] at h2
      have h3 : (a * H + b) * H ≤ q * (a * H + b) := by rw [Nat.mul_comm]; exact Nat.mul_le_mul_right _ h1
      omega
    · have e1 : u * H = q * (a * H) + H * r := by rw [← h.split, Nat.add_mul, ← Nat.mul_assoc, Nat.mul_comm r H]
      rw [Nat.mul_add]
      omega
  have hq0 : 0 < q := Nat.lt_of_le_of_lt (Nat.zero_le _) hq
  have hle := h.le
  refine ⟨hq0, ?_, Nat.le_sub_one_of_lt hq, by clear hq; omega⟩
  have := h.split
  obtain ⟨p, rfl⟩ : ∃ p, q = p + 1 := ⟨q - 1, by clear hq; omega⟩
  rw [Nat.add_mul, Nat.one_mul] at this
  rw [Nat.add_sub_cancel]
  clear hq hc
  omega

/-- When the rest has no room in half a word any more the guess is right. -/
theorem Guess.full {H a b u v q r : Nat} (h : Guess H a b u v q r) (hb : b < H) (hr : H ≤ r) (hq : q ≤ H) (hd : 0 < a * H + b) : q = (u * H + v) / (a * H + b) := by
  refine h.done ?_ hd
  have h1 : q * b ≤ H * b := Nat.mul_le_mul_right _ hq
  have h2 : H * b ≤ H * r := Nat.mul_le_mul_left _ (by omega)
  omega

/-- A difference, taken modulo M. -/
theorem mod_diff {M a b r : Nat} (h : a = b + r) (hr : r < M) : (a % M + (M - b % M)) % M = r := by
  have hb := Nat.mod_lt b (Nat.lt_of_le_of_lt (Nat.zero_le r) hr)
  subst h
  rw [Nat.add_mod, Nat.mod_mod, Nat.add_mod b r, Nat.mod_eq_of_lt hr]
  generalize b % M = b' at *
  rcases Nat.lt_or_ge (b' + r) M with h1 | h1
  · rw [Nat.mod_eq_of_lt h1]
    rcases Nat.eq_zero_or_pos b' with h0 | h0
    · subst h0; simp [Nat.mod_eq_of_lt hr]
    · rw [Nat.mod_eq_of_lt (show M - b' < M by omega), show b' + r + (M - b') = r + M by omega, Nat.add_mod_right, Nat.mod_eq_of_lt hr]
  · rw [show b' + r = (b' + r - M) + M by omega, Nat.add_mod_right, Nat.mod_eq_of_lt (show b' + r - M < M by omega)]
    rcases Nat.eq_zero_or_pos b' with h0 | h0
    · omega
    · rw [Nat.mod_eq_of_lt (show M - b' < M by omega), show b' + r - M + (M - b') = r by omega, Nat.mod_eq_of_lt hr]

/-- The guess by a reciprocal: at most two too low. -/
theorem recip_guess {B d m x1 x0 : Nat} (hd : d < B) (hm1 : d * (m + B) + 1 ≤ B * B) (hm2 : B * B ≤ d * (m + B) + d) (hx1 : x1 < d) (hx0 : x0 < B) :
    (x1 * m + x1 * B + x0) / B * d ≤ x1 * B + x0 ∧ x1 * B + x0 < (x1 * m + x1 * B + x0) / B * d + B + d := by
  have hB : 0 < B := by omega
  have e := Nat.div_add_mod (x1 * m + x1 * B + x0) B
  have l := Nat.mod_lt (x1 * m + x1 * B + x0) hB
  generalize (x1 * m + x1 * B + x0) / B = q at *
  generalize (x1 * m + x1 * B + x0) % B = s at *
  -- B q + s = x1 (m + B) + x0
  have e1 : B * q + s = x1 * (m + B) + x0 := by rw [Nat.mul_add]; omega
  have e2 : B * (q * d) + s * d = x1 * (d * (m + B)) + x0 * d := by
    have := congrArg (· * d) e1
    simp only [Nat.add_mul] at this
    rw [Nat.mul_assoc] at this
    rw [this, Nat.mul_assoc, Nat.mul_comm (m + B) d]
  have a1 : x1 * (d * (m + B)) + x1 ≤ x1 * (B * B) := by have := Nat.mul_le_mul_left x1 hm1; rw [Nat.mul_add, Nat.mul_one] at this; exact this
  have a2 : x1 * (B * B) ≤ x1 * (d * (m + B)) + x1 * d := by have := Nat.mul_le_mul_left x1 hm2; rw [Nat.mul_add] at this; exact this
  have a3 : x0 * d ≤ x0 * B := Nat.mul_le_mul_left _ (by omega)
  have e3 : B * (x1 * B + x0) = x1 * (B * B) + x0 * B := by rw [Nat.mul_add, Nat.mul_comm B x0, Nat.mul_comm B (x1 * B), Nat.mul_assoc]
  constructor
  · refine Nat.le_of_mul_le_mul_left (a := q * d) (c := B) ?_ hB
    rw [e3]; omega
  · refine Nat.lt_of_mul_lt_mul_left (a := B) ?_
    rw [e3, Nat.mul_add, Nat.mul_add]
    -- x0 (B - d) + x1 d + s d < B B + B d
    have b1 : x0 * B + d ≤ x0 * d + (B * B - B * d + d) := by
      obtain ⟨k, rfl⟩ : ∃ k, B = d + k := ⟨B - d, by omega⟩
      have : x0 * k + k ≤ (d + k) * k := by have := Nat.mul_le_mul_right k hx0; rw [Nat.succ_mul] at this; exact this
      have e5 : (d + k) * (d + k) - (d + k) * d = (d + k) * k := by rw [← Nat.mul_sub]; congr 1; omega
      rw [e5, Nat.mul_add]; omega
    have b2 : x1 * d + d ≤ d * d := by have := Nat.mul_le_mul_right d hx1; rw [Nat.succ_mul] at this; exact this
    have b3 : s * d + d ≤ B * d := by have := Nat.mul_le_mul_right d l; rw [Nat.succ_mul] at this; exact this
    have b4 : d * d ≤ B * d := Nat.mul_le_mul_right _ (by omega)
    have b5 : B * d ≤ B * B := Nat.mul_le_mul_left _ (by omega)
    have b6 : 0 < d := by omega
    have b7 : d * d < B * d := Nat.mul_lt_mul_of_pos_right hd b6
    omega

end Go.Proofs.YtonepclpllelfaaGreatDoor

namespace Go.Proofs.YtonepclpllelfaaGreatDoor
open Go.ChangeShapes Go.WideShapes Go.ChangeAt Go.RowKit Go.Joins

/-- A row of words that is read. -/
structure RdW (w : World) (A : Option Addr) (l c : Nat) (X : List Nat) : Prop where
  len : X.length = l
  cap : l ≤ c
  max : c ≤ 9223372036854775807
  wd : Wd X
  cells : 0 < l → ∃ ad, A = some ad ∧ ∀ j, j < l → w.cell? (ad.add j) = some (.int .u64 (nth X j : Int))
theorem RdW.below {w w' : World} {A : Option Addr} {l c : Nat} {X : List Nat} (h : RdW w A l c X) (hb : Below w.heap.size w w') : RdW w' A l c X :=
  ⟨h.len, h.cap, h.max, h.wd, fun hl => by
    obtain ⟨ad, e, hc⟩ := h.cells hl
    exact ⟨ad, e, fun j hj => (hb.cell (World.block_lt_of_cell? w _ (hc j hj))).trans (hc j hj)⟩⟩

/-- A decimal as plain data that comes in: form, sign, words, exponent. -/
structure DecIn (w : World) (f : Int) (A : Option Addr) (l c : Nat) (X : List Nat) (e : Int) : Prop where
  rd : RdW w A l c X
  form : -9223372036854775808 ≤ f ∧ f ≤ 9223372036854775807
  exp : -9223372036854775808 ≤ e ∧ e ≤ 9223372036854775807
theorem DecIn.below {w w' : World} {f e : Int} {A : Option Addr} {l c : Nat} {X : List Nat} (h : DecIn w f A l c X e) (hb : Below w.heap.size w w') : DecIn w' f A l c X e := ⟨h.rd.below hb, h.form, h.exp⟩

theorem cellsDec : Tryz.prog.cellsOf 24 = 4 := by kernel_rfl
theorem cellsUint : Tryz.prog.cellsOf 33 = 1 := by kernel_rfl
set_option maxRecDepth 100000 in
theorem open_dec {H : Type} {enc : TypeId × Value → H} {w : World} {base b0 : Nat} {spare : Nat → Bool} {held : Bool} {r : Reach} {v : Value} {d : DataW H} {p : List MemPlace}
    (hv : Value.okWide Tryz.prog w r b0 24 v) (h : DataW.Trod enc Tryz.prog w base spare held 24 v d p) :
    ∃ (f : Int) (n : Bool) (A : Option Addr) (l c : Nat) (X : List Nat) (e : Int), v = .agg #[.int .i64 f, .bool n, .slice A l c, .int .i64 e] ∧ DecIn w f A l c X e := by
  obtain ⟨v0, v1, v2, v3, y0, y1, y2, y3, m, rfl, rfl, rfl, h0, h1, h2, h3⟩ := open_agg4 Tryz.underlying24 (by kernel_rfl) cellsDec hv h
  obtain ⟨f, e0, _, wf⟩ := DataW.trod_int Tryz.underlying3 h0
  obtain ⟨n, e1, _⟩ := DataW.trod_bool Tryz.underlying4 h1
  obtain ⟨e, e3, _, we⟩ := DataW.trod_int Tryz.underlying3 h3
  have bf := bounds_i64 wf
  have be := bounds_i64 we
  simp only [List.cons.injEq, and_true] at e0 e1 e3
  subst e0 e1 e3
  rcases open_ints Tryz.underlying22 Tryz.underlying33 cellsUint h2 with ⟨e2, _⟩ | ⟨a, len, cap, zs, e2, _, hl, hm, hz, _, hc, hw⟩
  · simp only [List.cons.injEq, and_true] at e2
    subst e2
    exact ⟨f, n, none, 0, 0, [], e, rfl, ⟨rfl, Nat.le_refl _, Nat.zero_le _, Wd.nil, fun h => by omega⟩, bf, be⟩
  · simp only [List.cons.injEq, and_true] at e2
    subst e2
    have hlen : len ≤ zs.length := by rw [hz]; split <;> omega
    have hr : ∀ x ∈ zs, 0 ≤ x ∧ x ≤ 18446744073709551615 := fun x hx => bounds_u64 (hw x hx)
    refine ⟨f, n, some a, len, cap, (zs.take len).map Int.toNat, e, rfl, ⟨by simp; omega, hl, by unfold maxLen at hm; omega, ?_, fun _ => ⟨a, rfl, fun j hj => ?_⟩⟩, bf, be⟩
    · intro x hx
      obtain ⟨y, hy, rfl⟩ := List.mem_map.1 hx
      have := hr y (List.mem_of_mem_take hy)
      rw [WB_eq]; omega
    · rw [hc j (by omega)]
      have h1 : zs[j]? = some (zs[j]'(by omega)) := List.getElem?_eq_getElem (by omega)
      have h2 := hr _ (List.mem_of_getElem? h1)
      unfold nth
      rw [List.getElem?_map, List.getElem?_take_of_lt hj, h1, List.getD_eq_getElem?_getD, h1]
      simp
      omega
end Go.Proofs.YtonepclpllelfaaGreatDoor
