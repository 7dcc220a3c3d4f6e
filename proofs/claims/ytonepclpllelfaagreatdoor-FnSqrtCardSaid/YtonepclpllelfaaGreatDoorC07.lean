/- Sums, differences, products and quotients of rows of digits: plain facts, no program. -/
import Derived.Test.YtonepclpllelfaaGreatDoorC02
import Derived.Test.YtonepclpllelfaaGreatDoorC04
namespace Go.Proofs.YtonepclpllelfaaGreatDoor

theorem vB_take1 {B : Nat} (l : List Nat) (k : Nat) : vB B (l.take (k + 1)) = vB B (l.take k) + B ^ k * nth l k := by
  by_cases h : k < l.length
  · exact vB_take_succ h
  · rw [List.take_of_length_le (by omega), List.take_of_length_le (by omega), nth_ge (by omega), Nat.mul_zero, Nat.add_zero]
theorem vB_take_all {B : Nat} {l : List Nat} {k : Nat} (h : l.length ≤ k) : vB B (l.take k) = vB B l := by rw [List.take_of_length_le h]
theorem DgB.snoc {B x : Nat} {l : List Nat} (h : DgB B l) (hx : x < B) : DgB B (l ++ [x]) := h.append (DgB.cons hx DgB.nil)
theorem DgB.set {B : Nat} {l : List Nat} (h : DgB B l) (n : Nat) {x : Nat} (hx : x < B) : DgB B (l.set n x) := fun y hy => by
  rcases List.mem_or_eq_of_mem_set hy with h1 | h1
  · exact h y h1
  · rw [h1]; exact hx
theorem DgB.zeros {B : Nat} (hB : 0 < B) (n : Nat) : DgB B (List.replicate n 0) := fun y hy => by
  rw [List.eq_of_mem_replicate hy]; exact hB
theorem nth_zeros (n j : Nat) : nth (List.replicate n 0) j = 0 := by
  unfold nth; rw [List.getElem?_replicate]; split <;> rfl
theorem setD_eq {l : List Nat} {k : Nat} (h : k < l.length) (x : Nat) : nth (l.set k x) k = x := by
  unfold nth; rw [List.getElem?_set_self h]; rfl
theorem setD_ne {l : List Nat} {k j : Nat} (h : k ≠ j) (x : Nat) : nth (l.set k x) j = nth l j := by
  unfold nth; rw [List.getElem?_set_ne h]
theorem vB_cons (B x : Nat) (l : List Nat) : vB B (x :: l) = x + B * vB B l := rfl
theorem vB_set {B : Nat} {l : List Nat} {k : Nat} (h : k < l.length) (x : Nat) : vB B (l.set k x) + B ^ k * nth l k = vB B l + B ^ k * x := by
  induction l generalizing k with
  | nil => exact absurd h (by simp)
  | cons y l ih =>
    cases k with
    | zero => simp [vB, nth]; omega
    | succ k =>
      have := ih (k := k) (by simpa using h)
      rw [List.set_cons_succ, vB_cons, vB_cons, show nth (y :: l) (k + 1) = nth l k from rfl, Nat.pow_succ]
      have e := congrArg (fun z => B * z) this
      simp only [Nat.mul_add] at e
      rw [Nat.mul_comm (B ^ k) B, Nat.mul_assoc, Nat.mul_assoc]
      omega
theorem vB_drop {B : Nat} {l : List Nat} {k : Nat} (h : k < l.length) : vB B (l.drop k) = nth l k + B * vB B (l.drop (k + 1)) := by
  have e : l.drop k = nth l k :: l.drop (k + 1) := by
    rw [List.drop_eq_getElem_cons h]; congr 1; unfold nth; rw [List.getElem?_eq_getElem h]; rfl
  rw [e, vB_cons]
theorem d16_val (n : Nat) : vB 65536 (d16 n) = n := vB_dB two16 n
theorem d16_dg (n : Nat) : DgB 65536 (d16 n) := DgB_dB two16 n
theorem d16_nth (n j : Nat) : nth (d16 n) j < 65536 := (d16_dg n).nth (by decide) j

/-! ### Adding -/
theorem addD_step {a b o : List Nat} {k c : Nat} (hl : o.length = k) (h : vB 65536 o + 65536 ^ k * c = vB 65536 (a.take k) + vB 65536 (b.take k)) :
    vB 65536 (o ++ [(c + nth a k + nth b k) % 65536]) + 65536 ^ (k + 1) * ((c + nth a k + nth b k) / 65536) = vB 65536 (a.take (k + 1)) + vB 65536 (b.take (k + 1)) := by
  rw [vB_snoc, hl, vB_take1, vB_take1, Nat.pow_succ, Nat.mul_assoc]
  have e := Nat.mod_add_div (c + nth a k + nth b k) 65536
  generalize (c + nth a k + nth b k) % 65536 = s at e ⊢
  generalize (c + nth a k + nth b k) / 65536 = t at e ⊢
  have e2 : 65536 ^ k * (s + 65536 * t) = 65536 ^ k * (c + nth a k + nth b k) := by rw [e]
  simp only [Nat.mul_add] at e2
  generalize 65536 ^ k = P at *
  omega
theorem addD_end {a b o : List Nat} {k c : Nat} (hl : o.length = k) (ha : a.length ≤ k) (hb : b.length ≤ k) (h : vB 65536 o + 65536 ^ k * c = vB 65536 (a.take k) + vB 65536 (b.take k)) : vB 65536 (o ++ [c]) = vB 65536 a + vB 65536 b := by
  rw [vB_take_all ha, vB_take_all hb] at h
  rw [vB_snoc, hl]; exact h

/-! ### Taking off -/
theorem subD_step {a b o : List Nat} {k c s c' : Nat} (hl : o.length = k) (h : vB 65536 (a.take k) + 65536 ^ k * c = vB 65536 o + vB 65536 (b.take k)) (e : nth a k + 65536 * c' = s + nth b k + c) :
    vB 65536 (a.take (k + 1)) + 65536 ^ (k + 1) * c' = vB 65536 (o ++ [s]) + vB 65536 (b.take (k + 1)) := by
  rw [vB_snoc, hl, vB_take1, vB_take1, Nat.pow_succ, Nat.mul_assoc]
  have e2 : 65536 ^ k * (nth a k + 65536 * c') = 65536 ^ k * (s + nth b k + c) := by rw [e]
  simp only [Nat.mul_add] at e2
  generalize 65536 ^ k = P at *
  omega
theorem subD_end {a b o : List Nat} {c : Nat} (hl : o.length = a.length) (hb : b.length ≤ a.length) (ho : DgB 65536 o) (h : vB 65536 (a.take a.length) + 65536 ^ a.length * c = vB 65536 o + vB 65536 (b.take a.length)) (hle : vB 65536 b ≤ vB 65536 a) : vB 65536 o = vB 65536 a - vB 65536 b := by
  rw [vB_take_all (Nat.le_refl _), vB_take_all hb] at h
  have h1 := vB_lt ho
  rw [hl] at h1
  have hc : c = 0 := by
    rcases Nat.eq_zero_or_pos c with h2 | h2
    · exact h2
    · have := Nat.mul_le_mul_left (65536 ^ a.length) h2
      omega
  subst hc; omega
theorem d16_len_mono {m n : Nat} (h : m ≤ n) : (d16 m).length ≤ (d16 n).length :=
  (dB_len_le two16).2 (Nat.lt_of_le_of_lt h ((dB_len_le two16).1 (Nat.le_refl _)))

/-! ### Multiplying -/
theorem mulD_bd {c z x y : Nat} (hc : c < 65536) (hz : z < 65536) (hx : x < 65536) (hy : y < 65536) : (c + (z + x * y)) / 65536 < 65536 ∧ c + (z + x * y) < 4294967296 ∧ x * y < 4294967296 := by
  have h : x * y ≤ 65535 * 65535 := Nat.mul_le_mul (by omega) (by omega)
  omega
theorem mulD_step {b O : List Nat} {i k c x V : Nat} (hk : i + k < O.length) (h : vB 65536 O + 65536 ^ (i + k) * c = V + 65536 ^ i * (x * vB 65536 (b.take k))) :
    vB 65536 (O.set (i + k) ((c + (nth O (i + k) + x * nth b k)) % 65536)) + 65536 ^ (i + (k + 1)) * ((c + (nth O (i + k) + x * nth b k)) / 65536) = V + 65536 ^ i * (x * vB 65536 (b.take (k + 1))) := by
  have h1 := vB_set (B := 65536) hk ((c + (nth O (i + k) + x * nth b k)) % 65536)
  have e := Nat.mod_add_div (c + (nth O (i + k) + x * nth b k)) 65536
  generalize (c + (nth O (i + k) + x * nth b k)) % 65536 = s at e h1 ⊢
  generalize (c + (nth O (i + k) + x * nth b k)) / 65536 = t at e ⊢
  rw [vB_take1, ← Nat.add_assoc, Nat.pow_succ, Nat.mul_assoc, Nat.mul_add, Nat.mul_add]
  have e2 : 65536 ^ (i + k) * (s + 65536 * t) = 65536 ^ (i + k) * (c + (nth O (i + k) + x * nth b k)) := by rw [e]
  have e3 : 65536 ^ i * (x * (65536 ^ k * nth b k)) = 65536 ^ (i + k) * (x * nth b k) := by
    rw [Nat.pow_add, Nat.mul_assoc, Nat.mul_left_comm x]
  rw [e3]
  simp only [Nat.mul_add] at e2
  generalize 65536 ^ (i + k) = P at *
  omega
theorem mulD_end {a b O : List Nat} {i c : Nat} (hk : i + b.length < O.length) (h0 : nth O (i + b.length) = 0) (h : vB 65536 O + 65536 ^ (i + b.length) * c = vB 65536 (a.take i) * vB 65536 b + 65536 ^ i * (nth a i * vB 65536 (b.take b.length))) :
    vB 65536 (O.set (i + b.length) c) = vB 65536 (a.take (i + 1)) * vB 65536 b := by
  have h1 := vB_set (B := 65536) hk c
  rw [h0, Nat.mul_zero, Nat.add_zero, h, vB_take_all (Nat.le_refl _)] at h1
  rw [h1, vB_take1, Nat.add_mul, Nat.mul_assoc]

/-! ### By one digit -/
theorem divD_step {D O : List Nat} {i d r : Nat} (hl : O.length = D.length) (hi : i < D.length) (hd : 0 < d) (hr : r < d) (hx : nth D i < 65536) (h : vB 65536 (O.drop (i + 1)) * d + r = vB 65536 (D.drop (i + 1))) :
    (r * 65536 + nth D i) / d < 65536 ∧ (r * 65536 + nth D i) % d < d ∧ vB 65536 ((O.set i ((r * 65536 + nth D i) / d)).drop i) * d + (r * 65536 + nth D i) % d = vB 65536 (D.drop i) := by
  refine ⟨?_, Nat.mod_lt _ hd, ?_⟩
  · rw [Nat.div_lt_iff_lt_mul hd]
    have := Nat.mul_le_mul_right 65536 (Nat.succ_le_of_lt hr)
    rw [Nat.succ_mul, Nat.mul_comm d] at this
    omega
  · rw [vB_drop (k := i) (by rw [List.length_set, hl]; exact hi), vB_drop hi, setD_eq (by rw [hl]; exact hi), List.drop_set_of_lt (by omega)]
    have e := Nat.mod_add_div (r * 65536 + nth D i) d
    generalize (r * 65536 + nth D i) % d = s at e ⊢
    generalize (r * 65536 + nth D i) / d = t at e ⊢
    have e2 := congrArg (fun z => 65536 * z) h
    simp only [Nat.mul_add] at e2
    rw [Nat.add_mul, Nat.mul_assoc, Nat.mul_comm t d]
    omega
theorem divD_end {q d r N : Nat} (hr : r < d) (h : q * d + r = N) : q = N / d ∧ r = N % d := by
  subst h
  have hd : 0 < d := by omega
  refine ⟨?_, ?_⟩
  · rw [Nat.mul_comm, Nat.mul_add_div hd, Nat.div_eq_of_lt hr, Nat.add_zero]
  · rw [Nat.mul_comm, Nat.mul_add_mod, Nat.mod_eq_of_lt hr]

/-! ### Times a power of 2 -/
theorem vB_take_drop {B : Nat} (l : List Nat) (k : Nat) : k ≤ l.length → vB B l = vB B (l.take k) + B ^ k * vB B (l.drop k) := fun h => by
  have := vB_append B (l.take k) (l.drop k)
  rw [List.take_append_drop, List.length_take, Nat.min_eq_left h] at this
  exact this
theorem digD_lt {a b : List Nat} {k : Nat} (ha : DgB 65536 a) (hl : a.length = b.length) (hk : k < a.length) (he : ∀ j, k < j → j < a.length → nth a j = nth b j) (h : nth a k < nth b k) : vB 65536 a < vB 65536 b := by
  have e : a.drop (k + 1) = b.drop (k + 1) := by
    apply List.ext_getElem?
    intro j
    rw [List.getElem?_drop, List.getElem?_drop]
    by_cases hj : k + 1 + j < a.length
    · rw [get_nth hj, get_nth (by omega), he _ (by omega) hj]
    · rw [List.getElem?_eq_none (by omega), List.getElem?_eq_none (by omega)]
  rw [vB_take_drop a (k + 1) (by omega), vB_take_drop b (k + 1) (by omega), vB_take1, vB_take1, e]
  have h1 := vB_lt (ha.take k)
  rw [List.length_take, Nat.min_eq_left (by omega)] at h1
  have h2 := Nat.mul_le_mul_left (65536 ^ k) (Nat.succ_le_of_lt h)
  rw [Nat.mul_succ] at h2
  omega
theorem digD_eq {a b : List Nat} (hl : a.length = b.length) (he : ∀ j, j < a.length → nth a j = nth b j) : a = b := by
  apply List.ext_getElem?
  intro j
  by_cases hj : j < a.length
  · rw [get_nth hj, get_nth (by omega), he _ hj]
  · rw [List.getElem?_eq_none (by omega), List.getElem?_eq_none (by omega)]
theorem d16_len_lt {m n : Nat} (h : (d16 m).length < (d16 n).length) : m < n := by
  rcases Nat.lt_or_ge m n with h1 | h1
  · exact h1
  · have := d16_len_mono h1; omega
theorem d16_inj {m n : Nat} (h : d16 m = d16 n) : m = n := by rw [← d16_val m, h, d16_val]

/-! ### Dividing, bit by bit -/
end Go.Proofs.YtonepclpllelfaaGreatDoor
