/- Greater places from the stack. The stack's nat, both states. The digits of a long division: plain arithmetic. The digits of a long division, of lists of words. Long division: plain facts of the lists. Words that lie at a place and stay while others are written. nat: divBasic. The stack's places, uniformly: for divBasic and divLarge. The stack given back: restore and free, whatever its state. Scaled divisors and dividends: plain facts. Plain: words that are shifted up until the top bit is set. -/
import Derived.Deep.CutRange
import Derived.Test.YtgdpljjmnmapmaaGreatDoorC09
namespace Go.Proofs.YtgdpljjmnmapmaaGreatDoor
open Go Go.RowKit

set_option maxHeartbeats 1000000 in
/-- A place from an empty row. -/
theorem innerNil (w : World) (t n : Nat) (ht : w.heap[t]? = some (.cells #[.slice none 0 0] 224 (0, 0))) (hn0 : 0 < n) (hn : n ≤ 800) :
    Calls Tryz.prog 214 #[.pointer (some ⟨t, 0, none⟩), .int .i64 n] w fun e w' => ∃ b c C, e = .returned (.slice (some ⟨b, 0, none⟩) n n) ∧ w.heap.size ≤ b ∧
      w'.heap[t]? = some (.cells #[.slice (some ⟨b, 0, none⟩) (r4 n) c] 224 (0, 0)) ∧ Arr w' b C ∧ r4 n ≤ c ∧ C.length = c ∧ c ≤ 9223372036854775807 ∧ Chg w w' (fun k => k = t) := by
  have h4 := r4_ge n
  have h5 := r4_le n
  have hc := cell1 ht
  have hg := grow313_nil w (r4 n) (by omega) (by omega)
  have e1 : (0 : Int) < (n : Int) := by omega
  have hn9 : n ≤ 900 := by omega
  go_enter Tryz.func214, Tryz.ntmps214
  go_wp2_with fail
  refine hg.mono ?_
  rintro e w1 ⟨G, hG, hG2, rfl, hchg, ha, hsz⟩
  have ht1 := hchg.heap ht (fun h => h)
  have hc1 := cell1 ht1
  have hf1 := frozen1 ht1 0
  have hlt := lt_of_heap ht
  have hne : w.heap.size ≠ t := by omega
  have hz1 := ha.cellN (i := 0) (by simp; omega)
  have hz2 := ha.frozen 0
  go_wp2
  go_ret
  have ht2 := set1 (v' := .slice (some ⟨w.heap.size, 0, none⟩) 0 G) ht1
  have ht3 := set1 (v' := .slice (some ⟨w.heap.size, 0, none⟩) (r4 n) G) ht2
  have hx : (1043915 : Nat) < WB := by rw [WB_eq]; decide
  have ha2 := (chg_set _ t 0 (.slice (some ⟨w.heap.size, 0, none⟩) (r4 n) G)).arr ((chg_set w1 t 0 (.slice (some ⟨w.heap.size, 0, none⟩) 0 G)).arr ha hne) hne
  have hS := (Sub.refl ha2).set (i := 0) 1043915 hx
  have hch : Chg w _ (fun k => k = t) := (((hchg.mono (fun _ _ h => h.elim)).trans ((chg_set w1 t 0 (.slice (some ⟨w.heap.size, 0, none⟩) 0 G)).mono (fun _ _ h => .inl h))).trans ((chg_set _ t 0 (.slice (some ⟨w.heap.size, 0, none⟩) (r4 n) G)).mono (fun _ _ h => .inl h))).trans (hS.chg.mono (fun k _ h => .inr (by rw [h]; exact Nat.le_refl _)))
  exact ⟨w.heap.size, G, _, rfl, Nat.le_refl _, hS.chg.heap ht3 (fun h => hne h.symm), hS.arr, hG, by simp, hG2, hch⟩

set_option maxHeartbeats 1000000 in
/-- A place from a row in use. -/
theorem innerMore (w : World) (t b l c n : Nat) (C : List Nat) (ht : w.heap[t]? = some (.cells #[.slice (some ⟨b, 0, none⟩) l c] 224 (0, 0))) (ha : Arr w b C) (hC : C.length = c) (hlc : l ≤ c) (hc63 : c ≤ 9223372036854775807) (hl : l ≤ 800) (hn0 : 0 < n) (hn : n ≤ 800) :
    Calls Tryz.prog 214 #[.pointer (some ⟨t, 0, none⟩), .int .i64 n] w fun e w' => ∃ b' c' C', e = .returned (.slice (some ⟨b', l, none⟩) n n) ∧ (b' = b ∨ w.heap.size ≤ b') ∧
      w'.heap[t]? = some (.cells #[.slice (some ⟨b', 0, none⟩) (l + r4 n) c'] 224 (0, 0)) ∧ Arr w' b' C' ∧ l + r4 n ≤ c' ∧ C'.length = c' ∧ c' ≤ 9223372036854775807 ∧ Chg w w' (fun k => k = t ∨ k = b) ∧
      ∃ Cb, Arr w' b Cb ∧ Cb.length = c ∧ ∀ j, j < l → nth Cb j = nth C j := by
  have h4 := r4_ge n
  have h5 := r4_le n
  have hc := cell1 ht
  have hf := frozen1 ht 0
  have hbt : b ≠ t := ha.ne ht (by decide)
  have hn9 : n ≤ 900 := by omega
  have hx : (1043915 : Nat) < WB := by rw [WB_eq]; decide
  have i1 : IntKind.i64.wrap ((l : Int) + (r4 n : Int)) = (l : Int) + (r4 n : Int) := IntWalk.i64_in _ (by omega)
  have i2 : ((l : Int) + (r4 n : Int)).toNat = l + r4 n := by omega
  have i3 : (0 : Int) ≤ (l : Int) + (r4 n : Int) := by omega
  have j1 : IntKind.i64.wrap ((l : Int) + (n : Int)) = (l : Int) + (n : Int) := IntWalk.i64_in _ (by omega)
  have j2 : ((l : Int) + (n : Int)).toNat = l + n := by omega
  have j3 : (0 : Int) ≤ (l : Int) + (n : Int) := by omega
  have j4 : (l : Int) ≤ (l : Int) + (n : Int) := by omega
  by_cases hr : l + r4 n ≤ c
  · have hg := grow313_room w b l c (r4 n) hlc hc63 (by omega) hr
    have k1 : (l : Int) + (r4 n : Int) ≤ (c : Int) := by omega
    have k2 : (l : Int) + (n : Int) ≤ (c : Int) := by omega
    have k3 : l + r4 n ≤ c := hr
    have hz1 := ha.cellN (i := l) (by omega)
    have hz2 := ha.frozen l
    go_enter Tryz.func214, Tryz.ntmps214
    go_wp2_with fail
    refine hg.mono ?_
    rintro e w1 ⟨rfl, hw⟩
    obtain rfl := hw
    go_wp2
    go_ret
    have ht2 := set1 (v' := .slice (some ⟨b, 0, none⟩) l c) ht
    have ht3 := set1 (v' := .slice (some ⟨b, 0, none⟩) (l + r4 n) c) ht2
    have ha2 := (chg_set _ t 0 (.slice (some ⟨b, 0, none⟩) (l + r4 n) c)).arr ((chg_set w t 0 (.slice (some ⟨b, 0, none⟩) l c)).arr ha hbt) hbt
    have hS := (Sub.refl ha2).set (i := l) 1043915 hx
    have hch : Chg w _ (fun k => k = t ∨ k = b) := (((chg_set w t 0 (.slice (some ⟨b, 0, none⟩) l c)).mono (fun _ _ h => .inl h)).trans ((chg_set _ t 0 (.slice (some ⟨b, 0, none⟩) (l + r4 n) c)).mono (fun _ _ h => .inl (.inl h)))).trans (hS.chg.mono (fun k _ h => .inl (.inr h)))
    refine ⟨b, c, _, rfl, .inl rfl, hS.chg.heap ht3 (fun h => hbt h.symm), hS.arr, hr, by simpa using hC, hc63, hch, _, hS.arr, by simpa using hC, ?_⟩
    intro j hj
    unfold nth
    rw [List.getElem?_set_ne (by omega)]
  · have hg := grow313_new w b l c (r4 n) C ha hC hlc (by omega) (by omega) (by omega)
    go_enter Tryz.func214, Tryz.ntmps214
    go_wp2_with fail
    refine hg.mono ?_
    rintro e w1 ⟨G, hG, hG2, rfl, hchg, ha1, hsz⟩
    have ht1 := hchg.heap ht (fun h => h)
    have hc1 := cell1 ht1
    have hf1 := frozen1 ht1 0
    have hlt := lt_of_heap ht
    have hne : w.heap.size ≠ t := by omega
    have hne2 : b ≠ w.heap.size := by have := ha.lt; omega
    have k1 : (l : Int) + (r4 n : Int) ≤ (G : Int) := by omega
    have k2 : (l : Int) + (n : Int) ≤ (G : Int) := by omega
    have hz1 := ha1.cellN (i := l) (by simp; omega)
    have hz2 := ha1.frozen l
    have hab1 := hchg.arr ha (fun h => h)
    clear hg hc hf
    go_wp2
    go_ret
    have ht2 := set1 (v' := .slice (some ⟨w.heap.size, 0, none⟩) l G) ht1
    have ht3 := set1 (v' := .slice (some ⟨w.heap.size, 0, none⟩) (l + r4 n) G) ht2
    have ha2 := (chg_set _ t 0 (.slice (some ⟨w.heap.size, 0, none⟩) (l + r4 n) G)).arr ((chg_set w1 t 0 (.slice (some ⟨w.heap.size, 0, none⟩) l G)).arr ha1 hne) hne
    have hab2 := (chg_set _ t 0 (.slice (some ⟨w.heap.size, 0, none⟩) (l + r4 n) G)).arr ((chg_set w1 t 0 (.slice (some ⟨w.heap.size, 0, none⟩) l G)).arr hab1 hbt) hbt
    have hS := (Sub.refl ha2).set (i := l) 1043915 hx
    have hch : Chg w _ (fun k => k = t ∨ k = b) := (((hchg.mono (fun _ _ h => h.elim)).trans ((chg_set w1 t 0 (.slice (some ⟨w.heap.size, 0, none⟩) l G)).mono (fun _ _ h => .inl (.inl h)))).trans ((chg_set _ t 0 (.slice (some ⟨w.heap.size, 0, none⟩) (l + r4 n) G)).mono (fun _ _ h => .inl (.inl h)))).trans (hS.chg.mono (fun k _ h => .inr (by rw [h]; exact Nat.le_refl _)))
    refine ⟨w.heap.size, G, _, rfl, .inr (Nat.le_refl _), hS.chg.heap ht3 (fun h => hne h.symm), hS.arr, hG, by simp; omega, hG2, hch, C, hS.other hne2 hab2, hC, fun j _ => rfl⟩
end Go.Proofs.YtgdpljjmnmapmaaGreatDoor

namespace Go.Proofs.YtgdpljjmnmapmaaGreatDoor
open Go Go.RowKit

/-- The stack's state: empty, or its two blocks and how much is in use. -/
def StkS (w : World) (s : Nat) : Option (Nat × Nat × Nat) → Prop
  | none => Stk0 w s
  | some (t, b, l) => ∃ c C, Stk1 w s t b l c C

set_option maxHeartbeats 1000000 in
theorem stkNat0 (w : World) (s n : Nat) (h : Stk0 w s) (hn0 : 0 < n) (hn : n ≤ 800) :
    Calls Tryz.prog 182 #[.pointer (some ⟨s, 0, none⟩), .int .i64 n] w fun e w' => ∃ b G C st, e = .returned (.slice (some ⟨b, 0, none⟩) n G) ∧ w.heap.size ≤ b ∧ Arr w' b C ∧ n ≤ C.length ∧ n ≤ G ∧ Chg w w' (fun k => k = s) ∧
      StkS w' s st ∧ (st = none ∨ ∃ t l, st = some (t, b, l) ∧ w.heap.size ≤ t ∧ n ≤ l ∧ l ≤ n + 3) := by
  by_cases h4 : n ≤ 4
  · refine (stkSmall w s n h hn0 h4).mono ?_
    rintro e w' ⟨b, G, C, rfl, hb, ha, hC, hG, hchg⟩
    exact ⟨b, G, C, none, rfl, hb, ha, hC, hG, hchg.mono (fun _ _ h => h.elim), hchg.heap h (fun h => h), .inl rfl⟩
  · have hc := cell1 h
    have hf := frozen1 h 0
    have hlt := lt_of_heap h
    have hi := fun w' ht => innerNil w' w.heap.size n ht hn0 hn
    go_enter Tryz.func182, Tryz.ntmps182
    go_wp2_with fail
    have hs2 := set1 (v' := .pointer (some ⟨w.heap.size, 0, none⟩)) h
    have hch1 := chg_set w s 0 (.pointer (some ⟨w.heap.size, 0, none⟩))
    have hsz : (w.setCell ⟨s, 0, none⟩ (.pointer (some ⟨w.heap.size, 0, none⟩))).heap.size = w.heap.size := World.size_setCell _ _ _
    generalize w.setCell ⟨s, 0, none⟩ (.pointer (some ⟨w.heap.size, 0, none⟩)) = w1 at hs2 hch1 hsz ⊢
    have ht1 : ((w1.alloc (.cells #[.slice none 0 0] 224 (0, 0))).heap)[w.heap.size]? = some (.cells #[.slice none 0 0] 224 (0, 0)) := by
      rw [← hsz]
      show (w1.heap.push _)[w1.heap.size]? = _
      rw [Array.getElem?_push, if_pos rfl]
    have hs3 : ((w1.alloc (.cells #[.slice none 0 0] 224 (0, 0))).heap)[s]? = some (.cells #[.pointer (some ⟨w.heap.size, 0, none⟩)] 201 (0, 0)) := by
      rw [Below.heap_alloc _ _ _ (by omega)]; exact hs2
    have hch2 : Chg w (w1.alloc (.cells #[.slice none 0 0] 224 (0, 0))) (fun k => k = s) := hch1.alloc _
    have hsz2 : (w1.alloc (.cells #[.slice none 0 0] 224 (0, 0))).heap.size = w.heap.size + 1 := by rw [World.size_alloc, hsz]
    generalize w1.alloc (.cells #[.slice none 0 0] 224 (0, 0)) = w2 at ht1 hs3 hch2 hsz2 ⊢
    refine (hi w2 ht1).mono ?_
    rintro e w3 ⟨b, c, C, rfl, hb, ht3, ha, hlc, hC, hc63, hchg⟩
    have h4' := r4_ge n
    have h5' := r4_le n
    clear hc hf
    go_wp2
    go_ret
    refine ⟨b, n, C, some (w.heap.size, b, r4 n), rfl, by omega, ha, by omega, Nat.le_refl _, hch2.trans (hchg.mono (fun k _ h => .inr (by omega))), ?_, .inr ⟨_, _, rfl, Nat.le_refl _, h4', h5'⟩⟩
    exact ⟨c, C, hchg.heap hs3 (by omega), ht3, ha, hlc, hC, hc63⟩

set_option maxHeartbeats 1000000 in
theorem stkNat1 (w : World) (s t b l n : Nat) (h : StkS w s (some (t, b, l))) (hl : l ≤ 800) (hn0 : 0 < n) (hn : n ≤ 800) (hsb : s ≠ t) :
    Calls Tryz.prog 182 #[.pointer (some ⟨s, 0, none⟩), .int .i64 n] w fun e w' => ∃ b' C', e = .returned (.slice (some ⟨b', l, none⟩) n n) ∧ (b' = b ∨ w.heap.size ≤ b') ∧ Arr w' b' C' ∧ l + n ≤ C'.length ∧
      Chg w w' (fun k => k = t ∨ k = b) ∧ (∃ l', StkS w' s (some (t, b', l'))) ∧ ∀ Cv, Arr w b Cv → ∃ Cb, Arr w' b Cb ∧ Cb.length = Cv.length ∧ ∀ j, j < l → nth Cb j = nth Cv j := by
  obtain ⟨c, C, h1⟩ := h
  have hc := cell1 h1.hs
  have hi := innerMore w t b l c n C h1.ht h1.hb h1.hC h1.hl h1.hc hl hn0 hn
  have h4 := r4_ge n
  go_enter Tryz.func182, Tryz.ntmps182
  go_wp2_with fail
  refine hi.mono ?_
  rintro e w3 ⟨b', c', C', rfl, hb, ht3, ha, hlc, hC, hc63, hchg, Cb, hCb, hCbl, hsame⟩
  go_wp2
  go_ret
  refine ⟨b', C', rfl, hb, ha, by omega, hchg, ⟨l + r4 n, c', C', ?_, ht3, ha, hlc, hC, hc63⟩, ?_⟩
  · refine hchg.heap h1.hs ?_
    rintro (e | e)
    · exact hsb e
    · exact (h1.hb.ne h1.hs (by decide)) e.symm
  · intro Cv hCv
    obtain rfl := h1.hb.inj hCv
    exact ⟨Cb, hCb, by rw [hCbl, h1.hC], hsame⟩
end Go.Proofs.YtgdpljjmnmapmaaGreatDoor

namespace Go.Proofs.YtgdpljjmnmapmaaGreatDoor

/-- The true digit is at most the guess. -/
theorem guess_ge {P vl V2 tl U2 qh : Nat} (_hP : 0 < P) (hv : 0 < vl + P * V2) (htl : tl < P) (h : U2 < (qh + 1) * V2) : (tl + P * U2) / (vl + P * V2) ≤ qh := by
  rw [Nat.div_le_iff_le_mul_add_pred hv]
  have h1 : P * (U2 + 1) ≤ P * ((qh + 1) * V2) := Nat.mul_le_mul_left _ h
  have e1 : P * (U2 + 1) = P * U2 + P := Nat.mul_succ _ _
  have e2 : P * ((qh + 1) * V2) = qh * (P * V2) + P * V2 := by
    rw [Nat.add_mul, Nat.one_mul, Nat.mul_add, Nat.mul_left_comm]
  have e3 : (vl + P * V2) * qh = qh * vl + qh * (P * V2) := by rw [Nat.mul_comm, Nat.mul_add]
  omega
/-- The guess is at most one more than the true digit. -/
theorem guess_le {P vl V2 tl U2 qh : Nat} (hv : 0 < vl + P * V2) (hvl : vl < P) (h : qh * V2 ≤ U2) (hq : qh ≤ V2) : qh ≤ (tl + P * U2) / (vl + P * V2) + 1 := by
  rcases Nat.eq_zero_or_pos qh with h0 | h0
  · rw [h0]; exact Nat.zero_le _
  obtain ⟨k, rfl⟩ : ∃ k, qh = k + 1 := ⟨qh - 1, by omega⟩
  have : k ≤ (tl + P * U2) / (vl + P * V2) := by
    rw [Nat.le_div_iff_mul_le hv]
    have e1 : k * (vl + P * V2) = k * vl + P * (k * V2) := by rw [Nat.mul_add, Nat.mul_left_comm]
    have e2 : (k + 1) * V2 = k * V2 + V2 := Nat.succ_mul _ _
    have h1 : k * vl ≤ P * V2 := by
      calc k * vl ≤ k * P := Nat.mul_le_mul_left _ (Nat.le_of_lt hvl)
        _ ≤ V2 * P := Nat.mul_le_mul_right _ (by omega)
        _ = P * V2 := Nat.mul_comm _ _
    have h2 : P * (k * V2 + V2) ≤ P * U2 := Nat.mul_le_mul_left _ (by omega)
    rw [Nat.mul_add] at h2
    omega
  exact Nat.succ_le_succ this
/-- Where the first digits agree the greatest digit serves. -/
theorem guess_max {B P vl v1 v2 tl t1 t2 : Nat} (hB : 2 ≤ B) (hvl : vl < P) (hv2 : v2 < B) (hv1 : B ≤ 2 * v1) (hlt : tl + P * (t2 + B * t1 + B * B * v1) < B * (vl + P * (v2 + B * v1))) :
    (tl + P * (t2 + B * t1 + B * B * v1)) / (vl + P * (v2 + B * v1)) ≤ B - 1 ∧ B - 1 ≤ (tl + P * (t2 + B * t1 + B * B * v1)) / (vl + P * (v2 + B * v1)) + 1 := by
  have hv : 0 < vl + P * (v2 + B * v1) := by
    have : 0 < P * (v2 + B * v1) := Nat.mul_pos (by omega) (by have := Nat.mul_pos (show 0 < B by omega) (show 0 < v1 by omega); omega)
    omega
  constructor
  · have := (Nat.div_lt_iff_lt_mul hv).2 hlt
    omega
  · have : B - 2 ≤ (tl + P * (t2 + B * t1 + B * B * v1)) / (vl + P * (v2 + B * v1)) := by
      rw [Nat.le_div_iff_mul_le hv]
      obtain ⟨c, rfl⟩ : ∃ c, B = c + 2 := ⟨B - 2, by omega⟩
      rw [Nat.add_sub_cancel]
      have h1 : vl + P * (v2 + (c + 2) * v1) ≤ P * ((c + 2) * (v1 + 1)) := by
        have h3 : v2 + 1 + (c + 2) * v1 ≤ (c + 2) * (v1 + 1) := by rw [Nat.mul_succ]; omega
        have h4 := Nat.mul_le_mul_left P h3
        have e4 : P * (v2 + 1 + (c + 2) * v1) = P * (v2 + (c + 2) * v1) + P := by rw [show v2 + 1 + (c + 2) * v1 = (v2 + (c + 2) * v1) + 1 by omega, Nat.mul_succ]
        omega
      have h2 : c * (P * ((c + 2) * (v1 + 1))) ≤ P * ((c + 2) * (c + 2) * v1) := by
        have h5 : c * (v1 + 1) ≤ (c + 2) * v1 := by rw [Nat.mul_succ, Nat.add_mul]; omega
        have h6 := Nat.mul_le_mul_left (P * (c + 2)) h5
        have e6 : c * (P * ((c + 2) * (v1 + 1))) = P * (c + 2) * (c * (v1 + 1)) := by
          rw [Nat.mul_left_comm c P, Nat.mul_left_comm c (c + 2), Nat.mul_assoc]
        have e7 : P * ((c + 2) * (c + 2) * v1) = P * (c + 2) * ((c + 2) * v1) := by
          rw [Nat.mul_assoc (c + 2), ← Nat.mul_assoc P]
        rw [e6, e7]; exact h6
      calc c * (vl + P * (v2 + (c + 2) * v1)) ≤ c * (P * ((c + 2) * (v1 + 1))) := Nat.mul_le_mul_left _ h1
        _ ≤ P * ((c + 2) * (c + 2) * v1) := h2
        _ ≤ tl + P * (t2 + (c + 2) * t1 + (c + 2) * (c + 2) * v1) := by
          rw [Nat.mul_add P (t2 + (c + 2) * t1)]; omega
    omega
/-- The first digit is at most the divisor's. -/
theorem first_le {B P vl v1 v2 tl t0 t1 t2 : Nat} (_hB : 0 < B) (hvl : vl < P) (hv2 : v2 < B) (hlt : tl + P * (t2 + B * t1 + B * B * t0) < B * (vl + P * (v2 + B * v1))) : t0 ≤ v1 := by
  have h1 : vl + P * (v2 + B * v1) < P * (B * (v1 + 1)) + 1 := by
    have h3 : v2 + 1 + B * v1 ≤ B * (v1 + 1) := by rw [Nat.mul_succ]; omega
    have h4 := Nat.mul_le_mul_left P h3
    have e4 : P * (v2 + 1 + B * v1) = P * (v2 + B * v1) + P := by rw [show v2 + 1 + B * v1 = (v2 + B * v1) + 1 by omega, Nat.mul_succ]
    omega
  have h2 : P * (B * B * t0) < B * (P * (B * (v1 + 1))) := by
    have h5 : B * (vl + P * (v2 + B * v1)) ≤ B * (P * (B * (v1 + 1))) := Nat.mul_le_mul_left _ (by omega)
    have h6 : P * (B * B * t0) ≤ P * (t2 + B * t1 + B * B * t0) := Nat.mul_le_mul_left _ (by omega)
    omega
  have e : B * (P * (B * (v1 + 1))) = P * (B * B * (v1 + 1)) := by rw [Nat.mul_left_comm, Nat.mul_assoc B B]
  rw [e] at h2
  have h7 := Nat.lt_of_mul_lt_mul_left h2
  have h8 := Nat.lt_of_mul_lt_mul_left h7
  omega

/-- A list of words, cut at its last two. -/
theorem val_top2 {L : List Nat} {k : Nat} (h : L.length = k + 2) : val L = val (L.take k) + WB ^ k * (nth L k + WB * nth L (k + 1)) := by
  have h1 : L.take (k + 1 + 1) = L := List.take_of_length_le (by omega)
  have h2 := val_take_succ (l := L) (k := k + 1) (by omega)
  rw [h1, val_take_succ (k := k) (by omega), Nat.pow_succ] at h2
  rw [h2, Nat.mul_add, Nat.mul_assoc, Nat.add_assoc]
theorem val_top3 {L : List Nat} {k : Nat} (h : L.length = k + 3) : val L = val (L.take k) + WB ^ k * (nth L k + WB * nth L (k + 1) + WB * WB * nth L (k + 2)) := by
  have h1 : L.take (k + 2 + 1) = L := List.take_of_length_le (by omega)
  have h2 := val_take_succ (l := L) (k := k + 2) (by omega)
  have h3 := val_take_succ (l := L) (k := k + 1) (by omega)
  rw [h1] at h2
  rw [show k + 1 + 1 = k + 2 from rfl, val_take_succ (k := k) (by omega)] at h3
  have e1 : WB ^ (k + 2) * nth L (k + 2) = WB ^ k * (WB * WB * nth L (k + 2)) := by
    rw [show k + 2 = k + 1 + 1 from rfl, Nat.pow_succ, Nat.pow_succ, Nat.mul_assoc (WB ^ k), Nat.mul_assoc (WB ^ k)]
  have e2 : WB ^ (k + 1) * nth L (k + 1) = WB ^ k * (WB * nth L (k + 1)) := by rw [Nat.pow_succ, Nat.mul_assoc]
  rw [h2, h3, e1, e2, Nat.mul_add, Nat.mul_add]
  omega
end Go.Proofs.YtgdpljjmnmapmaaGreatDoor

namespace Go.Proofs.YtgdpljjmnmapmaaGreatDoor
open Go Go.RowKit

theorem digit_bounds {V T : List Nat} {k : Nat} (hV : V.length = k + 2) (hT : T.length = k + 3) (WV : Wd V) (WT : Wd T) (hn : WB ≤ 2 * nth V (k + 1)) (hlt : val T < WB * val V) :
    nth T (k + 2) ≤ nth V (k + 1) ∧ (nth T (k + 2) = nth V (k + 1) → val T / val V ≤ WB - 1 ∧ WB - 1 ≤ val T / val V + 1) ∧
    ∀ qh, qh < WB → qh * (nth V k + WB * nth V (k + 1)) ≤ nth T k + WB * nth T (k + 1) + WB * WB * nth T (k + 2) →
      nth T k + WB * nth T (k + 1) + WB * WB * nth T (k + 2) < (qh + 1) * (nth V k + WB * nth V (k + 1)) → val T / val V ≤ qh ∧ qh ≤ val T / val V + 1 := by
  have hvl := val_lt (WV.take k)
  rw [List.length_take, Nat.min_eq_left (by omega)] at hvl
  have htl := val_lt (WT.take k)
  rw [List.length_take, Nat.min_eq_left (by omega)] at htl
  rw [val_top2 hV, val_top3 hT] at *
  have hv1 := WB_two
  have h2 := WV.nth k
  have hpos : 0 < val (V.take k) + WB ^ k * (nth V k + WB * nth V (k + 1)) := by
    have h3 : 0 < WB * nth V (k + 1) := Nat.mul_pos WB_pos (by omega)
    have := Nat.mul_pos (WB_pow_pos k) (show 0 < nth V k + WB * nth V (k + 1) by omega)
    omega
  refine ⟨first_le WB_pos hvl h2 hlt, fun e => ?_, fun qh hq h3 h4 => ⟨guess_ge (WB_pow_pos k) hpos htl h4, guess_le hpos hvl h3 ?_⟩⟩
  · rw [e] at hlt ⊢
    exact guess_max WB_two hvl h2 hn hlt
  · have : WB * 1 ≤ WB * nth V (k + 1) := Nat.mul_le_mul_left _ (by omega)
    omega

/-- The first guess is not too small. -/
theorem guess_start {t0 t1 t2 v1 v2 : Nat} (hv1 : 0 < v1) (ht2 : t2 < WB) : t2 + WB * t1 + WB * WB * t0 < ((t0 * WB + t1) / v1 + 1) * (v2 + WB * v1) := by
  generalize hq : (t0 * WB + t1) / v1 = q
  have h1 : t0 * WB + t1 < (q + 1) * v1 := by
    rw [← hq, Nat.mul_comm (_ + 1)]
    exact Nat.lt_mul_div_succ _ hv1
  have h2 : WB * (t0 * WB + t1 + 1) ≤ WB * ((q + 1) * v1) := Nat.mul_le_mul_left _ h1
  have e1 : WB * (t0 * WB + t1 + 1) = WB * WB * t0 + WB * t1 + WB := by
    rw [Nat.mul_add, Nat.mul_add, Nat.mul_one, Nat.mul_comm t0, Nat.mul_assoc]
  have e2 : (q + 1) * (v2 + WB * v1) = (q + 1) * v2 + WB * ((q + 1) * v1) := by rw [Nat.mul_add, Nat.mul_left_comm]
  rw [e2]; omega
/-- A guess that passes the test is small enough. -/
theorem guess_pass {t0 t1 t2 v1 v2 q r x : Nat} (hr : q * v1 + r = t0 * WB + t1) (hx : x = q * v2) (h : x ≤ r * WB + t2) : q * (v2 + WB * v1) ≤ t2 + WB * t1 + WB * WB * t0 := by
  have e1 : q * (v2 + WB * v1) = q * v2 + WB * (q * v1) := by rw [Nat.mul_add, Nat.mul_left_comm]
  have e2 : WB * (q * v1 + r) = WB * (t0 * WB + t1) := by rw [hr]
  rw [Nat.mul_add, Nat.mul_add] at e2
  have e3 : WB * (t0 * WB) = WB * WB * t0 := by rw [Nat.mul_comm t0, Nat.mul_assoc]
  have e4 : r * WB = WB * r := Nat.mul_comm _ _
  omega
/-- One that does not is not the greatest. -/
theorem guess_fail {t0 t1 t2 v1 v2 q r x : Nat} (hr : q * v1 + r = t0 * WB + t1) (hx : x = q * v2) (h : r * WB + t2 < x) : t2 + WB * t1 + WB * WB * t0 < q * (v2 + WB * v1) := by
  have e1 : q * (v2 + WB * v1) = q * v2 + WB * (q * v1) := by rw [Nat.mul_add, Nat.mul_left_comm]
  have e2 : WB * (q * v1 + r) = WB * (t0 * WB + t1) := by rw [hr]
  rw [Nat.mul_add, Nat.mul_add] at e2
  have e3 : WB * (t0 * WB) = WB * WB * t0 := by rw [Nat.mul_comm t0, Nat.mul_assoc]
  have e4 : r * WB = WB * r := Nat.mul_comm _ _
  omega
/-- Two words in order. -/
theorem two_words {x1 x2 y1 y2 : Nat} (hx2 : x2 < WB) (hy2 : y2 < WB) : (y1 < x1 ∨ x1 = y1 ∧ y2 < x2) ↔ y1 * WB + y2 < x1 * WB + x2 := by
  constructor
  · rintro (h | ⟨rfl, h⟩)
    · have := Nat.mul_le_mul_right WB (Nat.succ_le_of_lt h)
      rw [Nat.succ_mul] at this
      omega
    · omega
  · intro h
    rcases Nat.lt_trichotomy y1 x1 with h1 | h1 | h1
    · exact .inl h1
    · subst h1; exact .inr ⟨rfl, by omega⟩
    · have := Nat.mul_le_mul_right WB (Nat.succ_le_of_lt h1)
      rw [Nat.succ_mul] at this
      omega
/-- The product of the guess and the second digit, one guess less. -/
theorem less_guess {q v2 x1 x2 : Nat} (hx : x1 * WB + x2 = q * v2) (hq : 0 < q) (hv2 : v2 < WB) (hx1 : x1 < WB) (hx2 : x2 < WB) :
    (if x2 < v2 then wsub x1 1 else x1) * WB + wsub x2 v2 = (q - 1) * v2 ∧ (if x2 < v2 then wsub x1 1 else x1) < WB := by
  obtain ⟨k, rfl⟩ : ∃ k, q = k + 1 := ⟨q - 1, by omega⟩
  rw [Nat.add_sub_cancel]
  have e : (k + 1) * v2 = k * v2 + v2 := Nat.succ_mul _ _
  have hW := WB_two
  split
  · rename_i h
    have h1 : 1 ≤ x1 := by
      rcases Nat.eq_zero_or_pos x1 with h0 | h0
      · subst h0; omega
      · exact h0
    rw [wsub_borrow h hv2, wsub_of h1 hx1]
    obtain ⟨c, rfl⟩ : ∃ c, x1 = c + 1 := ⟨x1 - 1, by omega⟩
    rw [Nat.succ_mul] at hx
    rw [Nat.add_sub_cancel]
    exact ⟨by omega, by omega⟩
  · rename_i h
    rw [wsub_of (by omega) hx2]
    exact ⟨by omega, hx1⟩
/-- The remainder runs over: the guess is small enough. -/
theorem guess_over {t0 t1 t2 v1 v2 q r : Nat} (hr : q * v1 + r = t0 * WB + t1) (hq : q < WB) (hv2 : v2 < WB) (h : WB ≤ r) : q * (v2 + WB * v1) ≤ t2 + WB * t1 + WB * WB * t0 := by
  refine guess_pass hr rfl ?_
  have h1 : q * v2 ≤ WB * WB := Nat.mul_le_mul (Nat.le_of_lt hq) (Nat.le_of_lt hv2)
  have h2 : WB * WB ≤ r * WB := Nat.mul_le_mul_right _ h
  omega
end Go.Proofs.YtgdpljjmnmapmaaGreatDoor

namespace Go.Proofs.YtgdpljjmnmapmaaGreatDoor
open Go Go.RowKit

theorem spl_fix {U R2 R3 : List Nat} {j k x : Nat} (h : j + (k + 3) ≤ U.length) (hR2 : R2.length = k + 3) (hR3 : R3.length = k + 2) : (spl (spl U j R2) j R3).set (j + (k + 2)) x = spl U j (R3 ++ [x]) := by
  have l1 : (spl U j R2).length = U.length := spl_length (by omega)
  have l2 : (spl (spl U j R2) j R3).length = U.length := by rw [spl_length (by omega), l1]
  have l3 : (R3 ++ [x]).length = k + 3 := by rw [List.length_append, hR3]; rfl
  apply List.ext_getElem?
  intro i
  rw [List.getElem?_set]
  split
  · rename_i e; subst e
    rw [if_pos (by omega), spl_mid (C := U) (o := j) (R := R3 ++ [x]) (by omega) (by omega), List.getElem?_append_right (by omega)]
    simp [hR3]
  · rename_i e
    by_cases h1 : i < j
    · rw [spl_lt (C := spl U j R2) (o := j) (R := R3) (by omega) h1, spl_lt (C := U) (o := j) (R := R2) (by omega) h1, spl_lt (C := U) (o := j) (R := R3 ++ [x]) (by omega) h1]
    · by_cases h2 : i < j + (k + 2)
      · obtain ⟨d, rfl⟩ : ∃ d, i = j + d := ⟨i - j, by omega⟩
        rw [spl_mid (C := spl U j R2) (o := j) (R := R3) (by omega) (by omega), spl_mid (C := U) (o := j) (R := R3 ++ [x]) (by omega) (by omega), List.getElem?_append_left (by omega)]
      · rw [spl_ge (C := spl U j R2) (o := j) (R := R3) (by omega) (by omega), spl_ge (C := U) (o := j) (R := R2) (by omega) (by omega), spl_ge (C := U) (o := j) (R := R3 ++ [x]) (by omega) (by omega)]

/-- What is added back runs over the top. -/
theorem back_val {R2 R3 : List Nat} {v r c3 k : Nat} (hR2 : R2.length = k + 3) (hR3 : R3.length = k + 2) (WR3 : Wd R3) (h7 : val R3 + WB ^ (k + 2) * c3 = val (R2.take (k + 2)) + v)
    (h2 : val R2 + v = r + WB ^ (k + 3)) (hr : r < WB ^ (k + 2)) : val (R3 ++ [wadd (nth R2 (k + 2)) c3]) = r := by
  have h3 := val_take_succ (l := R2) (k := k + 2) (by omega)
  rw [List.take_of_length_le (by omega)] at h3
  have h4 := val_lt WR3
  rw [hR3] at h4
  have h5 : val R3 + WB ^ (k + 2) * (nth R2 (k + 2) + c3) = r + WB ^ (k + 2) * WB := by
    rw [Nat.mul_add, show WB ^ (k + 2) * WB = WB ^ (k + 3) from (Nat.pow_succ _ _).symm]
    omega
  have h6 : (val R3 + WB ^ (k + 2) * (nth R2 (k + 2) + c3)) / WB ^ (k + 2) = nth R2 (k + 2) + c3 := by
    rw [Nat.add_mul_div_left _ _ (WB_pow_pos _), Nat.div_eq_of_lt h4, Nat.zero_add]
  have h8 : (r + WB ^ (k + 2) * WB) / WB ^ (k + 2) = WB := by
    rw [Nat.add_mul_div_left _ _ (WB_pow_pos _), Nat.div_eq_of_lt hr, Nat.zero_add]
  rw [h5, h8] at h6
  have h9 : wadd (nth R2 (k + 2)) c3 = 0 := by unfold wadd; rw [← h6, Nat.mod_self]
  rw [← h6] at h5
  rw [h9, val_snoc, Nat.mul_zero, Nat.add_zero]
  omega

/-- A digit of the quotient is known: the state goes down by one place. -/
theorem div_step {U0v N M k j : Nat} {U' Q' R5 V T : List Nat} (hN : N = M + (k + 2)) (hj : j < M) (hUl : N ≤ U'.length) (hQl : M ≤ Q'.length) (hT : ((U'.take N).drop j).take (k + 3) = T)
    (hTv : val ((U'.take N).drop j) = val T) (hR5 : R5.length = k + 3) (hv : val R5 = val T % val V) (hV : 0 < val V)
    (heq : U0v = val (U'.take N) + val V * (WB ^ (j + 1) * val ((Q'.take M).drop (j + 1)))) :
    U0v = val ((spl U' j R5).take N) + val V * (WB ^ j * val (((Q'.set j (val T / val V)).take M).drop j)) ∧ val (((spl U' j R5).take N).drop j) < val V := by
  have hLl : (U'.take N).length = N := by rw [List.length_take]; omega
  have e1 : (spl U' j R5).take N = (U'.take N).take j ++ (R5 ++ ((U'.take N).drop j).drop (k + 3)) := by
    apply List.ext_getElem?
    intro i
    by_cases hi : i < N
    · rw [List.getElem?_take_of_lt hi]
      by_cases h1 : i < j
      · rw [spl_lt (C := U') (o := j) (R := R5) (by omega) h1, List.getElem?_append_left (by simp; omega), List.getElem?_take_of_lt h1, List.getElem?_take_of_lt hi]
      · by_cases h2 : i < j + (k + 3)
        · obtain ⟨d, rfl⟩ : ∃ d, i = j + d := ⟨i - j, by omega⟩
          rw [spl_mid (C := U') (o := j) (R := R5) (by omega) (by omega), List.getElem?_append_right (by simp; omega), List.getElem?_append_left (by simp; omega)]
          congr 1; simp; omega
        · rw [spl_ge (C := U') (o := j) (R := R5) (by omega) (by omega), List.getElem?_append_right (by simp; omega), List.getElem?_append_right (by simp; omega), List.getElem?_drop, List.getElem?_drop, List.getElem?_take_of_lt (by simp; omega)]
          congr 1; simp; omega
    · rw [List.getElem?_eq_none (by simp; omega), List.getElem?_eq_none (by simp; omega)]
  have hz : WB ^ (k + 3) * val (((U'.take N).drop j).drop (k + 3)) = 0 := by
    have h1 := val_take_drop ((U'.take N).drop j) (k + 3) (by rw [List.length_drop, hLl]; omega)
    rw [hT, hTv] at h1
    omega
  have hd : val (R5 ++ ((U'.take N).drop j).drop (k + 3)) = val R5 := by rw [val_append, hR5, hz, Nat.add_zero]
  have htl : ((U'.take N).take j).length = j := by rw [List.length_take, hLl]; omega
  have hL1 : val ((spl U' j R5).take N) = val ((U'.take N).take j) + WB ^ j * val R5 := by rw [e1, val_append, htl, hd]
  have hL0 : val (U'.take N) = val ((U'.take N).take j) + WB ^ j * val T := by
    have h1 := val_take_drop (U'.take N) j (by omega)
    rw [hTv] at h1
    exact h1
  have hQ : ((Q'.set j (val T / val V)).take M).drop j = (val T / val V) :: (Q'.take M).drop (j + 1) := by
    apply List.ext_getElem?
    intro i
    rw [List.getElem?_drop]
    cases i with
    | zero => rw [Nat.add_zero, List.getElem?_take_of_lt hj, List.getElem?_set_self (by omega)]; rfl
    | succ i =>
      rw [List.getElem?_cons_succ, List.getElem?_drop, show j + 1 + i = j + (i + 1) by omega]
      by_cases h1 : j + (i + 1) < M
      · rw [List.getElem?_take_of_lt h1, List.getElem?_take_of_lt h1, List.getElem?_set_ne (by omega)]
      · rw [List.getElem?_eq_none (by simp; omega), List.getElem?_eq_none (by simp; omega)]
  have hdm : val T / val V * val V + val T % val V = val T := by rw [Nat.mul_comm]; exact Nat.div_add_mod _ _
  refine ⟨?_, ?_⟩
  · rw [heq, hL0, hL1, hQ, val_cons, hv]
    have h1 : WB ^ j * val T = WB ^ j * (val T / val V * val V) + WB ^ j * (val T % val V) := by rw [← Nat.mul_add, hdm]
    have h2 : val V * (WB ^ j * (val T / val V + WB * val ((Q'.take M).drop (j + 1)))) = WB ^ j * (val T / val V * val V) + val V * (WB ^ (j + 1) * val ((Q'.take M).drop (j + 1))) := by
      rw [Nat.mul_add, Nat.mul_add, Nat.pow_succ, Nat.mul_assoc (WB ^ j)]
      congr 1
      rw [Nat.mul_left_comm, Nat.mul_comm (val V)]
    omega
  · have h3 : ((spl U' j R5).take N).drop j = R5 ++ ((U'.take N).drop j).drop (k + 3) := by
      rw [e1, List.drop_append_of_le_length (by omega), List.drop_of_length_le (by omega), List.nil_append]
    rw [h3, hd, hv]
    exact Nat.mod_lt _ hV
end Go.Proofs.YtgdpljjmnmapmaaGreatDoor

namespace Go.Proofs.YtgdpljjmnmapmaaGreatDoor
open Go Go.RowKit

/-- The words V lie at a place. -/
def At (w : World) (b o : Nat) (V : List Nat) : Prop := ∀ i, i < V.length → w.cell? ⟨b, o + i, none⟩ = some (.int .u64 (nth V i : Int))
theorem At.chg {w w' : World} {S : Nat → Prop} {b o : Nat} {V : List Nat} (h : At w b o V) (hc : Chg w w' S) (hn : ¬ S b) : At w' b o V := fun i hi => hc.cell (h i hi) hn
/-- They are read while others are written that lie elsewhere, or behind them. -/
theorem At.sub {w wr : World} {b o bz oz : Nat} {V C R : List Nat} (h : At w b o V) (ha : Arr w bz C) (hS : Sub w wr bz (spl C oz R)) (hfit : oz + R.length ≤ C.length) (hs : b ≠ bz ∨ o + V.length ≤ oz) : At wr b o V := by
  intro i hi
  by_cases e : b = bz
  · subst e
    have hle : o + V.length ≤ oz := by
      rcases hs with h | h
      · exact absurd rfl h
      · exact h
    have h1 := h i hi
    have hlt : o + i < C.length := by omega
    rw [ha.cellN hlt] at h1
    rw [hS.arr.cellN (by rw [spl_length hfit]; exact hlt), nth_spl_lt hfit (by omega)]
    exact h1
  · exact hS.chg.cell (h i hi) e
theorem At.rd {w : World} {b o bz oz n : Nat} {V C : List Nat} (h : At w b o V) (ha : Arr w bz C) (hn : V.length = n) (hfit : oz + n ≤ C.length) (hs : b ≠ bz ∨ o + V.length ≤ oz) : Rd w bz oz n C b o V := by
  intro wr R hS hR
  exact (h.sub ha hS (by omega) hs) R.length (by omega)

end Go.Proofs.YtgdpljjmnmapmaaGreatDoor

namespace Go.Proofs.YtgdpljjmnmapmaaGreatDoor
open Go Go.RowKit

/-- The state of a long division: the digits from J on are known. -/
structure DivInv (w1 wr : World) (bu bq bh bv ov : Nat) (U0 V : List Nat) (M N lQ lH J : Nat) (U Q H : List Nat) : Prop where
  hU : Arr wr bu U
  lU : U.length = U0.length
  hQ : Arr wr bq Q
  lQ : Q.length = lQ
  hH : Arr wr bh H
  lH : H.length = lH
  hV : At wr bv ov V
  chg : Chg w1 wr (fun k => k = bu ∨ k = bq ∨ k = bh)
  eq : val (U0.take N) = val (U.take N) + val V * (WB ^ J * val ((Q.take M).drop J))
  lt : val ((U.take N).drop J) < val V

theorem DivInv.drewN {w1 wr : World} {bu bq bh bv ov : Nat} {U0 V : List Nat} {M N lQ lH J : Nat} {U Q H : List Nat} (h : DivInv w1 wr bu bq bh bv ov U0 V M N lQ lH J U Q H) (n : Nat) : DivInv w1 (wr.drewN n) bu bq bh bv ov U0 V M N lQ lH J U Q H :=
  ⟨h.hU.drewN n, h.lU, h.hQ.drewN n, h.lQ, h.hH.drewN n, h.lH, h.hV.chg ((Chg.refl wr (fun _ => False)).drewN n) (fun h => h), h.chg.drewN n, h.eq, h.lt⟩

set_option maxRecDepth 200000 in
set_option maxHeartbeats 4000000 in
theorem divBasic_c (w : World) (stk : Value) (bq cq bu cu bv ov cv M k l0 : Nat) (U Q V : List Nat) (Pw : World → Nat → Prop) (Post : World → World → Prop)
    (hk : k ≤ 300) (hM0 : 0 < M) (hM : M ≤ 300)
    (hV : V.length = k + 2) (WV : Wd V) (hnorm : WB ≤ 2 * nth V (k + 1))
    (hcq : M ≤ cq) (hcu : M + (k + 2) ≤ cu) (hQl : M ≤ Q.length) (hUl : M + (k + 2) ≤ U.length) (hqu : bq ≠ bu) (hbv1 : bv ≠ bu) (hbv2 : bv ≠ bq)
    (htop : nth U (M + (k + 1)) < nth V (k + 1))
    (hsave : Calls Tryz.prog 180 #[stk] w fun e w' => e = .returned (.int .i64 l0) ∧ w = w')
    (hnat : Calls Tryz.prog 182 #[stk, .int .i64 ((k + 3 : Nat) : Int)] w fun e w1 => ∃ bh oh G H, e = .returned (.slice (some ⟨bh, oh, none⟩) (k + 3) G) ∧ Arr w1 bh H ∧ oh + (k + 3) ≤ H.length ∧ k + 3 ≤ G ∧ bh ≠ bu ∧ bh ≠ bq ∧ Arr w1 bu U ∧ Arr w1 bq Q ∧ At w1 bv ov V ∧ (bv ≠ bh ∨ ov + V.length ≤ oh) ∧ Pw w1 bh)
    (hrest : ∀ w1 bh w2, Pw w1 bh → Chg w1 w2 (fun k => k = bu ∨ k = bq ∨ k = bh) → CallsD Tryz.prog 179 #[stk, .int .i64 l0] .returning w2 fun e u' w3 => u' = .returning ∧ e = .returned (.tuple #[]) ∧ Post w2 w3) :
    Calls Tryz.prog 185 #[.slice (some ⟨bq, 0, none⟩) M cq, stk, .slice (some ⟨bu, 0, none⟩) (M + (k + 2)) cu, .slice (some ⟨bv, ov, none⟩) (k + 2) cv] w fun e w' =>
      e = .returned (.tuple #[]) ∧ ∃ w1 bh w2 U' Q', Pw w1 bh ∧ Chg w1 w2 (fun k => k = bu ∨ k = bq ∨ k = bh) ∧ Arr w2 bu U' ∧ U'.length = U.length ∧ Arr w2 bq Q' ∧ Q'.length = Q.length ∧
        val (U'.take (M + (k + 2))) = val (U.take (M + (k + 2))) % val V ∧ val (Q'.take M) = val (U.take (M + (k + 2))) / val V ∧ Post w2 w' := by
  rw [show ((k + 3 : Nat) : Int) = (k : Int) + 2 + 1 by omega] at hnat
  have e1 : IntKind.i64.wrap ((M : Int) + ((k : Int) + 2) - ((k : Int) + 2)) = (M : Int) := by rw [show (M : Int) + ((k : Int) + 2) - ((k : Int) + 2) = (M : Int) by omega]; exact IntWalk.i64_in _ (by omega)
  replace hrest := Lib.hid hrest
  replace hnorm := Lib.hid hnorm
  replace htop := Lib.hid htop
  go_enter_defers Tryz.func185, Tryz.ntmps185
  go_wp2_with fail
  refine hsave.mono ?_
  rintro e w' ⟨rfl, hw⟩
  obtain rfl := hw
  go_wp2_with fail
  refine hnat.mono ?_
  rintro e w1 ⟨bh, oh, G, H, rfl, hH, hHl, hG, hhu, hhq, hU, hQ, hAt, hsep, hP⟩
  have hvk := hAt (k + 1) (by omega)
  have hrc := fun w => reciprocalWord_c (nth V (k + 1)) (WV.nth _) (by have := hnorm.out; have := WB_two; omega) w
  go_wp2_with fail
  refine (hrc _).mono ?_
  rintro e w1' ⟨rfl, nd, rfl⟩
  have hinv0 : DivInv w1 (w1.drewN nd) bu bq bh bv ov U V M (M + (k + 2)) Q.length H.length (M + 1) U Q H := by
    refine ⟨hU.drewN _, rfl, hQ.drewN _, rfl, hH.drewN _, rfl, hAt.chg ((Chg.refl w1 (fun _ => False)).drewN nd) (fun h => h), (Chg.refl w1 _).drewN nd, ?_, ?_⟩
    · rw [List.drop_of_length_le (by simp; omega)]; simp
    · have hw : Wd ((U.take (M + (k + 2))).drop (M + 1)) := (hU.wd.take _).drop _
      have h1 := val_lt hw
      rw [List.length_drop, List.length_take, Nat.min_eq_left (by omega), show M + (k + 2) - (M + 1) = k + 1 by omega] at h1
      have h2 := val_take_succ (l := V) (k := k + 1) (by omega)
      rw [List.take_of_length_le (by omega)] at h2
      have h3 : WB ^ (k + 1) * 1 ≤ WB ^ (k + 1) * nth V (k + 1) := Nat.mul_le_mul_left _ (by have := hnorm.out; have := WB_two; omega)
      omega
  replace hinv0 := Lib.hid hinv0
  clear hnat hsave hrc hvk
  go_wp2
  go_loopw [13, 14] (fun uj i wr => ∃ J : Nat, J ≤ M + 1 ∧ i = .int .i64 ((J : Int) - 1) ∧ ∃ U' Q' H', DivInv w1 wr bu bq bh bv ov U V M (M + (k + 2)) Q.length H.length J U' Q' H' ∧ uj = .int .u64 (nth (U'.take (M + (k + 2))) (J + (k + 1)) : Int) ∧ (J = M + 1 → U' = U)) (fun _ i _ => (intOf i + 1).toNat)
  case atStart =>
    refine ⟨M + 1, Nat.le_refl _, by congr 1; omega, U, Q, H, hinv0.out, ?_, fun _ => rfl⟩
    rw [nth_ge (by simp; omega)]; rfl
  case round =>
    obtain ⟨J, hJ, rfl, U', Q', H', hi, rfl, hJM⟩ := hrel
    by_cases hJ0 : J = 0
    · subst hJ0
      have hend : val (U'.take (M + (k + 2))) = val (U.take (M + (k + 2))) % val V ∧ val (Q'.take M) = val (U.take (M + (k + 2))) / val V := by
        have h1 := hi.eq
        have h2 := hi.lt
        rw [Nat.pow_zero, Nat.one_mul, List.drop_zero] at h1
        rw [List.drop_zero] at h2
        rw [h1, Nat.add_mul_mod_self_left, Nat.mod_eq_of_lt h2, Nat.add_mul_div_left _ _ (by omega), Nat.div_eq_of_lt h2, Nat.zero_add]
        exact ⟨rfl, rfl⟩
      have hrr := hrest.out w1 bh wr hP hi.chg
      replace hend := Lib.hid hend
      go_wp2
      refine leaves_cons (f := 179) (args := #[stk, .int .i64 l0]) (by simp) (by simp [go_sem]) ?_
      refine hrr.mono ?_
      rintro e u' w'' ⟨rfl, rfl, hpost⟩
      exact ⟨_, results_none rfl _ _ _, rfl, w1, bh, wr, U', Q', hP, hi.chg, hi.hU, hi.lU, hi.hQ, hi.lQ, hend.out.1, hend.out.2, hpost⟩
    · obtain ⟨j, rfl⟩ : ∃ j, J = j + 1 := ⟨J - 1, by omega⟩
      rw [show (((j + 1 : Nat) : Int) - 1) = (j : Int) by omega]
      clear hrest
      by_cases hjM : j = M
      · subst hjM
        obtain rfl := hJM rfl
        have hlU := hi.lU
        have hlH := hi.lH
        have hu0 : nth (U'.take (j + (k + 2))) (j + 1 + (k + 1)) = 0 := nth_ge (by simp; omega)
        rw [hu0]
        have hv1 := hi.hV (k + 1) (by omega)
        have hv2 := hi.hV k (by omega)
        have wv1 := WV.nth (k + 1)
        have wv2 := WV.nth k
        have hc1 := hi.hU.cellN (i := j + (k + 1)) (by omega)
        have hc3 := hi.hU.cellN (i := j + (k + 2) - 2) (by omega)
        have hw1 := hi.hU.wd.nth (j + (k + 1))
        have hltop := htop.out
        have hv1pos : 0 < nth V (k + 1) := by omega
        have hd : (((0 : Nat) : Int) != (nth V (k + 1) : Int)) = true := by simp; omega
        have hdw := fun w => divWW_c 0 (nth U' (j + (k + 1))) (nth V (k + 1)) wv1 hv1pos hv1pos hw1 w
        have hq0 : wdiv (0 * WB + nth U' (j + (k + 1))) (nth V (k + 1)) = 0 := by
          rw [Nat.zero_mul, Nat.zero_add]; exact Nat.div_eq_of_lt hltop
        have hr0 : wmod (0 * WB + nth U' (j + (k + 1))) (nth V (k + 1)) = nth U' (j + (k + 1)) := by
          rw [Nat.zero_mul, Nat.zero_add]; exact Nat.mod_eq_of_lt hltop
        rw [hq0, hr0] at hdw
        have hmw := fun w => mulWW_c 0 (nth V k) WB_pos wv2 w
        rw [show mulhi 0 (nth V k) = 0 by unfold mulhi; rw [Nat.zero_mul, Nat.zero_div], show mullo 0 (nth V k) = 0 by unfold mullo; rw [Nat.zero_mul, Nat.zero_mod]] at hmw
        have hgt := fun w => greaterThan_c 0 0 (nth U' (j + (k + 1))) (nth U' (j + (k + 2) - 2)) w
        have hma := mulAddVWW_c wr bh oh (k + 2) G bv ov cv 0 0 H' V (by omega) hi.hH (by omega) hV WV WB_pos WB_pos (hi.hV.rd hi.hH hV (by omega) hsep)
        replace htop := Lib.hid hltop
        have hlt : val ((U'.take (j + (k + 2))).drop j) < val V := by
          have hl : ((U'.take (j + (k + 2))).drop j).length = k + 2 := by simp; omega
          have hw : Wd ((U'.take (j + (k + 2))).drop j) := (hi.hU.wd.take _).drop _
          have h1 := val_take_succ (l := (U'.take (j + (k + 2))).drop j) (k := k + 1) (by omega)
          rw [List.take_of_length_le (by omega), nth_drop, nth_take (by omega)] at h1
          have h2 := val_lt (hw.take (k + 1))
          rw [List.length_take, Nat.min_eq_left (by omega)] at h2
          have h3 := val_take_succ (l := V) (k := k + 1) (by omega)
          rw [List.take_of_length_le (by omega)] at h3
          have h4 : WB ^ (k + 1) * (nth U' (j + (k + 1)) + 1) ≤ WB ^ (k + 1) * nth V (k + 1) := Nat.mul_le_mul_left _ hltop
          rw [Nat.mul_add, Nat.mul_one] at h4
          omega
        replace hlt := Lib.hid hlt
        rw [show decide (nth U' (j + (k + 1)) < 0 ∨ 0 = nth U' (j + (k + 1)) ∧ nth U' (j + (k + 2) - 2) < 0) = false by simp] at hgt
        generalize hgt1 : nth U' (j + (k + 1)) = t1 at *
        generalize hgt2 : nth U' (j + (k + 2) - 2) = t2 at *
        generalize hgv1 : nth V (k + 1) = v1 at *
        generalize hgv2 : nth V k = v2 at *
        replace hgt1 := Lib.hid hgt1
        replace hgt2 := Lib.hid hgt2
        replace hgv1 := Lib.hid hgv1
        replace hgv2 := Lib.hid hgv2
        clear hq0 hr0 hltop
        go_wp2_with fail
        refine (hdw _).mono ?_
        rintro e w' ⟨rfl, hw⟩
        obtain rfl := hw
        clear hdw
        go_wp2_with fail
        refine (hmw _).mono ?_
        rintro e w' ⟨rfl, hw⟩
        obtain rfl := hw.symm
        clear hmw
        go_wp2_with fail
        go_loopw [15, 16, 18, 19] (fun a b c d wr' => wr = wr' ∧ a = .int .u64 ((0 : Nat) : Int) ∧ b = .int .u64 (t1 : Int) ∧ c = .int .u64 ((0 : Nat) : Int) ∧ d = .int .u64 ((0 : Nat) : Int)) (fun _ _ _ _ _ => 0)
        case atStart => exact ⟨rfl, rfl, rfl, rfl, rfl⟩
        case round =>
          obtain ⟨hwr, rfl, rfl, rfl, rfl⟩ := hrel
          obtain rfl := hwr
          go_wp2_with fail
          refine (hgt _).mono ?_
          rintro e w' ⟨rfl, hw⟩
          obtain rfl := hw
          go_wp2_with fail
          refine hma.mono ?_
          rintro e w2 ⟨R, c, rfl, hS, hR, hcw, hv⟩
          have hc0 : c = 0 ∧ val R = 0 := by
            rw [Nat.mul_zero, Nat.add_zero] at hv
            rcases Nat.eq_zero_or_pos c with h | h
            · exact ⟨h, by omega⟩
            · have := Nat.mul_pos (WB_pow_pos (k + 2)) h
              omega
          obtain ⟨rfl, hvR⟩ := hc0
          have hwR : Wd R := by
            have h1 := hS.arr.wd
            unfold spl at h1
            exact h1.left.right
          have hz1 := hS.arr.cellN (i := oh + (k + 2)) (by rw [spl_length (by omega)]; omega)
          have hz2 := hS.arr.frozen (oh + (k + 2))
          have hS3 := hS.next (k := k + 2) hR (by omega) 0 WB_pos
          have hl3 : (R ++ [0]).length = k + 3 := by rw [List.length_append, hR]; rfl
          have hU3 := hS3.other (Ne.symm hhu) hi.hU
          have hV3 : At (w2.setCell ⟨bh, oh + (k + 2), none⟩ (.int .u64 ((0 : Nat) : Int))) bv ov V := hi.hV.sub hi.hH hS3 (by omega) hsep
          have hc3' : Chg wr (w2.setCell ⟨bh, oh + (k + 2), none⟩ (.int .u64 ((0 : Nat) : Int))) (fun k => k = bu ∨ k = bh) := hS3.chg.mono (fun _ _ h => .inr h)
          have hcz := hS3.arr.cellN (i := oh + (k + 2)) (by rw [spl_length (by omega)]; omega)
          rw [nth_spl_mid (C := H') (o := oh) (R := R ++ [0]) (by omega) (by omega), nth_append_right (by omega), hR, Nat.sub_self] at hcz
          have hn0 : nth [0] 0 = 0 := rfl
          rw [hn0] at hcz
          have t0' : (j : Int) + ((k : Int) + 2) < (j : Int) + ((k : Int) + 3) := by omega
          clear hma hv hS
          go_upto_region 28 with (fail)
          rw [show (k : Int) + 3 - 1 = (k : Int) + 2 by omega]
          have hH3 := hS3.arr
          generalize w2.setCell ⟨bh, oh + (k + 2), none⟩ (.int .u64 ((0 : Nat) : Int)) = w3 at hU3 hV3 hc3' hH3 ⊢
          have hd : Chg w3 w3.drew (fun _ => False) := (Chg.refl w3 _).drew
          have hU4 := hd.arr hU3 (fun h => h)
          have hH4 := hd.arr hH3 (fun h => h)
          have hV4 := hV3.chg hd (fun h => h)
          have hc4 : Chg wr w3.drew (fun k => k = bu ∨ k = bh) := hc3'.trans (hd.mono (fun _ _ h => h.elim))
          have hYh : ((spl H' oh (R ++ [0])).drop oh).take (k + 2) = R := by
            have h2 := spl_take_drop (C := H') (R := R ++ [0]) (o := oh) (by omega)
            rw [hl3] at h2
            rw [show ((spl H' oh (R ++ [0])).drop oh).take (k + 2) = (((spl H' oh (R ++ [0])).drop oh).take (k + 3)).take (k + 2) by rw [List.take_take, Nat.min_eq_left (by omega)], h2, List.take_append_of_le_length (by omega), List.take_of_length_le (by omega)]
          have hTl : ((U'.drop j).take (k + 2)).length = k + 2 := by simp; omega
          have hTw : Wd ((U'.drop j).take (k + 2)) := (hi.hU.wd.drop j).take _
          have hsub := subVV_c w3.drew bu j (k + 2) (cu - j) bu j (cu - j) bh oh G U' ((U'.drop j).take (k + 2)) R (by omega) hU4 (by omega) hTl hR hTw hwR
            (Rd.mk hU4 (by omega) hU4 (by omega) (.inr (Nat.le_refl _)))
            (by
              have h1 := Rd.mk (n := k + 2) (ox := oh) hU4 (oz := j) (by omega) hH4 (by rw [spl_length (by omega)]; omega) (.inl hhu)
              rwa [hYh] at h1)
          have s1 : IntKind.i64.wrap ((j : Int) + ((k : Int) + 2)) = (j : Int) + ((k : Int) + 2) := IntWalk.i64_in _ (by omega)
          have s2 : (j : Int) ≤ (j : Int) + ((k : Int) + 2) := by omega
          have s3 : (j : Int) + ((k : Int) + 2) ≤ (cu : Int) := by omega
          have s4 : ((j : Int) + ((k : Int) + 2)).toNat = j + (k + 2) := by omega
          have s5 : (0 : Int) ≤ (j : Int) + ((k : Int) + 2) := by omega
          have s6 : ¬ cu = j := by omega
          have s7 : (0 : Int) ≤ (k : Int) + 2 := by omega
          have s8 : (k : Int) + 2 ≤ (G : Int) := by omega
          have s9 : ((k : Int) + 2).toNat = k + 2 := by omega
          clear hd hU3 hH3 hV3 hc3' hS3 hz1 hz2 hcz
          replace hYh := Lib.hid hYh
          go_still_tail 15, (by kernel_rfl)
          change wpList _ _ _ _ _ w3.drew
          go_wp2_with fail
          refine hsub.mono ?_
          rintro e w4 ⟨R2, c2, rfl, hS5, hR2, hWR2, hc2l, hv5⟩
          have hsame : c2 = 0 ∧ R2 = (U'.drop j).take (k + 2) := by
            have h1 := val_lt hWR2
            rw [hR2] at h1
            rw [hvR, Nat.add_zero] at hv5
            rcases Nat.eq_zero_or_pos c2 with h | h
            · subst h
              rw [Nat.mul_zero, Nat.add_zero] at hv5
              exact ⟨rfl, (val_inj hTw hWR2 (by rw [hTl, hR2]) hv5).symm⟩
            · have := Nat.mul_le_mul_left (WB ^ (k + 2)) h
              rw [Nat.mul_one] at this
              omega
          obtain ⟨rfl, rfl⟩ := hsame
          have hself : spl U' j ((U'.drop j).take (k + 2)) = U' := by
            have h1 := spl_self (C := U') (o := j) (n := k + 2) (R := []) (by omega) (by simp)
            simpa [spl_nil] using h1
          rw [hself] at hS5
          have hH5 := hS5.other hhu hH4
          have hV5 := hV4.chg hS5.chg hbv1
          have hc5 : Chg wr w4 (fun k => k = bu ∨ k = bh) := hc4.trans (hS5.chg.mono (fun _ _ h => .inl (.inl h)))
          have hu1 := hS5.arr.cellN (i := j + (k + 1)) (by omega)
          rw [hgt1.out] at hu1
          have hinv : DivInv w1 w4 bu bq bh bv ov U' V j (j + (k + 2)) Q.length H.length j U' Q' (spl H' oh (R ++ [0])) := by
            refine ⟨hS5.arr, rfl, hc5.arr hi.hQ (fun h => h.elim hqu (fun h => hhq h.symm)), hi.lQ, hH5, by rw [spl_length (by omega)]; exact hi.lH, hV5,
              hi.chg.trans (hc5.mono (fun _ _ h => .inl (h.elim .inl (fun h => .inr (.inr h))))), ?_, hlt.out⟩
            rw [List.drop_of_length_le (by simp; omega)]
            simp
          have hnu : nth (U'.take (j + (k + 2))) (j + (k + 1)) = t1 := by rw [nth_take (by omega), hgt1.out]
          replace hinv := Lib.hid hinv
          replace hnu := Lib.hid hnu
          clear hsub hi hS5 hH5 hV5 hc5 hH4 hV4 hc4 hU4 hv5 hself
          go_wp2
          go_roundw
          case rel => exact ⟨j, by omega, rfl, _, _, _, hinv.out, by rw [hnu.out], fun h => by omega⟩
          case measure => simp [intOf]
      · have hjlt : j < M := by omega
        have hTl : ((((U'.take (M + (k + 2))).drop j).take (k + 3))).length = k + 3 := by
          have := hi.lU
          simp; omega
        have hLw : Wd (U'.take (M + (k + 2))) := hi.hU.wd.take _
        have hLl : (U'.take (M + (k + 2))).length = M + (k + 2) := by have := hi.lU; rw [List.length_take]; omega
        have hTv : val ((U'.take (M + (k + 2))).drop j) = val (((U'.take (M + (k + 2))).drop j).take (k + 3)) ∧ val ((U'.take (M + (k + 2))).drop j) < WB * val V := by
          have h1 : (U'.take (M + (k + 2))).drop j = nth (U'.take (M + (k + 2))) j :: (U'.take (M + (k + 2))).drop (j + 1) := drop_nth (by omega)
          have h2 : val ((U'.take (M + (k + 2))).drop j) < WB * val V := by
            rw [h1, val_cons]
            have h3 := hLw.nth j
            have h4 : WB * (val ((U'.take (M + (k + 2))).drop (j + 1)) + 1) ≤ WB * val V := Nat.mul_le_mul_left _ hi.lt
            rw [Nat.mul_add, Nat.mul_one] at h4
            omega
          refine ⟨?_, h2⟩
          have h5 := val_take_drop ((U'.take (M + (k + 2))).drop j) (k + 3) (by rw [List.length_drop, hLl]; omega)
          have h6 := val_lt WV
          rw [hV] at h6
          have h7 : WB * val V ≤ WB ^ (k + 3) * 1 := by
            rw [Nat.mul_one, Nat.pow_succ, Nat.mul_comm (WB ^ (k + 2))]
            exact Nat.mul_le_mul_left _ (Nat.le_of_lt h6)
          have h8 : val (((U'.take (M + (k + 2))).drop j).drop (k + 3)) < 1 := by
            refine Nat.lt_of_mul_lt_mul_left (a := WB ^ (k + 3)) ?_
            omega
          have h9 : val (((U'.take (M + (k + 2))).drop j).drop (k + 3)) = 0 := by omega
          rw [h9, Nat.mul_zero, Nat.add_zero] at h5
          exact h5
        have hTw : Wd (((U'.take (M + (k + 2))).drop j).take (k + 3)) := (hLw.drop j).take _
        have hT0 : nth (((U'.take (M + (k + 2))).drop j).take (k + 3)) (k + 2) = nth (U'.take (M + (k + 2))) (j + 1 + (k + 1)) := by rw [nth_take (by omega), nth_drop]; congr 1; omega
        have hT1 : nth (((U'.take (M + (k + 2))).drop j).take (k + 3)) (k + 1) = nth U' (j + (k + 1)) := by rw [nth_take (by omega), nth_drop, nth_take (by omega)]
        have hT2 : nth (((U'.take (M + (k + 2))).drop j).take (k + 3)) k = nth U' (j + k) := by rw [nth_take (by omega), nth_drop, nth_take (by omega)]
        rw [← hT0]
        have hc1 := hi.hU.cellN (i := j + (k + 1)) (by have := hi.lU; omega)
        have hc2 := hi.hU.cellN (i := j + k) (by have := hi.lU; omega)
        rw [← hT1] at hc1
        rw [← hT2] at hc2
        have hc3 : wr.cell? ⟨bu, j + (k + 2) - 2, none⟩ = some (.int .u64 (nth (((U'.take (M + (k + 2))).drop j).take (k + 3)) k : Int)) := by rw [show j + (k + 2) - 2 = j + k by omega]; exact hc2
        obtain ⟨hTv1, hTv2⟩ := hTv
        rw [hTv1] at hTv2
        generalize hT : ((U'.take (M + (k + 2))).drop j).take (k + 3) = T at *
        have hb := digit_bounds hV hTl WV hTw hnorm.out hTv2
        obtain ⟨hb1, hb2, hb3⟩ := hb
        have hw0 := hTw.nth (k + 2)
        have hw1 := hTw.nth (k + 1)
        have hw2 := hTw.nth k
        generalize nth T (k + 2) = t0 at *
        generalize nth T (k + 1) = t1 at *
        generalize nth T k = t2 at *
        have hv1 := hi.hV (k + 1) (by omega)
        have hv2 := hi.hV k (by omega)
        have wv1 := WV.nth (k + 1)
        have wv2 := WV.nth k
        have hv1pos : 0 < nth V (k + 1) := by have := hnorm.out; have := WB_two; omega
        replace hnorm := Lib.hid hnorm.out
        generalize hgv1 : nth V (k + 1) = v1 at *
        generalize hgv2 : nth V k = v2 at *
        replace hb2 := Lib.hid hb2
        replace hb3 := Lib.hid hb3
        replace hTv1 := Lib.hid hTv1
        replace hTv2 := Lib.hid hTv2
        replace hT0 := Lib.hid hT0
        replace hT1 := Lib.hid hT1
        replace hT2 := Lib.hid hT2
        replace hgv1 := Lib.hid hgv1
        replace hgv2 := Lib.hid hgv2
        replace hT := Lib.hid hT
        replace hLl := Lib.hid hLl
        replace hTl := Lib.hid hTl
        go_upto_if 51 with (fail)
        go_cut [15] from 45 to 200 (fun q wr' => wr = wr' ∧ ∃ qh : Nat, q = .int .u64 qh ∧ qh < WB ∧ val T / val V ≤ qh ∧ qh ≤ val T / val V + 1)
        case first =>
          by_cases he : t0 = v1
          · have hd : ((t0 : Int) != (v1 : Int)) = false := by simp; omega
            have hmx := hb2.out he
            replace hmx := Lib.hid hmx
            go_wp2
            go_meet
            refine ⟨rfl, WB - 1, by rw [WB_eq]; rfl, by have := WB_two; omega, hmx.out.1, hmx.out.2⟩
          · have hd : ((t0 : Int) != (v1 : Int)) = true := by simp; omega
            have hlt : t0 < v1 := by omega
            have hdw := fun w => divWW_c t0 t1 v1 wv1 hv1pos hlt hw1 w
            have hq0 : wdiv (t0 * WB + t1) v1 = (t0 * WB + t1) / v1 := rfl
            have hr0 : wmod (t0 * WB + t1) v1 = (t0 * WB + t1) % v1 := rfl
            have hqr : (t0 * WB + t1) / v1 * v1 + (t0 * WB + t1) % v1 = t0 * WB + t1 := by rw [Nat.mul_comm]; exact Nat.div_add_mod _ _
            have hrl : (t0 * WB + t1) % v1 < v1 := Nat.mod_lt _ hv1pos
            have hql : (t0 * WB + t1) / v1 < WB := by
              rw [Nat.div_lt_iff_lt_mul hv1pos]
              have := Nat.mul_le_mul_right WB (Nat.succ_le_of_lt hlt)
              rw [Nat.succ_mul] at this
              rw [Nat.mul_comm WB]
              omega
            have hgs := guess_start (t0 := t0) (t1 := t1) (v2 := v2) hv1pos hw2
            rw [hq0, hr0] at hdw
            generalize (t0 * WB + t1) / v1 = q0 at *
            generalize (t0 * WB + t1) % v1 = r0 at *
            have hmw := fun w => mulWW_c q0 v2 hql wv2 w
            have hmm := mullo_mulhi q0 v2
            have hmh := mulhi_lt hql wv2
            have hml := mullo_lt q0 v2
            replace hqr := Lib.hid hqr
            replace hgs := Lib.hid hgs
            replace hmm := Lib.hid hmm
            clear hq0 hr0
            go_wp2_with fail
            refine (hdw _).mono ?_
            rintro e w' ⟨rfl, hw⟩
            obtain rfl := hw
            clear hdw
            go_wp2_with fail
            refine (hmw _).mono ?_
            rintro e w' ⟨rfl, hw⟩
            obtain rfl := hw.symm
            clear hmw
            go_wp2_with fail
            go_loopw [15, 16, 18, 19] (fun a b c d wr' => wr = wr' ∧ ∃ q r x1 x2 : Nat, a = .int .u64 q ∧ b = .int .u64 r ∧ c = .int .u64 x1 ∧ d = .int .u64 x2 ∧ q < WB ∧ r < WB ∧ x1 < WB ∧ x2 < WB ∧ q * v1 + r = t0 * WB + t1 ∧ x1 * WB + x2 = q * v2 ∧ t2 + WB * t1 + WB * WB * t0 < (q + 1) * (v2 + WB * v1)) (fun a _ _ _ _ => (intOf a).toNat)
            case atStart => exact ⟨rfl, q0, r0, mulhi q0 v2, mullo q0 v2, rfl, rfl, rfl, rfl, hql, by omega, hmh, hml, hqr.out, by have := hmm.out; rw [Nat.mul_comm WB] at this; omega, hgs.out⟩
            case round =>
              obtain ⟨hwr, q, r, x1, x2, rfl, rfl, rfl, rfl, h1, h2, h3, h4, h5, h6, h7⟩ := hrel
              obtain rfl := hwr
              have hgt := fun w => greaterThan_c x1 x2 r t2 w
              by_cases hg : r < x1 ∨ x1 = r ∧ t2 < x2
              · have hgd : decide (r < x1 ∨ x1 = r ∧ t2 < x2) = true := by simpa using hg
                rw [hgd] at hgt
                have hx := (two_words h4 hw2).1 hg
                have hf := guess_fail (v2 := v2) h5 h6 hx
                have hqp : 0 < q := by
                  rcases Nat.eq_zero_or_pos q with h0 | h0
                  · subst h0; omega
                  · exact h0
                have hlg := less_guess h6 hqp wv2 h3 h4
                have hq1 : wsub q 1 = q - 1 := wsub_of hqp h1
                by_cases hov : WB ≤ r + v1
                · have hlt2 : wadd r v1 < v1 := by
                    have : wadd r v1 = r + v1 - WB := by
                      unfold wadd
                      rw [Nat.mod_eq_sub_mod hov, Nat.mod_eq_of_lt (by omega)]
                    omega
                  have hgo := guess_over (q := q - 1) (r := r + v1) (v1 := v1) (v2 := v2) (t0 := t0) (t1 := t1) (t2 := t2) (by
                    obtain ⟨c, rfl⟩ : ∃ c, q = c + 1 := ⟨q - 1, by omega⟩
                    rw [Nat.succ_mul] at h5
                    rw [Nat.add_sub_cancel]; omega) (by omega) wv2 hov
                  have hfin := hb3.out (q - 1) (by omega) hgo (by rw [Nat.sub_add_cancel hqp]; exact hf)
                  replace hfin := Lib.hid hfin
                  replace hq1 := Lib.hid hq1
                  clear hlg hf hgo hx h5 h6 h7 hg
                  go_wp2_with fail
                  refine (hgt _).mono ?_
                  rintro e w' ⟨rfl, hw⟩
                  obtain rfl := hw
                  go_wp2
                  go_meet
                  exact ⟨rfl, q - 1, by rw [hq1.out], by omega, hfin.out.1, hfin.out.2⟩
                · have hra : wadd r v1 = r + v1 := wadd_of (by omega)
                  have hlt2 : ¬ wadd r v1 < v1 := by omega
                  have hnr : (q - 1) * v1 + (r + v1) = t0 * WB + t1 := by
                    obtain ⟨c, rfl⟩ : ∃ c, q = c + 1 := ⟨q - 1, by omega⟩
                    rw [Nat.succ_mul] at h5
                    rw [Nat.add_sub_cancel]; omega
                  have hnu : t2 + WB * t1 + WB * WB * t0 < (q - 1 + 1) * (v2 + WB * v1) := by rw [Nat.sub_add_cancel hqp]; exact hf
                  have hws := wsub_lt x2 v2
                  replace hnr := Lib.hid hnr
                  replace hnu := Lib.hid hnu
                  replace hq1 := Lib.hid hq1
                  replace hra := Lib.hid hra
                  clear hf hx h5 h6 h7 hg
                  by_cases hbr : x2 < v2
                  · rw [if_pos hbr] at hlg
                    replace hlg := Lib.hid hlg
                    go_wp2_with fail
                    refine (hgt _).mono ?_
                    rintro e w' ⟨rfl, hw⟩
                    obtain rfl := hw
                    go_wp2
                    go_roundw
                    case rel => exact ⟨by first | trivial | rfl, q - 1, r + v1, wsub x1 1, wsub x2 v2, by rw [hq1.out], by rw [hra.out], rfl, rfl, by omega, by omega, hlg.out.2, hws, hnr.out, hlg.out.1, hnu.out⟩
                    case measure => rw [hq1.out]; simp [intOf]; omega
                  · rw [if_neg hbr] at hlg
                    replace hlg := Lib.hid hlg
                    go_wp2_with fail
                    refine (hgt _).mono ?_
                    rintro e w' ⟨rfl, hw⟩
                    obtain rfl := hw
                    go_wp2
                    go_roundw
                    case rel => exact ⟨by first | trivial | rfl, q - 1, r + v1, x1, wsub x2 v2, by rw [hq1.out], by rw [hra.out], rfl, rfl, by omega, by omega, h3, hws, hnr.out, hlg.out.1, hnu.out⟩
                    case measure => rw [hq1.out]; simp [intOf]; omega
              · have hgd : decide (r < x1 ∨ x1 = r ∧ t2 < x2) = false := by simpa using hg
                rw [hgd] at hgt
                have hx : x1 * WB + x2 ≤ r * WB + t2 := Nat.le_of_not_lt (fun h => hg ((two_words h4 hw2).2 h))
                have hps := guess_pass (t2 := t2) h5 h6 hx
                have hfin := hb3.out q h1 hps h7
                replace hfin := Lib.hid hfin
                clear hx hps h5 h6 h7 hg
                go_wp2_with fail
                refine (hgt _).mono ?_
                rintro e w' ⟨rfl, hw⟩
                obtain rfl := hw
                go_wp2
                go_meet
                exact ⟨rfl, q, rfl, h1, hfin.out.1, hfin.out.2⟩
        case rest =>
          obtain ⟨hwr, qh, rfl, hq1, hq2, hq3⟩ := hcut
          obtain rfl := hwr
          have hlU := hi.lU
          have hlH := hi.lH
          have hma := mulAddVWW_c wr bh oh (k + 2) G bv ov cv qh 0 H' V (by omega) hi.hH (by omega) hV WV hq1 WB_pos (hi.hV.rd hi.hH hV (by omega) hsep)
          have t0' : ¬ (M : Int) + ((k : Int) + 2) < (j : Int) + ((k : Int) + 3) := by omega
          replace hq2 := Lib.hid hq2
          replace hq3 := Lib.hid hq3
          go_wp2_with fail
          refine hma.mono ?_
          rintro e w2 ⟨R, c, rfl, hS, hR, hcw, hv⟩
          have hz1 := hS.arr.cellN (i := oh + (k + 2)) (by rw [spl_length (by omega)]; omega)
          have hz2 := hS.arr.frozen (oh + (k + 2))
          have hS3 := hS.next (k := k + 2) hR (by omega) c hcw
          have hv3 : val (R ++ [c]) = val V * qh := by rw [val_snoc, hR, hv, Nat.add_zero]
          have hl3 : (R ++ [c]).length = k + 3 := by rw [List.length_append, hR]; rfl
          have hw3 : Wd (R ++ [c]) := by
            have h1 := hS3.arr.wd
            unfold spl at h1
            exact h1.left.right
          generalize R ++ [c] = RH at hS3 hv3 hl3 hw3
          have hU3 := hS3.other (Ne.symm hhu) hi.hU
          have hV3 : At (w2.setCell ⟨bh, oh + (k + 2), none⟩ (.int .u64 (c : Int))) bv ov V := hi.hV.sub hi.hH hS3 (by omega) hsep
          have hc3' : Chg wr (w2.setCell ⟨bh, oh + (k + 2), none⟩ (.int .u64 (c : Int))) (fun k => k = bu ∨ k = bh) := hS3.chg.mono (fun _ _ h => .inr h)
          replace hv3 := Lib.hid hv3
          clear hma hv hS
          go_upto_region 28 with (fail)
          have hH3 := hS3.arr
          generalize w2.setCell ⟨bh, oh + (k + 2), none⟩ (.int .u64 (c : Int)) = w3 at hU3 hV3 hc3' hH3 ⊢
          have hd : Chg w3 w3.drew (fun _ => False) := (Chg.refl w3 _).drew
          have hbT := hT.out
          have hU4 := hd.arr hU3 (fun h => h)
          have hH4 := hd.arr hH3 (fun h => h)
          have hV4 := hV3.chg hd (fun h => h)
          have hc4 : Chg wr w3.drew (fun k => k = bu ∨ k = bh) := hc3'.trans (hd.mono (fun _ _ h => h.elim))
          have hTU : (U'.drop j).take (k + 3) = T := by rw [← hbT, List.drop_take, List.take_take, Nat.min_eq_left (by omega)]
          have hsub := subVV_c w3.drew bu j (k + 3) (cu - j) bu j (cu - j) bh oh G U' T RH (by omega) hU4 (by omega) hTl.out hl3 hTw hw3
            (by rw [← hTU]; exact Rd.mk hU4 (by omega) hU4 (by omega) (.inr (Nat.le_refl _)))
            (by
              have h1 := Rd.mk (n := k + 3) (ox := oh) hU4 (oz := j) (by omega) hH4 (by rw [spl_length (by omega)]; omega) (.inl hhu)
              have h2 := spl_take_drop (C := H') (R := RH) (o := oh) (by omega)
              rw [hl3] at h2
              rwa [h2] at h1)
          have hbT2 := Lib.hid hbT
          have s1 : IntKind.i64.wrap ((j : Int) + ((k : Int) + 3)) = (j : Int) + ((k : Int) + 3) := IntWalk.i64_in _ (by omega)
          have s2 : (j : Int) ≤ (j : Int) + ((k : Int) + 3) := by omega
          have s3 : (j : Int) + ((k : Int) + 3) ≤ (cu : Int) := by omega
          have s4 : ((j : Int) + ((k : Int) + 3)).toNat = j + (k + 3) := by omega
          have s5 : (0 : Int) ≤ (j : Int) + ((k : Int) + 3) := by omega
          have s6 : ¬ cu = j := by omega
          have s7 : (0 : Int) ≤ (k : Int) + 3 := by omega
          have s8 : (k : Int) + 3 ≤ (G : Int) := by omega
          have s9 : ((k : Int) + 3).toNat = k + 3 := by omega
          clear hd hbT hU3 hH3 hV3 hc3' hS3 hc1 hc2 hc3
          replace hTU := Lib.hid hTU
          go_still_tail 15, (by kernel_rfl)
          change wpList _ _ _ _ _ w3.drew
          go_wp2_with fail
          refine hsub.mono ?_
          rintro e w4 ⟨R2, c2, rfl, hS5, hR2, hWR2, hc2l, hv5⟩
          have hH5 := hS5.other hhu hH4
          have hV5 := hV4.chg hS5.chg hbv1
          have hc5 : Chg wr w4 (fun k => k = bu ∨ k = bh) := hc4.trans (hS5.chg.mono (fun _ _ h => .inl (.inl h)))
          have hvpos : 0 < val V := by
            rcases Nat.eq_zero_or_pos (val V) with h | h
            · have h1 := hTv2.out
              rw [h] at h1; omega
            · exact h
          have hdm : val T / val V * val V + val T % val V = val T := by rw [Nat.mul_comm]; exact Nat.div_add_mod _ _
          have hml : val T % val V < val V := Nat.mod_lt _ hvpos
          replace hdm := Lib.hid hdm
          replace hv5 := Lib.hid hv5
          clear hsub hc4
          go_upto_if 148 with (fail)
          go_cut [15] from 45 to 200 (fun q wr' => q = .int .u64 ((val T / val V : Nat) : Int) ∧ ∃ R5, Arr wr' bu (spl U' j R5) ∧ R5.length = k + 3 ∧ val R5 = val T % val V ∧ Arr wr' bh (spl H' oh RH) ∧ At wr' bv ov V ∧ Chg wr wr' (fun k => k = bu ∨ k = bh))
          case first =>
            by_cases hc0 : c2 = 0
            · subst hc0
              have hqe : qh = val T / val V ∧ val R2 = val T % val V := by
                have h1 := hv5.out
                have h2 := hv3.out
                have h3 := hdm.out
                rw [Nat.mul_zero, Nat.add_zero, h2] at h1
                have h4 : qh = val T / val V := by
                  have h5 := hq2.out
                  have h6 := hq3.out
                  rcases Nat.lt_or_ge (val T / val V) qh with h7 | h7
                  · have h8 : qh = val T / val V + 1 := by omega
                    rw [h8, Nat.mul_succ, Nat.mul_comm (val V)] at h1
                    omega
                  · omega
                refine ⟨h4, ?_⟩
                rw [h4, Nat.mul_comm (val V)] at h1
                omega
              obtain ⟨hqe1, hqe2⟩ := hqe
              replace hqe2 := Lib.hid hqe2
              replace hqe1 := Lib.hid hqe1
              go_wp2
              go_meet
              exact ⟨by rw [hqe1.out], R2, hS5.arr, hR2, hqe2.out, hH5, hV5, hc5⟩
            · obtain rfl : c2 = 1 := by omega
              have hqe : qh = val T / val V + 1 ∧ val R2 + val V = val T % val V + WB ^ (k + 3) := by
                have h1 := hv5.out
                have h2 := hv3.out
                have h3 := hdm.out
                have hwR := val_lt hWR2
                rw [hR2] at hwR
                rw [Nat.mul_one, h2] at h1
                have h4 : qh = val T / val V + 1 := by
                  have h5 := hq2.out
                  have h6 := hq3.out
                  rcases Nat.lt_or_ge (val T / val V) qh with h7 | h7
                  · omega
                  · have h8 : qh = val T / val V := by omega
                    rw [h8, Nat.mul_comm (val V)] at h1
                    omega
                refine ⟨h4, ?_⟩
                rw [h4, Nat.mul_succ, Nat.mul_comm (val V)] at h1
                omega
              obtain ⟨hqe1, hqe2⟩ := hqe
              have hq1' : wsub qh 1 = val T / val V := by
                have h1 : val T / val V + 1 < WB := by rw [← hqe1]; exact hq1
                rw [hqe1, wsub_of (x := val T / val V + 1) (y := 1) (Nat.le_add_left _ _) h1, Nat.add_sub_cancel]
              have hd5 : Chg w4 w4.drew (fun _ => False) := (Chg.refl w4 _).drew
              have hU6 := hd5.arr hS5.arr (fun h => h)
              have hH6 := hd5.arr hH5 (fun h => h)
              have hV6 := hV5.chg hd5 (fun h => h)
              have hc6 : Chg wr w4.drew (fun k => k = bu ∨ k = bh) := hc5.trans (hd5.mono (fun _ _ h => h.elim))
              have hspl : (spl U' j R2).length = U'.length := spl_length (by omega)
              have hX6 : ((spl U' j R2).drop j).take (k + 2) = R2.take (k + 2) := by
                have h1 := spl_take_drop (C := U') (R := R2) (o := j) (by omega)
                rw [hR2] at h1
                rw [show ((spl U' j R2).drop j).take (k + 2) = (((spl U' j R2).drop j).take (k + 3)).take (k + 2) by rw [List.take_take, Nat.min_eq_left (by omega)], h1]
              have hadd := addVV_c w4.drew bu j (k + 2) (cu - j) bu j (cu - j) bv ov cv (spl U' j R2) (R2.take (k + 2)) V (by omega) hU6 (by omega) (by rw [List.length_take]; omega) hV (hWR2.take _) WV
                (by rw [← hX6]; exact Rd.mk hU6 (by omega) hU6 (by omega) (.inr (Nat.le_refl _))) (hV6.rd hU6 hV (by omega) (.inl hbv1))
              have r1 : IntKind.i64.wrap ((j : Int) + ((k : Int) + 2)) = (j : Int) + ((k : Int) + 2) := IntWalk.i64_in _ (by omega)
              have r2 : (j : Int) ≤ (j : Int) + ((k : Int) + 2) := by omega
              have r3 : (j : Int) + ((k : Int) + 2) ≤ (cu : Int) := by omega
              have r4 : ((j : Int) + ((k : Int) + 2)).toNat = j + (k + 2) := by omega
              have r5 : (0 : Int) ≤ (j : Int) + ((k : Int) + 2) := by omega
              have r6 : (k : Int) + 2 < (k : Int) + 3 := by omega
              have r7 : (j : Int) + ((k : Int) + 2) < (M : Int) + ((k : Int) + 2) := by omega
              replace hqe1 := Lib.hid hqe1
              replace hqe2 := Lib.hid hqe2
              replace hq1' := Lib.hid hq1'
              replace hX6 := Lib.hid hX6
              clear hd5
              go_upto_region 30 with (fail)
              go_still_tail 13, (by kernel_rfl)
              change wpList _ _ _ _ _ w4.drew
              go_wp2_with fail
              refine hadd.mono ?_
              rintro e w5 ⟨R3, c3, rfl, hS7, hR3, hc3l, hv7⟩
              clear hadd
              have hlR3 : (spl (spl U' j R2) j R3).length = U'.length := by rw [spl_length (by omega), hspl]
              have hu1 := hS7.arr.cellN (i := j + (k + 2)) (by omega)
              have hu2 := hS7.arr.frozen (j + (k + 2))
              have htopd : nth (spl (spl U' j R2) j R3) (j + (k + 2)) = nth R2 (k + 2) := by
                rw [nth_spl_ge (C := spl U' j R2) (o := j) (R := R3) (by omega) (by omega), nth_spl_mid (C := U') (o := j) (R := R2) (by omega) (by omega)]
              have hspl2 := spl_fix (U := U') (j := j) (x := wadd (nth R2 (k + 2)) c3) (by omega) hR2 hR3
              have hS8 := hS7.set (i := j + (k + 2)) _ (wadd_lt (nth R2 (k + 2)) c3)
              rw [hspl2] at hS8
              have hwR3 : Wd R3 := by
                have h1 := hS7.arr.wd
                unfold spl at h1
                exact h1.left.right
              have hrl : val T % val V < WB ^ (k + 2) := by
                have h1 := val_lt WV
                rw [hV] at h1
                omega
              have hval := back_val hR2 hR3 hwR3 hv7 hqe2.out hrl
              have hH8 := hS8.other hhu hH6
              have hV8 := hV6.chg hS8.chg hbv1
              have hc8 : Chg wr _ (fun k => k = bu ∨ k = bh) := hc6.trans (hS8.chg.mono (fun _ _ h => .inl (.inl h)))
              rw [htopd] at hu1
              replace hval := Lib.hid hval
              replace htopd := Lib.hid htopd
              replace hspl2 := Lib.hid hspl2
              have hl8 : (R3 ++ [wadd (nth R2 (k + 2)) c3]).length = k + 3 := by rw [List.length_append, hR3]; rfl
              go_wp2
              go_meet
              exact ⟨by rw [hq1'.out], _, hS8.arr, hl8, hval.out, hH8, hV8, hc8⟩
          case rest =>
            obtain ⟨hq, R5, hU9, hR5, hv9, hH9, hV9, hc9⟩ := hcut
            have hst := div_step (k := k) (j := j) (M := M) (N := M + (k + 2)) rfl hjlt (by omega) (by have := hi.lQ; omega) hT.out hTv1.out hR5 hv9 hvpos hi.eq
            have hqw : val T / val V < WB := by
              have h1 := hq2.out
              omega
            clear hq2 hq3 hdm hb2 hb3
            generalize val T / val V = q at hq hst hqw
            subst hq
            have hl9 : (spl U' j R5).length = U'.length := spl_length (by omega)
            have hQ9 := hc9.arr hi.hQ (fun h => h.elim hqu (fun h => hhq h.symm))
            have hlQ := hi.lQ
            have hu1 := hU9.cellN (i := j + (k + 1)) (by omega)
            have hz1 := hQ9.cellN (i := j) (by omega)
            have hz2 := hQ9.frozen j
            have hjm : ((j : Int) == (M : Int)) = false := by rw [beq_eq_false_iff_ne]; omega
            have hS9 := (Sub.refl hQ9).set (i := j) _ hqw
            have hcA : Chg w1 wr (fun k => k = bu ∨ k = bq ∨ k = bh) := hi.chg
            have hlU9 := hi.lU
            have hlH9 := hi.lH
            have hnu : nth ((spl U' j R5).take (M + (k + 2))) (j + (k + 1)) = nth (spl U' j R5) (j + (k + 1)) := nth_take (by omega)
            have hinv : DivInv w1 (wc.setCell ⟨bq, j, none⟩ (.int .u64 (q : Int))) bu bq bh bv ov U V M (M + (k + 2)) Q.length H.length j (spl U' j R5) (Q'.set j q) (spl H' oh RH) :=
              ⟨hS9.other (Ne.symm hqu) hU9, by omega, hS9.arr, by rw [List.length_set]; exact hlQ, hS9.other hhq hH9, by rw [spl_length (by omega)]; exact hlH9, hV9.chg hS9.chg hbv2,
                (hcA.trans (hc9.mono (fun _ _ h => .inl (h.elim .inl (fun h => .inr (.inr h)))))).trans (hS9.chg.mono (fun _ _ h => .inl (.inr (.inl h)))), hst.1, hst.2⟩
            replace hinv := Lib.hid hinv
            replace hnu := Lib.hid hnu
            replace hqw := Lib.hid hqw
            clear hi hc5 hH5 hV5 hS5 hv5 hst hv9
            go_wp2
            go_roundw
            case rel => exact ⟨j, by omega, rfl, _, _, _, hinv.out, by rw [hnu.out], fun h => by omega⟩
            case measure => simp [intOf]
end Go.Proofs.YtgdpljjmnmapmaaGreatDoor

namespace Go.Proofs.YtgdpljjmnmapmaaGreatDoor
open Go Go.RowKit

/-- The blocks that belong to the stack. -/
def StkBlk (s : Nat) : Option (Nat × Nat × Nat) → Nat → Prop
  | none, k => k = s
  | some (t, b, _), k => k = t ∨ k = b

theorem StkS.ne {w : World} {s t b l : Nat} (h : StkS w s (some (t, b, l))) : s ≠ t ∧ b ≠ s ∧ b ≠ t := by
  obtain ⟨c, C, h1⟩ := h
  refine ⟨?_, h1.hb.ne h1.hs (by decide), h1.hb.ne h1.ht (by decide)⟩
  rintro rfl
  have := h1.ht
  rw [h1.hs] at this
  simp at this

theorem StkS.save {w : World} {s : Nat} {st : Option (Nat × Nat × Nat)} (h : StkS w s st) :
    Calls Tryz.prog 180 #[.pointer (some ⟨s, 0, none⟩)] w fun e w' => e = .returned (.int .i64 ((match st with | none => 0 | some (_, _, l) => l : Nat) : Int)) ∧ w = w' := by
  match st, h with
  | none, h => exact save0 w s h
  | some (t, b, l), ⟨c, C, h⟩ => exact save1 w s t b l c C h

/-- A place for n words, where V lies safe at the head of block bv. -/
theorem stkNat (w : World) (s n bv : Nat) (st : Option (Nat × Nat × Nat)) (V : List Nat) (h : StkS w s st) (hn0 : 0 < n) (hn : n ≤ 800) (hV : At w bv 0 V) (hVa : ∃ C, Arr w bv C ∧ V.length ≤ C.length)
    (hst : st = none ∨ ∃ t l, st = some (t, bv, l) ∧ V.length ≤ l ∧ l ≤ 800) :
    Calls Tryz.prog 182 #[.pointer (some ⟨s, 0, none⟩), .int .i64 n] w fun e w1 => ∃ bh oh G H st', e = .returned (.slice (some ⟨bh, oh, none⟩) n G) ∧ Arr w1 bh H ∧ oh + n ≤ H.length ∧ n ≤ G ∧
      (w.heap.size ≤ bh ∨ bh = bv) ∧ At w1 bv 0 V ∧ (bv ≠ bh ∨ 0 + V.length ≤ oh) ∧ StkS w1 s st' ∧ Chg w w1 (StkBlk s st) ∧
      (st = none → st' = none ∨ ∃ t b l, st' = some (t, b, l) ∧ w.heap.size ≤ t ∧ w.heap.size ≤ b) ∧ (∀ t b l, st = some (t, b, l) → ∃ l', st' = some (t, bh, l') ∧ l ≤ oh) := by
  obtain ⟨Cv, hCv, hlv⟩ := hVa
  rcases hst with rfl | ⟨t, l, rfl, hl, hl8⟩
  · refine (stkNat0 w s n h hn0 hn).mono ?_
    rintro e w1 ⟨b, G, C, st', rfl, hb, ha, hC, hG, hchg, hS, hst'⟩
    have hbvs : ¬ bv = s := hCv.ne (show w.heap[s]? = some (.cells #[.pointer none] 201 (0, 0)) from h) (by decide)
    have hlt := hCv.lt
    refine ⟨b, 0, G, C, st', rfl, ha, by omega, hG, .inl hb, hV.chg hchg hbvs, .inl (by omega), hS, hchg, fun _ => ?_, fun t b l e => by cases e⟩
    rcases hst' with rfl | ⟨t, l, rfl, ht, _, _⟩
    · exact .inl rfl
    · exact .inr ⟨t, b, l, rfl, ht, hb⟩
  · have hne := StkS.ne h
    refine (stkNat1 w s t bv l n h hl8 hn0 hn hne.1).mono ?_
    rintro e w1 ⟨b', C', rfl, hb', ha, hC, hchg, ⟨l', hS⟩, hsame⟩
    obtain ⟨Cb, hCb, hCl, hCs⟩ := hsame Cv hCv
    refine ⟨b', l, n, C', some (t, b', l'), rfl, ha, hC, Nat.le_refl _, hb'.symm, ?_, ?_, hS, hchg, (fun e => by cases e), ?_⟩
    · intro i hi
      have h1 := hV i hi
      rw [Nat.zero_add] at h1 ⊢
      rw [hCv.cellN (by omega)] at h1
      rw [hCb.cellN (by omega), hCs i (by omega)]
      exact h1
    · exact .inr (by omega)
    · rintro t' b l0 e
      simp only [Option.some.injEq, Prod.mk.injEq] at e
      obtain ⟨rfl, rfl, rfl⟩ := e
      exact ⟨l', rfl, Nat.le_refl _⟩
end Go.Proofs.YtgdpljjmnmapmaaGreatDoor

namespace Go.Proofs.YtgdpljjmnmapmaaGreatDoor
open Go Go.RowKit

/-- A stack whose row could be cut to n words; its inner block is not below B. -/
def StkW (w : World) (s B n : Nat) : Prop :=
  Stk0 w s ∨ ∃ t b l c, B ≤ t ∧ w.heap[s]? = some (.cells #[.pointer (some ⟨t, 0, none⟩)] 201 (0, 0)) ∧ w.heap[t]? = some (.cells #[.slice (some ⟨b, 0, none⟩) l c] 224 (0, 0)) ∧ n ≤ c ∧ c ≤ 9223372036854775807
/-- The inner blocks of stacks, from B on. -/
def Inner (w : World) (B : Nat) (k : Nat) : Prop := B ≤ k ∧ ∃ cs, w.heap[k]? = some (.cells cs 224 (0, 0))
theorem Inner.arr {w : World} {B b : Nat} {C : List Nat} (h : Arr w b C) : ¬ Inner w B b := by
  rintro ⟨_, cs, h2⟩
  exact h.ne h2 (by decide) rfl
theorem StkW.mono {w : World} {s B m n : Nat} (h : StkW w s B n) (hm : m ≤ n) : StkW w s B m := by
  rcases h with h | ⟨t, b, l, c, h1, h2, h3, h4, h5⟩
  · exact .inl h
  · exact .inr ⟨t, b, l, c, h1, h2, h3, by omega, h5⟩
theorem StkW.chg {w w' : World} {s B n : Nat} {S : Nat → Prop} (h : StkW w s B n) (hc : Chg w w' S) (hs : ¬ S s) (ht : ∀ t cs, w.heap[t]? = some (.cells cs 224 (0, 0)) → ¬ S t) : StkW w' s B n := by
  rcases h with h | ⟨t, b, l, c, h1, h2, h3, h4, h5⟩
  · exact .inl (hc.heap h hs)
  · exact .inr ⟨t, b, l, c, h1, hc.heap h2 hs, hc.heap h3 (ht _ _ h3), h4, h5⟩
theorem StkS.weak {w : World} {s B n : Nat} {st : Option (Nat × Nat × Nat)} (h : StkS w s st) (hB : ∀ t b l, st = some (t, b, l) → B ≤ t) (hn : ∀ t b l, st = some (t, b, l) → n ≤ l) : StkW w s B n := by
  match st, h with
  | none, h => exact .inl h
  | some (t, b, l), ⟨c, C, h1⟩ => exact .inr ⟨t, b, l, c, hB _ _ _ rfl, h1.hs, h1.ht, Nat.le_trans (hn _ _ _ rfl) h1.hl, h1.hc⟩

theorem restoreW (w : World) (s B n : Nat) (u : FrameMode) (h : StkW w s B n) :
    CallsD Tryz.prog 179 #[.pointer (some ⟨s, 0, none⟩), .int .i64 n] u w fun e u' w' => u' = u ∧ e = .returned (.tuple #[]) ∧ StkW w' s B 0 ∧ Chg w w' (Inner w B) := by
  rcases h with h | ⟨t, b, l, c, hB, hs, ht, hn, hcc⟩
  · refine (restore0 w s n u h).mono ?_
    rintro e u' w' ⟨rfl, rfl, rfl⟩
    exact ⟨rfl, rfl, .inl h, Chg.refl _ _⟩
  · have hc := cell1 hs
    have hc2 := cell1 ht
    have hf2 := frozen1 ht 0
    have hi : Calls Tryz.prog 210 #[.pointer (some ⟨t, 0, none⟩), .int .i64 n] w fun e w' => e = .returned (.tuple #[]) ∧ w' = w.setCell ⟨t, 0, none⟩ (.slice (some ⟨b, 0, none⟩) n c) := by
      clear hs ht
      go_enter Tryz.func210, Tryz.ntmps210
      go_wp2
      exact bodyPost_end (results_none rfl _ _ _) rfl ⟨rfl, rfl⟩
    have hst : s ≠ t := by
      rintro rfl
      rw [hs] at ht
      simp at ht
    have hfin : StkW (w.setCell ⟨t, 0, none⟩ (.slice (some ⟨b, 0, none⟩) n c)) s B 0 := .inr ⟨t, b, n, c, hB, (chg_set w t 0 _).heap hs hst, set1 ht, Nat.zero_le _, hcc⟩
    have hch : Chg w (w.setCell ⟨t, 0, none⟩ (.slice (some ⟨b, 0, none⟩) n c)) (Inner w B) := (chg_set w t 0 _).mono (by rintro k _ rfl; exact ⟨hB, _, ht⟩)
    clear hc2 hf2 hs ht
    go_enter_d Tryz.func179, Tryz.ntmps179
    go_wp2_with fail
    refine hi.mono ?_
    rintro e w' ⟨rfl, rfl⟩
    go_wp2
    exact bodyPost_end (results_none rfl _ _ _) rfl ⟨rfl, hfin, hch⟩
theorem freeW (w : World) (s B : Nat) (u : FrameMode) (h : StkW w s B 0) :
    CallsD Tryz.prog 161 #[.pointer (some ⟨s, 0, none⟩)] u w fun e u' w' => u' = u ∧ e = .returned (.tuple #[]) ∧ Chg w w' (Inner w B) := by
  rcases h with h | ⟨t, b, l, c, hB, hs, ht, hn, hcc⟩
  · refine (free0 w s u h).mono ?_
    rintro e u' w' ⟨rfl, rfl, rfl⟩
    exact ⟨rfl, rfl, Chg.refl _ _⟩
  · have hc := cell1 hs
    have hc2 := cell1 ht
    have hf2 := frozen1 ht 0
    have hi : Calls Tryz.prog 178 #[.pointer (some ⟨t, 0, none⟩)] w fun e w' => e = .returned (.tuple #[]) ∧ w' = w.setCell ⟨t, 0, none⟩ (.slice (some ⟨b, 0, none⟩) 0 c) := by
      clear hs ht
      go_enter Tryz.func178, Tryz.ntmps178
      go_wp2
      exact bodyPost_end (results_none rfl _ _ _) rfl ⟨rfl, rfl⟩
    have hch : Chg w (w.setCell ⟨t, 0, none⟩ (.slice (some ⟨b, 0, none⟩) 0 c)) (Inner w B) := (chg_set w t 0 _).mono (by rintro k _ rfl; exact ⟨hB, _, ht⟩)
    clear hc2 hf2 hs ht
    go_enter_d Tryz.func161, Tryz.ntmps161
    go_wp2_with fail
    refine hi.mono ?_
    rintro e w' ⟨rfl, rfl⟩
    go_wp2
    exact bodyPost_end (results_none rfl _ _ _) rfl ⟨rfl, hch⟩
end Go.Proofs.YtgdpljjmnmapmaaGreatDoor

namespace Go.Proofs.YtgdpljjmnmapmaaGreatDoor
open Go Go.RowKit

theorem top_split {L : List Nat} {k : Nat} (hl : L.length = k + 1) (hw : Wd L) : val L = val (L.take k) + WB ^ k * nth L k ∧ val (L.take k) < WB ^ k := by
  have h1 := val_take_succ (l := L) (k := k) (by omega)
  rw [List.take_of_length_le (by omega)] at h1
  have h2 := val_lt (hw.take k)
  rw [List.length_take, Nat.min_eq_left (by omega)] at h2
  exact ⟨h1, h2⟩
/-- The scaled divisor's top word is at least the half of the base. -/
theorem norm_top {L : List Nat} {k v t p : Nat} (hl : L.length = k + 1) (hw : Wd L) (hv : val L = v * p) (ht : WB ^ k * t ≤ v) (hn : WB ≤ 2 * (t * p)) : WB ≤ 2 * nth L k := by
  obtain ⟨h1, h2⟩ := top_split hl hw
  have h3 : WB ^ k * (t * p) ≤ v * p := by rw [← Nat.mul_assoc]; exact Nat.mul_le_mul_right _ ht
  have h4 : WB ^ k * WB ≤ WB ^ k * (2 * (t * p)) := Nat.mul_le_mul_left _ hn
  have h5 : WB ^ k * (2 * (t * p)) = 2 * (WB ^ k * (t * p)) := by rw [Nat.mul_left_comm]
  have h6 : WB ^ k * WB < WB ^ k * (2 * nth L k + 2) := by
    have e : WB ^ k * (2 * nth L k + 2) = 2 * (WB ^ k * nth L k) + WB ^ k * 2 := by rw [Nat.mul_add, Nat.mul_left_comm]
    omega
  have h7 := Nat.lt_of_mul_lt_mul_left h6
  have h8 : WB % 2 = 0 := by rw [WB_eq]
  omega
/-- It fits into its words. -/
theorem scaled_lt {k v t p q : Nat} (hv : v < WB ^ k * (t + 1)) (hpq : p * q = WB) (ht : t * p < WB) (hp : 0 < p) : v * p < WB ^ (k + 1) := by
  have h1 : t < q := by
    refine Nat.lt_of_mul_lt_mul_left (a := p) ?_
    rw [hpq, Nat.mul_comm]; exact ht
  calc v * p < WB ^ k * (t + 1) * p := Nat.mul_lt_mul_of_pos_right hv hp
    _ ≤ WB ^ k * q * p := Nat.mul_le_mul_right _ (Nat.mul_le_mul_left _ h1)
    _ = WB ^ (k + 1) := by rw [Nat.mul_assoc, Nat.mul_comm q, hpq, Nat.pow_succ]
end Go.Proofs.YtgdpljjmnmapmaaGreatDoor

namespace Go.Proofs.YtgdpljjmnmapmaaGreatDoor

theorem val_top {L : List Nat} {k : Nat} (hl : L.length = k + 1) : val L = val (L.take k) + WB ^ k * nth L k := by
  have h := take_nth (l := L) (k := k) (by omega)
  rw [List.take_of_length_le (by omega)] at h
  have h2 := val_append (L.take k) [nth L k]
  rw [← h, List.length_take, Nat.min_eq_left (by omega)] at h2
  rw [h2]; simp [val]
theorem val_top_lt {L : List Nat} {k : Nat} (hw : Wd L) (hl : L.length = k + 1) : val (L.take k) < WB ^ k := by
  have h := val_lt (hw.take k)
  rw [List.length_take, Nat.min_eq_left (by omega)] at h
  exact h
theorem two_sh {sh : Nat} (h : sh < 64) : WB = 2 ^ sh * 2 ^ (64 - sh) := by
  rw [← Nat.pow_add, show sh + (64 - sh) = 64 by omega, WB_eq]
theorem top_shift {VL R : List Nat} {k sh c : Nat} (hs : sh < 64) (hw : Wd VL) (hl : VL.length = k + 1) (hR : R.length = k + 1) (hwR : Wd R) (hv : val R + WB ^ (k + 1) * c = val VL * 2 ^ sh)
    (hn : nth VL k * 2 ^ sh < WB ∧ WB ≤ 2 * (nth VL k * 2 ^ sh)) : val R = val VL * 2 ^ sh ∧ nth VL k * 2 ^ sh ≤ nth R k := by
  have h1 := val_top hl
  have h2 := val_top_lt hw hl
  have h3 := val_top hR
  have h4 := val_top_lt hwR hR
  have hp : 0 < 2 ^ sh := Nat.pow_pos (by omega)
  have hW := two_sh hs
  have h5 : (nth VL k + 1) * 2 ^ sh ≤ WB := by
    rw [hW, Nat.mul_comm]
    refine Nat.mul_le_mul_left _ ?_
    have := hn.1
    rw [hW, Nat.mul_comm] at this
    exact Nat.lt_of_mul_lt_mul_left this
  have h6 : val VL * 2 ^ sh < WB ^ (k + 1) := by
    have h7 : val VL < WB ^ k * (nth VL k + 1) := by rw [h1, Nat.mul_add, Nat.mul_one]; omega
    have h8 : val VL * 2 ^ sh < WB ^ k * (nth VL k + 1) * 2 ^ sh := Nat.mul_lt_mul_of_pos_right h7 hp
    have h9 : WB ^ k * (nth VL k + 1) * 2 ^ sh ≤ WB ^ k * WB := by rw [Nat.mul_assoc]; exact Nat.mul_le_mul_left _ h5
    rw [Nat.pow_succ]; omega
  have hc : c = 0 := by
    rcases Nat.eq_zero_or_pos c with h | h
    · exact h
    · exfalso
      have : WB ^ (k + 1) * 1 ≤ WB ^ (k + 1) * c := Nat.mul_le_mul_left _ h
      omega
  subst hc
  have hv' : val R = val VL * 2 ^ sh := by rw [← hv]; simp
  refine ⟨hv', ?_⟩
  have h10 : WB ^ k * (nth VL k * 2 ^ sh) ≤ val R := by
    rw [hv', h1, Nat.add_mul, Nat.mul_assoc]; omega
  have h11 : val R < WB ^ k * (nth R k + 1) := by rw [h3, Nat.mul_add, Nat.mul_one]; omega
  have h12 := Nat.lt_of_mul_lt_mul_left (Nat.lt_of_le_of_lt h10 h11)
  omega
/-- What is shifted out is below the shift. -/
theorem carry_lt {UL R : List Nat} {m sh c : Nat} (hw : Wd UL) (hl : UL.length = m) (hv : val R + WB ^ m * c = val UL * 2 ^ sh) : c < 2 ^ sh := by
  have h1 := val_lt hw
  rw [hl] at h1
  have hp : 0 < 2 ^ sh := Nat.pow_pos (by omega)
  have h2 : val UL * 2 ^ sh < WB ^ m * 2 ^ sh := Nat.mul_lt_mul_of_pos_right h1 hp
  exact Nat.lt_of_mul_lt_mul_left (a := WB ^ m) (by omega)

open Go Go.RowKit
/-- A stack stays where the words of its row alone are turned. -/
theorem StkS.upd {w w' : World} {s : Nat} {st : Option (Nat × Nat × Nat)} {S : Nat → Prop} (h : StkS w s st) (hc : Chg w w' S) (hs : ¬ S s) (ht : ∀ t b l, st = some (t, b, l) → ¬ S t) (hb : ∀ t b l C, st = some (t, b, l) → Arr w b C → ∃ C', Arr w' b C' ∧ C'.length = C.length) : StkS w' s st := by
  match st, h with
  | none, h => exact hc.heap h hs
  | some (t, b, l), ⟨c, C, h1⟩ =>
    obtain ⟨C', h2, h3⟩ := hb t b l C rfl h1.hb
    exact ⟨c, C', hc.heap h1.hs hs, hc.heap h1.ht (ht t b l rfl), h2, h1.hl, h3.trans h1.hC, h1.hc⟩
theorem Arr.uniq {w : World} {b : Nat} {C D : List Nat} (h : Arr w b C) (h' : Arr w b D) : C = D := by
  have h1 := h.heap
  rw [h'.heap] at h1
  have h2 : (D.map uw) = (C.map uw) := by simpa using h1
  have inj : ∀ {x y : Nat}, uw x = uw y → x = y := by intro x y e; unfold uw at e; simp at e; omega
  exact (List.map_inj_right (fun _ _ e => inj e)).1 h2.symm
end Go.Proofs.YtgdpljjmnmapmaaGreatDoor
