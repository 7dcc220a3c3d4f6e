/- impl.whole, impl.made of a finite decimal. -/
import Derived.Test.YtabggbajgpbmmaaGreatDoorJ4
import Derived.Test.YtabggbajgpbmmaaGreatDoorJ1
namespace Go.Proofs.YtabggbajgpbmmaaGreatDoor
open Go Go.RowKit

theorem below_drewN2 {B : Nat} {w W : World} (h : Below B w W) (n : Nat) : Below B w (W.drewN n) := ⟨h.os, h.tape, h.output, h.size, h.block⟩
theorem Below.chg {w w' : World} (h : Below w.heap.size w w') : Chg w w' (fun _ => False) := ⟨h.os, h.tape, h.output, h.size, fun k hk _ => h.block k hk⟩

theorem norm_nil (w : World) : Calls Tryz.prog 133 #[.slice none 0 0] w fun e w' => e = .returned (.slice none 0 0) ∧ w = w' := by
  go_enter Tryz.func133, Tryz.ntmps133
  go_wp2
  go_loop [3] (fun i => i = .int .i64 0) (fun i => (intOf i).toNat)
  case atStart => rfl
  case round =>
    obtain rfl := hrel
    go_wp2
    go_ret
    exact ⟨rfl, rfl⟩

theorem set0_c (w : World) (p : Option Addr) (c : Nat) : Calls Tryz.prog 132 #[.slice none 0 0, .slice p 0 c] w fun e w' => ∃ r, e = .returned r ∧ NatRes w w' none r 0 := by
  have hmk : Calls Tryz.prog 153 #[.slice none 0 0, .int .i64 0] w fun e w' => e = .returned (.slice none 0 0) ∧ w = w' := by
    go_enter Tryz.func153, Tryz.ntmps153
    go_wp2
    go_ret
    exact ⟨rfl, rfl⟩
  go_enter Tryz.func132, Tryz.ntmps132
  go_wp2_with fail
  refine hmk.mono ?_
  rintro e w' ⟨rfl, hw⟩
  obtain rfl := hw
  go_upto_region 2 with (fail)
  refine wp_region_lit ?_
  go_wp2_with (refine wpList_copy_nothing rfl (.tmp 9) (.tmp 10) 52 52 rfl 128 Tryz.underlying52 infoW _ _ _ _ _ _ rfl rfl (by simp) ?_)
  go_ret
  exact ⟨_, rfl, none, IsNat.zero _, .inl rfl, Chg.refl _ _⟩
theorem own_slice2 {w : World} {base n : Nat} {e : TypeId} {size : Nat} {v : Value} {xs : List Value} (h : w.ownsRow base e size v n xs) : ∃ A c, v = .slice A n c := by
  rcases h.2 with ⟨rfl, rfl⟩ | ⟨g, cap, cur, rfl, _⟩
  · exact ⟨none, 0, rfl⟩
  · exact ⟨_, cap, rfl⟩

/-- What whole gives: a number in new memory. -/
def NewBig (w w' : World) (e : Ending) (N : Nat) : Prop :=
  ∃ k v o, e = .returned (.pointer (some ⟨k, 0, none⟩)) ∧ w.heap.size ≤ k ∧ BigBlk w' k false v false ∧ IsNat w' v N o ∧ (∀ b, o = some b → w.heap.size ≤ b) ∧ Chg w w' (fun _ => False)

/-- Behind whole's loop. -/
theorem tail_c (w w1 : World) (p : Option Addr) (l c : Nat) (X : List Nat) (hb : Below w.heap.size w w1) (hown : w1.ownsRow w.heap.size 128 1 (.slice p l c) l (X.map uw)) (hX : X.length = l) (hW : Wd X) (hl : l ≤ 900) :
    ∀ z i, BigBlk w1 z false (.slice none 0 0) false → IntBlk w1 i false (.slice none 0 0) → z ≠ i → w.heap.size ≤ z → w.heap.size ≤ i →
      Calls Tryz.prog 105 #[.pointer (some ⟨i, 0, none⟩), .slice p l c] w1 fun e w2 => e = .returned (.pointer (some ⟨i, 0, none⟩)) ∧
        Calls Tryz.prog 104 #[.pointer (some ⟨z, 0, none⟩), .pointer (some ⟨i, 0, none⟩)] w2 fun e w3 => e = .returned (.pointer (some ⟨z, 0, none⟩)) ∧
          ∃ v o, BigBlk w3 z false v false ∧ IsNat w3 v (val X) o ∧ (∀ b, o = some b → w.heap.size ≤ b) ∧ Chg w w3 (fun _ => False) := by
  intro z i hz hi hne hzl hil
  have hc1 : Chg w w1 (fun _ => False) := Below.chg hb
  rcases hown.2 with ⟨h1, h2⟩ | ⟨g, cap, cur, h1, hg, hgg, hn, hm, hcs, htake⟩
  · injection h1 with h1 h3 h4
    subst h1 h2 h4
    obtain rfl : X = [] := List.length_eq_zero_iff.1 hX
    refine (setBits_c w1 i _ _ none none 0 0 0 0 hi (norm_nil w1)).mono ?_
    rintro e w2 ⟨rfl, hi2, hch2⟩
    have hz2 : BigBlk w2 z false (.slice none 0 0) false := hch2.heapB hz hne
    refine ⟨rfl, (setMath_c w2 z i false none 0 0 0 hz2 hi2 hne (fun w3 _ => (set_nil w3).mono ?_)).mono ?_⟩
    · rintro e w' ⟨rfl, hw⟩
      subst hw
      exact ⟨_, rfl, none, IsNat.zero _, .inl rfl, Chg.refl _ _⟩
    · rintro e w3 ⟨rfl, v', o', h1, h2, h3, h4⟩
      refine ⟨rfl, v', o', h1, h2, ?_, (hc1.trans (hch2.mono (fun k _ h => .inr (by omega)))).trans (h4.mono (fun k _ h => .inr (by omega)))⟩
      intro b hb'
      have s1 := hc1.size
      have s2 := hch2.size
      rcases h3 with h | ⟨b2, hb2, hlt⟩
      · rw [h] at hb'; cases hb'
      · rw [hb2] at hb'; cases hb'; omega
  · injection h1 with h1 h3 h4
    subst h1 h4
    have hrd : RdN w1 g X := by
      intro j hj
      have := hown.cells (g := g) rfl j (uw (nth X j)) (by rw [List.getElem?_map, get_nth hj]; rfl)
      have e : (⟨g, 0, none⟩ : Addr).add j = ⟨g, j, none⟩ := by unfold Addr.add; split <;> simp_all
      rw [e] at this
      exact this
    have hcap : c ≤ 9223372036854775807 := by unfold maxLen at hm; omega
    have hdl : (digs (val X)).length ≤ X.length := digs_len_le.2 (val_lt hW)
    have hpre : ∀ w2 S, Chg w1 w2 S → ¬ S g → RdN w2 g (digs (val X)) := by
      intro w2 S hch hS j hj
      have h1 := hch.cell (hrd j (by omega)) hS
      have h2 : nth X j = nth (digs (val X)) j := by
        have h3 := val_digs (val X)
        have h4 : X = digs (val X) ++ List.replicate (X.length - (digs (val X)).length) 0 := by
          refine val_inj hW ((Wd_digs _).append (Wd.zeros _)) (by simp; omega) ?_
          rw [val_append_zeros, h3]
        conv => lhs; rw [h4]
        rw [nth_append_left hj]
      rw [← h2]; exact h1
    have hn0 := norm_rd w1 g c X hrd hW (by omega) (by omega) hcap
    rw [hX] at hn0
    refine (setBits_c w1 i _ _ _ _ _ _ _ _ hi hn0).mono ?_
    rintro e w2 ⟨rfl, hi2, hch2⟩
    have hz2 : BigBlk w2 z false (.slice none 0 0) false := hch2.heapB hz hne
    have hgi : g ≠ i := by
      rintro rfl
      have h5 : w1.heap[g]? = some (.cells #[.bool false, .slice none 0 0] 54 (0, 0)) := hi
      rw [hgg] at h5
      simp at h5
    have hgz : g ≠ z := by
      rintro rfl
      have h5 : w1.heap[g]? = some (.cells #[.bool false, .slice none 0 0, .bool false] 56 (0, 0)) := hz
      rw [hgg] at h5
      simp at h5
    refine ⟨rfl, (setMath_c w2 z i false _ _ _ (val X) hz2 hi2 hne (fun w3 hch3 => ?_)).mono ?_⟩
    · by_cases h0 : val X = 0
      · rw [h0, digs_zero]
        exact set0_c w3 _ _
      · exact set_rd w3 g c (val X) (hpre w3 _ ((hch2.mono (fun k _ h => (show k = i ∨ k = z from .inl h))).trans (hch3.mono (fun k _ h => .inl (.inr h)))) (by omega)) h0 (by omega)
    · rintro e w3 ⟨rfl, v', o', h1, h2, h3, h4⟩
      refine ⟨rfl, v', o', h1, h2, ?_, (hc1.trans (hch2.mono (fun k _ h => .inr (by omega)))).trans (h4.mono (fun k _ h => .inr (by omega)))⟩
      intro b hb'
      have s1 := hc1.size
      have s2 := hch2.size
      rcases h3 with h | ⟨b2, hb2, hlt⟩
      · rw [h] at hb'; cases hb'
      · rw [hb2] at hb'; cases hb'; omega

set_option maxHeartbeats 2000000 in
theorem whole_c (w : World) (A : Option Addr) (l c : Nat) (X : List Nat) (hX : RdW w A l c X) (hl : l ≤ 900) :
    Calls Tryz.prog 49 #[.slice A l c] w fun e w' => NewBig w w' e (val X) := by
  obtain ⟨i0, hi, hz0, hz1, hz2⟩ := info_parts makeZ
  have hlen := hX.len
  replace hX := Lib.hid hX
  replace hlen := Lib.hid hlen
  go_enter Tryz.func49, Tryz.ntmps49
  go_wp2
  go_loopw [3, 8] (fun v i wr => ∃ (k : Nat) (p : Option Addr) (cc : Nat), k ≤ l ∧ i = .int .i64 k ∧ v = .slice p k cc ∧ Below w.heap.size w wr ∧ wr.ownsRow w.heap.size 128 1 (.slice p k cc) k ((X.take k).map uw)) (fun _ i _ => l - (intOf i).toNat)
  case atStart => exact ⟨0, none, 0, Nat.zero_le _, rfl, rfl, Below.refl _ _, World.ownsRow_nil _ _ _ _⟩
  case round =>
    obtain ⟨k, p, cc, hk, rfl, rfl, hb, hown⟩ := hrel
    by_cases hlt : k < l
    · obtain ⟨ad, rfl, hcs⟩ := hX.out.cells (by omega)
      have hcell := hb.cell (World.block_lt_of_cell? w _ (hcs k hlt)) |>.trans (hcs k hlt)
      have hbs := hb.size
      have htk : X.take (k + 1) = X.take k ++ [nth X k] := take_nth (by rw [hlen.out]; exact hlt)
      replace htk := Lib.hid htk
      replace hown := Lib.hid hown
      replace hb := Lib.hid hb
      clear hcs
      go_wp2_with (at_builtin; refine wpList_append_own _ rfl _ _ 51 rfl w.heap.size 128 i0 (.int .u64 0) 1 8 Tryz.underlying51 hi hz0 hz1 hz2 rfl (by decide) _ _ _ rfl (hown.out.alloc _) ⟨wr.heap.size, 0, none⟩ 1 1 [.int .u64 (nth X k : Int)] rfl rfl ?c1 ?c2 ?c3 ?c4 ?c5 ?_)
      case c1 => exact cell_one_new _ _ _
      case c2 => intro u hu; simp only [List.mem_cons, List.not_mem_nil, or_false] at hu; subst hu; rfl
      case c3 => unfold maxLen; omega
      case c4 => omega
      case c5 => simp; omega
      intro v' w1 hown' hgrow _
      obtain ⟨p', cc', rfl⟩ := own_slice2 hown'
      replace hown' := Lib.hid hown'
      replace hgrow := Lib.hid hgrow
      go_wp2
      go_roundw
      case rel =>
        refine ⟨k + 1, p', cc', by omega, by go_num, rfl, ?_, ?_⟩
        · exact (hb.out.alloc hbs _).grown hgrow.out (by simp; omega) (fun g hg => (hown.out.lt g hg).1)
        · have h := hown'.out
          rw [htk.out, List.map_append]
          rw [← List.map_take] at h
          exact h
      case measure => simp [intOf]; omega
    · obtain rfl : k = l := by omega
      have htl : X.take k = X := List.take_of_length_le (by rw [hlen.out]; exact Nat.le_refl _)
      rw [htl] at hown
      have hbs := hb.size
      have hb2 : Below w.heap.size w ((wr.alloc (.cells #[.bool false, .slice none 0 0, .bool false] 56 (0, 0))).alloc (.cells #[.bool false, .slice none 0 0] 54 (0, 0))) := (hb.alloc hbs _).alloc (by simp; omega) _
      have key := tail_c w _ p k cc X hb2 ((hown.alloc _).alloc _) hlen.out hX.out.wd hl wr.heap.size (wr.heap.size + 1) (allocB_old (allocB _ _)) (allocB_at _ _ (by simp)) (by omega) hbs (by omega)
      replace key := Lib.hid key
      clear hb2 hb hown htl
      go_wp2_with fail
      with_reducible refine key.out.mono ?_
      rintro e w2 ⟨rfl, k2⟩
      replace k2 := Lib.hid k2
      go_wp2_with fail
      with_reducible refine k2.out.mono ?_
      rintro e w3 ⟨rfl, v, o, h1, h2, h3, h4⟩
      go_wp2
      go_ret
      exact ⟨wr.heap.size, v, o, rfl, hbs, h1, h2, h3, h4⟩
end Go.Proofs.YtabggbajgpbmmaaGreatDoor
