/- apd.BigInt: Set, SetMathBigInt; impl.whole. -/
import Derived.Test.YtabggbajgpbmmaaGreatDoorJ3
namespace Go.Proofs.YtabggbajgpbmmaaGreatDoor
open Go Go.RowKit

theorem setMath_c (w : World) (z x : Nat) (n : Bool) (p : Option Addr) (l c N : Nat) (hz : BigBlk w z false (.slice none 0 0) false) (hx : IntBlk w x n (.slice p l c)) (hne : z ≠ x)
    (hs : ∀ w2, Chg w w2 (fun k => k = z) → Calls Tryz.prog 132 #[.slice none 0 0, .slice p l c] w2 fun e w' => ∃ r, e = .returned r ∧ NatRes w2 w' none r N) :
    Calls Tryz.prog 104 #[.pointer (some ⟨z, 0, none⟩), .pointer (some ⟨x, 0, none⟩)] w fun e w' =>
      e = .returned (.pointer (some ⟨z, 0, none⟩)) ∧ ∃ v' o', BigBlk w' z n v' false ∧ IsNat w' v' N o' ∧ (o' = none ∨ ∃ b, o' = some b ∧ w.heap.size ≤ b) ∧ Chg w w' (fun k => k = z) := by
  have z2 : w.cell? ⟨z, 2, none⟩ = some (.bool false) := cellB hz rfl
  have f2 := frozenB hz 2
  have hch : Chg w (w.setCell ⟨z, 2, none⟩ (.bool false)) (fun k => k = z) := chg_setB w z 2 _
  have hz1 : BigBlk (w.setCell ⟨z, 2, none⟩ (.bool false)) z false (.slice none 0 0) false := setB (i := 2) (v := .bool false) hz
  have hx1 : IntBlk (w.setCell ⟨z, 2, none⟩ (.bool false)) x n (.slice p l c) := hch.heapB hx (fun e => hne e.symm)
  have key := intSet_c (w.setCell ⟨z, 2, none⟩ (.bool false)) z 0 x 0 _ _ _ _ none false n (.slice none 0 0) (.slice p l c) N hz1 (by decide) rfl rfl hx1 (by decide) rfl rfl hne (stor_none _) ⟨p, l, c, rfl⟩ (fun w2 k e => by subst e; exact hs _ (hch.drewN k))
  replace key := Lib.hid key
  replace hch := Lib.hid hch
  clear hz1 hx1
  go_enter Tryz.func104, Tryz.ntmps104
  go_wp2_with fail
  with_reducible refine key.out.mono ?_
  rintro e w' ⟨rfl, v', o', h1, h2, h3, h4⟩
  go_wp2
  go_ret
  refine ⟨rfl, v', o', h1, h2, ?_, hch.out.trans (h4.mono (fun _ _ h => .inl (h.elim id (fun h => by cases h))))⟩
  rcases h3 with h | h | ⟨b, hb, hlt⟩
  · exact .inl h
  · exact .inl h
  · exact .inr ⟨b, hb, by rw [World.size_setCell] at hlt; exact hlt⟩

set_option maxHeartbeats 400000 in
/-- Set, of another block's number. -/
theorem bigSet_c (w : World) (pz oz px ox : Nat) (cs cx : Array Value) (T Tx : TypeId) (o : Option Nat) (nz n mz mx : Bool) (u v : Value) (N : Nat) (hz : w.heap[pz]? = some (.cells cs T (0, 0))) (hT : T ≠ 128) (hz0 : cs[oz]? = some (.bool nz)) (hz1 : cs[oz + 1]? = some u) (hz2 : cs[oz + 2]? = some (.bool mz))
    (hx : w.heap[px]? = some (.cells cx Tx (0, 0))) (hTx : Tx ≠ 128) (hx0 : cx[ox]? = some (.bool n)) (hx1 : cx[ox + 1]? = some v) (hx2 : cx[ox + 2]? = some (.bool mx)) (hne : pz ≠ px) (hu : Stor w u o) (hvs : ∃ p l c, v = .slice p l c)
    (hs : ∀ w2, Chg w w2 (fun k => k = pz) → Calls Tryz.prog 132 #[u, v] w2 fun e w' => ∃ r, e = .returned r ∧ NatRes w2 w' o r N) :
    Calls Tryz.prog 48 #[.pointer (some ⟨pz, oz, none⟩), .pointer (some ⟨px, ox, none⟩)] w fun e w' => e = .returned (.pointer (some ⟨pz, oz, none⟩)) ∧ IntRes w w' pz oz (cs.setIfInBounds (oz + 2) (.bool mx)) T o n N := by
  have z2 := cellB hz hz2
  have f2 := frozenB hz (oz + 2)
  have x2 := cellB hx hx2
  have hch : Chg w (w.setCell ⟨pz, oz + 2, none⟩ (.bool mx)) (fun k => k = pz) := chg_setB w pz (oz + 2) _
  have h1 := setB (i := oz + 2) (v := .bool mx) hz
  have h2 := hch.heapB hx (fun e => hne e.symm)
  have hpo : ∀ b, o = some b → b ≠ pz := fun b e => by subst e; exact hu.ne2 hz hT
  have hu1 := hu.chg hch (fun b e => hpo b e)
  have e0 : (cs.setIfInBounds (oz + 2) (.bool mx))[oz]? = some (.bool nz) := by rw [Array.getElem?_setIfInBounds_ne (by omega)]; exact hz0
  have e1 : (cs.setIfInBounds (oz + 2) (.bool mx))[oz + 1]? = some u := by rw [Array.getElem?_setIfInBounds_ne (by omega)]; exact hz1
  have key := fun k => intSet_c ((w.setCell ⟨pz, oz + 2, none⟩ (.bool mx)).drewN k) pz oz px ox _ _ _ _ o nz n u v N h1 hT e0 e1 h2 hTx hx0 hx1 hne (hu1.chg ((Chg.refl _ (fun _ => False)).drewN k) (fun _ _ h => h)) hvs (fun w2 k2 e => by subst e; exact hs _ ((hch.drewN k).drewN k2))
  replace key := Lib.hid key
  replace hch := Lib.hid hch
  clear h1 h2 hu1 e0 e1 hz hx hz0 hz1 hz2 hx0 hx1 hx2 hu
  go_enter Tryz.func48, Tryz.ntmps48
  go_wp2_with fail
  generalize w.setCell ⟨pz, oz + 2, none⟩ (.bool mx) = w0 at key hch ⊢
  go_region_with ((go_at_call 103; refine (key.out 1).mono ?_; rintro e w2 ⟨rfl, hr⟩; replace hr := Lib.hid hr))
  all_goals
    go_wp2
    go_ret
    obtain ⟨v', o', h1, h2, h3, h4⟩ := hr.out
    refine ⟨rfl, v', o', h1, h2, ?_, (hch.out.mono (fun _ _ h => .inl h)).trans (((Chg.refl _ (fun _ => False)).drewN 1).mono (fun _ _ h => h.elim) |>.trans (h4.mono (fun _ _ h => .inl (.inl h))))⟩
    rcases h3 with h | h | ⟨b, hb, hlt⟩
    · exact .inl h
    · exact .inr (.inl h)
    · exact .inr (.inr ⟨b, hb, Nat.le_trans hch.out.size hlt⟩)
end Go.Proofs.YtabggbajgpbmmaaGreatDoor
