/- apd: QuoRem on what is held. -/
import Derived.Test.YtgdpljjmnmapmaaGreatDoorC27
import Derived.Test.YtgdpljjmnmapmaaGreatDoorC29
namespace Go.Proofs.YtgdpljjmnmapmaaGreatDoor
open Go Go.RowKit

set_option maxRecDepth 20000 in
theorem bigQuoRem_c {w0 w : World} {σ : Sg} (h : Hold w0 w σ) {bz oz bx ox yb yo br ro : Nat} {Z X Y R : Nat} (hz : BNum σ bz oz false Z) (hx : Num σ bx ox false X) (hy : Num σ yb yo false Y) (hr : BNum σ br ro false R) (hne : bz ≠ br) (hY0 : Y ≠ 0) (hX : (digs X).length ≤ 250) (hY : (digs Y).length < 40) :
    Calls Tryz.prog 73 #[.pointer (some ⟨bz, oz, none⟩), .pointer (some ⟨bx, ox, none⟩), .pointer (some ⟨yb, yo, none⟩), .pointer (some ⟨br, ro, none⟩)] w fun e w' =>
      e = .returned (.tuple #[.pointer (some ⟨bz, oz, none⟩), .pointer (some ⟨br, ro, none⟩)]) ∧ Hold w0 w' (put (put σ bz oz false (X / Y)) br ro false (X % Y)) := by
  obtain ⟨fm, cm, hm⟩ := h.bmin hz
  obtain ⟨fr, cr, hmr⟩ := hm.bmin hr
  obtain ⟨fr0, cr0, _⟩ := h.bmin hr
  have key := fun w2 (hc : Chg ((w.setCell ⟨bz, oz + 2, none⟩ (.bool false)).setCell ⟨br, ro + 2, none⟩ (.bool false)) w2 (fun _ => False)) => intQuoRem_c (hmr.keep hc) hz.num hx hy hr.num hne hY0 hX hY
  replace key := Lib.hid key
  clear hz hx hy hr h hm hmr hY0 hX hY
  go_enter Tryz.func73, Tryz.ntmps73
  go_upto_region 3 with (fail)
  go_still_tail 12, (by kernel_rfl)
  change wpList _ _ _ _ _ (World.drew _)
  go_wp2_with fail
  with_reducible refine (key.out _ (by exact ⟨rfl, rfl, rfl, Nat.le_refl _, fun _ _ _ => rfl⟩)).mono ?_
  rintro e w1 ⟨rfl, h1⟩
  replace h1 := Lib.hid h1
  go_wp2
  go_ret2
  exact ⟨rfl, h1.out⟩
end Go.Proofs.YtgdpljjmnmapmaaGreatDoor
