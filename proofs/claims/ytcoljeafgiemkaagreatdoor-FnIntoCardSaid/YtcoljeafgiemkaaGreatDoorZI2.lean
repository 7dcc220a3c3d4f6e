/- What impl.Into tells of Add, and laws.did of the same. What impl.Into tells of Sub, and laws.did of the same. What impl.Into tells of Mul, and laws.did of the same. What impl.Into tells of Quo, and laws.did of the same. What impl.Into tells of QuoInteger, and laws.did of the same. What impl.Into tells of Rem, and laws.did of the same. -/
import Derived.Test.YtcoljeafgiemkaaGreatDoorY44w0
import Derived.Test.YtcoljeafgiemkaaGreatDoorY44w1
import Derived.Test.YtcoljeafgiemkaaGreatDoorY44w2
import Derived.Test.YtcoljeafgiemkaaGreatDoorZI1
import Derived.Test.YtcoljeafgiemkaaGreatDoorC44
import Derived.Test.YtcoljeafgiemkaaGreatDoorC40
namespace Go.Proofs.YtcoljeafgiemkaaGreatDoor
open Go Go.RowKit

theorem intoFAdd0 (w : World) (hG : Glob w) {p m : Nat} (hm : m < 8) (hp : 1 ≤ p ∧ p ≤ 60) {e d : Int} {n o : Bool} {A B : Option Addr} {l c r s : Nat} {X Y : List Nat} (hX : RdW w A l c X) (hY : RdW w B r s Y) (hl : l ≤ 3) (hr : r ≤ 3) (he : -100 ≤ e ∧ e ≤ 100) (hd : -100 ≤ d ∧ d ≤ 100) :
    ∃ (f E0 : Int) (nz : Bool) (R cn : Nat),
      (∀ W, Below w.heap.size w W → Calls Tryz.prog 29 #[.int .i64 0, .int .i64 0, .agg #[.int .u64 (p : Int), .int .i64 100000, .int .i64 (-100000), .int .i64 (m : Int)], .agg #[.int .i64 0, .bool n, .slice A l c, .int .i64 e], .agg #[.int .i64 0, .bool o, .slice B r s, .int .i64 d]] W fun E w' => TellF W w' E f nz E0 R cn) ∧
      (∀ W, Below w.heap.size w W → Calls Tryz.prog 30 #[.int .i64 0, .agg #[.int .u64 (p : Int), .int .i64 100000, .int .i64 (-100000), .int .i64 (m : Int)], .agg #[.int .i64 0, .bool n, .slice A l c, .int .i64 e], .agg #[.int .i64 0, .bool o, .slice B r s, .int .i64 d]] W fun E w' => TellF W w' E f nz E0 R cn) := by
  have x1 := val3 hX.wd hX.len hl
  have y1 := val3 hY.wd hY.len hr
  obtain ⟨f, E0, nz, R, q, hat, hf, hR, hE, hq⟩ := opAdd hm hp (n := n) (o := o) (e := e) (d := d) (X := val X) (Y := val Y) x1 y1 he hd
  refine ⟨f, E0, nz, R, condN q, fun W hb => ?_, fun W hb => ?_⟩
  · exact (into0_c W (hG.bel hb) (k := 0) (F := 57) (by simp) p m q e d n o A B l c r s X Y (dec f nz E0 false R) (QAt W.heap.size (QFm f nz E0 R)) hm (by omega) hq (QAt.st (QFm.st _ _ _ _)) (fun w4 τ z h4 hz => QFm.told h4 hz hf hR hE h4.sz) (hX.below hb) (by omega) (by omega) (hY.below hb) (by omega) (by omega) hat).mono (fun E w' h => tellF (Nat.le_refl _) h)
  · refine didFAdd_c W p 100000 (-100000) m e d f E0 n o nz A B l c r s R (condN q) (fun w1 hc => ?_)
    have hb1 := brise hb (cbelow hc)
    exact (implAddG_c w1 (hG.bel hb1) p m q 100000 (-100000) e d n o A B l c r s X Y (dec f nz E0 false R) (QAt w1.heap.size (QFm f nz E0 R)) hm (by omega) (by omega) (by omega) hq (QAt.st (QFm.st _ _ _ _)) (fun w4 τ z h4 hz => QFm.told h4 hz hf hR hE h4.sz) (hX.below hb1) (by omega) (by omega) (hY.below hb1) (by omega) (by omega)
      (fun w1 σ c1 d1 x y hh hc hd hx hdx hy hxy hdy => hat _ _ _ _ _ _ _ _ _ _ _ hh hc hd hx hy (fun e => absurd e hxy))).mono (fun E w' h => tellF (Nat.le_refl _) h)
theorem intoFAdd1 (w : World) (hG : Glob w) {p m : Nat} (hm : m < 8) (hp : 1 ≤ p ∧ p ≤ 60) {e d : Int} {n o : Bool} {A B : Option Addr} {l c r s : Nat} {X Y : List Nat} (hX : RdW w A l c X) (hY : RdW w B r s Y) (hl : l ≤ 3) (hr : r ≤ 3) (he : -100 ≤ e ∧ e ≤ 100) (hd : -100 ≤ d ∧ d ≤ 100) :
    ∃ (f E0 : Int) (nz : Bool) (R cn : Nat),
      (∀ W, Below w.heap.size w W → Calls Tryz.prog 29 #[.int .i64 0, .int .i64 1, .agg #[.int .u64 (p : Int), .int .i64 100000, .int .i64 (-100000), .int .i64 (m : Int)], .agg #[.int .i64 0, .bool n, .slice A l c, .int .i64 e], .agg #[.int .i64 0, .bool o, .slice B r s, .int .i64 d]] W fun E w' => TellF W w' E f nz E0 R cn) ∧
      (∀ W, Below w.heap.size w W → Calls Tryz.prog 30 #[.int .i64 0, .agg #[.int .u64 (p : Int), .int .i64 100000, .int .i64 (-100000), .int .i64 (m : Int)], .agg #[.int .i64 0, .bool n, .slice A l c, .int .i64 e], .agg #[.int .i64 0, .bool o, .slice B r s, .int .i64 d]] W fun E w' => TellF W w' E f nz E0 R cn) := by
  have x1 := val3 hX.wd hX.len hl
  have y1 := val3 hY.wd hY.len hr
  obtain ⟨f, E0, nz, R, q, hat, hf, hR, hE, hq⟩ := opAdd hm hp (n := n) (o := o) (e := e) (d := d) (X := val X) (Y := val Y) x1 y1 he hd
  refine ⟨f, E0, nz, R, condN q, fun W hb => ?_, fun W hb => ?_⟩
  · exact (into1_c W (hG.bel hb) (k := 0) (F := 57) (by simp) p m q e d n o A B l c r s X Y (dec f nz E0 false R) (QAt W.heap.size (QFm f nz E0 R)) hm (by omega) hq (QAt.st (QFm.st _ _ _ _)) (fun w4 τ z h4 hz => QFm.told h4 hz hf hR hE h4.sz) (hX.below hb) (by omega) (by omega) (hY.below hb) (by omega) (by omega) hat).mono (fun E w' h => tellF (Nat.le_refl _) h)
  · refine didFAdd_c W p 100000 (-100000) m e d f E0 n o nz A B l c r s R (condN q) (fun w1 hc => ?_)
    have hb1 := brise hb (cbelow hc)
    exact (implAddG_c w1 (hG.bel hb1) p m q 100000 (-100000) e d n o A B l c r s X Y (dec f nz E0 false R) (QAt w1.heap.size (QFm f nz E0 R)) hm (by omega) (by omega) (by omega) hq (QAt.st (QFm.st _ _ _ _)) (fun w4 τ z h4 hz => QFm.told h4 hz hf hR hE h4.sz) (hX.below hb1) (by omega) (by omega) (hY.below hb1) (by omega) (by omega)
      (fun w1 σ c1 d1 x y hh hc hd hx hdx hy hxy hdy => hat _ _ _ _ _ _ _ _ _ _ _ hh hc hd hx hy (fun e => absurd e hxy))).mono (fun E w' h => tellF (Nat.le_refl _) h)
theorem intoFAdd2 (w : World) (hG : Glob w) {p m : Nat} (hm : m < 8) (hp : 1 ≤ p ∧ p ≤ 60) {e d : Int} {n o : Bool} {A B : Option Addr} {l c r s : Nat} {X Y : List Nat} (hX : RdW w A l c X) (hY : RdW w B r s Y) (hl : l ≤ 3) (hr : r ≤ 3) (he : -100 ≤ e ∧ e ≤ 100) (hd : -100 ≤ d ∧ d ≤ 100) :
    ∃ (f E0 : Int) (nz : Bool) (R cn : Nat),
      (∀ W, Below w.heap.size w W → Calls Tryz.prog 29 #[.int .i64 0, .int .i64 2, .agg #[.int .u64 (p : Int), .int .i64 100000, .int .i64 (-100000), .int .i64 (m : Int)], .agg #[.int .i64 0, .bool n, .slice A l c, .int .i64 e], .agg #[.int .i64 0, .bool o, .slice B r s, .int .i64 d]] W fun E w' => TellF W w' E f nz E0 R cn) ∧
      (∀ W, Below w.heap.size w W → Calls Tryz.prog 30 #[.int .i64 0, .agg #[.int .u64 (p : Int), .int .i64 100000, .int .i64 (-100000), .int .i64 (m : Int)], .agg #[.int .i64 0, .bool n, .slice A l c, .int .i64 e], .agg #[.int .i64 0, .bool n, .slice A l c, .int .i64 e]] W fun E w' => TellF W w' E f nz E0 R cn) := by
  have x1 := val3 hX.wd hX.len hl
  have y1 := val3 hY.wd hY.len hr
  obtain ⟨f, E0, nz, R, q, hat, hf, hR, hE, hq⟩ := opAdd hm hp (n := n) (o := n) (e := e) (d := e) (X := val X) (Y := val X) x1 x1 he he
  refine ⟨f, E0, nz, R, condN q, fun W hb => ?_, fun W hb => ?_⟩
  · exact (into2_c W (hG.bel hb) (k := 0) (F := 57) (by simp) p m q e d n o A B l c r s X Y (dec f nz E0 false R) (QAt W.heap.size (QFm f nz E0 R)) hm (by omega) hq (QAt.st (QFm.st _ _ _ _)) (fun w4 τ z h4 hz => QFm.told h4 hz hf hR hE h4.sz) (hX.below hb) (by omega) (by omega) (hY.below hb) (by omega) (by omega) hat).mono (fun E w' h => tellF (Nat.le_refl _) h)
  · refine didFAdd_c W p 100000 (-100000) m e e f E0 n n nz A A l c l c R (condN q) (fun w1 hc => ?_)
    have hb1 := brise hb (cbelow hc)
    exact (implAddG_c w1 (hG.bel hb1) p m q 100000 (-100000) e e n n A A l c l c X X (dec f nz E0 false R) (QAt w1.heap.size (QFm f nz E0 R)) hm (by omega) (by omega) (by omega) hq (QAt.st (QFm.st _ _ _ _)) (fun w4 τ z h4 hz => QFm.told h4 hz hf hR hE h4.sz) (hX.below hb1) (by omega) (by omega) (hX.below hb1) (by omega) (by omega)
      (fun w1 σ c1 d1 x y hh hc hd hx hdx hy hxy hdy => hat _ _ _ _ _ _ _ _ _ _ _ hh hc hd hx hy (fun e => absurd e hxy))).mono (fun E w' h => tellF (Nat.le_refl _) h)
end Go.Proofs.YtcoljeafgiemkaaGreatDoor
namespace Go.Proofs.YtcoljeafgiemkaaGreatDoor
open Go Go.RowKit

theorem intoFSub0 (w : World) (hG : Glob w) {p m : Nat} (hm : m < 8) (hp : 1 ≤ p ∧ p ≤ 60) {e d : Int} {n o : Bool} {A B : Option Addr} {l c r s : Nat} {X Y : List Nat} (hX : RdW w A l c X) (hY : RdW w B r s Y) (hl : l ≤ 3) (hr : r ≤ 3) (he : -100 ≤ e ∧ e ≤ 100) (hd : -100 ≤ d ∧ d ≤ 100) :
    ∃ (f E0 : Int) (nz : Bool) (R cn : Nat),
      (∀ W, Below w.heap.size w W → Calls Tryz.prog 29 #[.int .i64 1, .int .i64 0, .agg #[.int .u64 (p : Int), .int .i64 100000, .int .i64 (-100000), .int .i64 (m : Int)], .agg #[.int .i64 0, .bool n, .slice A l c, .int .i64 e], .agg #[.int .i64 0, .bool o, .slice B r s, .int .i64 d]] W fun E w' => TellF W w' E f nz E0 R cn) ∧
      (∀ W, Below w.heap.size w W → Calls Tryz.prog 30 #[.int .i64 1, .agg #[.int .u64 (p : Int), .int .i64 100000, .int .i64 (-100000), .int .i64 (m : Int)], .agg #[.int .i64 0, .bool n, .slice A l c, .int .i64 e], .agg #[.int .i64 0, .bool o, .slice B r s, .int .i64 d]] W fun E w' => TellF W w' E f nz E0 R cn) := by
  have x1 := val3 hX.wd hX.len hl
  have y1 := val3 hY.wd hY.len hr
  obtain ⟨f, E0, nz, R, q, hat, hf, hR, hE, hq⟩ := opSub hm hp (n := n) (o := o) (e := e) (d := d) (X := val X) (Y := val Y) x1 y1 he hd
  refine ⟨f, E0, nz, R, condN q, fun W hb => ?_, fun W hb => ?_⟩
  · exact (into0_c W (hG.bel hb) (k := 1) (F := 58) (by simp) p m q e d n o A B l c r s X Y (dec f nz E0 false R) (QAt W.heap.size (QFm f nz E0 R)) hm (by omega) hq (QAt.st (QFm.st _ _ _ _)) (fun w4 τ z h4 hz => QFm.told h4 hz hf hR hE h4.sz) (hX.below hb) (by omega) (by omega) (hY.below hb) (by omega) (by omega) hat).mono (fun E w' h => tellF (Nat.le_refl _) h)
  · refine didFSub_c W p 100000 (-100000) m e d f E0 n o nz A B l c r s R (condN q) (fun w1 hc => ?_)
    have hb1 := brise hb (cbelow hc)
    exact (implSubG_c w1 (hG.bel hb1) p m q 100000 (-100000) e d n o A B l c r s X Y (dec f nz E0 false R) (QAt w1.heap.size (QFm f nz E0 R)) hm (by omega) (by omega) (by omega) hq (QAt.st (QFm.st _ _ _ _)) (fun w4 τ z h4 hz => QFm.told h4 hz hf hR hE h4.sz) (hX.below hb1) (by omega) (by omega) (hY.below hb1) (by omega) (by omega)
      (fun w1 σ c1 d1 x y hh hc hd hx hdx hy hxy hdy => hat _ _ _ _ _ _ _ _ _ _ _ hh hc hd hx hy (fun e => absurd e hxy))).mono (fun E w' h => tellF (Nat.le_refl _) h)
theorem intoFSub1 (w : World) (hG : Glob w) {p m : Nat} (hm : m < 8) (hp : 1 ≤ p ∧ p ≤ 60) {e d : Int} {n o : Bool} {A B : Option Addr} {l c r s : Nat} {X Y : List Nat} (hX : RdW w A l c X) (hY : RdW w B r s Y) (hl : l ≤ 3) (hr : r ≤ 3) (he : -100 ≤ e ∧ e ≤ 100) (hd : -100 ≤ d ∧ d ≤ 100) :
    ∃ (f E0 : Int) (nz : Bool) (R cn : Nat),
      (∀ W, Below w.heap.size w W → Calls Tryz.prog 29 #[.int .i64 1, .int .i64 1, .agg #[.int .u64 (p : Int), .int .i64 100000, .int .i64 (-100000), .int .i64 (m : Int)], .agg #[.int .i64 0, .bool n, .slice A l c, .int .i64 e], .agg #[.int .i64 0, .bool o, .slice B r s, .int .i64 d]] W fun E w' => TellF W w' E f nz E0 R cn) ∧
      (∀ W, Below w.heap.size w W → Calls Tryz.prog 30 #[.int .i64 1, .agg #[.int .u64 (p : Int), .int .i64 100000, .int .i64 (-100000), .int .i64 (m : Int)], .agg #[.int .i64 0, .bool n, .slice A l c, .int .i64 e], .agg #[.int .i64 0, .bool o, .slice B r s, .int .i64 d]] W fun E w' => TellF W w' E f nz E0 R cn) := by
  have x1 := val3 hX.wd hX.len hl
  have y1 := val3 hY.wd hY.len hr
  obtain ⟨f, E0, nz, R, q, hat, hf, hR, hE, hq⟩ := opSub hm hp (n := n) (o := o) (e := e) (d := d) (X := val X) (Y := val Y) x1 y1 he hd
  refine ⟨f, E0, nz, R, condN q, fun W hb => ?_, fun W hb => ?_⟩
  · exact (into1_c W (hG.bel hb) (k := 1) (F := 58) (by simp) p m q e d n o A B l c r s X Y (dec f nz E0 false R) (QAt W.heap.size (QFm f nz E0 R)) hm (by omega) hq (QAt.st (QFm.st _ _ _ _)) (fun w4 τ z h4 hz => QFm.told h4 hz hf hR hE h4.sz) (hX.below hb) (by omega) (by omega) (hY.below hb) (by omega) (by omega) hat).mono (fun E w' h => tellF (Nat.le_refl _) h)
  · refine didFSub_c W p 100000 (-100000) m e d f E0 n o nz A B l c r s R (condN q) (fun w1 hc => ?_)
    have hb1 := brise hb (cbelow hc)
    exact (implSubG_c w1 (hG.bel hb1) p m q 100000 (-100000) e d n o A B l c r s X Y (dec f nz E0 false R) (QAt w1.heap.size (QFm f nz E0 R)) hm (by omega) (by omega) (by omega) hq (QAt.st (QFm.st _ _ _ _)) (fun w4 τ z h4 hz => QFm.told h4 hz hf hR hE h4.sz) (hX.below hb1) (by omega) (by omega) (hY.below hb1) (by omega) (by omega)
      (fun w1 σ c1 d1 x y hh hc hd hx hdx hy hxy hdy => hat _ _ _ _ _ _ _ _ _ _ _ hh hc hd hx hy (fun e => absurd e hxy))).mono (fun E w' h => tellF (Nat.le_refl _) h)
theorem intoFSub2 (w : World) (hG : Glob w) {p m : Nat} (hm : m < 8) (hp : 1 ≤ p ∧ p ≤ 60) {e d : Int} {n o : Bool} {A B : Option Addr} {l c r s : Nat} {X Y : List Nat} (hX : RdW w A l c X) (hY : RdW w B r s Y) (hl : l ≤ 3) (hr : r ≤ 3) (he : -100 ≤ e ∧ e ≤ 100) (hd : -100 ≤ d ∧ d ≤ 100) :
    ∃ (f E0 : Int) (nz : Bool) (R cn : Nat),
      (∀ W, Below w.heap.size w W → Calls Tryz.prog 29 #[.int .i64 1, .int .i64 2, .agg #[.int .u64 (p : Int), .int .i64 100000, .int .i64 (-100000), .int .i64 (m : Int)], .agg #[.int .i64 0, .bool n, .slice A l c, .int .i64 e], .agg #[.int .i64 0, .bool o, .slice B r s, .int .i64 d]] W fun E w' => TellF W w' E f nz E0 R cn) ∧
      (∀ W, Below w.heap.size w W → Calls Tryz.prog 30 #[.int .i64 1, .agg #[.int .u64 (p : Int), .int .i64 100000, .int .i64 (-100000), .int .i64 (m : Int)], .agg #[.int .i64 0, .bool n, .slice A l c, .int .i64 e], .agg #[.int .i64 0, .bool n, .slice A l c, .int .i64 e]] W fun E w' => TellF W w' E f nz E0 R cn) := by
  have x1 := val3 hX.wd hX.len hl
  have y1 := val3 hY.wd hY.len hr
  obtain ⟨f, E0, nz, R, q, hat, hf, hR, hE, hq⟩ := opSub hm hp (n := n) (o := n) (e := e) (d := e) (X := val X) (Y := val X) x1 x1 he he
  refine ⟨f, E0, nz, R, condN q, fun W hb => ?_, fun W hb => ?_⟩
  · exact (into2_c W (hG.bel hb) (k := 1) (F := 58) (by simp) p m q e d n o A B l c r s X Y (dec f nz E0 false R) (QAt W.heap.size (QFm f nz E0 R)) hm (by omega) hq (QAt.st (QFm.st _ _ _ _)) (fun w4 τ z h4 hz => QFm.told h4 hz hf hR hE h4.sz) (hX.below hb) (by omega) (by omega) (hY.below hb) (by omega) (by omega) hat).mono (fun E w' h => tellF (Nat.le_refl _) h)
  · refine didFSub_c W p 100000 (-100000) m e e f E0 n n nz A A l c l c R (condN q) (fun w1 hc => ?_)
    have hb1 := brise hb (cbelow hc)
    exact (implSubG_c w1 (hG.bel hb1) p m q 100000 (-100000) e e n n A A l c l c X X (dec f nz E0 false R) (QAt w1.heap.size (QFm f nz E0 R)) hm (by omega) (by omega) (by omega) hq (QAt.st (QFm.st _ _ _ _)) (fun w4 τ z h4 hz => QFm.told h4 hz hf hR hE h4.sz) (hX.below hb1) (by omega) (by omega) (hX.below hb1) (by omega) (by omega)
      (fun w1 σ c1 d1 x y hh hc hd hx hdx hy hxy hdy => hat _ _ _ _ _ _ _ _ _ _ _ hh hc hd hx hy (fun e => absurd e hxy))).mono (fun E w' h => tellF (Nat.le_refl _) h)
end Go.Proofs.YtcoljeafgiemkaaGreatDoor
namespace Go.Proofs.YtcoljeafgiemkaaGreatDoor
open Go Go.RowKit

theorem intoFMul0 (w : World) (hG : Glob w) {p m : Nat} (hm : m < 8) (hp : 1 ≤ p ∧ p ≤ 60) {e d : Int} {n o : Bool} {A B : Option Addr} {l c r s : Nat} {X Y : List Nat} (hX : RdW w A l c X) (hY : RdW w B r s Y) (hl : l ≤ 3) (hr : r ≤ 3) (he : -100 ≤ e ∧ e ≤ 100) (hd : -100 ≤ d ∧ d ≤ 100) :
    ∃ (f E0 : Int) (nz : Bool) (R cn : Nat),
      (∀ W, Below w.heap.size w W → Calls Tryz.prog 29 #[.int .i64 2, .int .i64 0, .agg #[.int .u64 (p : Int), .int .i64 100000, .int .i64 (-100000), .int .i64 (m : Int)], .agg #[.int .i64 0, .bool n, .slice A l c, .int .i64 e], .agg #[.int .i64 0, .bool o, .slice B r s, .int .i64 d]] W fun E w' => TellF W w' E f nz E0 R cn) ∧
      (∀ W, Below w.heap.size w W → Calls Tryz.prog 30 #[.int .i64 2, .agg #[.int .u64 (p : Int), .int .i64 100000, .int .i64 (-100000), .int .i64 (m : Int)], .agg #[.int .i64 0, .bool n, .slice A l c, .int .i64 e], .agg #[.int .i64 0, .bool o, .slice B r s, .int .i64 d]] W fun E w' => TellF W w' E f nz E0 R cn) := by
  have x1 := val3 hX.wd hX.len hl
  have y1 := val3 hY.wd hY.len hr
  obtain ⟨f, E0, nz, R, q, hat, hf, hR, hE, hq⟩ := opMul hm hp (n := n) (o := o) (e := e) (d := d) (X := val X) (Y := val Y) x1 y1 he hd
  refine ⟨f, E0, nz, R, condN q, fun W hb => ?_, fun W hb => ?_⟩
  · exact (into0_c W (hG.bel hb) (k := 2) (F := 59) (by simp) p m q e d n o A B l c r s X Y (dec f nz E0 false R) (QAt W.heap.size (QFm f nz E0 R)) hm (by omega) hq (QAt.st (QFm.st _ _ _ _)) (fun w4 τ z h4 hz => QFm.told h4 hz hf hR hE h4.sz) (hX.below hb) (by omega) (by omega) (hY.below hb) (by omega) (by omega) hat).mono (fun E w' h => tellF (Nat.le_refl _) h)
  · refine didFMul_c W p 100000 (-100000) m e d f E0 n o nz A B l c r s R (condN q) (fun w1 hc => ?_)
    have hb1 := brise hb (cbelow hc)
    exact (implMulG_c w1 (hG.bel hb1) p m q 100000 (-100000) e d n o A B l c r s X Y (dec f nz E0 false R) (QAt w1.heap.size (QFm f nz E0 R)) hm (by omega) (by omega) (by omega) hq (QAt.st (QFm.st _ _ _ _)) (fun w4 τ z h4 hz => QFm.told h4 hz hf hR hE h4.sz) (hX.below hb1) (by omega) (by omega) (hY.below hb1) (by omega) (by omega)
      (fun w1 σ c1 d1 x y hh hc hd hx hdx hy hxy hdy => hat _ _ _ _ _ _ _ _ _ _ _ hh hc hd hx hy (fun e => absurd e hxy))).mono (fun E w' h => tellF (Nat.le_refl _) h)
theorem intoFMul1 (w : World) (hG : Glob w) {p m : Nat} (hm : m < 8) (hp : 1 ≤ p ∧ p ≤ 60) {e d : Int} {n o : Bool} {A B : Option Addr} {l c r s : Nat} {X Y : List Nat} (hX : RdW w A l c X) (hY : RdW w B r s Y) (hl : l ≤ 3) (hr : r ≤ 3) (he : -100 ≤ e ∧ e ≤ 100) (hd : -100 ≤ d ∧ d ≤ 100) :
    ∃ (f E0 : Int) (nz : Bool) (R cn : Nat),
      (∀ W, Below w.heap.size w W → Calls Tryz.prog 29 #[.int .i64 2, .int .i64 1, .agg #[.int .u64 (p : Int), .int .i64 100000, .int .i64 (-100000), .int .i64 (m : Int)], .agg #[.int .i64 0, .bool n, .slice A l c, .int .i64 e], .agg #[.int .i64 0, .bool o, .slice B r s, .int .i64 d]] W fun E w' => TellF W w' E f nz E0 R cn) ∧
      (∀ W, Below w.heap.size w W → Calls Tryz.prog 30 #[.int .i64 2, .agg #[.int .u64 (p : Int), .int .i64 100000, .int .i64 (-100000), .int .i64 (m : Int)], .agg #[.int .i64 0, .bool n, .slice A l c, .int .i64 e], .agg #[.int .i64 0, .bool o, .slice B r s, .int .i64 d]] W fun E w' => TellF W w' E f nz E0 R cn) := by
  have x1 := val3 hX.wd hX.len hl
  have y1 := val3 hY.wd hY.len hr
  obtain ⟨f, E0, nz, R, q, hat, hf, hR, hE, hq⟩ := opMul hm hp (n := n) (o := o) (e := e) (d := d) (X := val X) (Y := val Y) x1 y1 he hd
  refine ⟨f, E0, nz, R, condN q, fun W hb => ?_, fun W hb => ?_⟩
  · exact (into1_c W (hG.bel hb) (k := 2) (F := 59) (by simp) p m q e d n o A B l c r s X Y (dec f nz E0 false R) (QAt W.heap.size (QFm f nz E0 R)) hm (by omega) hq (QAt.st (QFm.st _ _ _ _)) (fun w4 τ z h4 hz => QFm.told h4 hz hf hR hE h4.sz) (hX.below hb) (by omega) (by omega) (hY.below hb) (by omega) (by omega) hat).mono (fun E w' h => tellF (Nat.le_refl _) h)
  · refine didFMul_c W p 100000 (-100000) m e d f E0 n o nz A B l c r s R (condN q) (fun w1 hc => ?_)
    have hb1 := brise hb (cbelow hc)
    exact (implMulG_c w1 (hG.bel hb1) p m q 100000 (-100000) e d n o A B l c r s X Y (dec f nz E0 false R) (QAt w1.heap.size (QFm f nz E0 R)) hm (by omega) (by omega) (by omega) hq (QAt.st (QFm.st _ _ _ _)) (fun w4 τ z h4 hz => QFm.told h4 hz hf hR hE h4.sz) (hX.below hb1) (by omega) (by omega) (hY.below hb1) (by omega) (by omega)
      (fun w1 σ c1 d1 x y hh hc hd hx hdx hy hxy hdy => hat _ _ _ _ _ _ _ _ _ _ _ hh hc hd hx hy (fun e => absurd e hxy))).mono (fun E w' h => tellF (Nat.le_refl _) h)
theorem intoFMul2 (w : World) (hG : Glob w) {p m : Nat} (hm : m < 8) (hp : 1 ≤ p ∧ p ≤ 60) {e d : Int} {n o : Bool} {A B : Option Addr} {l c r s : Nat} {X Y : List Nat} (hX : RdW w A l c X) (hY : RdW w B r s Y) (hl : l ≤ 3) (hr : r ≤ 3) (he : -100 ≤ e ∧ e ≤ 100) (hd : -100 ≤ d ∧ d ≤ 100) :
    ∃ (f E0 : Int) (nz : Bool) (R cn : Nat),
      (∀ W, Below w.heap.size w W → Calls Tryz.prog 29 #[.int .i64 2, .int .i64 2, .agg #[.int .u64 (p : Int), .int .i64 100000, .int .i64 (-100000), .int .i64 (m : Int)], .agg #[.int .i64 0, .bool n, .slice A l c, .int .i64 e], .agg #[.int .i64 0, .bool o, .slice B r s, .int .i64 d]] W fun E w' => TellF W w' E f nz E0 R cn) ∧
      (∀ W, Below w.heap.size w W → Calls Tryz.prog 30 #[.int .i64 2, .agg #[.int .u64 (p : Int), .int .i64 100000, .int .i64 (-100000), .int .i64 (m : Int)], .agg #[.int .i64 0, .bool n, .slice A l c, .int .i64 e], .agg #[.int .i64 0, .bool n, .slice A l c, .int .i64 e]] W fun E w' => TellF W w' E f nz E0 R cn) := by
  have x1 := val3 hX.wd hX.len hl
  have y1 := val3 hY.wd hY.len hr
  obtain ⟨f, E0, nz, R, q, hat, hf, hR, hE, hq⟩ := opMul hm hp (n := n) (o := n) (e := e) (d := e) (X := val X) (Y := val X) x1 x1 he he
  refine ⟨f, E0, nz, R, condN q, fun W hb => ?_, fun W hb => ?_⟩
  · exact (into2_c W (hG.bel hb) (k := 2) (F := 59) (by simp) p m q e d n o A B l c r s X Y (dec f nz E0 false R) (QAt W.heap.size (QFm f nz E0 R)) hm (by omega) hq (QAt.st (QFm.st _ _ _ _)) (fun w4 τ z h4 hz => QFm.told h4 hz hf hR hE h4.sz) (hX.below hb) (by omega) (by omega) (hY.below hb) (by omega) (by omega) hat).mono (fun E w' h => tellF (Nat.le_refl _) h)
  · refine didFMul_c W p 100000 (-100000) m e e f E0 n n nz A A l c l c R (condN q) (fun w1 hc => ?_)
    have hb1 := brise hb (cbelow hc)
    exact (implMulG_c w1 (hG.bel hb1) p m q 100000 (-100000) e e n n A A l c l c X X (dec f nz E0 false R) (QAt w1.heap.size (QFm f nz E0 R)) hm (by omega) (by omega) (by omega) hq (QAt.st (QFm.st _ _ _ _)) (fun w4 τ z h4 hz => QFm.told h4 hz hf hR hE h4.sz) (hX.below hb1) (by omega) (by omega) (hX.below hb1) (by omega) (by omega)
      (fun w1 σ c1 d1 x y hh hc hd hx hdx hy hxy hdy => hat _ _ _ _ _ _ _ _ _ _ _ hh hc hd hx hy (fun e => absurd e hxy))).mono (fun E w' h => tellF (Nat.le_refl _) h)
end Go.Proofs.YtcoljeafgiemkaaGreatDoor
namespace Go.Proofs.YtcoljeafgiemkaaGreatDoor
open Go Go.RowKit

theorem intoFQuo0 (w : World) (hG : Glob w) {p m : Nat} (hm : m < 8) (hp : 1 ≤ p ∧ p ≤ 60) {e d : Int} {n o : Bool} {A B : Option Addr} {l c r s : Nat} {X Y : List Nat} (hX : RdW w A l c X) (hY : RdW w B r s Y) (hl : l ≤ 3) (hr : r ≤ 3) (he : -100 ≤ e ∧ e ≤ 100) (hd : -100 ≤ d ∧ d ≤ 100) (hY0 : val Y ≠ 0) :
    ∃ (f E0 : Int) (nz : Bool) (R cn : Nat),
      (∀ W, Below w.heap.size w W → Calls Tryz.prog 29 #[.int .i64 3, .int .i64 0, .agg #[.int .u64 (p : Int), .int .i64 100000, .int .i64 (-100000), .int .i64 (m : Int)], .agg #[.int .i64 0, .bool n, .slice A l c, .int .i64 e], .agg #[.int .i64 0, .bool o, .slice B r s, .int .i64 d]] W fun E w' => TellF W w' E f nz E0 R cn) ∧
      (∀ W, Below w.heap.size w W → Calls Tryz.prog 30 #[.int .i64 3, .agg #[.int .u64 (p : Int), .int .i64 100000, .int .i64 (-100000), .int .i64 (m : Int)], .agg #[.int .i64 0, .bool n, .slice A l c, .int .i64 e], .agg #[.int .i64 0, .bool o, .slice B r s, .int .i64 d]] W fun E w' => TellF W w' E f nz E0 R cn) := by
  have x1 := val3 hX.wd hX.len hl
  have y1 := val3 hY.wd hY.len hr
  obtain ⟨f, E0, nz, R, q, hat, hf, hR, hE, hq⟩ := opQuo hm hp (n := n) (o := o) (e := e) (d := d) (X := val X) (Y := val Y) x1 y1 he hd hY0
  refine ⟨f, E0, nz, R, condN q, fun W hb => ?_, fun W hb => ?_⟩
  · exact (into0_c W (hG.bel hb) (k := 3) (F := 60) (by simp) p m q e d n o A B l c r s X Y (dec f nz E0 false R) (QAt W.heap.size (QFm f nz E0 R)) hm (by omega) hq (QAt.st (QFm.st _ _ _ _)) (fun w4 τ z h4 hz => QFm.told h4 hz hf hR hE h4.sz) (hX.below hb) (by omega) (by omega) (hY.below hb) (by omega) (by omega) hat).mono (fun E w' h => tellF (Nat.le_refl _) h)
  · refine didFQuo_c W p 100000 (-100000) m e d f E0 n o nz A B l c r s R (condN q) (fun w1 hc => ?_)
    have hb1 := brise hb (cbelow hc)
    exact (implQuoG_c w1 (hG.bel hb1) p m q 100000 (-100000) e d n o A B l c r s X Y (dec f nz E0 false R) (QAt w1.heap.size (QFm f nz E0 R)) hm (by omega) (by omega) (by omega) hq (QAt.st (QFm.st _ _ _ _)) (fun w4 τ z h4 hz => QFm.told h4 hz hf hR hE h4.sz) (hX.below hb1) (by omega) (by omega) (hY.below hb1) (by omega) (by omega)
      (fun w1 σ c1 d1 x y hh hc hd hx hdx hy hxy hdy => hat _ _ _ _ _ _ _ _ _ _ _ hh hc hd hx hy (fun e => absurd e hxy))).mono (fun E w' h => tellF (Nat.le_refl _) h)
theorem intoFQuo1 (w : World) (hG : Glob w) {p m : Nat} (hm : m < 8) (hp : 1 ≤ p ∧ p ≤ 60) {e d : Int} {n o : Bool} {A B : Option Addr} {l c r s : Nat} {X Y : List Nat} (hX : RdW w A l c X) (hY : RdW w B r s Y) (hl : l ≤ 3) (hr : r ≤ 3) (he : -100 ≤ e ∧ e ≤ 100) (hd : -100 ≤ d ∧ d ≤ 100) (hY0 : val Y ≠ 0) :
    ∃ (f E0 : Int) (nz : Bool) (R cn : Nat),
      (∀ W, Below w.heap.size w W → Calls Tryz.prog 29 #[.int .i64 3, .int .i64 1, .agg #[.int .u64 (p : Int), .int .i64 100000, .int .i64 (-100000), .int .i64 (m : Int)], .agg #[.int .i64 0, .bool n, .slice A l c, .int .i64 e], .agg #[.int .i64 0, .bool o, .slice B r s, .int .i64 d]] W fun E w' => TellF W w' E f nz E0 R cn) ∧
      (∀ W, Below w.heap.size w W → Calls Tryz.prog 30 #[.int .i64 3, .agg #[.int .u64 (p : Int), .int .i64 100000, .int .i64 (-100000), .int .i64 (m : Int)], .agg #[.int .i64 0, .bool n, .slice A l c, .int .i64 e], .agg #[.int .i64 0, .bool o, .slice B r s, .int .i64 d]] W fun E w' => TellF W w' E f nz E0 R cn) := by
  have x1 := val3 hX.wd hX.len hl
  have y1 := val3 hY.wd hY.len hr
  obtain ⟨f, E0, nz, R, q, hat, hf, hR, hE, hq⟩ := opQuo hm hp (n := n) (o := o) (e := e) (d := d) (X := val X) (Y := val Y) x1 y1 he hd hY0
  refine ⟨f, E0, nz, R, condN q, fun W hb => ?_, fun W hb => ?_⟩
  · exact (into1_c W (hG.bel hb) (k := 3) (F := 60) (by simp) p m q e d n o A B l c r s X Y (dec f nz E0 false R) (QAt W.heap.size (QFm f nz E0 R)) hm (by omega) hq (QAt.st (QFm.st _ _ _ _)) (fun w4 τ z h4 hz => QFm.told h4 hz hf hR hE h4.sz) (hX.below hb) (by omega) (by omega) (hY.below hb) (by omega) (by omega) hat).mono (fun E w' h => tellF (Nat.le_refl _) h)
  · refine didFQuo_c W p 100000 (-100000) m e d f E0 n o nz A B l c r s R (condN q) (fun w1 hc => ?_)
    have hb1 := brise hb (cbelow hc)
    exact (implQuoG_c w1 (hG.bel hb1) p m q 100000 (-100000) e d n o A B l c r s X Y (dec f nz E0 false R) (QAt w1.heap.size (QFm f nz E0 R)) hm (by omega) (by omega) (by omega) hq (QAt.st (QFm.st _ _ _ _)) (fun w4 τ z h4 hz => QFm.told h4 hz hf hR hE h4.sz) (hX.below hb1) (by omega) (by omega) (hY.below hb1) (by omega) (by omega)
      (fun w1 σ c1 d1 x y hh hc hd hx hdx hy hxy hdy => hat _ _ _ _ _ _ _ _ _ _ _ hh hc hd hx hy (fun e => absurd e hxy))).mono (fun E w' h => tellF (Nat.le_refl _) h)
theorem intoFQuo2 (w : World) (hG : Glob w) {p m : Nat} (hm : m < 8) (hp : 1 ≤ p ∧ p ≤ 60) {e d : Int} {n o : Bool} {A B : Option Addr} {l c r s : Nat} {X Y : List Nat} (hX : RdW w A l c X) (hY : RdW w B r s Y) (hl : l ≤ 3) (hr : r ≤ 3) (he : -100 ≤ e ∧ e ≤ 100) (hd : -100 ≤ d ∧ d ≤ 100) (hY0 : val X ≠ 0) :
    ∃ (f E0 : Int) (nz : Bool) (R cn : Nat),
      (∀ W, Below w.heap.size w W → Calls Tryz.prog 29 #[.int .i64 3, .int .i64 2, .agg #[.int .u64 (p : Int), .int .i64 100000, .int .i64 (-100000), .int .i64 (m : Int)], .agg #[.int .i64 0, .bool n, .slice A l c, .int .i64 e], .agg #[.int .i64 0, .bool o, .slice B r s, .int .i64 d]] W fun E w' => TellF W w' E f nz E0 R cn) ∧
      (∀ W, Below w.heap.size w W → Calls Tryz.prog 30 #[.int .i64 3, .agg #[.int .u64 (p : Int), .int .i64 100000, .int .i64 (-100000), .int .i64 (m : Int)], .agg #[.int .i64 0, .bool n, .slice A l c, .int .i64 e], .agg #[.int .i64 0, .bool n, .slice A l c, .int .i64 e]] W fun E w' => TellF W w' E f nz E0 R cn) := by
  have x1 := val3 hX.wd hX.len hl
  have y1 := val3 hY.wd hY.len hr
  obtain ⟨f, E0, nz, R, q, hat, hf, hR, hE, hq⟩ := opQuo hm hp (n := n) (o := n) (e := e) (d := e) (X := val X) (Y := val X) x1 x1 he he hY0
  refine ⟨f, E0, nz, R, condN q, fun W hb => ?_, fun W hb => ?_⟩
  · exact (into2_c W (hG.bel hb) (k := 3) (F := 60) (by simp) p m q e d n o A B l c r s X Y (dec f nz E0 false R) (QAt W.heap.size (QFm f nz E0 R)) hm (by omega) hq (QAt.st (QFm.st _ _ _ _)) (fun w4 τ z h4 hz => QFm.told h4 hz hf hR hE h4.sz) (hX.below hb) (by omega) (by omega) (hY.below hb) (by omega) (by omega) hat).mono (fun E w' h => tellF (Nat.le_refl _) h)
  · refine didFQuo_c W p 100000 (-100000) m e e f E0 n n nz A A l c l c R (condN q) (fun w1 hc => ?_)
    have hb1 := brise hb (cbelow hc)
    exact (implQuoG_c w1 (hG.bel hb1) p m q 100000 (-100000) e e n n A A l c l c X X (dec f nz E0 false R) (QAt w1.heap.size (QFm f nz E0 R)) hm (by omega) (by omega) (by omega) hq (QAt.st (QFm.st _ _ _ _)) (fun w4 τ z h4 hz => QFm.told h4 hz hf hR hE h4.sz) (hX.below hb1) (by omega) (by omega) (hX.below hb1) (by omega) (by omega)
      (fun w1 σ c1 d1 x y hh hc hd hx hdx hy hxy hdy => hat _ _ _ _ _ _ _ _ _ _ _ hh hc hd hx hy (fun e => absurd e hxy))).mono (fun E w' h => tellF (Nat.le_refl _) h)
end Go.Proofs.YtcoljeafgiemkaaGreatDoor
namespace Go.Proofs.YtcoljeafgiemkaaGreatDoor
open Go Go.RowKit

theorem intoFQuoInteger0 (w : World) (hG : Glob w) {p m : Nat} (hm : m < 8) (hp : 1 ≤ p ∧ p ≤ 60) {e d : Int} {n o : Bool} {A B : Option Addr} {l c r s : Nat} {X Y : List Nat} (hX : RdW w A l c X) (hY : RdW w B r s Y) (hl : l ≤ 3) (hr : r ≤ 3) (he : -100 ≤ e ∧ e ≤ 100) (hd : -100 ≤ d ∧ d ≤ 100) (hY0 : val Y ≠ 0) :
    ∃ (f E0 : Int) (nz : Bool) (R cn : Nat),
      (∀ W, Below w.heap.size w W → Calls Tryz.prog 29 #[.int .i64 4, .int .i64 0, .agg #[.int .u64 (p : Int), .int .i64 100000, .int .i64 (-100000), .int .i64 (m : Int)], .agg #[.int .i64 0, .bool n, .slice A l c, .int .i64 e], .agg #[.int .i64 0, .bool o, .slice B r s, .int .i64 d]] W fun E w' => TellF W w' E f nz E0 R cn) ∧
      (∀ W, Below w.heap.size w W → Calls Tryz.prog 30 #[.int .i64 4, .agg #[.int .u64 (p : Int), .int .i64 100000, .int .i64 (-100000), .int .i64 (m : Int)], .agg #[.int .i64 0, .bool n, .slice A l c, .int .i64 e], .agg #[.int .i64 0, .bool o, .slice B r s, .int .i64 d]] W fun E w' => TellF W w' E f nz E0 R cn) := by
  have x1 := val3 hX.wd hX.len hl
  have y1 := val3 hY.wd hY.len hr
  obtain ⟨f, E0, nz, R, q, hat, hf, hR, hE, hq⟩ := opQuoInt hm hp (n := n) (o := o) (e := e) (d := d) (X := val X) (Y := val Y) x1 y1 he hd hY0
  refine ⟨f, E0, nz, R, condN q, fun W hb => ?_, fun W hb => ?_⟩
  · exact (into0_c W (hG.bel hb) (k := 4) (F := 61) (by simp) p m q e d n o A B l c r s X Y (dec f nz E0 false R) (QAt W.heap.size (QFm f nz E0 R)) hm (by omega) hq (QAt.st (QFm.st _ _ _ _)) (fun w4 τ z h4 hz => QFm.told h4 hz hf hR hE h4.sz) (hX.below hb) (by omega) (by omega) (hY.below hb) (by omega) (by omega) hat).mono (fun E w' h => tellF (Nat.le_refl _) h)
  · refine didFQuoInteger_c W p 100000 (-100000) m e d f E0 n o nz A B l c r s R (condN q) (fun w1 hc => ?_)
    have hb1 := brise hb (cbelow hc)
    exact (implQuoIntegerG_c w1 (hG.bel hb1) p m q 100000 (-100000) e d n o A B l c r s X Y (dec f nz E0 false R) (QAt w1.heap.size (QFm f nz E0 R)) hm (by omega) (by omega) (by omega) hq (QAt.st (QFm.st _ _ _ _)) (fun w4 τ z h4 hz => QFm.told h4 hz hf hR hE h4.sz) (hX.below hb1) (by omega) (by omega) (hY.below hb1) (by omega) (by omega)
      (fun w1 σ c1 d1 x y hh hc hd hx hdx hy hxy hdy => hat _ _ _ _ _ _ _ _ _ _ _ hh hc hd hx hy (fun e => absurd e hxy))).mono (fun E w' h => tellF (Nat.le_refl _) h)
theorem intoFQuoInteger1 (w : World) (hG : Glob w) {p m : Nat} (hm : m < 8) (hp : 1 ≤ p ∧ p ≤ 60) {e d : Int} {n o : Bool} {A B : Option Addr} {l c r s : Nat} {X Y : List Nat} (hX : RdW w A l c X) (hY : RdW w B r s Y) (hl : l ≤ 3) (hr : r ≤ 3) (he : -100 ≤ e ∧ e ≤ 100) (hd : -100 ≤ d ∧ d ≤ 100) (hY0 : val Y ≠ 0) :
    ∃ (f E0 : Int) (nz : Bool) (R cn : Nat),
      (∀ W, Below w.heap.size w W → Calls Tryz.prog 29 #[.int .i64 4, .int .i64 1, .agg #[.int .u64 (p : Int), .int .i64 100000, .int .i64 (-100000), .int .i64 (m : Int)], .agg #[.int .i64 0, .bool n, .slice A l c, .int .i64 e], .agg #[.int .i64 0, .bool o, .slice B r s, .int .i64 d]] W fun E w' => TellF W w' E f nz E0 R cn) ∧
      (∀ W, Below w.heap.size w W → Calls Tryz.prog 30 #[.int .i64 4, .agg #[.int .u64 (p : Int), .int .i64 100000, .int .i64 (-100000), .int .i64 (m : Int)], .agg #[.int .i64 0, .bool n, .slice A l c, .int .i64 e], .agg #[.int .i64 0, .bool o, .slice B r s, .int .i64 d]] W fun E w' => TellF W w' E f nz E0 R cn) := by
  have x1 := val3 hX.wd hX.len hl
  have y1 := val3 hY.wd hY.len hr
  obtain ⟨f, E0, nz, R, q, hat, hf, hR, hE, hq⟩ := opQuoInt hm hp (n := n) (o := o) (e := e) (d := d) (X := val X) (Y := val Y) x1 y1 he hd hY0
  refine ⟨f, E0, nz, R, condN q, fun W hb => ?_, fun W hb => ?_⟩
  · exact (into1_c W (hG.bel hb) (k := 4) (F := 61) (by simp) p m q e d n o A B l c r s X Y (dec f nz E0 false R) (QAt W.heap.size (QFm f nz E0 R)) hm (by omega) hq (QAt.st (QFm.st _ _ _ _)) (fun w4 τ z h4 hz => QFm.told h4 hz hf hR hE h4.sz) (hX.below hb) (by omega) (by omega) (hY.below hb) (by omega) (by omega) hat).mono (fun E w' h => tellF (Nat.le_refl _) h)
  · refine didFQuoInteger_c W p 100000 (-100000) m e d f E0 n o nz A B l c r s R (condN q) (fun w1 hc => ?_)
    have hb1 := brise hb (cbelow hc)
    exact (implQuoIntegerG_c w1 (hG.bel hb1) p m q 100000 (-100000) e d n o A B l c r s X Y (dec f nz E0 false R) (QAt w1.heap.size (QFm f nz E0 R)) hm (by omega) (by omega) (by omega) hq (QAt.st (QFm.st _ _ _ _)) (fun w4 τ z h4 hz => QFm.told h4 hz hf hR hE h4.sz) (hX.below hb1) (by omega) (by omega) (hY.below hb1) (by omega) (by omega)
      (fun w1 σ c1 d1 x y hh hc hd hx hdx hy hxy hdy => hat _ _ _ _ _ _ _ _ _ _ _ hh hc hd hx hy (fun e => absurd e hxy))).mono (fun E w' h => tellF (Nat.le_refl _) h)
theorem intoFQuoInteger2 (w : World) (hG : Glob w) {p m : Nat} (hm : m < 8) (hp : 1 ≤ p ∧ p ≤ 60) {e d : Int} {n o : Bool} {A B : Option Addr} {l c r s : Nat} {X Y : List Nat} (hX : RdW w A l c X) (hY : RdW w B r s Y) (hl : l ≤ 3) (hr : r ≤ 3) (he : -100 ≤ e ∧ e ≤ 100) (hd : -100 ≤ d ∧ d ≤ 100) (hY0 : val X ≠ 0) :
    ∃ (f E0 : Int) (nz : Bool) (R cn : Nat),
      (∀ W, Below w.heap.size w W → Calls Tryz.prog 29 #[.int .i64 4, .int .i64 2, .agg #[.int .u64 (p : Int), .int .i64 100000, .int .i64 (-100000), .int .i64 (m : Int)], .agg #[.int .i64 0, .bool n, .slice A l c, .int .i64 e], .agg #[.int .i64 0, .bool o, .slice B r s, .int .i64 d]] W fun E w' => TellF W w' E f nz E0 R cn) ∧
      (∀ W, Below w.heap.size w W → Calls Tryz.prog 30 #[.int .i64 4, .agg #[.int .u64 (p : Int), .int .i64 100000, .int .i64 (-100000), .int .i64 (m : Int)], .agg #[.int .i64 0, .bool n, .slice A l c, .int .i64 e], .agg #[.int .i64 0, .bool n, .slice A l c, .int .i64 e]] W fun E w' => TellF W w' E f nz E0 R cn) := by
  have x1 := val3 hX.wd hX.len hl
  have y1 := val3 hY.wd hY.len hr
  obtain ⟨f, E0, nz, R, q, hat, hf, hR, hE, hq⟩ := opQuoInt hm hp (n := n) (o := n) (e := e) (d := e) (X := val X) (Y := val X) x1 x1 he he hY0
  refine ⟨f, E0, nz, R, condN q, fun W hb => ?_, fun W hb => ?_⟩
  · exact (into2_c W (hG.bel hb) (k := 4) (F := 61) (by simp) p m q e d n o A B l c r s X Y (dec f nz E0 false R) (QAt W.heap.size (QFm f nz E0 R)) hm (by omega) hq (QAt.st (QFm.st _ _ _ _)) (fun w4 τ z h4 hz => QFm.told h4 hz hf hR hE h4.sz) (hX.below hb) (by omega) (by omega) (hY.below hb) (by omega) (by omega) hat).mono (fun E w' h => tellF (Nat.le_refl _) h)
  · refine didFQuoInteger_c W p 100000 (-100000) m e e f E0 n n nz A A l c l c R (condN q) (fun w1 hc => ?_)
    have hb1 := brise hb (cbelow hc)
    exact (implQuoIntegerG_c w1 (hG.bel hb1) p m q 100000 (-100000) e e n n A A l c l c X X (dec f nz E0 false R) (QAt w1.heap.size (QFm f nz E0 R)) hm (by omega) (by omega) (by omega) hq (QAt.st (QFm.st _ _ _ _)) (fun w4 τ z h4 hz => QFm.told h4 hz hf hR hE h4.sz) (hX.below hb1) (by omega) (by omega) (hX.below hb1) (by omega) (by omega)
      (fun w1 σ c1 d1 x y hh hc hd hx hdx hy hxy hdy => hat _ _ _ _ _ _ _ _ _ _ _ hh hc hd hx hy (fun e => absurd e hxy))).mono (fun E w' h => tellF (Nat.le_refl _) h)
end Go.Proofs.YtcoljeafgiemkaaGreatDoor
namespace Go.Proofs.YtcoljeafgiemkaaGreatDoor
open Go Go.RowKit

theorem intoFRem0 (w : World) (hG : Glob w) {p m : Nat} (hm : m < 8) (hp : 1 ≤ p ∧ p ≤ 60) {e d : Int} {n o : Bool} {A B : Option Addr} {l c r s : Nat} {X Y : List Nat} (hX : RdW w A l c X) (hY : RdW w B r s Y) (hl : l ≤ 3) (hr : r ≤ 3) (he : -100 ≤ e ∧ e ≤ 100) (hd : -100 ≤ d ∧ d ≤ 100) (hY0 : val Y ≠ 0) :
    ∃ (f E0 : Int) (nz : Bool) (R cn : Nat),
      (∀ W, Below w.heap.size w W → Calls Tryz.prog 29 #[.int .i64 5, .int .i64 0, .agg #[.int .u64 (p : Int), .int .i64 100000, .int .i64 (-100000), .int .i64 (m : Int)], .agg #[.int .i64 0, .bool n, .slice A l c, .int .i64 e], .agg #[.int .i64 0, .bool o, .slice B r s, .int .i64 d]] W fun E w' => TellF W w' E f nz E0 R cn) ∧
      (∀ W, Below w.heap.size w W → Calls Tryz.prog 30 #[.int .i64 5, .agg #[.int .u64 (p : Int), .int .i64 100000, .int .i64 (-100000), .int .i64 (m : Int)], .agg #[.int .i64 0, .bool n, .slice A l c, .int .i64 e], .agg #[.int .i64 0, .bool o, .slice B r s, .int .i64 d]] W fun E w' => TellF W w' E f nz E0 R cn) := by
  have x1 := val3 hX.wd hX.len hl
  have y1 := val3 hY.wd hY.len hr
  obtain ⟨f, E0, nz, R, q, hat, hf, hR, hE, hq⟩ := opRem hm hp (n := n) (o := o) (e := e) (d := d) (X := val X) (Y := val Y) x1 y1 he hd hY0
  refine ⟨f, E0, nz, R, condN q, fun W hb => ?_, fun W hb => ?_⟩
  · exact (into0_c W (hG.bel hb) (k := 5) (F := 62) (by simp) p m q e d n o A B l c r s X Y (dec f nz E0 false R) (QAt W.heap.size (QFm f nz E0 R)) hm (by omega) hq (QAt.st (QFm.st _ _ _ _)) (fun w4 τ z h4 hz => QFm.told h4 hz hf hR hE h4.sz) (hX.below hb) (by omega) (by omega) (hY.below hb) (by omega) (by omega) hat).mono (fun E w' h => tellF (Nat.le_refl _) h)
  · refine didFRem_c W p 100000 (-100000) m e d f E0 n o nz A B l c r s R (condN q) (fun w1 hc => ?_)
    have hb1 := brise hb (cbelow hc)
    exact (implRemG_c w1 (hG.bel hb1) p m q 100000 (-100000) e d n o A B l c r s X Y (dec f nz E0 false R) (QAt w1.heap.size (QFm f nz E0 R)) hm (by omega) (by omega) (by omega) hq (QAt.st (QFm.st _ _ _ _)) (fun w4 τ z h4 hz => QFm.told h4 hz hf hR hE h4.sz) (hX.below hb1) (by omega) (by omega) (hY.below hb1) (by omega) (by omega)
      (fun w1 σ c1 d1 x y hh hc hd hx hdx hy hxy hdy => hat _ _ _ _ _ _ _ _ _ _ _ hh hc hd hx hy (fun e => absurd e hxy))).mono (fun E w' h => tellF (Nat.le_refl _) h)
theorem intoFRem1 (w : World) (hG : Glob w) {p m : Nat} (hm : m < 8) (hp : 1 ≤ p ∧ p ≤ 60) {e d : Int} {n o : Bool} {A B : Option Addr} {l c r s : Nat} {X Y : List Nat} (hX : RdW w A l c X) (hY : RdW w B r s Y) (hl : l ≤ 3) (hr : r ≤ 3) (he : -100 ≤ e ∧ e ≤ 100) (hd : -100 ≤ d ∧ d ≤ 100) (hY0 : val Y ≠ 0) :
    ∃ (f E0 : Int) (nz : Bool) (R cn : Nat),
      (∀ W, Below w.heap.size w W → Calls Tryz.prog 29 #[.int .i64 5, .int .i64 1, .agg #[.int .u64 (p : Int), .int .i64 100000, .int .i64 (-100000), .int .i64 (m : Int)], .agg #[.int .i64 0, .bool n, .slice A l c, .int .i64 e], .agg #[.int .i64 0, .bool o, .slice B r s, .int .i64 d]] W fun E w' => TellF W w' E f nz E0 R cn) ∧
      (∀ W, Below w.heap.size w W → Calls Tryz.prog 30 #[.int .i64 5, .agg #[.int .u64 (p : Int), .int .i64 100000, .int .i64 (-100000), .int .i64 (m : Int)], .agg #[.int .i64 0, .bool n, .slice A l c, .int .i64 e], .agg #[.int .i64 0, .bool o, .slice B r s, .int .i64 d]] W fun E w' => TellF W w' E f nz E0 R cn) := by
  have x1 := val3 hX.wd hX.len hl
  have y1 := val3 hY.wd hY.len hr
  obtain ⟨f, E0, nz, R, q, hat, hf, hR, hE, hq⟩ := opRem hm hp (n := n) (o := o) (e := e) (d := d) (X := val X) (Y := val Y) x1 y1 he hd hY0
  refine ⟨f, E0, nz, R, condN q, fun W hb => ?_, fun W hb => ?_⟩
  · exact (into1_c W (hG.bel hb) (k := 5) (F := 62) (by simp) p m q e d n o A B l c r s X Y (dec f nz E0 false R) (QAt W.heap.size (QFm f nz E0 R)) hm (by omega) hq (QAt.st (QFm.st _ _ _ _)) (fun w4 τ z h4 hz => QFm.told h4 hz hf hR hE h4.sz) (hX.below hb) (by omega) (by omega) (hY.below hb) (by omega) (by omega) hat).mono (fun E w' h => tellF (Nat.le_refl _) h)
  · refine didFRem_c W p 100000 (-100000) m e d f E0 n o nz A B l c r s R (condN q) (fun w1 hc => ?_)
    have hb1 := brise hb (cbelow hc)
    exact (implRemG_c w1 (hG.bel hb1) p m q 100000 (-100000) e d n o A B l c r s X Y (dec f nz E0 false R) (QAt w1.heap.size (QFm f nz E0 R)) hm (by omega) (by omega) (by omega) hq (QAt.st (QFm.st _ _ _ _)) (fun w4 τ z h4 hz => QFm.told h4 hz hf hR hE h4.sz) (hX.below hb1) (by omega) (by omega) (hY.below hb1) (by omega) (by omega)
      (fun w1 σ c1 d1 x y hh hc hd hx hdx hy hxy hdy => hat _ _ _ _ _ _ _ _ _ _ _ hh hc hd hx hy (fun e => absurd e hxy))).mono (fun E w' h => tellF (Nat.le_refl _) h)
theorem intoFRem2 (w : World) (hG : Glob w) {p m : Nat} (hm : m < 8) (hp : 1 ≤ p ∧ p ≤ 60) {e d : Int} {n o : Bool} {A B : Option Addr} {l c r s : Nat} {X Y : List Nat} (hX : RdW w A l c X) (hY : RdW w B r s Y) (hl : l ≤ 3) (hr : r ≤ 3) (he : -100 ≤ e ∧ e ≤ 100) (hd : -100 ≤ d ∧ d ≤ 100) (hY0 : val X ≠ 0) :
    ∃ (f E0 : Int) (nz : Bool) (R cn : Nat),
      (∀ W, Below w.heap.size w W → Calls Tryz.prog 29 #[.int .i64 5, .int .i64 2, .agg #[.int .u64 (p : Int), .int .i64 100000, .int .i64 (-100000), .int .i64 (m : Int)], .agg #[.int .i64 0, .bool n, .slice A l c, .int .i64 e], .agg #[.int .i64 0, .bool o, .slice B r s, .int .i64 d]] W fun E w' => TellF W w' E f nz E0 R cn) ∧
      (∀ W, Below w.heap.size w W → Calls Tryz.prog 30 #[.int .i64 5, .agg #[.int .u64 (p : Int), .int .i64 100000, .int .i64 (-100000), .int .i64 (m : Int)], .agg #[.int .i64 0, .bool n, .slice A l c, .int .i64 e], .agg #[.int .i64 0, .bool n, .slice A l c, .int .i64 e]] W fun E w' => TellF W w' E f nz E0 R cn) := by
  have x1 := val3 hX.wd hX.len hl
  have y1 := val3 hY.wd hY.len hr
  obtain ⟨f, E0, nz, R, q, hat, hf, hR, hE, hq⟩ := opRem hm hp (n := n) (o := n) (e := e) (d := e) (X := val X) (Y := val X) x1 x1 he he hY0
  refine ⟨f, E0, nz, R, condN q, fun W hb => ?_, fun W hb => ?_⟩
  · exact (into2_c W (hG.bel hb) (k := 5) (F := 62) (by simp) p m q e d n o A B l c r s X Y (dec f nz E0 false R) (QAt W.heap.size (QFm f nz E0 R)) hm (by omega) hq (QAt.st (QFm.st _ _ _ _)) (fun w4 τ z h4 hz => QFm.told h4 hz hf hR hE h4.sz) (hX.below hb) (by omega) (by omega) (hY.below hb) (by omega) (by omega) hat).mono (fun E w' h => tellF (Nat.le_refl _) h)
  · refine didFRem_c W p 100000 (-100000) m e e f E0 n n nz A A l c l c R (condN q) (fun w1 hc => ?_)
    have hb1 := brise hb (cbelow hc)
    exact (implRemG_c w1 (hG.bel hb1) p m q 100000 (-100000) e e n n A A l c l c X X (dec f nz E0 false R) (QAt w1.heap.size (QFm f nz E0 R)) hm (by omega) (by omega) (by omega) hq (QAt.st (QFm.st _ _ _ _)) (fun w4 τ z h4 hz => QFm.told h4 hz hf hR hE h4.sz) (hX.below hb1) (by omega) (by omega) (hX.below hb1) (by omega) (by omega)
      (fun w1 σ c1 d1 x y hh hc hd hx hdx hy hxy hdy => hat _ _ _ _ _ _ _ _ _ _ _ hh hc hd hx hy (fun e => absurd e hxy))).mono (fun E w' h => tellF (Nat.le_refl _) h)
end Go.Proofs.YtcoljeafgiemkaaGreatDoor
