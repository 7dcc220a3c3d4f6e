/- What is held in memory: decimals and numbers, each in places of its own. The reference's natural numbers: of a small number; a difference; the order. -/
import Derived.Test.YtonepclpllelfaaGreatDoorC14
import Derived.Test.YtonepclpllelfaaGreatDoorC16
namespace Go.Proofs.YtonepclpllelfaaGreatDoor
open Go Go.RowKit

/-- What a block holds: k 0 a decimal, 1 an apd.BigInt, 2 a big.Int, 3 a row of the table of digits, 4 what is only read. -/
structure It where
  k : Nat
  f : Int
  n : Bool
  e : Int
  g : Bool
  N : Nat
  g2 : Bool
  N2 : Nat
  o : Obj

def noObj : Obj := .cells #[] 0 (0, 0)
def dec (f : Int) (n : Bool) (e : Int) (g : Bool) (N : Nat) : It := ⟨0, f, n, e, g, N, false, 0, noObj⟩
def big (g : Bool) (N : Nat) : It := ⟨1, 0, false, 0, g, N, false, 0, noObj⟩
def int (g : Bool) (N : Nat) : It := ⟨2, 0, false, 0, g, N, false, 0, noObj⟩
def tv (d : Int) (g : Bool) (N : Nat) (g2 : Bool) (N2 : Nat) : It := ⟨3, d, false, 0, g, N, g2, N2, noObj⟩
def raw (o : Obj) : It := ⟨4, 0, false, 0, false, 0, false, 0, o⟩

/-- The number at a place of a block. -/
def It.num (it : It) (o : Nat) : Option (Bool × Nat) :=
  match it.k, o with
  | 0, 3 => some (it.g, it.N)
  | 1, 0 => some (it.g, it.N)
  | 2, 0 => some (it.g, it.N)
  | 3, 1 => some (it.g, it.N)
  | 3, 4 => some (it.g2, it.N2)
  | _, _ => none
def It.put (it : It) (o : Nat) (g : Bool) (N : Nat) : It :=
  match it.k, o with
  | 3, 4 => { it with g2 := g, N2 := N }
  | _, _ => { it with g := g, N := N }
def It.ty (it : It) : TypeId := match it.k with
  | 0 => 55
  | 1 => 53
  | 2 => 51
  | _ => 121
def It.cells (it : It) (v : Nat → Value) : Array Value := match it.k with
  | 0 => #[.int .i8 it.f, .bool it.n, .int .i32 it.e, .bool it.g, v 3, .bool false]
  | 1 => #[.bool it.g, v 0, .bool false]
  | 2 => #[.bool it.g, v 0]
  | _ => #[.int .i64 it.f, .bool it.g, v 1, .bool false, .bool it.g2, v 4, .bool false]
def It.holds (it : It) (w : World) (b : Nat) (s : Nat → Option Nat) : Prop :=
  (it.k < 4 ∧ ∃ v : Nat → Value, w.heap[b]? = some (.cells (it.cells v) it.ty (0, 0)) ∧ ∀ o g N, it.num o = some (g, N) → IsNat w (v o) N (s o)) ∨ (4 ≤ it.k ∧ w.heap[b]? = some it.o)

theorem It.num_cases {it : It} {o : Nat} {p : Bool × Nat} (h : it.num o = some p) :
    (it.k = 0 ∧ o = 3 ∧ p = (it.g, it.N)) ∨ (it.k = 1 ∧ o = 0 ∧ p = (it.g, it.N)) ∨ (it.k = 2 ∧ o = 0 ∧ p = (it.g, it.N)) ∨ (it.k = 3 ∧ o = 1 ∧ p = (it.g, it.N)) ∨ (it.k = 3 ∧ o = 4 ∧ p = (it.g2, it.N2)) := by
  unfold It.num at h
  split at h <;> simp_all
theorem It.put_k (it : It) (o : Nat) (g : Bool) (N : Nat) : (it.put o g N).k = it.k := by
  unfold It.put; split <;> rfl
theorem It.put_ty (it : It) (o : Nat) (g : Bool) (N : Nat) : (it.put o g N).ty = it.ty := by
  unfold It.ty; rw [It.put_k]
theorem It.num_put {it : It} {o : Nat} {p : Bool × Nat} (h : it.num o = some p) (g : Bool) (N : Nat) : (it.put o g N).num o = some (g, N) := by
  obtain ⟨k, f, n, e, g1, N1, g2, N2, ob⟩ := it
  rcases It.num_cases h with ⟨hk, rfl, _⟩ | ⟨hk, rfl, _⟩ | ⟨hk, rfl, _⟩ | ⟨hk, rfl, _⟩ | ⟨hk, rfl, _⟩ <;> (simp only at hk; subst hk; rfl)
theorem It.num_put_ne {it : It} {o o' : Nat} {p : Bool × Nat} (h : it.num o = some p) (g : Bool) (N : Nat) (hne : o' ≠ o) : (it.put o g N).num o' = it.num o' := by
  obtain ⟨k, f, n, e, g1, N1, g2, N2, ob⟩ := it
  rcases It.num_cases h with ⟨hk, rfl, _⟩ | ⟨hk, rfl, _⟩ | ⟨hk, rfl, _⟩ | ⟨hk, rfl, _⟩ | ⟨hk, rfl, _⟩ <;> (simp only at hk; subst hk; unfold It.put It.num; simp only; split <;> first | rfl | simp_all | omega)
theorem It.put_put {it : It} {o : Nat} {p : Bool × Nat} (h : it.num o = some p) (g g' : Bool) (N N' : Nat) : (it.put o g N).put o g' N' = it.put o g' N' := by
  obtain ⟨k, f, n, e, g1, N1, g2, N2, ob⟩ := it
  rcases It.num_cases h with ⟨hk, rfl, _⟩ | ⟨hk, rfl, _⟩ | ⟨hk, rfl, _⟩ | ⟨hk, rfl, _⟩ | ⟨hk, rfl, _⟩ <;> (simp only at hk; subst hk; rfl)
theorem It.put_self {it : It} {o : Nat} {g : Bool} {N : Nat} (h : it.num o = some (g, N)) : it.put o g N = it := by
  obtain ⟨k, f, n, e, g1, N1, g2, N2, ob⟩ := it
  rcases It.num_cases h with ⟨hk, rfl, hp⟩ | ⟨hk, rfl, hp⟩ | ⟨hk, rfl, hp⟩ | ⟨hk, rfl, hp⟩ | ⟨hk, rfl, hp⟩ <;> (simp only at hk; subst hk; cases hp; rfl)
theorem It.cells_at {it : It} {o : Nat} {g : Bool} {N : Nat} (h : it.num o = some (g, N)) (v : Nat → Value) : (it.cells v)[o]? = some (.bool g) ∧ (it.cells v)[o + 1]? = some (v o) ∧ (it.k = 2 ∨ (it.cells v)[o + 2]? = some (.bool false)) := by
  obtain ⟨k, f, n, e, g1, N1, g2, N2, ob⟩ := it
  rcases It.num_cases h with ⟨hk, rfl, hp⟩ | ⟨hk, rfl, hp⟩ | ⟨hk, rfl, hp⟩ | ⟨hk, rfl, hp⟩ | ⟨hk, rfl, hp⟩ <;> (simp only at hk; subst hk; cases hp; first | exact ⟨rfl, rfl, .inr rfl⟩ | exact ⟨rfl, rfl, .inl rfl⟩)
/-- A store of the words. -/
theorem It.cells_abs {it : It} {o : Nat} {g : Bool} {N : Nat} (h : it.num o = some (g, N)) (v : Nat → Value) (x : Value) (N' : Nat) : (it.cells v).setIfInBounds (o + 1) x = (it.put o g N').cells (fun k => if k = o then x else v k) := by
  obtain ⟨k, f, n, e, g1, N1, g2, N2, ob⟩ := it
  rcases It.num_cases h with ⟨hk, rfl, hp⟩ | ⟨hk, rfl, hp⟩ | ⟨hk, rfl, hp⟩ | ⟨hk, rfl, hp⟩ | ⟨hk, rfl, hp⟩ <;> (simp only at hk; subst hk; cases hp; rfl)
theorem It.cells_neg {it : It} {o : Nat} {g : Bool} {N : Nat} (h : it.num o = some (g, N)) (v : Nat → Value) (g' : Bool) : (it.cells v).setIfInBounds o (.bool g') = (it.put o g' N).cells v := by
  obtain ⟨k, f, n, e, g1, N1, g2, N2, ob⟩ := it
  rcases It.num_cases h with ⟨hk, rfl, hp⟩ | ⟨hk, rfl, hp⟩ | ⟨hk, rfl, hp⟩ | ⟨hk, rfl, hp⟩ | ⟨hk, rfl, hp⟩ <;> (simp only at hk; subst hk; cases hp; rfl)
theorem It.cells_minus {it : It} {o : Nat} {g : Bool} {N : Nat} (h : it.num o = some (g, N)) (hk : it.k ≠ 2) (v : Nat → Value) : (it.cells v).setIfInBounds (o + 2) (.bool false) = it.cells v := by
  obtain ⟨k, f, n, e, g1, N1, g2, N2, ob⟩ := it
  simp only at hk
  rcases It.num_cases h with ⟨hk, rfl, hp⟩ | ⟨hk, rfl, hp⟩ | ⟨hk, rfl, hp⟩ | ⟨hk, rfl, hp⟩ | ⟨hk, rfl, hp⟩ <;> (simp only at hk; subst hk; cases hp; first | rfl | omega)
theorem It.ty_ne (it : It) : it.ty ≠ 112 := by
  unfold It.ty; split <;> decide

abbrev Sg := Nat → Option It
def upd (σ : Sg) (b : Nat) (it : It) : Sg := fun k => if k = b then some it else σ k
theorem upd_eq (σ : Sg) (b : Nat) (it : It) : upd σ b it b = some it := by unfold upd; rw [if_pos rfl]
theorem upd_ne (σ : Sg) {b k : Nat} (it : It) (h : k ≠ b) : upd σ b it k = σ k := by unfold upd; rw [if_neg h]
theorem upd_upd (σ : Sg) (b : Nat) (it it' : It) : upd (upd σ b it) b it' = upd σ b it' := by
  funext k; unfold upd; split <;> rfl
theorem upd_self {σ : Sg} {b : Nat} {it : It} (h : σ b = some it) : upd σ b it = σ := by
  funext k; unfold upd; split
  · next e => rw [e, h]
  · rfl
theorem upd_swap (σ : Sg) {b c : Nat} (it jt : It) (h : b ≠ c) : upd (upd σ b it) c jt = upd (upd σ c jt) b it := by
  funext k; unfold upd; split
  · next e => rw [if_neg (by omega)]
  · rfl
/-- A number at a place. -/
def Num (σ : Sg) (b o : Nat) (g : Bool) (N : Nat) : Prop := ∃ it, σ b = some it ∧ it.num o = some (g, N)
def put (σ : Sg) (b o : Nat) (g : Bool) (N : Nat) : Sg := fun k => if k = b then (σ b).map (fun it => it.put o g N) else σ k
theorem put_upd {σ : Sg} {b : Nat} {it : It} (h : σ b = some it) (o : Nat) (g : Bool) (N : Nat) : put σ b o g N = upd σ b (it.put o g N) := by
  funext k; unfold put upd; split
  · rw [h]; rfl
  · rfl
theorem put_dec {σ : Sg} {b : Nat} {f e : Int} {n g : Bool} {N : Nat} (h : σ b = some (dec f n e g N)) (g' : Bool) (N' : Nat) : put σ b 3 g' N' = upd σ b (dec f n e g' N') := put_upd h 3 g' N'
theorem put_big {σ : Sg} {b : Nat} {g : Bool} {N : Nat} (h : σ b = some (big g N)) (g' : Bool) (N' : Nat) : put σ b 0 g' N' = upd σ b (big g' N') := put_upd h 0 g' N'
theorem put_int {σ : Sg} {b : Nat} {g : Bool} {N : Nat} (h : σ b = some (int g N)) (g' : Bool) (N' : Nat) : put σ b 0 g' N' = upd σ b (int g' N') := put_upd h 0 g' N'
theorem num_dec {σ : Sg} {b : Nat} {f e : Int} {n g : Bool} {N : Nat} (h : σ b = some (dec f n e g N)) : Num σ b 3 g N := ⟨_, h, rfl⟩
theorem num_big {σ : Sg} {b : Nat} {g : Bool} {N : Nat} (h : σ b = some (big g N)) : Num σ b 0 g N := ⟨_, h, rfl⟩
theorem num_int {σ : Sg} {b : Nat} {g : Bool} {N : Nat} (h : σ b = some (int g N)) : Num σ b 0 g N := ⟨_, h, rfl⟩
theorem Num.put {σ : Sg} {b o : Nat} {g : Bool} {N : Nat} (h : Num σ b o g N) (g' : Bool) (N' : Nat) : Num (put σ b o g' N') b o g' N' := by
  obtain ⟨it, h1, h2⟩ := h
  rw [put_upd h1]
  exact ⟨_, upd_eq _ _ _, It.num_put h2 _ _⟩
theorem Num.put_ne {σ : Sg} {b o c p : Nat} {g g1 : Bool} {N N1 : Nat} (h : Num σ b o g N) (hc : Num σ c p g1 N1) (hne : ¬ (b = c ∧ o = p)) (g' : Bool) (N' : Nat) : Num (Go.Proofs.YtonepclpllelfaaGreatDoor.put σ c p g' N') b o g N := by
  obtain ⟨it, h1, h2⟩ := h
  obtain ⟨jt, h3, h4⟩ := hc
  rw [put_upd h3]
  by_cases e : b = c
  · subst e
    rw [h1] at h3
    cases h3
    exact ⟨_, upd_eq _ _ _, by rw [It.num_put_ne h4 _ _ (fun e => hne ⟨rfl, e⟩)]; exact h2⟩
  · exact ⟨it, by rw [upd_ne _ _ e]; exact h1, h2⟩
theorem Num.uniq {σ : Sg} {b o : Nat} {g g' : Bool} {N N' : Nat} (h : Num σ b o g N) (h' : Num σ b o g' N') : g = g' ∧ N = N' := by
  obtain ⟨it, h1, h2⟩ := h
  obtain ⟨jt, h3, h4⟩ := h'
  rw [h1] at h3; cases h3
  rw [h2] at h4; cases h4
  exact ⟨rfl, rfl⟩
/-- Signs stay where words are stored. -/
theorem Num.sign {σ : Sg} {b o c p : Nat} {g g1 : Bool} {N N1 : Nat} (h : Num σ b o g N) (hc : Num σ c p g1 N1) (N' : Nat) : ∃ N2, Num (Go.Proofs.YtonepclpllelfaaGreatDoor.put σ c p g1 N') b o g N2 := by
  by_cases e : b = c ∧ o = p
  · obtain ⟨rfl, rfl⟩ := e
    obtain ⟨rfl, rfl⟩ := h.uniq hc
    exact ⟨_, h.put _ _⟩
  · exact ⟨N, h.put_ne hc e _ _⟩
theorem put_put {σ : Sg} {b o : Nat} {g : Bool} {N : Nat} (h : Num σ b o g N) (g1 g2 : Bool) (N1 N2 : Nat) : put (put σ b o g1 N1) b o g2 N2 = put σ b o g2 N2 := by
  obtain ⟨it, h1, h2⟩ := h
  rw [put_upd h1, put_upd (upd_eq _ _ _), upd_upd, It.put_put h2, put_upd h1]
theorem put_self {σ : Sg} {b o : Nat} {g : Bool} {N : Nat} (h : Num σ b o g N) : put σ b o g N = σ := by
  obtain ⟨it, h1, h2⟩ := h
  rw [put_upd h1, It.put_self h2, upd_self h1]

/-- Memory since w0 holds σ; the words of each number lie in a block of their own. -/
structure HoldS (w0 w : World) (σ : Sg) (st : Nat → Nat → Option Nat) : Prop where
  chg : Chg w0 w (fun _ => False)
  glob : Glob w0
  it : ∀ b it, σ b = some it → w0.heap.size ≤ b ∧ it.holds w b (st b)
  sto : ∀ b o g N k, Num σ b o g N → st b o = some k → w0.heap.size ≤ k ∧ σ k = none
  inj : ∀ b o g N b' o' g' N' k, Num σ b o g N → Num σ b' o' g' N' → st b o = some k → st b' o' = some k → b = b' ∧ o = o'
def Hold (w0 w : World) (σ : Sg) : Prop := ∃ st, HoldS w0 w σ st

theorem It.holds.lt {it : It} {w : World} {b : Nat} {s : Nat → Option Nat} (h : it.holds w b s) : b < w.heap.size := by
  rcases h with ⟨_, v, h, _⟩ | ⟨_, h⟩ <;> exact ltB h
theorem It.num_lt {it : It} {o : Nat} {p : Bool × Nat} (h : it.num o = some p) : it.k < 4 := by
  rcases It.num_cases h with h | h | h | h | h <;> omega
theorem It.holds.num {it : It} {w : World} {b o : Nat} {g : Bool} {N : Nat} {s : Nat → Option Nat} (h : it.holds w b s) (hn : it.num o = some (g, N)) : ∃ v : Nat → Value, w.heap[b]? = some (.cells (it.cells v) it.ty (0, 0)) ∧ (∀ o g N, it.num o = some (g, N) → IsNat w (v o) N (s o)) := by
  have := It.num_lt hn
  rcases h with ⟨_, v, h⟩ | ⟨h, _⟩
  · exact ⟨v, h⟩
  · omega
theorem It.holds.chg {it : It} {w w' : World} {b : Nat} {s : Nat → Option Nat} {S : Nat → Prop} (h : it.holds w b s) (hc : Chg w w' S) (hb : ¬ S b) (hs : ∀ o g N k, it.num o = some (g, N) → s o = some k → ¬ S k) : it.holds w' b s := by
  rcases h with ⟨h1, v, h2, h3⟩ | ⟨h1, h2⟩
  · exact .inl ⟨h1, v, hc.heapB h2 hb, fun o g N ho => (h3 o g N ho).chg hc (fun k hk => hs o g N k ho hk)⟩
  · exact .inr ⟨h1, hc.heapB h2 hb⟩
theorem HoldS.lt {w0 w : World} {σ : Sg} {st : Nat → Nat → Option Nat} (h : HoldS w0 w σ st) {b : Nat} {it : It} (hb : σ b = some it) : b < w.heap.size := (h.it b it hb).2.lt
theorem HoldS.stlt {w0 w : World} {σ : Sg} {st : Nat → Nat → Option Nat} (h : HoldS w0 w σ st) {b o k : Nat} {g : Bool} {N : Nat} (hn : Num σ b o g N) (hk : st b o = some k) : k < w.heap.size := by
  obtain ⟨it, h1, h2⟩ := hn
  obtain ⟨v, _, hv⟩ := (h.it b it h1).2.num h2
  have := hv o g N h2
  rw [hk] at this
  exact this.lt

/-- What a place holds turns, and nothing else. -/
theorem HoldS.turn {w0 w w' : World} {σ : Sg} {st : Nat → Nat → Option Nat} (h : HoldS w0 w σ st) {b o : Nat} {g g' : Bool} {N N' : Nat} {s' : Option Nat} {it : It} (hb : σ b = some it) (hn : it.num o = some (g, N))
    (hc : Chg w w' (fun k => k = b ∨ some k = st b o)) (hh : ∃ v : Nat → Value, w'.heap[b]? = some (.cells ((it.put o g' N').cells v) it.ty (0, 0)) ∧ IsNat w' (v o) N' s' ∧ ∀ o1 g1 N1, o1 ≠ o → it.num o1 = some (g1, N1) → IsNat w' (v o1) N1 (st b o1))
    (hs : s' = st b o ∨ s' = none ∨ ∃ k, s' = some k ∧ w.heap.size ≤ k) : Hold w0 w' (put σ b o g' N') := by
  have hN : Num σ b o g N := ⟨it, hb, hn⟩
  have hlt := h.lt hb
  have hcs := h.chg.size
  refine ⟨fun c p => if c = b ∧ p = o then s' else st c p, ?_⟩
  -- a number of the new state
  have old : ∀ c p g1 N1, Num (put σ b o g' N') c p g1 N1 → ¬ (c = b ∧ p = o) → Num σ c p g1 N1 := by
    rintro c p g1 N1 ⟨jt, hj, hjn⟩ hne
    rw [put_upd hb] at hj
    by_cases e : c = b
    · subst e
      rw [upd_eq] at hj
      cases hj
      rw [It.num_put_ne hn _ _ (fun e => hne ⟨rfl, e⟩)] at hjn
      exact ⟨it, hb, hjn⟩
    · rw [upd_ne _ _ e] at hj
      exact ⟨jt, hj, hjn⟩
  have none_of : ∀ k, σ k = none → put σ b o g' N' k = none := by
    intro k hk
    rw [put_upd hb, upd_ne _ _ (by rintro rfl; rw [hb] at hk; cases hk)]
    exact hk
  have fresh : ∀ k, w.heap.size ≤ k → σ k = none := by
    intro k hk
    cases hj : σ k with
    | none => rfl
    | some jt => have := h.lt hj; omega
  refine ⟨h.chg.trans (hc.mono (fun k hk hS => .inr ?_)), h.glob, ?_, ?_, ?_⟩
  · rcases hS with rfl | hS
    · exact (h.it _ _ hb).1
    · exact (h.sto b o g N k hN hS.symm).1
  · intro c jt hj
    rw [put_upd hb] at hj
    by_cases e : c = b
    · subst e
      rw [upd_eq] at hj
      cases hj
      refine ⟨(h.it _ _ hb).1, .inl ⟨by rw [It.put_k]; exact It.num_lt hn, ?_⟩⟩
      obtain ⟨v, h1, h2, h3⟩ := hh
      refine ⟨v, by rw [It.put_ty]; exact h1, fun o1 g1 N1 ho1 => ?_⟩
      by_cases e1 : o1 = o
      · subst e1
        rw [It.num_put hn] at ho1
        cases ho1
        simp only [and_self, if_true]
        exact h2
      · rw [It.num_put_ne hn _ _ e1] at ho1
        simp only [e1, and_false, if_false]
        exact h3 o1 g1 N1 e1 ho1
    · rw [upd_ne _ _ e] at hj
      have hcd : (fun p => if c = b ∧ p = o then s' else st c p) = st c := by funext p; rw [if_neg (fun h => e h.1)]
      rw [hcd]
      refine ⟨(h.it _ _ hj).1, (h.it _ _ hj).2.chg hc ?_ ?_⟩
      · rintro (h1 | h1)
        · exact e h1
        · have := (h.sto b o g N c hN h1.symm).2
          rw [hj] at this; cases this
      · rintro p g1 N1 k hp hk (h1 | h1)
        · subst h1
          have := (h.sto c p g1 N1 k ⟨jt, hj, hp⟩ hk).2
          rw [hb] at this; cases this
        · exact e (h.inj c p g1 N1 b o g N k ⟨jt, hj, hp⟩ hN hk h1.symm).1
  · intro c p g1 N1 k hcn hk
    by_cases e : c = b ∧ p = o
    · rw [if_pos e] at hk
      rcases hs with h1 | h1 | ⟨k2, h1, h2⟩
      · rw [h1] at hk
        exact ⟨(h.sto b o g N k hN hk).1, none_of k (h.sto b o g N k hN hk).2⟩
      · rw [h1] at hk; cases hk
      · rw [h1] at hk; cases hk
        exact ⟨by omega, none_of _ (fresh _ h2)⟩
    · rw [if_neg e] at hk
      have h1 := h.sto c p g1 N1 k (old c p g1 N1 hcn e) hk
      exact ⟨h1.1, none_of k h1.2⟩
  · intro c p g1 N1 c' p' g2 N2 k h1 h2 hk hk'
    by_cases e : c = b ∧ p = o
    · by_cases e' : c' = b ∧ p' = o
      · exact ⟨e.1.trans e'.1.symm, e.2.trans e'.2.symm⟩
      · rw [if_pos e] at hk
        rw [if_neg e'] at hk'
        have h3 := old c' p' g2 N2 h2 e'
        rcases hs with h4 | h4 | ⟨k2, h4, h5⟩
        · rw [h4] at hk
          have := h.inj b o g N c' p' g2 N2 k hN h3 hk hk'
          exact absurd ⟨this.1.symm, this.2.symm⟩ e'
        · rw [h4] at hk; cases hk
        · rw [h4] at hk; cases hk
          have := h.stlt h3 hk'
          omega
    · rw [if_neg e] at hk
      have h3 := old c p g1 N1 h1 e
      by_cases e' : c' = b ∧ p' = o
      · rw [if_pos e'] at hk'
        rcases hs with h4 | h4 | ⟨k2, h4, h5⟩
        · rw [h4] at hk'
          have := h.inj c p g1 N1 b o g N k h3 hN hk hk'
          exact absurd this e
        · rw [h4] at hk'; cases hk'
        · rw [h4] at hk'; cases hk'
          have := h.stlt h3 hk
          omega
      · rw [if_neg e'] at hk'
        exact h.inj c p g1 N1 c' p' g2 N2 k h3 (old c' p' g2 N2 h2 e') hk hk'

theorem Hold.keep {w0 w w' : World} {σ : Sg} (h : Hold w0 w σ) (hc : Chg w w' (fun _ => False)) : Hold w0 w' σ := by
  obtain ⟨st, h⟩ := h
  exact ⟨st, h.chg.trans (hc.mono (fun _ _ h => h.elim)), h.glob, fun b it hb => ⟨(h.it b it hb).1, (h.it b it hb).2.chg hc (fun h => h) (fun _ _ _ _ _ _ h => h)⟩, h.sto, h.inj⟩
theorem Hold.drew {w0 w : World} {σ : Sg} (h : Hold w0 w σ) : Hold w0 w.drew σ := h.keep (Chg.refl w _).drew
theorem Hold.drewN {w0 w : World} {σ : Sg} (h : Hold w0 w σ) (n : Nat) : Hold w0 (w.drewN n) σ := h.keep ((Chg.refl w _).drewN n)
theorem Hold.start {w : World} (hG : Glob w) : Hold w w (fun _ => none) :=
  ⟨fun _ _ => none, Chg.refl w _, hG, fun _ _ h => (by cases h), (fun _ _ _ _ _ ⟨_, h, _⟩ => by cases h), (fun _ _ _ _ _ _ _ _ _ ⟨_, h, _⟩ => by cases h)⟩
theorem Hold.sub {w0 w : World} {σ τ : Sg} (h : Hold w0 w σ) (hs : ∀ b it, τ b = some it → σ b = some it) : Hold w0 w τ := by
  obtain ⟨st, h⟩ := h
  have hn : ∀ b o g N, Num τ b o g N → Num σ b o g N := fun b o g N ⟨it, h1, h2⟩ => ⟨it, hs b it h1, h2⟩
  refine ⟨st, h.chg, h.glob, fun b it hb => h.it b it (hs b it hb), fun b o g N k hb hk => ?_, fun b o g N b' o' g' N' k h1 h2 => h.inj b o g N b' o' g' N' k (hn _ _ _ _ h1) (hn _ _ _ _ h2)⟩
  have h1 := h.sto b o g N k (hn _ _ _ _ hb) hk
  refine ⟨h1.1, ?_⟩
  cases hk2 : τ k with
  | none => rfl
  | some jt => rw [hs k jt hk2] at h1; cases h1.2
theorem Hold.chg {w0 w : World} {σ : Sg} (h : Hold w0 w σ) : Chg w0 w (fun _ => False) := by
  obtain ⟨st, h⟩ := h; exact h.chg
theorem Hold.glob {w0 w : World} {σ : Sg} (h : Hold w0 w σ) : Glob w := by
  obtain ⟨st, h⟩ := h; exact h.glob.chg h.chg (fun _ _ h => h)
theorem Hold.lt {w0 w : World} {σ : Sg} (h : Hold w0 w σ) {b : Nat} {it : It} (hb : σ b = some it) : w0.heap.size ≤ b ∧ b < w.heap.size := by
  obtain ⟨st, h⟩ := h; exact ⟨(h.it b it hb).1, h.lt hb⟩
theorem Hold.fresh {w0 w : World} {σ : Sg} (h : Hold w0 w σ) {k : Nat} (hk : w.heap.size ≤ k) : σ k = none := by
  cases hj : σ k with
  | none => rfl
  | some jt => have := (h.lt hj).2; omega
/-- A new block comes in. -/
theorem Hold.add {w0 w w' : World} {σ : Sg} (h : Hold w0 w σ) (hc : Chg w w' (fun _ => False)) {k : Nat} {it : It} {s : Nat → Option Nat} (hk : w.heap.size ≤ k) (hh : it.holds w' k s)
    (hs : ∀ o g N b, it.num o = some (g, N) → s o = some b → w.heap.size ≤ b ∧ b ≠ k) (hi : ∀ o g N o' g' N' b, it.num o = some (g, N) → it.num o' = some (g', N') → s o = some b → s o' = some b → o = o') : Hold w0 w' (upd σ k it) := by
  have hf := h.fresh hk
  have hfr := fun b hb => h.fresh (k := b) hb
  obtain ⟨st, h⟩ := h
  have hcs := h.chg.size
  refine ⟨fun c p => if c = k then s p else st c p, h.chg.trans (hc.mono (fun _ _ h => h.elim)), h.glob, ?_, ?_, ?_⟩
  · intro b jt hb
    by_cases e : b = k
    · subst e
      rw [upd_eq] at hb; cases hb
      refine ⟨by omega, ?_⟩
      rw [show (fun p => if b = b then s p else st b p) = s by funext p; rw [if_pos rfl]]
      exact hh
    · rw [upd_ne _ _ e] at hb
      rw [show (fun p => if b = k then s p else st b p) = st b by funext p; rw [if_neg e]]
      exact ⟨(h.it b jt hb).1, (h.it b jt hb).2.chg hc (fun h => h) (fun _ _ _ _ _ _ h => h)⟩
  · rintro b o g N c ⟨jt, hb, hn⟩ hst
    by_cases e : b = k
    · subst e
      rw [upd_eq] at hb; cases hb
      rw [if_pos rfl] at hst
      have h1 := hs o g N c hn hst
      exact ⟨by omega, by rw [upd_ne _ _ h1.2]; exact hfr c h1.1⟩
    · rw [upd_ne _ _ e] at hb
      rw [if_neg e] at hst
      have h1 := h.sto b o g N c ⟨jt, hb, hn⟩ hst
      have h2 := h.stlt ⟨jt, hb, hn⟩ hst
      exact ⟨h1.1, by rw [upd_ne _ _ (by omega)]; exact h1.2⟩
  · rintro b o g N b' o' g' N' c ⟨jt, hb, hn⟩ ⟨jt', hb', hn'⟩ hst hst'
    by_cases e : b = k
    · subst e
      rw [upd_eq] at hb; cases hb
      rw [if_pos rfl] at hst
      have h1 := hs o g N c hn hst
      by_cases e' : b' = b
      · subst e'
        rw [upd_eq] at hb'; cases hb'
        rw [if_pos rfl] at hst'
        exact ⟨rfl, hi _ _ _ _ _ _ _ hn hn' hst hst'⟩
      · rw [upd_ne _ _ e'] at hb'
        rw [if_neg e'] at hst'
        have := h.stlt ⟨jt', hb', hn'⟩ hst'
        omega
    · rw [upd_ne _ _ e] at hb
      rw [if_neg e] at hst
      by_cases e' : b' = k
      · subst e'
        rw [upd_eq] at hb'; cases hb'
        rw [if_pos rfl] at hst'
        have h1 := hs o' g' N' c hn' hst'
        have := h.stlt ⟨jt, hb, hn⟩ hst
        omega
      · rw [upd_ne _ _ e'] at hb'
        rw [if_neg e'] at hst'
        exact h.inj b o g N b' o' g' N' c ⟨jt, hb, hn⟩ ⟨jt', hb', hn'⟩ hst hst'

/-- A place laid open: its cells, its words, and what a new number there makes of it. -/
theorem Hold.opened {w0 w : World} {σ : Sg} (h : Hold w0 w σ) {b o : Nat} {g : Bool} {N : Nat} (hn : Num σ b o g N) :
    ∃ v s cs T, w.heap[b]? = some (.cells cs T (0, 0)) ∧ T ≠ 112 ∧ cs[o]? = some (.bool g) ∧ cs[o + 1]? = some v ∧ IsNat w v N s ∧ (∀ k, s = some k → k ≠ b ∧ w0.heap.size ≤ k ∧ ∀ c it, σ c = some it → k ≠ c) ∧
      (∀ w' v' N' s', Chg w w' (fun k => some k = s) → IsNat w' v' N' s' → (s' = s ∨ s' = none ∨ ∃ k, s' = some k ∧ w.heap.size ≤ k) → Hold w0 (w'.setCell ⟨b, o + 1, none⟩ v') (put σ b o g N')) ∧
      (∀ g', Hold w0 (w.setCell ⟨b, o, none⟩ (.bool g')) (put σ b o g' N)) := by
  obtain ⟨st, h⟩ := h
  have hN := hn
  obtain ⟨it, hb, hio⟩ := hn
  obtain ⟨v, h1, h2⟩ := (h.it b it hb).2.num hio
  obtain ⟨c1, c2, _⟩ := It.cells_at hio v
  have hsb : ∀ k, st b o = some k → k ≠ b ∧ w0.heap.size ≤ k ∧ ∀ c it, σ c = some it → k ≠ c := by
    intro k hk
    have hno := (h.sto b o g N k hN hk)
    exact ⟨(by rintro rfl; rw [hb] at hno; cases hno.2), hno.1, (by rintro c it hc rfl; rw [hc] at hno; cases hno.2)⟩
  have hsep : ∀ o1 g1 N1, o1 ≠ o → it.num o1 = some (g1, N1) → ∀ k, st b o1 = some k → k ≠ b ∧ some k ≠ st b o := by
    intro o1 g1 N1 hne hno k hk
    refine ⟨?_, ?_⟩
    · rintro rfl
      have := (h.sto _ o1 g1 N1 _ ⟨it, hb, hno⟩ hk).2
      rw [hb] at this; cases this
    · intro e
      exact hne (h.inj b o1 g1 N1 b o g N k ⟨it, hb, hno⟩ hN hk e.symm).2
  refine ⟨v o, st b o, _, _, h1, It.ty_ne it, c1, c2, h2 o g N hio, hsb, ?_, ?_⟩
  · intro w' v' N' s' hc hv' hs'
    have hbk : w'.heap[b]? = some (.cells (it.cells v) it.ty (0, 0)) := hc.heapB h1 (fun e => (hsb b e.symm).1 rfl)
    have hbs : s' ≠ some b := by
      intro e
      rcases hs' with h3 | h3 | ⟨k, h3, h4⟩
      · exact (hsb b (h3 ▸ e)).1 rfl
      · rw [h3] at e; cases e
      · rw [h3] at e; cases e; have := ltB h1; omega
    refine h.turn hb hio ((hc.mono (fun _ _ h => .inr h)).trans ((chg_setB w' b (o + 1) v').mono (fun _ _ h => .inl (.inl h)))) ⟨fun k => if k = o then v' else v k, ?_, ?_, ?_⟩ hs'
    · rw [← It.cells_abs hio v v' N']
      exact setB hbk
    · simp only [if_true]
      exact hv'.setCell b (o + 1) v' hbs
    · intro o1 g1 N1 hne hno
      simp only [if_neg hne]
      refine ((h2 o1 g1 N1 hno).chg hc (fun k hk e => (hsep o1 g1 N1 hne hno k hk).2 e)).setCell b (o + 1) v' (fun e => (hsep o1 g1 N1 hne hno b e).1 rfl)
  · intro g'
    refine h.turn (s' := st b o) hb hio ((chg_setB w b o (.bool g')).mono (fun _ _ h => .inl h)) ⟨v, ?_, ?_, ?_⟩ (.inl rfl)
    · rw [← It.cells_neg hio v g']
      exact setB h1
    · exact (h2 o g N hio).setCell b o _ (fun e => (hsb b e).1 rfl)
    · intro o1 g1 N1 hne hno
      exact (h2 o1 g1 N1 hno).setCell b o _ (fun e => (hsep o1 g1 N1 hne hno b e).1 rfl)

/-- A write that leaves a block's cells as they are. -/
theorem Hold.same {w0 w : World} {σ : Sg} (h : Hold w0 w σ) {b i : Nat} {v : Value} {cs : Array Value} {T : TypeId} (hb : w.heap[b]? = some (.cells cs T (0, 0))) (hv : cs.setIfInBounds i v = cs) : Hold w0 (w.setCell ⟨b, i, none⟩ v) σ := by
  have hc : Chg w (w.setCell ⟨b, i, none⟩ v) (fun _ => False) := by
    refine ⟨rfl, rfl, rfl, by rw [World.size_setCell]; exact Nat.le_refl _, fun k _ _ => ?_⟩
    by_cases e : k = b
    · subst e
      rw [hb, setB hb, hv]
    · exact Below.heap_setCell _ _ _ _ e
  exact h.keep hc
theorem Hold.minus {w0 w : World} {σ : Sg} (h : Hold w0 w σ) {b o : Nat} {it : It} {g : Bool} {N : Nat} (hb : σ b = some it) (hn : it.num o = some (g, N)) (hk : it.k ≠ 2) : w.frozen? ⟨b, o + 2, none⟩ = false ∧ w.cell? ⟨b, o + 2, none⟩ = some (.bool false) ∧ Hold w0 (w.setCell ⟨b, o + 2, none⟩ (.bool false)) σ := by
  have h' := h
  obtain ⟨st, h⟩ := h
  obtain ⟨v, h1, _⟩ := (h.it b it hb).2.num hn
  obtain ⟨_, _, h3⟩ := It.cells_at hn v
  rcases h3 with h3 | h3
  · exact absurd h3 hk
  · exact ⟨frozenB h1 _, cellB h1 h3, h'.same h1 (It.cells_minus hn hk v)⟩
/-- A decimal laid open. -/
theorem Hold.decAt {w0 w : World} {σ : Sg} (h : Hold w0 w σ) {b : Nat} {f e : Int} {n g : Bool} {N : Nat} (hb : σ b = some (dec f n e g N)) :
    ∃ v s, w.heap[b]? = some (.cells #[.int .i8 f, .bool n, .int .i32 e, .bool g, v, .bool false] 55 (0, 0)) ∧ IsNat w v N s := by
  obtain ⟨st, h⟩ := h
  obtain ⟨v, h1, h2⟩ := (h.it b _ hb).2.num (o := 3) (g := g) (N := N) rfl
  exact ⟨v 3, st b 3, h1, h2 3 g N rfl⟩
theorem Hold.c0 {w0 w : World} {σ : Sg} (h : Hold w0 w σ) {b : Nat} {f e : Int} {n g : Bool} {N : Nat} (hb : σ b = some (dec f n e g N)) : w.cell? ⟨b, 0, none⟩ = some (.int .i8 f) := by obtain ⟨v, s, h1, _⟩ := h.decAt hb; exact cellB h1 rfl
theorem Hold.c1 {w0 w : World} {σ : Sg} (h : Hold w0 w σ) {b : Nat} {f e : Int} {n g : Bool} {N : Nat} (hb : σ b = some (dec f n e g N)) : w.cell? ⟨b, 1, none⟩ = some (.bool n) := by obtain ⟨v, s, h1, _⟩ := h.decAt hb; exact cellB h1 rfl
theorem Hold.c2 {w0 w : World} {σ : Sg} (h : Hold w0 w σ) {b : Nat} {f e : Int} {n g : Bool} {N : Nat} (hb : σ b = some (dec f n e g N)) : w.cell? ⟨b, 2, none⟩ = some (.int .i32 e) := by obtain ⟨v, s, h1, _⟩ := h.decAt hb; exact cellB h1 rfl
theorem Hold.fz {w0 w : World} {σ : Sg} (h : Hold w0 w σ) {b : Nat} {f e : Int} {n g : Bool} {N : Nat} (hb : σ b = some (dec f n e g N)) (i : Nat) : w.frozen? ⟨b, i, none⟩ = false := by obtain ⟨v, s, h1, _⟩ := h.decAt hb; exact frozenB h1 i
theorem Hold.raw {w0 w : World} {σ : Sg} (h : Hold w0 w σ) {b : Nat} {o : Obj} (hb : σ b = some (raw o)) : w.heap[b]? = some o := by
  obtain ⟨st, h⟩ := h
  rcases (h.it b _ hb).2 with ⟨h1, _⟩ | ⟨_, h1⟩
  · exact absurd h1 (Nat.not_lt.2 (Nat.le_refl 4))
  · exact h1
/-- A field of a decimal is stored. -/
theorem Hold.setDec {w0 w : World} {σ : Sg} (h : Hold w0 w σ) {b i : Nat} {f e f' e' : Int} {n n' g : Bool} {N : Nat} {x : Value} (hb : σ b = some (dec f n e g N))
    (hx : ∀ v, (#[.int .i8 f, .bool n, .int .i32 e, .bool g, v, .bool false] : Array Value).setIfInBounds i x = #[.int .i8 f', .bool n', .int .i32 e', .bool g, v, .bool false]) : Hold w0 (w.setCell ⟨b, i, none⟩ x) (upd σ b (dec f' n' e' g N)) := by
  obtain ⟨st, h⟩ := h
  have hn : Num σ b 3 g N := num_dec hb
  obtain ⟨v, h1, h2⟩ := (h.it b _ hb).2.num (o := 3) (g := g) (N := N) rfl
  have hsz : (w.setCell ⟨b, i, none⟩ x).heap.size = w.heap.size := World.size_setCell _ _ _
  have hc := chg_setB w b i x
  have old : ∀ c p g1 N1, Num (upd σ b (dec f' n' e' g N)) c p g1 N1 → Num σ c p g1 N1 := by
    rintro c p g1 N1 ⟨jt, hj, hjn⟩
    by_cases e : c = b
    · subst e
      rw [upd_eq] at hj; cases hj
      refine ⟨_, hb, ?_⟩
      rcases It.num_cases hjn with ⟨_, rfl, hp⟩ | ⟨hk, _⟩ | ⟨hk, _⟩ | ⟨hk, _⟩ | ⟨hk, _⟩
      · exact hp ▸ rfl
      all_goals exact absurd hk (Nat.ne_of_beq_eq_false rfl)
    · rw [upd_ne _ _ e] at hj
      exact ⟨jt, hj, hjn⟩
  refine ⟨st, h.chg.trans (hc.mono (fun k _ e => .inr (by subst e; exact (h.it _ _ hb).1))), h.glob, ?_, ?_, ?_⟩
  · intro c jt hj
    by_cases e : c = b
    · subst e
      rw [upd_eq] at hj; cases hj
      refine ⟨(h.it _ _ hb).1, .inl ⟨Nat.le_of_ble_eq_true rfl, v, ?_, ?_⟩⟩
      · have h3 := setB (i := i) (v := x) h1
        rw [show (dec f n e g N).cells v = #[.int .i8 f, .bool n, .int .i32 e, .bool g, v 3, .bool false] from rfl, hx] at h3
        exact h3
      · intro o g1 N1 ho
        rcases It.num_cases ho with ⟨_, rfl, hp⟩ | ⟨hk, _⟩ | ⟨hk, _⟩ | ⟨hk, _⟩ | ⟨hk, _⟩
        · cases hp
          refine (h2 3 g N rfl).setCell c i x (fun e => ?_)
          have := (h.sto c 3 g N c hn e).2
          rw [hb] at this; cases this
        all_goals exact absurd hk (Nat.ne_of_beq_eq_false rfl)
    · rw [upd_ne _ _ e] at hj
      refine ⟨(h.it _ _ hj).1, (h.it _ _ hj).2.chg hc e ?_⟩
      rintro p g1 N1 k hp hk rfl
      have := (h.sto c p g1 N1 _ ⟨jt, hj, hp⟩ hk).2
      rw [hb] at this; cases this
  · intro c p g1 N1 k hcn hk
    have h3 := h.sto c p g1 N1 k (old _ _ _ _ hcn) hk
    exact ⟨h3.1, by rw [upd_ne _ _ (by rintro rfl; rw [hb] at h3; cases h3.2)]; exact h3.2⟩
  · intro c p g1 N1 c' p' g2 N2 k h3 h4 hk hk'
    exact h.inj c p g1 N1 c' p' g2 N2 k (old _ _ _ _ h3) (old _ _ _ _ h4) hk hk'
theorem Hold.setForm {w0 w : World} {σ : Sg} (h : Hold w0 w σ) {b : Nat} {f e : Int} {n g : Bool} {N : Nat} (hb : σ b = some (dec f n e g N)) (f' : Int) : Hold w0 (w.setCell ⟨b, 0, none⟩ (.int .i8 f')) (upd σ b (dec f' n e g N)) := h.setDec hb (fun _ => rfl)
theorem Hold.setSign {w0 w : World} {σ : Sg} (h : Hold w0 w σ) {b : Nat} {f e : Int} {n g : Bool} {N : Nat} (hb : σ b = some (dec f n e g N)) (n' : Bool) : Hold w0 (w.setCell ⟨b, 1, none⟩ (.bool n')) (upd σ b (dec f n' e g N)) := h.setDec hb (fun _ => rfl)
theorem Hold.setExp {w0 w : World} {σ : Sg} (h : Hold w0 w σ) {b : Nat} {f e : Int} {n g : Bool} {N : Nat} (hb : σ b = some (dec f n e g N)) (e' : Int) : Hold w0 (w.setCell ⟨b, 2, none⟩ (.int .i32 e')) (upd σ b (dec f n e' g N)) := h.setDec hb (fun _ => rfl)
/-- New blocks of numbers that are 0. -/
theorem Hold.newDec {w0 w : World} {σ : Sg} (h : Hold w0 w σ) (f e : Int) (n : Bool) : Hold w0 (w.alloc (.cells #[.int .i8 f, .bool n, .int .i32 e, .bool false, .slice none 0 0, .bool false] 55 (0, 0))) (upd σ w.heap.size (dec f n e false 0)) := by
  refine h.add (s := fun _ => none) ((Chg.refl w _).alloc _) (Nat.le_refl _) (.inl ⟨Nat.le_of_ble_eq_true rfl, fun _ => .slice none 0 0, allocB _ _, fun o g N ho => ?_⟩) (fun _ _ _ _ _ h => by cases h) (fun _ _ _ _ _ _ _ _ _ h => by cases h)
  rcases It.num_cases ho with ⟨_, rfl, hp⟩ | ⟨hk, _⟩ | ⟨hk, _⟩ | ⟨hk, _⟩ | ⟨hk, _⟩
  · cases hp; exact IsNat.zero _
  all_goals exact absurd hk (Nat.ne_of_beq_eq_false rfl)
theorem Hold.newBig {w0 w : World} {σ : Sg} (h : Hold w0 w σ) : Hold w0 (w.alloc (.cells #[.bool false, .slice none 0 0, .bool false] 53 (0, 0))) (upd σ w.heap.size (big false 0)) := by
  refine h.add (s := fun _ => none) ((Chg.refl w _).alloc _) (Nat.le_refl _) (.inl ⟨Nat.le_of_ble_eq_true rfl, fun _ => .slice none 0 0, allocB _ _, fun o g N ho => ?_⟩) (fun _ _ _ _ _ h => by cases h) (fun _ _ _ _ _ _ _ _ _ h => by cases h)
  rcases It.num_cases ho with ⟨hk, _⟩ | ⟨_, rfl, hp⟩ | ⟨hk, _⟩ | ⟨hk, _⟩ | ⟨hk, _⟩
  · exact absurd hk (Nat.ne_of_beq_eq_false rfl)
  · cases hp; exact IsNat.zero _
  all_goals exact absurd hk (Nat.ne_of_beq_eq_false rfl)
theorem Hold.newInt {w0 w : World} {σ : Sg} (h : Hold w0 w σ) : Hold w0 (w.alloc (.cells #[.bool false, .slice none 0 0] 51 (0, 0))) (upd σ w.heap.size (int false 0)) := by
  refine h.add (s := fun _ => none) ((Chg.refl w _).alloc _) (Nat.le_refl _) (.inl ⟨Nat.le_of_ble_eq_true rfl, fun _ => .slice none 0 0, allocB _ _, fun o g N ho => ?_⟩) (fun _ _ _ _ _ h => by cases h) (fun _ _ _ _ _ _ _ _ _ h => by cases h)
  rcases It.num_cases ho with ⟨hk, _⟩ | ⟨hk, _⟩ | ⟨_, rfl, hp⟩ | ⟨hk, _⟩ | ⟨hk, _⟩
  · exact absurd hk (Nat.ne_of_beq_eq_false rfl)
  · exact absurd hk (Nat.ne_of_beq_eq_false rfl)
  · cases hp; exact IsNat.zero _
  all_goals exact absurd hk (Nat.ne_of_beq_eq_false rfl)
theorem Hold.newTv {w0 w : World} {σ : Sg} (h : Hold w0 w σ) (d : Int) : Hold w0 (w.alloc (.cells #[.int .i64 d, .bool false, .slice none 0 0, .bool false, .bool false, .slice none 0 0, .bool false] 121 (0, 0))) (upd σ w.heap.size (tv d false 0 false 0)) := by
  refine h.add (s := fun _ => none) ((Chg.refl w _).alloc _) (Nat.le_refl _) (.inl ⟨Nat.le_of_ble_eq_true rfl, fun _ => .slice none 0 0, allocB _ _, fun o g N ho => ?_⟩) (fun _ _ _ _ _ h => by cases h) (fun _ _ _ _ _ _ _ _ _ h => by cases h)
  rcases It.num_cases ho with ⟨hk, _⟩ | ⟨hk, _⟩ | ⟨hk, _⟩ | ⟨_, rfl, hp⟩ | ⟨_, rfl, hp⟩
  · exact absurd hk (Nat.ne_of_beq_eq_false rfl)
  · exact absurd hk (Nat.ne_of_beq_eq_false rfl)
  · exact absurd hk (Nat.ne_of_beq_eq_false rfl)
  all_goals (cases hp; exact IsNat.zero _)
theorem Hold.newRaw {w0 w : World} {σ : Sg} (h : Hold w0 w σ) (o : Obj) : Hold w0 (w.alloc o) (upd σ w.heap.size (Go.Proofs.YtonepclpllelfaaGreatDoor.raw o)) := by
  refine h.add (s := fun _ => none) ((Chg.refl w _).alloc _) (Nat.le_refl _) (.inr ⟨Nat.le_of_ble_eq_true rfl, allocB _ _⟩) (fun _ _ _ _ _ h => by cases h) (fun _ _ _ _ _ _ _ _ _ h => by cases h)
/-- Less is told. -/
def Le (τ σ : Sg) : Prop := ∀ c it, τ c = some it → σ c = some it
theorem Le.refl (σ : Sg) : Le σ σ := fun _ _ h => h
theorem Le.trans {a b c : Sg} (h : Le a b) (h' : Le b c) : Le a c := fun k it hk => h' k it (h k it hk)
theorem Le.skip {τ σ : Sg} {k : Nat} {jt : It} (hk : τ k = none) (h : Le τ σ) : Le τ (upd σ k jt) := fun c it hc => by
  rw [upd_ne _ _ (by rintro rfl; rw [hk] at hc; cases hc)]; exact h c it hc
theorem Le.both {τ σ : Sg} {k : Nat} {jt : It} (h : Le τ σ) : Le (upd τ k jt) (upd σ k jt) := fun c it hc => by
  by_cases e : c = k
  · subst e; rw [upd_eq] at hc ⊢; exact hc
  · rw [upd_ne _ _ e] at hc ⊢; exact h c it hc
theorem Le.put {τ σ : Sg} (h : Le τ σ) (b o : Nat) (g : Bool) (N : Nat) {it : It} (hb : τ b = some it) : Le (Go.Proofs.YtonepclpllelfaaGreatDoor.put τ b o g N) (Go.Proofs.YtonepclpllelfaaGreatDoor.put σ b o g N) := by
  rw [put_upd hb, put_upd (h b it hb)]; exact h.both
theorem Hold.le {w0 w : World} {σ τ : Sg} (h : Hold w0 w σ) (hl : Le τ σ) : Hold w0 w τ := h.sub hl
end Go.Proofs.YtonepclpllelfaaGreatDoor

namespace Go.Proofs.YtonepclpllelfaaGreatDoor
open Go Go.RowKit

theorem drewN_two (w : World) (m n : Nat) : (w.drewN m).drewN n = w.drewN (m + n) := by
  unfold World.drewN; simp only [Nat.add_assoc]
theorem drewN_three (w : World) (m n q : Nat) : ((w.drewN m).drewN n).drewN q = w.drewN (m + n + q) := by rw [drewN_two, drewN_two, Nat.add_assoc]
/-- One digit more in an own row. -/
theorem own_snoc {w1 : World} {B k : Nat} {v' : Value} {O : List Nat} {s : Int} {d : Nat} (hs : s = (d : Int)) (h : w1.ownsRow B 3 1 v' (k + 1) (O.map sw ++ [.int .i64 s])) : ∃ p' cc', v' = .slice p' (k + 1) cc' ∧ w1.ownsRow B 3 1 (.slice p' (k + 1) cc') (k + 1) ((O ++ [d]).map sw) := by
  subst hs
  obtain ⟨p', cc', rfl⟩ := own_slice3 h
  refine ⟨p', cc', rfl, ?_⟩
  rw [List.map_append]
  exact h

set_option maxRecDepth 20000 in
set_option maxHeartbeats 2000000 in
theorem smallD_c (w : World) (N : Nat) (hN : N ≤ 9223372036854775807) :
    Calls Tryz.prog 11 #[.int .i64 (N : Int)] w fun e w' => ∃ p n cc, e = .returned (.slice p n cc) ∧ DRes w w' p n cc N := by
  obtain ⟨i0, hi, hz0, hz1, hz2⟩ := info_parts makeI
  go_enter Tryz.func11, Tryz.ntmps11
  go_wp2
  go_loopw [0, 3] (fun n v wr => ∃ (k M : Nat) (p : Option Addr) (cc : Nat) (O : List Nat), n = .int .i64 (M : Int) ∧ M ≤ N ∧ k ≤ N ∧ v = .slice p k cc ∧ Below w.heap.size w wr ∧ wr.ownsRow w.heap.size 3 1 (.slice p k cc) k (O.map sw) ∧ DgB 65536 O ∧ vB 65536 O + 65536 ^ k * M = N ∧ k + M ≤ N ∧ (∀ x, O.getLast? = some x → M = 0 → x ≠ 0)) (fun n _ _ => (intOf n).toNat)
  case atStart => exact ⟨0, N, _, 0, [], rfl, Nat.le_refl _, Nat.zero_le _, rfl, (Below.refl _ _).alloc (Nat.le_refl _) _, World.ownsRow_made w #[] 0 (Nat.le_refl _) (by decide) rfl, DgB.nil, by simp, by omega, fun x hx => by simp at hx⟩
  case round =>
    obtain ⟨k, M, p, cc, O, rfl, hMN, hk, rfl, hb, hown, hO, hv, hkM, hlast⟩ := hrel
    have hbs := hb.size
    have hOl := own_len hown
    by_cases hM : M = 0
    · subst hM
      have hV : vB 65536 O = N := by simpa using hv
      have hd : d16 N = O := by
        rw [← hV]
        refine dB_of two16 hO ?_
        rcases Nat.eq_zero_or_pos O.length with h | h
        · exact .inl (List.length_eq_zero_iff.1 h)
        · refine .inr (hlast _ ?_ rfl)
          rw [List.getLast?_eq_getElem?]; exact get_nth (by omega)
      obtain ⟨h1, h2⟩ := own_rdD hown hO
      rw [← hd] at h1
      replace h1 := Lib.hid h1
      replace h2 := Lib.hid h2
      replace hb := Lib.hid hb
      clear hown hO hv hV hd hlast hOl
      go_wp2
      go_ret
      exact ⟨p, k, cc, rfl, h1.out, h2.out, hb.out⟩
    · have hM1 : 1 ≤ M := by omega
      have hk4 : k < 4 := by
        rcases Nat.lt_or_ge k 4 with h | h
        · exact h
        · have h1 : 65536 ^ 4 ≤ 65536 ^ k := Nat.pow_le_pow_right (by decide) h
          have h2 := Nat.mul_le_mul_left (65536 ^ k) hM1
          omega
      have hst : vB 65536 (O ++ [M % 65536]) + 65536 ^ (k + 1) * (M / 65536) = N := by
        rw [vB_snoc, hOl, Nat.pow_succ, Nat.mul_assoc, Nat.add_assoc, ← Nat.mul_add, Nat.mod_add_div]; exact hv
      have hdg : DgB 65536 (O ++ [M % 65536]) := hO.snoc (Nat.mod_lt _ (by decide))
      have hla : ∀ x, (O ++ [M % 65536]).getLast? = some x → M / 65536 = 0 → x ≠ 0 := by
        intro x hx h0
        rw [List.getLast?_append] at hx
        simp only [List.getLast?_singleton, Option.some_or, Option.some.injEq] at hx
        omega
      have kM : k + 1 + M / 65536 ≤ N := by omega
      have kM2 : M / 65536 ≤ N := by omega
      replace hst := Lib.hid hst
      replace hdg := Lib.hid hdg
      replace hla := Lib.hid hla
      replace hown := Lib.hid hown
      replace hb := Lib.hid hb
      replace kM := Lib.hid kM
      replace kM2 := Lib.hid kM2
      clear hO hv hlast hOl
      go_wp2_with (at_builtin; refine wpList_append_own _ rfl _ _ 27 rfl w.heap.size 3 i0 (.int .i64 0) 1 8 Tryz.underlying27 hi hz0 hz1 hz2 rfl (by decide) _ _ _ rfl (hown.out.alloc _) ⟨wr.heap.size, 0, none⟩ 1 1 [.int .i64 ((M : Int) % 65536)] rfl rfl ?c1 ?c2 ?c3 ?c4 ?c5 ?_)
      case c1 => exact cell_one_new _ _ _
      case c2 => intro u hu; simp only [List.mem_cons, List.not_mem_nil, or_false] at hu; subst hu; rfl
      case c3 => unfold maxLen; omega
      case c4 => omega
      case c5 => simp; omega
      intro v' w1 hown' hgrow _
      obtain ⟨p', cc', rfl, hown2⟩ := own_snoc (d := M % 65536) (by omega) hown'
      replace hown2 := Lib.hid hown2
      replace hgrow := Lib.hid hgrow
      clear hown'
      go_wp2
      go_roundw
      case rel =>
        exact ⟨k + 1, M / 65536, p', cc', O ++ [M % 65536], by go_num, kM2.out, by have := kM.out; omega, rfl, (hb.out.alloc hbs _).grown hgrow.out (by simp; omega) (fun g hg => (hown.out.lt g hg).1), hown2.out, hdg.out, hst.out, kM.out, hla.out⟩
      case measure => simp [intOf]; omega

set_option maxRecDepth 20000 in
set_option maxHeartbeats 2000000 in
theorem subD_c (w : World) (A B : Option Addr) (l c m d N M : Nat) (hX : RdD w A l c (d16 N)) (hY : RdD w B m d (d16 M)) (hl : l ≤ 1000000) (_hm : m ≤ 1000000) (hle : M ≤ N) :
    Calls Tryz.prog 27 #[.slice A l c, .slice B m d] w fun e w' => ∃ p n cc, e = .returned (.slice p n cc) ∧ DRes w w' p n cc (N - M) := by
  obtain ⟨i0, hi, hz0, hz1, hz2⟩ := info_parts makeI
  have hlx := hX.len
  have hly := hY.len
  have hml : m ≤ l := by rw [← hlx, ← hly]; exact d16_len_mono hle
  replace hX := Lib.hid hX
  replace hY := Lib.hid hY
  replace hlx := Lib.hid hlx
  replace hly := Lib.hid hly
  replace hle := Lib.hid hle
  go_enter Tryz.func27, Tryz.ntmps27
  go_wp2
  go_loopw [5, 6, 12] (fun v cy i wr => ∃ (k t : Nat) (p : Option Addr) (cc : Nat) (O : List Nat), k ≤ l ∧ i = .int .i64 k ∧ cy = .int .i64 t ∧ t ≤ 1 ∧ v = .slice p k cc ∧ Below w.heap.size w wr ∧ wr.ownsRow w.heap.size 3 1 (.slice p k cc) k (O.map sw) ∧ DgB 65536 O ∧ vB 65536 ((d16 N).take k) + 65536 ^ k * t = vB 65536 O + vB 65536 ((d16 M).take k)) (fun _ _ i _ => l - (intOf i).toNat)
  case atStart => exact ⟨0, 0, _, 0, [], Nat.zero_le _, rfl, rfl, by omega, rfl, (Below.refl _ _).alloc (Nat.le_refl _) _, World.ownsRow_made w #[] 0 (Nat.le_refl _) (by decide) rfl, DgB.nil, rfl⟩
  case round =>
    obtain ⟨k, t, p, cc, O, hk, rfl, rfl, ht, rfl, hb, hown, hO, hv⟩ := hrel
    have hbs := hb.size
    have hOl := own_len hown
    by_cases hlt : k < l
    · have hx : ∃ x, nth (d16 N) k = x := ⟨_, rfl⟩
      have hy : ∃ y, nth (d16 M) k = y := ⟨_, rfl⟩
      obtain ⟨x, hx⟩ := hx
      obtain ⟨y, hy⟩ := hy
      have hxb : x < 65536 := by rw [← hx]; exact d16_nth N k
      have hyb : y < 65536 := by rw [← hy]; exact d16_nth M k
      have hst := fun s c' (e : x + 65536 * c' = s + y + t) => subD_step (s := s) (c' := c') hOl hv (by rw [hx, hy]; exact e)
      have hy0 : m ≤ k → y = 0 := fun h => by rw [← hy]; exact nth_ge (by rw [hly.out]; exact h)
      obtain ⟨ada, rfl, ca⟩ := hX.out.at hb hlt
      rw [hx] at ca
      have hcb : k < m → ∃ ad, B = some ad ∧ wr.cell? (ad.add k) = some (.int .i64 (y : Int)) := fun h => by rw [← hy]; exact hY.out.at hb h
      replace hcb := Lib.hid hcb
      replace hy0 := Lib.hid hy0
      replace hx := Lib.hid hx
      replace hy := Lib.hid hy
      replace hst := Lib.hid hst
      replace hown := Lib.hid hown
      replace hb := Lib.hid hb
      replace hO := Lib.hid hO
      replace hv := Lib.hid hv
      replace hOl := Lib.hid hOl
      by_cases hlb : k < m
      · obtain ⟨adb, rfl, cb⟩ := hcb.out hlb
        by_cases hneg : x < y + t
        · have n1 : (x : Int) - (t : Int) - (y : Int) < 0 := by omega
          have se : ((x : Int) - (t : Int) - (y : Int) + 65536) = ((x + 65536 - t - y : Nat) : Int) := by omega
          have s0 : 0 ≤ ((x : Int) - (t : Int) - (y : Int) + 65536) := by omega
          have s1 : ((x : Int) - (t : Int) - (y : Int) + 65536) ≤ 65535 := by omega
          have hs1 := hst.out (x + 65536 - t - y) 1 (by omega)
          have hdg := hO.out.snoc (x := x + 65536 - t - y) (by omega)
          replace se := Lib.hid se
          replace hs1 := Lib.hid hs1
          replace hdg := Lib.hid hdg
          go_wp2_with (at_builtin; refine wpList_append_own _ rfl _ _ 27 rfl w.heap.size 3 i0 (.int .i64 0) 1 8 Tryz.underlying27 hi hz0 hz1 hz2 rfl (by decide) _ _ _ rfl (hown.out.alloc _) ⟨wr.heap.size, 0, none⟩ 1 1 [.int .i64 ((x : Int) - (t : Int) - (y : Int) + 65536)] rfl rfl ?c1 ?c2 ?c3 ?c4 ?c5 ?_)
          case c1 => exact cell_one_new _ _ _
          case c2 => intro u hu; simp only [List.mem_cons, List.not_mem_nil, or_false] at hu; subst hu; rfl
          case c3 => unfold maxLen; omega
          case c4 => omega
          case c5 => simp; omega
          intro v' w1 hown' hgrow _
          obtain ⟨p', cc', rfl, hown2⟩ := own_snoc se.out hown'
          replace hown2 := Lib.hid hown2
          replace hgrow := Lib.hid hgrow
          clear hown'
          go_wp2
          go_roundw
          case rel =>
            exact ⟨k + 1, 1, p', cc', O ++ [x + 65536 - t - y], by omega, by go_num, rfl, by omega, rfl, (hb.out.alloc hbs _).grown hgrow.out (by simp; omega) (fun g hg => (hown.out.lt g hg).1), hown2.out, hdg.out, hs1.out⟩
          case measure => simp [intOf]; omega
        · have n1 : 0 ≤ (x : Int) - (t : Int) - (y : Int) := by omega
          have se : ((x : Int) - (t : Int) - (y : Int)) = ((x - t - y : Nat) : Int) := by omega
          have s0 : 0 ≤ ((x : Int) - (t : Int) - (y : Int)) := by omega
          have s1 : ((x : Int) - (t : Int) - (y : Int)) ≤ 65535 := by omega
          have hs1 := hst.out (x - t - y) 0 (by omega)
          have hdg := hO.out.snoc (x := x - t - y) (by omega)
          replace se := Lib.hid se
          replace hs1 := Lib.hid hs1
          replace hdg := Lib.hid hdg
          go_wp2_with (at_builtin; refine wpList_append_own _ rfl _ _ 27 rfl w.heap.size 3 i0 (.int .i64 0) 1 8 Tryz.underlying27 hi hz0 hz1 hz2 rfl (by decide) _ _ _ rfl (hown.out.alloc _) ⟨wr.heap.size, 0, none⟩ 1 1 [.int .i64 ((x : Int) - (t : Int) - (y : Int))] rfl rfl ?c1 ?c2 ?c3 ?c4 ?c5 ?_)
          case c1 => exact cell_one_new _ _ _
          case c2 => intro u hu; simp only [List.mem_cons, List.not_mem_nil, or_false] at hu; subst hu; rfl
          case c3 => unfold maxLen; omega
          case c4 => omega
          case c5 => simp; omega
          intro v' w1 hown' hgrow _
          obtain ⟨p', cc', rfl, hown2⟩ := own_snoc se.out hown'
          replace hown2 := Lib.hid hown2
          replace hgrow := Lib.hid hgrow
          clear hown'
          go_wp2
          go_roundw
          case rel =>
            exact ⟨k + 1, 0, p', cc', O ++ [x - t - y], by omega, by go_num, rfl, by omega, rfl, (hb.out.alloc hbs _).grown hgrow.out (by simp; omega) (fun g hg => (hown.out.lt g hg).1), hown2.out, hdg.out, hs1.out⟩
          case measure => simp [intOf]; omega
      · have y0 := hy0.out (by omega)
        by_cases hneg : x < t
        · have n1 : (x : Int) - (t : Int) < 0 := by omega
          have se : ((x : Int) - (t : Int) + 65536) = ((x + 65536 - t : Nat) : Int) := by omega
          have s0 : 0 ≤ ((x : Int) - (t : Int) + 65536) := by omega
          have s1 : ((x : Int) - (t : Int) + 65536) ≤ 65535 := by omega
          have hs1 := hst.out (x + 65536 - t) 1 (by omega)
          have hdg := hO.out.snoc (x := x + 65536 - t) (by omega)
          replace se := Lib.hid se
          replace hs1 := Lib.hid hs1
          replace hdg := Lib.hid hdg
          go_wp2_with (at_builtin; refine wpList_append_own _ rfl _ _ 27 rfl w.heap.size 3 i0 (.int .i64 0) 1 8 Tryz.underlying27 hi hz0 hz1 hz2 rfl (by decide) _ _ _ rfl (hown.out.alloc _) ⟨wr.heap.size, 0, none⟩ 1 1 [.int .i64 ((x : Int) - (t : Int) + 65536)] rfl rfl ?c1 ?c2 ?c3 ?c4 ?c5 ?_)
          case c1 => exact cell_one_new _ _ _
          case c2 => intro u hu; simp only [List.mem_cons, List.not_mem_nil, or_false] at hu; subst hu; rfl
          case c3 => unfold maxLen; omega
          case c4 => omega
          case c5 => simp; omega
          intro v' w1 hown' hgrow _
          obtain ⟨p', cc', rfl, hown2⟩ := own_snoc se.out hown'
          replace hown2 := Lib.hid hown2
          replace hgrow := Lib.hid hgrow
          clear hown'
          go_wp2
          go_roundw
          case rel =>
            exact ⟨k + 1, 1, p', cc', O ++ [x + 65536 - t], by omega, by go_num, rfl, by omega, rfl, (hb.out.alloc hbs _).grown hgrow.out (by simp; omega) (fun g hg => (hown.out.lt g hg).1), hown2.out, hdg.out, hs1.out⟩
          case measure => simp [intOf]; omega
        · have n1 : 0 ≤ (x : Int) - (t : Int) := by omega
          have se : ((x : Int) - (t : Int)) = ((x - t : Nat) : Int) := by omega
          have s0 : 0 ≤ ((x : Int) - (t : Int)) := by omega
          have s1 : ((x : Int) - (t : Int)) ≤ 65535 := by omega
          have hs1 := hst.out (x - t) 0 (by omega)
          have hdg := hO.out.snoc (x := x - t) (by omega)
          replace se := Lib.hid se
          replace hs1 := Lib.hid hs1
          replace hdg := Lib.hid hdg
          go_wp2_with (at_builtin; refine wpList_append_own _ rfl _ _ 27 rfl w.heap.size 3 i0 (.int .i64 0) 1 8 Tryz.underlying27 hi hz0 hz1 hz2 rfl (by decide) _ _ _ rfl (hown.out.alloc _) ⟨wr.heap.size, 0, none⟩ 1 1 [.int .i64 ((x : Int) - (t : Int))] rfl rfl ?c1 ?c2 ?c3 ?c4 ?c5 ?_)
          case c1 => exact cell_one_new _ _ _
          case c2 => intro u hu; simp only [List.mem_cons, List.not_mem_nil, or_false] at hu; subst hu; rfl
          case c3 => unfold maxLen; omega
          case c4 => omega
          case c5 => simp; omega
          intro v' w1 hown' hgrow _
          obtain ⟨p', cc', rfl, hown2⟩ := own_snoc se.out hown'
          replace hown2 := Lib.hid hown2
          replace hgrow := Lib.hid hgrow
          clear hown'
          go_wp2
          go_roundw
          case rel =>
            exact ⟨k + 1, 0, p', cc', O ++ [x - t], by omega, by go_num, rfl, by omega, rfl, (hb.out.alloc hbs _).grown hgrow.out (by simp; omega) (fun g hg => (hown.out.lt g hg).1), hown2.out, hdg.out, hs1.out⟩
          case measure => simp [intOf]; omega
    · obtain rfl : k = l := by omega
      have hend := subD_end (a := d16 N) (b := d16 M) (by rw [hOl, hlx.out]) (by rw [hly.out, hlx.out]; exact hml) hO (by rw [hlx.out]; exact hv) (by rw [d16_val, d16_val]; exact hle.out)
      rw [d16_val, d16_val] at hend
      have k1 := trimOwn hb hown hO hend
      replace k1 := Lib.hid k1
      clear hO hv hOl hb hown hend
      go_wp2_with fail
      with_reducible refine k1.out.mono ?_
      rintro E w' ⟨hw, q, rfl, hr⟩
      obtain rfl := hw
      go_wp2
      go_ret
      exact ⟨p, q, cc, rfl, hr⟩

set_option maxRecDepth 20000 in
set_option maxHeartbeats 2000000 in
theorem cmpD_c (w : World) (A B : Option Addr) (l c m d N M : Nat) (hX : RdD w A l c (d16 N)) (hY : RdD w B m d (d16 M)) :
    Calls Tryz.prog 26 #[.slice A l c, .slice B m d] w fun e w' => e = .returned (.int .i64 (ord3 N M)) ∧ ∃ n, w' = w.drewN n := by
  have hlx := hX.len
  have hly := hY.len
  have hc1 := hX.cap
  have hc2 := hX.max
  have hc3 := hY.cap
  have hc4 := hY.max
  have o1 : N < M → ord3 N M = -1 := fun h => by unfold ord3; rw [if_pos h]
  have o2 : M < N → ord3 N M = 1 := fun h => by unfold ord3; rw [if_neg (by omega), if_pos h]
  have o0 : N = M → ord3 N M = 0 := fun h => by unfold ord3; rw [if_neg (by omega), if_neg (by omega)]
  have d1 : l < m → N < M := fun h => d16_len_lt (by rw [hlx, hly]; exact h)
  have d2 : m < l → M < N := fun h => d16_len_lt (by rw [hlx, hly]; exact h)
  generalize ord3 N M = R at *
  replace hX := Lib.hid hX
  replace hY := Lib.hid hY
  replace hlx := Lib.hid hlx
  replace hly := Lib.hid hly
  replace o1 := Lib.hid o1
  replace o2 := Lib.hid o2
  replace o0 := Lib.hid o0
  replace d1 := Lib.hid d1
  replace d2 := Lib.hid d2
  go_enter Tryz.func26, Tryz.ntmps26
  rcases (by omega : l < m ∨ m < l ∨ l = m) with h | h | h
  · have hR := o1.out (d1.out h)
    replace hR := Lib.hid hR
    go_wp2
    go_ret
    exact ⟨ret_i hR.out.symm, 0, rfl⟩
  · have hR := o2.out (d2.out h)
    replace hR := Lib.hid hR
    go_wp2
    go_ret
    exact ⟨ret_i hR.out.symm, 0, rfl⟩
  · subst h
    clear d1 d2
    go_wp2
    go_loopw [5] (fun i wr => ∃ (k nn : Nat), k ≤ l ∧ i = .int .i64 ((k : Int) - 1) ∧ (∀ j, k ≤ j → j < l → nth (d16 N) j = nth (d16 M) j) ∧ wr = w.drewN nn) (fun i _ => (intOf i + 1).toNat)
    case atStart => exact ⟨l, 0, Nat.le_refl _, rfl, (fun j h1 h2 => by omega), rfl⟩
    case round =>
      obtain ⟨k, nn, hk, rfl, hz, rfl⟩ := hrel
      by_cases hk0 : k = 0
      · subst hk0
        have hR := o0.out (d16_inj (digD_eq (by rw [hlx.out, hly.out]) (fun j hj => hz j (Nat.zero_le _) (by rw [hlx.out] at hj; exact hj))))
        replace hR := Lib.hid hR
        replace hz := Lib.hid hz
        go_wp2
        go_ret
        exact ⟨ret_i hR.out.symm, nn, rfl⟩
      · obtain ⟨j, rfl⟩ : ∃ j, k = j + 1 := ⟨k - 1, by omega⟩
        have hj : ((j + 1 : Nat) : Int) - 1 = (j : Int) := by omega
        rw [hj]
        clear hj
        have hjl : j < l := by omega
        obtain ⟨ada, rfl, ca⟩ := hX.out.at (Below.drwN (Below.refl _ w) nn) hjl
        obtain ⟨adb, rfl, cb⟩ := hY.out.at (Below.drwN (Below.refl _ w) nn) hjl
        have ca : w.cell? (ada.add j) = some (.int .i64 (nth (d16 N) j : Int)) := ca
        have cb : w.cell? (adb.add j) = some (.int .i64 (nth (d16 M) j : Int)) := cb
        have hlt := fun h => digD_lt (a := d16 N) (b := d16 M) (k := j) (d16_dg N) (by rw [hlx.out, hly.out]) (by rw [hlx.out]; exact hjl) (fun i h1 h2 => hz i (by omega) (by rw [hlx.out] at h2; exact h2)) h
        have hgt := fun h => digD_lt (a := d16 M) (b := d16 N) (k := j) (d16_dg M) (by rw [hlx.out, hly.out]) (by rw [hly.out]; exact hjl) (fun i h1 h2 => (hz i (by omega) (by rw [hly.out] at h2; exact h2)).symm) h
        rw [d16_val, d16_val] at hlt hgt
        have hze : nth (d16 N) j = nth (d16 M) j → ∀ i, j ≤ i → i < l → nth (d16 N) i = nth (d16 M) i := fun e i h1 h2 => by
          by_cases e1 : i = j
          · subst e1; exact e
          · exact hz i (by omega) h2
        have hx : ∃ x, nth (d16 N) j = x := ⟨_, rfl⟩
        have hy : ∃ y, nth (d16 M) j = y := ⟨_, rfl⟩
        obtain ⟨x, hx⟩ := hx
        obtain ⟨y, hy⟩ := hy
        rw [hx, hy] at hlt hgt hze
        rw [hx] at ca
        rw [hy] at cb
        replace hx := Lib.hid hx
        replace hy := Lib.hid hy
        replace hlt := Lib.hid hlt
        replace hgt := Lib.hid hgt
        replace hze := Lib.hid hze
        replace hz := Lib.hid hz
        rcases (by omega : x < y ∨ y < x ∨ x = y) with h | h | h
        · have hR := o1.out (hlt.out h)
          have e0 : decide (x < y) = true := by simpa using h
          replace hR := Lib.hid hR
          go_wp2_with fail
          go_quiet (fail)
          go_wp2
          go_ret
          exact ⟨ret_i hR.out.symm, _, drewN_two _ _ _⟩
        · have hR := o2.out (hgt.out h)
          have e0 : decide (x < y) = false := by simp; omega
          have e1 : decide (y < x) = true := by simpa using h
          replace hR := Lib.hid hR
          go_wp2_with fail
          go_quiet (fail)
          go_wp2_with fail
          go_quiet (fail)
          go_wp2
          go_ret
          exact ⟨ret_i hR.out.symm, _, drewN_three _ _ _ _⟩
        · subst h
          have e0 : decide (x < x) = false := by simp
          have hz2 := hze.out rfl
          replace hz2 := Lib.hid hz2
          go_wp2_with fail
          go_quiet (fail)
          go_wp2_with fail
          go_quiet (fail)
          go_wp2
          go_roundw
          case rel => exact ⟨j, _, by omega, by go_num, hz2.out, rfl⟩
          case measure => simp [intOf]
end Go.Proofs.YtonepclpllelfaaGreatDoor
