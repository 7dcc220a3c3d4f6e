/- What is held in memory: decimals and numbers, each in places of its own. -/
import Derived.Test.YtgdpljjmnmapmaaGreatDoorC12
namespace Go.Proofs.YtgdpljjmnmapmaaGreatDoor
open Go Go.RowKit

/-- What a block holds: k 0 a decimal, 1 an apd.BigInt, 2 a big.Int, 3 a row of the table of digits, 4 what is only read. -/
structure It where
  k : Nat
  f : Int
  n : Bool
  e : Int
  g : Bool
  N : Nat
  g2 : Bool
  N2 : Nat
  o : Obj

def noObj : Obj := .cells #[] 0 (0, 0)
def dec (f : Int) (n : Bool) (e : Int) (g : Bool) (N : Nat) : It := ⟨0, f, n, e, g, N, false, 0, noObj⟩
def big (g : Bool) (N : Nat) : It := ⟨1, 0, false, 0, g, N, false, 0, noObj⟩
def int (g : Bool) (N : Nat) : It := ⟨2, 0, false, 0, g, N, false, 0, noObj⟩
def tv (d : Int) (g : Bool) (N : Nat) (g2 : Bool) (N2 : Nat) : It := ⟨3, d, false, 0, g, N, g2, N2, noObj⟩
def raw (o : Obj) : It := ⟨4, 0, false, 0, false, 0, false, 0, o⟩

/-- The number at a place of a block. -/
def It.num (it : It) (o : Nat) : Option (Bool × Nat) :=
  match it.k, o with
  | 0, 3 => some (it.g, it.N)
  | 1, 0 => some (it.g, it.N)
  | 2, 0 => some (it.g, it.N)
  | 3, 1 => some (it.g, it.N)
  | 3, 4 => some (it.g2, it.N2)
  | _, _ => none
def It.put (it : It) (o : Nat) (g : Bool) (N : Nat) : It :=
  match it.k, o with
  | 3, 4 => { it with g2 := g, N2 := N }
  | _, _ => { it with g := g, N := N }
def It.ty (it : It) : TypeId := match it.k with
  | 0 => 64
  | 1 => 62
  | 2 => 60
  | _ => 155
def It.cells (it : It) (v : Nat → Value) : Array Value := match it.k with
  | 0 => #[.int .i8 it.f, .bool it.n, .int .i32 it.e, .bool it.g, v 3, .bool false]
  | 1 => #[.bool it.g, v 0, .bool false]
  | 2 => #[.bool it.g, v 0]
  | _ => #[.int .i64 it.f, .bool it.g, v 1, .bool false, .bool it.g2, v 4, .bool false]
def It.holds (it : It) (w : World) (b : Nat) (s : Nat → Option Nat) : Prop :=
  (it.k < 4 ∧ ∃ v : Nat → Value, w.heap[b]? = some (.cells (it.cells v) it.ty (0, 0)) ∧ ∀ o g N, it.num o = some (g, N) → IsNat w (v o) N (s o)) ∨ (4 ≤ it.k ∧ w.heap[b]? = some it.o)

theorem It.num_cases {it : It} {o : Nat} {p : Bool × Nat} (h : it.num o = some p) :
    (it.k = 0 ∧ o = 3 ∧ p = (it.g, it.N)) ∨ (it.k = 1 ∧ o = 0 ∧ p = (it.g, it.N)) ∨ (it.k = 2 ∧ o = 0 ∧ p = (it.g, it.N)) ∨ (it.k = 3 ∧ o = 1 ∧ p = (it.g, it.N)) ∨ (it.k = 3 ∧ o = 4 ∧ p = (it.g2, it.N2)) := by
  unfold It.num at h
  split at h <;> simp_all
theorem It.put_k (it : It) (o : Nat) (g : Bool) (N : Nat) : (it.put o g N).k = it.k := by
  unfold It.put; split <;> rfl
theorem It.put_ty (it : It) (o : Nat) (g : Bool) (N : Nat) : (it.put o g N).ty = it.ty := by
  unfold It.ty; rw [It.put_k]
theorem It.num_put {it : It} {o : Nat} {p : Bool × Nat} (h : it.num o = some p) (g : Bool) (N : Nat) : (it.put o g N).num o = some (g, N) := by
  obtain ⟨k, f, n, e, g1, N1, g2, N2, ob⟩ := it
  rcases It.num_cases h with ⟨hk, rfl, _⟩ | ⟨hk, rfl, _⟩ | ⟨hk, rfl, _⟩ | ⟨hk, rfl, _⟩ | ⟨hk, rfl, _⟩ <;> (simp only at hk; subst hk; rfl)
theorem It.num_put_ne {it : It} {o o' : Nat} {p : Bool × Nat} (h : it.num o = some p) (g : Bool) (N : Nat) (hne : o' ≠ o) : (it.put o g N).num o' = it.num o' := by
  obtain ⟨k, f, n, e, g1, N1, g2, N2, ob⟩ := it
  rcases It.num_cases h with ⟨hk, rfl, _⟩ | ⟨hk, rfl, _⟩ | ⟨hk, rfl, _⟩ | ⟨hk, rfl, _⟩ | ⟨hk, rfl, _⟩ <;> (simp only at hk; subst hk; unfold It.put It.num; simp only; split <;> first | rfl | simp_all | omega)
theorem It.put_put {it : It} {o : Nat} {p : Bool × Nat} (h : it.num o = some p) (g g' : Bool) (N N' : Nat) : (it.put o g N).put o g' N' = it.put o g' N' := by
  obtain ⟨k, f, n, e, g1, N1, g2, N2, ob⟩ := it
  rcases It.num_cases h with ⟨hk, rfl, _⟩ | ⟨hk, rfl, _⟩ | ⟨hk, rfl, _⟩ | ⟨hk, rfl, _⟩ | ⟨hk, rfl, _⟩ <;> (simp only at hk; subst hk; rfl)
theorem It.put_self {it : It} {o : Nat} {g : Bool} {N : Nat} (h : it.num o = some (g, N)) : it.put o g N = it := by
  obtain ⟨k, f, n, e, g1, N1, g2, N2, ob⟩ := it
  rcases It.num_cases h with ⟨hk, rfl, hp⟩ | ⟨hk, rfl, hp⟩ | ⟨hk, rfl, hp⟩ | ⟨hk, rfl, hp⟩ | ⟨hk, rfl, hp⟩ <;> (simp only at hk; subst hk; cases hp; rfl)
theorem It.cells_at {it : It} {o : Nat} {g : Bool} {N : Nat} (h : it.num o = some (g, N)) (v : Nat → Value) : (it.cells v)[o]? = some (.bool g) ∧ (it.cells v)[o + 1]? = some (v o) ∧ (it.k = 2 ∨ (it.cells v)[o + 2]? = some (.bool false)) := by
  obtain ⟨k, f, n, e, g1, N1, g2, N2, ob⟩ := it
  rcases It.num_cases h with ⟨hk, rfl, hp⟩ | ⟨hk, rfl, hp⟩ | ⟨hk, rfl, hp⟩ | ⟨hk, rfl, hp⟩ | ⟨hk, rfl, hp⟩ <;> (simp only at hk; subst hk; cases hp; first | exact ⟨rfl, rfl, .inr rfl⟩ | exact ⟨rfl, rfl, .inl rfl⟩)
/-- A store of the words. -/
theorem It.cells_abs {it : It} {o : Nat} {g : Bool} {N : Nat} (h : it.num o = some (g, N)) (v : Nat → Value) (x : Value) (N' : Nat) : (it.cells v).setIfInBounds (o + 1) x = (it.put o g N').cells (fun k => if k = o then x else v k) := by
  obtain ⟨k, f, n, e, g1, N1, g2, N2, ob⟩ := it
  rcases It.num_cases h with ⟨hk, rfl, hp⟩ | ⟨hk, rfl, hp⟩ | ⟨hk, rfl, hp⟩ | ⟨hk, rfl, hp⟩ | ⟨hk, rfl, hp⟩ <;> (simp only at hk; subst hk; cases hp; rfl)
theorem It.cells_neg {it : It} {o : Nat} {g : Bool} {N : Nat} (h : it.num o = some (g, N)) (v : Nat → Value) (g' : Bool) : (it.cells v).setIfInBounds o (.bool g') = (it.put o g' N).cells v := by
  obtain ⟨k, f, n, e, g1, N1, g2, N2, ob⟩ := it
  rcases It.num_cases h with ⟨hk, rfl, hp⟩ | ⟨hk, rfl, hp⟩ | ⟨hk, rfl, hp⟩ | ⟨hk, rfl, hp⟩ | ⟨hk, rfl, hp⟩ <;> (simp only at hk; subst hk; cases hp; rfl)
theorem It.cells_minus {it : It} {o : Nat} {g : Bool} {N : Nat} (h : it.num o = some (g, N)) (hk : it.k ≠ 2) (v : Nat → Value) : (it.cells v).setIfInBounds (o + 2) (.bool false) = it.cells v := by
  obtain ⟨k, f, n, e, g1, N1, g2, N2, ob⟩ := it
  simp only at hk
  rcases It.num_cases h with ⟨hk, rfl, hp⟩ | ⟨hk, rfl, hp⟩ | ⟨hk, rfl, hp⟩ | ⟨hk, rfl, hp⟩ | ⟨hk, rfl, hp⟩ <;> (simp only at hk; subst hk; cases hp; first | rfl | omega)
theorem It.ty_ne (it : It) : it.ty ≠ 133 := by
  unfold It.ty; split <;> decide

abbrev Sg := Nat → Option It
def upd (σ : Sg) (b : Nat) (it : It) : Sg := fun k => if k = b then some it else σ k
theorem upd_eq (σ : Sg) (b : Nat) (it : It) : upd σ b it b = some it := by unfold upd; rw [if_pos rfl]
theorem upd_ne (σ : Sg) {b k : Nat} (it : It) (h : k ≠ b) : upd σ b it k = σ k := by unfold upd; rw [if_neg h]
theorem upd_upd (σ : Sg) (b : Nat) (it it' : It) : upd (upd σ b it) b it' = upd σ b it' := by
  funext k; unfold upd; split <;> rfl
theorem upd_self {σ : Sg} {b : Nat} {it : It} (h : σ b = some it) : upd σ b it = σ := by
  funext k; unfold upd; split
  · next e => rw [e, h]
  · rfl
theorem upd_swap (σ : Sg) {b c : Nat} (it jt : It) (h : b ≠ c) : upd (upd σ b it) c jt = upd (upd σ c jt) b it := by
  funext k; unfold upd; split
  · next e => rw [if_neg (by omega)]
  · rfl
/-- A number at a place. -/
def Num (σ : Sg) (b o : Nat) (g : Bool) (N : Nat) : Prop := ∃ it, σ b = some it ∧ it.num o = some (g, N)
def put (σ : Sg) (b o : Nat) (g : Bool) (N : Nat) : Sg := fun k => if k = b then (σ b).map (fun it => it.put o g N) else σ k
theorem put_upd {σ : Sg} {b : Nat} {it : It} (h : σ b = some it) (o : Nat) (g : Bool) (N : Nat) : put σ b o g N = upd σ b (it.put o g N) := by
  funext k; unfold put upd; split
  · rw [h]; rfl
  · rfl
theorem put_dec {σ : Sg} {b : Nat} {f e : Int} {n g : Bool} {N : Nat} (h : σ b = some (dec f n e g N)) (g' : Bool) (N' : Nat) : put σ b 3 g' N' = upd σ b (dec f n e g' N') := put_upd h 3 g' N'
theorem put_big {σ : Sg} {b : Nat} {g : Bool} {N : Nat} (h : σ b = some (big g N)) (g' : Bool) (N' : Nat) : put σ b 0 g' N' = upd σ b (big g' N') := put_upd h 0 g' N'
theorem put_int {σ : Sg} {b : Nat} {g : Bool} {N : Nat} (h : σ b = some (int g N)) (g' : Bool) (N' : Nat) : put σ b 0 g' N' = upd σ b (int g' N') := put_upd h 0 g' N'
theorem num_dec {σ : Sg} {b : Nat} {f e : Int} {n g : Bool} {N : Nat} (h : σ b = some (dec f n e g N)) : Num σ b 3 g N := ⟨_, h, rfl⟩
theorem num_big {σ : Sg} {b : Nat} {g : Bool} {N : Nat} (h : σ b = some (big g N)) : Num σ b 0 g N := ⟨_, h, rfl⟩
theorem num_int {σ : Sg} {b : Nat} {g : Bool} {N : Nat} (h : σ b = some (int g N)) : Num σ b 0 g N := ⟨_, h, rfl⟩
theorem Num.put {σ : Sg} {b o : Nat} {g : Bool} {N : Nat} (h : Num σ b o g N) (g' : Bool) (N' : Nat) : Num (put σ b o g' N') b o g' N' := by
  obtain ⟨it, h1, h2⟩ := h
  rw [put_upd h1]
  exact ⟨_, upd_eq _ _ _, It.num_put h2 _ _⟩
theorem Num.put_ne {σ : Sg} {b o c p : Nat} {g g1 : Bool} {N N1 : Nat} (h : Num σ b o g N) (hc : Num σ c p g1 N1) (hne : ¬ (b = c ∧ o = p)) (g' : Bool) (N' : Nat) : Num (Go.Proofs.YtgdpljjmnmapmaaGreatDoor.put σ c p g' N') b o g N := by
  obtain ⟨it, h1, h2⟩ := h
  obtain ⟨jt, h3, h4⟩ := hc
  rw [put_upd h3]
  by_cases e : b = c
  · subst e
    rw [h1] at h3
    cases h3
    exact ⟨_, upd_eq _ _ _, by rw [It.num_put_ne h4 _ _ (fun e => hne ⟨rfl, e⟩)]; exact h2⟩
  · exact ⟨it, by rw [upd_ne _ _ e]; exact h1, h2⟩
theorem Num.uniq {σ : Sg} {b o : Nat} {g g' : Bool} {N N' : Nat} (h : Num σ b o g N) (h' : Num σ b o g' N') : g = g' ∧ N = N' := by
  obtain ⟨it, h1, h2⟩ := h
  obtain ⟨jt, h3, h4⟩ := h'
  rw [h1] at h3; cases h3
  rw [h2] at h4; cases h4
  exact ⟨rfl, rfl⟩
/-- Signs stay where words are stored. -/
theorem Num.sign {σ : Sg} {b o c p : Nat} {g g1 : Bool} {N N1 : Nat} (h : Num σ b o g N) (hc : Num σ c p g1 N1) (N' : Nat) : ∃ N2, Num (Go.Proofs.YtgdpljjmnmapmaaGreatDoor.put σ c p g1 N') b o g N2 := by
  by_cases e : b = c ∧ o = p
  · obtain ⟨rfl, rfl⟩ := e
    obtain ⟨rfl, rfl⟩ := h.uniq hc
    exact ⟨_, h.put _ _⟩
  · exact ⟨N, h.put_ne hc e _ _⟩
theorem put_put {σ : Sg} {b o : Nat} {g : Bool} {N : Nat} (h : Num σ b o g N) (g1 g2 : Bool) (N1 N2 : Nat) : put (put σ b o g1 N1) b o g2 N2 = put σ b o g2 N2 := by
  obtain ⟨it, h1, h2⟩ := h
  rw [put_upd h1, put_upd (upd_eq _ _ _), upd_upd, It.put_put h2, put_upd h1]
theorem put_self {σ : Sg} {b o : Nat} {g : Bool} {N : Nat} (h : Num σ b o g N) : put σ b o g N = σ := by
  obtain ⟨it, h1, h2⟩ := h
  rw [put_upd h1, It.put_self h2, upd_self h1]

/-- Memory since w0 holds σ; the words of each number lie in a block of their own. -/
structure HoldS (w0 w : World) (σ : Sg) (st : Nat → Nat → Option Nat) : Prop where
  chg : Chg w0 w (fun _ => False)
  glob : Glob w0
  it : ∀ b it, σ b = some it → w0.heap.size ≤ b ∧ it.holds w b (st b)
  sto : ∀ b o g N k, Num σ b o g N → st b o = some k → w0.heap.size ≤ k ∧ σ k = none
  inj : ∀ b o g N b' o' g' N' k, Num σ b o g N → Num σ b' o' g' N' → st b o = some k → st b' o' = some k → b = b' ∧ o = o'
def Hold (w0 w : World) (σ : Sg) : Prop := ∃ st, HoldS w0 w σ st

theorem It.holds.lt {it : It} {w : World} {b : Nat} {s : Nat → Option Nat} (h : it.holds w b s) : b < w.heap.size := by
  rcases h with ⟨_, v, h, _⟩ | ⟨_, h⟩ <;> exact ltB h
theorem It.num_lt {it : It} {o : Nat} {p : Bool × Nat} (h : it.num o = some p) : it.k < 4 := by
  rcases It.num_cases h with h | h | h | h | h <;> omega
theorem It.holds.num {it : It} {w : World} {b o : Nat} {g : Bool} {N : Nat} {s : Nat → Option Nat} (h : it.holds w b s) (hn : it.num o = some (g, N)) : ∃ v : Nat → Value, w.heap[b]? = some (.cells (it.cells v) it.ty (0, 0)) ∧ (∀ o g N, it.num o = some (g, N) → IsNat w (v o) N (s o)) := by
  have := It.num_lt hn
  rcases h with ⟨_, v, h⟩ | ⟨h, _⟩
  · exact ⟨v, h⟩
  · omega
theorem It.holds.chg {it : It} {w w' : World} {b : Nat} {s : Nat → Option Nat} {S : Nat → Prop} (h : it.holds w b s) (hc : Chg w w' S) (hb : ¬ S b) (hs : ∀ o g N k, it.num o = some (g, N) → s o = some k → ¬ S k) : it.holds w' b s := by
  rcases h with ⟨h1, v, h2, h3⟩ | ⟨h1, h2⟩
  · exact .inl ⟨h1, v, hc.heapB h2 hb, fun o g N ho => (h3 o g N ho).chg hc (fun k hk => hs o g N k ho hk)⟩
  · exact .inr ⟨h1, hc.heapB h2 hb⟩
theorem HoldS.lt {w0 w : World} {σ : Sg} {st : Nat → Nat → Option Nat} (h : HoldS w0 w σ st) {b : Nat} {it : It} (hb : σ b = some it) : b < w.heap.size := (h.it b it hb).2.lt
theorem HoldS.stlt {w0 w : World} {σ : Sg} {st : Nat → Nat → Option Nat} (h : HoldS w0 w σ st) {b o k : Nat} {g : Bool} {N : Nat} (hn : Num σ b o g N) (hk : st b o = some k) : k < w.heap.size := by
  obtain ⟨it, h1, h2⟩ := hn
  obtain ⟨v, _, hv⟩ := (h.it b it h1).2.num h2
  have := hv o g N h2
  rw [hk] at this
  exact this.lt

/-- What a place holds turns, and nothing else. -/
theorem HoldS.turn {w0 w w' : World} {σ : Sg} {st : Nat → Nat → Option Nat} (h : HoldS w0 w σ st) {b o : Nat} {g g' : Bool} {N N' : Nat} {s' : Option Nat} {it : It} (hb : σ b = some it) (hn : it.num o = some (g, N))
    (hc : Chg w w' (fun k => k = b ∨ some k = st b o)) (hh : ∃ v : Nat → Value, w'.heap[b]? = some (.cells ((it.put o g' N').cells v) it.ty (0, 0)) ∧ IsNat w' (v o) N' s' ∧ ∀ o1 g1 N1, o1 ≠ o → it.num o1 = some (g1, N1) → IsNat w' (v o1) N1 (st b o1))
    (hs : s' = st b o ∨ s' = none ∨ ∃ k, s' = some k ∧ w.heap.size ≤ k) : Hold w0 w' (put σ b o g' N') := by
  have hN : Num σ b o g N := ⟨it, hb, hn⟩
  have hlt := h.lt hb
  have hcs := h.chg.size
  refine ⟨fun c p => if c = b ∧ p = o then s' else st c p, ?_⟩
  -- a number of the new state
  have old : ∀ c p g1 N1, Num (put σ b o g' N') c p g1 N1 → ¬ (c = b ∧ p = o) → Num σ c p g1 N1 := by
    rintro c p g1 N1 ⟨jt, hj, hjn⟩ hne
    rw [put_upd hb] at hj
    by_cases e : c = b
    · subst e
      rw [upd_eq] at hj
      cases hj
      rw [It.num_put_ne hn _ _ (fun e => hne ⟨rfl, e⟩)] at hjn
      exact ⟨it, hb, hjn⟩
    · rw [upd_ne _ _ e] at hj
      exact ⟨jt, hj, hjn⟩
  have none_of : ∀ k, σ k = none → put σ b o g' N' k = none := by
    intro k hk
    rw [put_upd hb, upd_ne _ _ (by rintro rfl; rw [hb] at hk; cases hk)]
    exact hk
  have fresh : ∀ k, w.heap.size ≤ k → σ k = none := by
    intro k hk
    cases hj : σ k with
    | none => rfl
    | some jt => have := h.lt hj; omega
  refine ⟨h.chg.trans (hc.mono (fun k hk hS => .inr ?_)), h.glob, ?_, ?_, ?_⟩
  · rcases hS with rfl | hS
    · exact (h.it _ _ hb).1
    · exact (h.sto b o g N k hN hS.symm).1
  · intro c jt hj
    rw [put_upd hb] at hj
    by_cases e : c = b
    · subst e
      rw [upd_eq] at hj
      cases hj
      refine ⟨(h.it _ _ hb).1, .inl ⟨by rw [It.put_k]; exact It.num_lt hn, ?_⟩⟩
      obtain ⟨v, h1, h2, h3⟩ := hh
      refine ⟨v, by rw [It.put_ty]; exact h1, fun o1 g1 N1 ho1 => ?_⟩
      by_cases e1 : o1 = o
      · subst e1
        rw [It.num_put hn] at ho1
        cases ho1
        simp only [and_self, if_true]
        exact h2
      · rw [It.num_put_ne hn _ _ e1] at ho1
        simp only [e1, and_false, if_false]
        exact h3 o1 g1 N1 e1 ho1
    · rw [upd_ne _ _ e] at hj
      have hcd : (fun p => if c = b ∧ p = o then s' else st c p) = st c := by funext p; rw [if_neg (fun h => e h.1)]
      rw [hcd]
      refine ⟨(h.it _ _ hj).1, (h.it _ _ hj).2.chg hc ?_ ?_⟩
      · rintro (h1 | h1)
        · exact e h1
        · have := (h.sto b o g N c hN h1.symm).2
          rw [hj] at this; cases this
      · rintro p g1 N1 k hp hk (h1 | h1)
        · subst h1
          have := (h.sto c p g1 N1 k ⟨jt, hj, hp⟩ hk).2
          rw [hb] at this; cases this
        · exact e (h.inj c p g1 N1 b o g N k ⟨jt, hj, hp⟩ hN hk h1.symm).1
  · intro c p g1 N1 k hcn hk
    by_cases e : c = b ∧ p = o
    · rw [if_pos e] at hk
      rcases hs with h1 | h1 | ⟨k2, h1, h2⟩
      · rw [h1] at hk
        exact ⟨(h.sto b o g N k hN hk).1, none_of k (h.sto b o g N k hN hk).2⟩
      · rw [h1] at hk; cases hk
      · rw [h1] at hk; cases hk
        exact ⟨by omega, none_of _ (fresh _ h2)⟩
    · rw [if_neg e] at hk
      have h1 := h.sto c p g1 N1 k (old c p g1 N1 hcn e) hk
      exact ⟨h1.1, none_of k h1.2⟩
  · intro c p g1 N1 c' p' g2 N2 k h1 h2 hk hk'
    by_cases e : c = b ∧ p = o
    · by_cases e' : c' = b ∧ p' = o
      · exact ⟨e.1.trans e'.1.symm, e.2.trans e'.2.symm⟩
      · rw [if_pos e] at hk
        rw [if_neg e'] at hk'
        have h3 := old c' p' g2 N2 h2 e'
        rcases hs with h4 | h4 | ⟨k2, h4, h5⟩
        · rw [h4] at hk
          have := h.inj b o g N c' p' g2 N2 k hN h3 hk hk'
          exact absurd ⟨this.1.symm, this.2.symm⟩ e'
        · rw [h4] at hk; cases hk
        · rw [h4] at hk; cases hk
          have := h.stlt h3 hk'
          omega
    · rw [if_neg e] at hk
      have h3 := old c p g1 N1 h1 e
      by_cases e' : c' = b ∧ p' = o
      · rw [if_pos e'] at hk'
        rcases hs with h4 | h4 | ⟨k2, h4, h5⟩
        · rw [h4] at hk'
          have := h.inj c p g1 N1 b o g N k h3 hN hk hk'
          exact absurd this e
        · rw [h4] at hk'; cases hk'
        · rw [h4] at hk'; cases hk'
          have := h.stlt h3 hk
          omega
      · rw [if_neg e'] at hk'
        exact h.inj c p g1 N1 c' p' g2 N2 k h3 (old c' p' g2 N2 h2 e') hk hk'

theorem Hold.keep {w0 w w' : World} {σ : Sg} (h : Hold w0 w σ) (hc : Chg w w' (fun _ => False)) : Hold w0 w' σ := by
  obtain ⟨st, h⟩ := h
  exact ⟨st, h.chg.trans (hc.mono (fun _ _ h => h.elim)), h.glob, fun b it hb => ⟨(h.it b it hb).1, (h.it b it hb).2.chg hc (fun h => h) (fun _ _ _ _ _ _ h => h)⟩, h.sto, h.inj⟩
theorem Hold.drew {w0 w : World} {σ : Sg} (h : Hold w0 w σ) : Hold w0 w.drew σ := h.keep (Chg.refl w _).drew
theorem Hold.drewN {w0 w : World} {σ : Sg} (h : Hold w0 w σ) (n : Nat) : Hold w0 (w.drewN n) σ := h.keep ((Chg.refl w _).drewN n)
theorem Hold.start {w : World} (hG : Glob w) : Hold w w (fun _ => none) :=
  ⟨fun _ _ => none, Chg.refl w _, hG, fun _ _ h => (by cases h), (fun _ _ _ _ _ ⟨_, h, _⟩ => by cases h), (fun _ _ _ _ _ _ _ _ _ ⟨_, h, _⟩ => by cases h)⟩
theorem Hold.sub {w0 w : World} {σ τ : Sg} (h : Hold w0 w σ) (hs : ∀ b it, τ b = some it → σ b = some it) : Hold w0 w τ := by
  obtain ⟨st, h⟩ := h
  have hn : ∀ b o g N, Num τ b o g N → Num σ b o g N := fun b o g N ⟨it, h1, h2⟩ => ⟨it, hs b it h1, h2⟩
  refine ⟨st, h.chg, h.glob, fun b it hb => h.it b it (hs b it hb), fun b o g N k hb hk => ?_, fun b o g N b' o' g' N' k h1 h2 => h.inj b o g N b' o' g' N' k (hn _ _ _ _ h1) (hn _ _ _ _ h2)⟩
  have h1 := h.sto b o g N k (hn _ _ _ _ hb) hk
  refine ⟨h1.1, ?_⟩
  cases hk2 : τ k with
  | none => rfl
  | some jt => rw [hs k jt hk2] at h1; cases h1.2
theorem Hold.chg {w0 w : World} {σ : Sg} (h : Hold w0 w σ) : Chg w0 w (fun _ => False) := by
  obtain ⟨st, h⟩ := h; exact h.chg
theorem Hold.glob {w0 w : World} {σ : Sg} (h : Hold w0 w σ) : Glob w := by
  obtain ⟨st, h⟩ := h; exact h.glob.chg h.chg (fun _ _ h => h)
theorem Hold.lt {w0 w : World} {σ : Sg} (h : Hold w0 w σ) {b : Nat} {it : It} (hb : σ b = some it) : w0.heap.size ≤ b ∧ b < w.heap.size := by
  obtain ⟨st, h⟩ := h; exact ⟨(h.it b it hb).1, h.lt hb⟩
theorem Hold.fresh {w0 w : World} {σ : Sg} (h : Hold w0 w σ) {k : Nat} (hk : w.heap.size ≤ k) : σ k = none := by
  cases hj : σ k with
  | none => rfl
  | some jt => have := (h.lt hj).2; omega
/-- A new block comes in. -/
theorem Hold.add {w0 w w' : World} {σ : Sg} (h : Hold w0 w σ) (hc : Chg w w' (fun _ => False)) {k : Nat} {it : It} {s : Nat → Option Nat} (hk : w.heap.size ≤ k) (hh : it.holds w' k s)
    (hs : ∀ o g N b, it.num o = some (g, N) → s o = some b → w.heap.size ≤ b ∧ b ≠ k) (hi : ∀ o g N o' g' N' b, it.num o = some (g, N) → it.num o' = some (g', N') → s o = some b → s o' = some b → o = o') : Hold w0 w' (upd σ k it) := by
  have hf := h.fresh hk
  have hfr := fun b hb => h.fresh (k := b) hb
  obtain ⟨st, h⟩ := h
  have hcs := h.chg.size
  refine ⟨fun c p => if c = k then s p else st c p, h.chg.trans (hc.mono (fun _ _ h => h.elim)), h.glob, ?_, ?_, ?_⟩
  · intro b jt hb
    by_cases e : b = k
    · subst e
      rw [upd_eq] at hb; cases hb
      refine ⟨by omega, ?_⟩
      rw [show (fun p => if b = b then s p else st b p) = s by funext p; rw [if_pos rfl]]
      exact hh
    · rw [upd_ne _ _ e] at hb
      rw [show (fun p => if b = k then s p else st b p) = st b by funext p; rw [if_neg e]]
      exact ⟨(h.it b jt hb).1, (h.it b jt hb).2.chg hc (fun h => h) (fun _ _ _ _ _ _ h => h)⟩
  · rintro b o g N c ⟨jt, hb, hn⟩ hst
    by_cases e : b = k
    · subst e
      rw [upd_eq] at hb; cases hb
      rw [if_pos rfl] at hst
      have h1 := hs o g N c hn hst
      exact ⟨by omega, by rw [upd_ne _ _ h1.2]; exact hfr c h1.1⟩
    · rw [upd_ne _ _ e] at hb
      rw [if_neg e] at hst
      have h1 := h.sto b o g N c ⟨jt, hb, hn⟩ hst
      have h2 := h.stlt ⟨jt, hb, hn⟩ hst
      exact ⟨h1.1, by rw [upd_ne _ _ (by omega)]; exact h1.2⟩
  · rintro b o g N b' o' g' N' c ⟨jt, hb, hn⟩ ⟨jt', hb', hn'⟩ hst hst'
    by_cases e : b = k
    · subst e
      rw [upd_eq] at hb; cases hb
      rw [if_pos rfl] at hst
      have h1 := hs o g N c hn hst
      by_cases e' : b' = b
      · subst e'
        rw [upd_eq] at hb'; cases hb'
        rw [if_pos rfl] at hst'
        exact ⟨rfl, hi _ _ _ _ _ _ _ hn hn' hst hst'⟩
      · rw [upd_ne _ _ e'] at hb'
        rw [if_neg e'] at hst'
        have := h.stlt ⟨jt', hb', hn'⟩ hst'
        omega
    · rw [upd_ne _ _ e] at hb
      rw [if_neg e] at hst
      by_cases e' : b' = k
      · subst e'
        rw [upd_eq] at hb'; cases hb'
        rw [if_pos rfl] at hst'
        have h1 := hs o' g' N' c hn' hst'
        have := h.stlt ⟨jt, hb, hn⟩ hst
        omega
      · rw [upd_ne _ _ e'] at hb'
        rw [if_neg e'] at hst'
        exact h.inj b o g N b' o' g' N' c ⟨jt, hb, hn⟩ ⟨jt', hb', hn'⟩ hst hst'

/-- A place laid open: its cells, its words, and what a new number there makes of it. -/
theorem Hold.opened {w0 w : World} {σ : Sg} (h : Hold w0 w σ) {b o : Nat} {g : Bool} {N : Nat} (hn : Num σ b o g N) :
    ∃ v s cs T, w.heap[b]? = some (.cells cs T (0, 0)) ∧ T ≠ 133 ∧ cs[o]? = some (.bool g) ∧ cs[o + 1]? = some v ∧ IsNat w v N s ∧ (∀ k, s = some k → k ≠ b ∧ w0.heap.size ≤ k ∧ ∀ c it, σ c = some it → k ≠ c) ∧
      (∀ w' v' N' s', Chg w w' (fun k => some k = s) → IsNat w' v' N' s' → (s' = s ∨ s' = none ∨ ∃ k, s' = some k ∧ w.heap.size ≤ k) → Hold w0 (w'.setCell ⟨b, o + 1, none⟩ v') (put σ b o g N')) ∧
      (∀ g', Hold w0 (w.setCell ⟨b, o, none⟩ (.bool g')) (put σ b o g' N)) := by
  obtain ⟨st, h⟩ := h
  have hN := hn
  obtain ⟨it, hb, hio⟩ := hn
  obtain ⟨v, h1, h2⟩ := (h.it b it hb).2.num hio
  obtain ⟨c1, c2, _⟩ := It.cells_at hio v
  have hsb : ∀ k, st b o = some k → k ≠ b ∧ w0.heap.size ≤ k ∧ ∀ c it, σ c = some it → k ≠ c := by
    intro k hk
    have hno := (h.sto b o g N k hN hk)
    exact ⟨(by rintro rfl; rw [hb] at hno; cases hno.2), hno.1, (by rintro c it hc rfl; rw [hc] at hno; cases hno.2)⟩
  have hsep : ∀ o1 g1 N1, o1 ≠ o → it.num o1 = some (g1, N1) → ∀ k, st b o1 = some k → k ≠ b ∧ some k ≠ st b o := by
    intro o1 g1 N1 hne hno k hk
    refine ⟨?_, ?_⟩
    · rintro rfl
      have := (h.sto _ o1 g1 N1 _ ⟨it, hb, hno⟩ hk).2
      rw [hb] at this; cases this
    · intro e
      exact hne (h.inj b o1 g1 N1 b o g N k ⟨it, hb, hno⟩ hN hk e.symm).2
  refine ⟨v o, st b o, _, _, h1, It.ty_ne it, c1, c2, h2 o g N hio, hsb, ?_, ?_⟩
  · intro w' v' N' s' hc hv' hs'
    have hbk : w'.heap[b]? = some (.cells (it.cells v) it.ty (0, 0)) := hc.heapB h1 (fun e => (hsb b e.symm).1 rfl)
    have hbs : s' ≠ some b := by
      intro e
      rcases hs' with h3 | h3 | ⟨k, h3, h4⟩
      · exact (hsb b (h3 ▸ e)).1 rfl
      · rw [h3] at e; cases e
      · rw [h3] at e; cases e; have := ltB h1; omega
    refine h.turn hb hio ((hc.mono (fun _ _ h => .inr h)).trans ((chg_setB w' b (o + 1) v').mono (fun _ _ h => .inl (.inl h)))) ⟨fun k => if k = o then v' else v k, ?_, ?_, ?_⟩ hs'
    · rw [← It.cells_abs hio v v' N']
      exact setB hbk
    · simp only [if_true]
      exact hv'.setCell b (o + 1) v' hbs
    · intro o1 g1 N1 hne hno
      simp only [if_neg hne]
      refine ((h2 o1 g1 N1 hno).chg hc (fun k hk e => (hsep o1 g1 N1 hne hno k hk).2 e)).setCell b (o + 1) v' (fun e => (hsep o1 g1 N1 hne hno b e).1 rfl)
  · intro g'
    refine h.turn (s' := st b o) hb hio ((chg_setB w b o (.bool g')).mono (fun _ _ h => .inl h)) ⟨v, ?_, ?_, ?_⟩ (.inl rfl)
    · rw [← It.cells_neg hio v g']
      exact setB h1
    · exact (h2 o g N hio).setCell b o _ (fun e => (hsb b e).1 rfl)
    · intro o1 g1 N1 hne hno
      exact (h2 o1 g1 N1 hno).setCell b o _ (fun e => (hsep o1 g1 N1 hne hno b e).1 rfl)

/-- A write that leaves a block's cells as they are. -/
theorem Hold.same {w0 w : World} {σ : Sg} (h : Hold w0 w σ) {b i : Nat} {v : Value} {cs : Array Value} {T : TypeId} (hb : w.heap[b]? = some (.cells cs T (0, 0))) (hv : cs.setIfInBounds i v = cs) : Hold w0 (w.setCell ⟨b, i, none⟩ v) σ := by
  have hc : Chg w (w.setCell ⟨b, i, none⟩ v) (fun _ => False) := by
    refine ⟨rfl, rfl, rfl, by rw [World.size_setCell]; exact Nat.le_refl _, fun k _ _ => ?_⟩
    by_cases e : k = b
    · subst e
      rw [hb, setB hb, hv]
    · exact Below.heap_setCell _ _ _ _ e
  exact h.keep hc
theorem Hold.minus {w0 w : World} {σ : Sg} (h : Hold w0 w σ) {b o : Nat} {it : It} {g : Bool} {N : Nat} (hb : σ b = some it) (hn : it.num o = some (g, N)) (hk : it.k ≠ 2) : w.frozen? ⟨b, o + 2, none⟩ = false ∧ w.cell? ⟨b, o + 2, none⟩ = some (.bool false) ∧ Hold w0 (w.setCell ⟨b, o + 2, none⟩ (.bool false)) σ := by
  have h' := h
  obtain ⟨st, h⟩ := h
  obtain ⟨v, h1, _⟩ := (h.it b it hb).2.num hn
  obtain ⟨_, _, h3⟩ := It.cells_at hn v
  rcases h3 with h3 | h3
  · exact absurd h3 hk
  · exact ⟨frozenB h1 _, cellB h1 h3, h'.same h1 (It.cells_minus hn hk v)⟩
/-- A decimal laid open. -/
theorem Hold.decAt {w0 w : World} {σ : Sg} (h : Hold w0 w σ) {b : Nat} {f e : Int} {n g : Bool} {N : Nat} (hb : σ b = some (dec f n e g N)) :
    ∃ v s, w.heap[b]? = some (.cells #[.int .i8 f, .bool n, .int .i32 e, .bool g, v, .bool false] 64 (0, 0)) ∧ IsNat w v N s := by
  obtain ⟨st, h⟩ := h
  obtain ⟨v, h1, h2⟩ := (h.it b _ hb).2.num (o := 3) (g := g) (N := N) rfl
  exact ⟨v 3, st b 3, h1, h2 3 g N rfl⟩
theorem Hold.c0 {w0 w : World} {σ : Sg} (h : Hold w0 w σ) {b : Nat} {f e : Int} {n g : Bool} {N : Nat} (hb : σ b = some (dec f n e g N)) : w.cell? ⟨b, 0, none⟩ = some (.int .i8 f) := by obtain ⟨v, s, h1, _⟩ := h.decAt hb; exact cellB h1 rfl
theorem Hold.c1 {w0 w : World} {σ : Sg} (h : Hold w0 w σ) {b : Nat} {f e : Int} {n g : Bool} {N : Nat} (hb : σ b = some (dec f n e g N)) : w.cell? ⟨b, 1, none⟩ = some (.bool n) := by obtain ⟨v, s, h1, _⟩ := h.decAt hb; exact cellB h1 rfl
theorem Hold.c2 {w0 w : World} {σ : Sg} (h : Hold w0 w σ) {b : Nat} {f e : Int} {n g : Bool} {N : Nat} (hb : σ b = some (dec f n e g N)) : w.cell? ⟨b, 2, none⟩ = some (.int .i32 e) := by obtain ⟨v, s, h1, _⟩ := h.decAt hb; exact cellB h1 rfl
theorem Hold.fz {w0 w : World} {σ : Sg} (h : Hold w0 w σ) {b : Nat} {f e : Int} {n g : Bool} {N : Nat} (hb : σ b = some (dec f n e g N)) (i : Nat) : w.frozen? ⟨b, i, none⟩ = false := by obtain ⟨v, s, h1, _⟩ := h.decAt hb; exact frozenB h1 i
theorem Hold.raw {w0 w : World} {σ : Sg} (h : Hold w0 w σ) {b : Nat} {o : Obj} (hb : σ b = some (raw o)) : w.heap[b]? = some o := by
  obtain ⟨st, h⟩ := h
  rcases (h.it b _ hb).2 with ⟨h1, _⟩ | ⟨_, h1⟩
  · exact absurd h1 (Nat.not_lt.2 (Nat.le_refl 4))
  · exact h1
/-- A field of a decimal is stored. -/
theorem Hold.setDec {w0 w : World} {σ : Sg} (h : Hold w0 w σ) {b i : Nat} {f e f' e' : Int} {n n' g : Bool} {N : Nat} {x : Value} (hb : σ b = some (dec f n e g N))
    (hx : ∀ v, (#[.int .i8 f, .bool n, .int .i32 e, .bool g, v, .bool false] : Array Value).setIfInBounds i x = #[.int .i8 f', .bool n', .int .i32 e', .bool g, v, .bool false]) : Hold w0 (w.setCell ⟨b, i, none⟩ x) (upd σ b (dec f' n' e' g N)) := by
  obtain ⟨st, h⟩ := h
  have hn : Num σ b 3 g N := num_dec hb
  obtain ⟨v, h1, h2⟩ := (h.it b _ hb).2.num (o := 3) (g := g) (N := N) rfl
  have hsz : (w.setCell ⟨b, i, none⟩ x).heap.size = w.heap.size := World.size_setCell _ _ _
  have hc := chg_setB w b i x
  have old : ∀ c p g1 N1, Num (upd σ b (dec f' n' e' g N)) c p g1 N1 → Num σ c p g1 N1 := by
    rintro c p g1 N1 ⟨jt, hj, hjn⟩
    by_cases e : c = b
    · subst e
      rw [upd_eq] at hj; cases hj
      refine ⟨_, hb, ?_⟩
      rcases It.num_cases hjn with ⟨_, rfl, hp⟩ | ⟨hk, _⟩ | ⟨hk, _⟩ | ⟨hk, _⟩ | ⟨hk, _⟩
      · exact hp ▸ rfl
      all_goals exact absurd hk (Nat.ne_of_beq_eq_false rfl)
    · rw [upd_ne _ _ e] at hj
      exact ⟨jt, hj, hjn⟩
  refine ⟨st, h.chg.trans (hc.mono (fun k _ e => .inr (by subst e; exact (h.it _ _ hb).1))), h.glob, ?_, ?_, ?_⟩
  · intro c jt hj
    by_cases e : c = b
    · subst e
      rw [upd_eq] at hj; cases hj
      refine ⟨(h.it _ _ hb).1, .inl ⟨Nat.le_of_ble_eq_true rfl, v, ?_, ?_⟩⟩
      · have h3 := setB (i := i) (v := x) h1
        rw [show (dec f n e g N).cells v = #[.int .i8 f, .bool n, .int .i32 e, .bool g, v 3, .bool false] from rfl, hx] at h3
        exact h3
      · intro o g1 N1 ho
        rcases It.num_cases ho with ⟨_, rfl, hp⟩ | ⟨hk, _⟩ | ⟨hk, _⟩ | ⟨hk, _⟩ | ⟨hk, _⟩
        · cases hp
          refine (h2 3 g N rfl).setCell c i x (fun e => ?_)
          have := (h.sto c 3 g N c hn e).2
          rw [hb] at this; cases this
        all_goals exact absurd hk (Nat.ne_of_beq_eq_false rfl)
    · rw [upd_ne _ _ e] at hj
      refine ⟨(h.it _ _ hj).1, (h.it _ _ hj).2.chg hc e ?_⟩
      rintro p g1 N1 k hp hk rfl
      have := (h.sto c p g1 N1 _ ⟨jt, hj, hp⟩ hk).2
      rw [hb] at this; cases this
  · intro c p g1 N1 k hcn hk
    have h3 := h.sto c p g1 N1 k (old _ _ _ _ hcn) hk
    exact ⟨h3.1, by rw [upd_ne _ _ (by rintro rfl; rw [hb] at h3; cases h3.2)]; exact h3.2⟩
  · intro c p g1 N1 c' p' g2 N2 k h3 h4 hk hk'
    exact h.inj c p g1 N1 c' p' g2 N2 k (old _ _ _ _ h3) (old _ _ _ _ h4) hk hk'
theorem Hold.setForm {w0 w : World} {σ : Sg} (h : Hold w0 w σ) {b : Nat} {f e : Int} {n g : Bool} {N : Nat} (hb : σ b = some (dec f n e g N)) (f' : Int) : Hold w0 (w.setCell ⟨b, 0, none⟩ (.int .i8 f')) (upd σ b (dec f' n e g N)) := h.setDec hb (fun _ => rfl)
theorem Hold.setSign {w0 w : World} {σ : Sg} (h : Hold w0 w σ) {b : Nat} {f e : Int} {n g : Bool} {N : Nat} (hb : σ b = some (dec f n e g N)) (n' : Bool) : Hold w0 (w.setCell ⟨b, 1, none⟩ (.bool n')) (upd σ b (dec f n' e g N)) := h.setDec hb (fun _ => rfl)
theorem Hold.setExp {w0 w : World} {σ : Sg} (h : Hold w0 w σ) {b : Nat} {f e : Int} {n g : Bool} {N : Nat} (hb : σ b = some (dec f n e g N)) (e' : Int) : Hold w0 (w.setCell ⟨b, 2, none⟩ (.int .i32 e')) (upd σ b (dec f n e' g N)) := h.setDec hb (fun _ => rfl)
/-- New blocks of numbers that are 0. -/
theorem Hold.newDec {w0 w : World} {σ : Sg} (h : Hold w0 w σ) (f e : Int) (n : Bool) : Hold w0 (w.alloc (.cells #[.int .i8 f, .bool n, .int .i32 e, .bool false, .slice none 0 0, .bool false] 64 (0, 0))) (upd σ w.heap.size (dec f n e false 0)) := by
  refine h.add (s := fun _ => none) ((Chg.refl w _).alloc _) (Nat.le_refl _) (.inl ⟨Nat.le_of_ble_eq_true rfl, fun _ => .slice none 0 0, allocB _ _, fun o g N ho => ?_⟩) (fun _ _ _ _ _ h => by cases h) (fun _ _ _ _ _ _ _ _ _ h => by cases h)
  rcases It.num_cases ho with ⟨_, rfl, hp⟩ | ⟨hk, _⟩ | ⟨hk, _⟩ | ⟨hk, _⟩ | ⟨hk, _⟩
  · cases hp; exact IsNat.zero _
  all_goals exact absurd hk (Nat.ne_of_beq_eq_false rfl)
theorem Hold.newBig {w0 w : World} {σ : Sg} (h : Hold w0 w σ) : Hold w0 (w.alloc (.cells #[.bool false, .slice none 0 0, .bool false] 62 (0, 0))) (upd σ w.heap.size (big false 0)) := by
  refine h.add (s := fun _ => none) ((Chg.refl w _).alloc _) (Nat.le_refl _) (.inl ⟨Nat.le_of_ble_eq_true rfl, fun _ => .slice none 0 0, allocB _ _, fun o g N ho => ?_⟩) (fun _ _ _ _ _ h => by cases h) (fun _ _ _ _ _ _ _ _ _ h => by cases h)
  rcases It.num_cases ho with ⟨hk, _⟩ | ⟨_, rfl, hp⟩ | ⟨hk, _⟩ | ⟨hk, _⟩ | ⟨hk, _⟩
  · exact absurd hk (Nat.ne_of_beq_eq_false rfl)
  · cases hp; exact IsNat.zero _
  all_goals exact absurd hk (Nat.ne_of_beq_eq_false rfl)
theorem Hold.newInt {w0 w : World} {σ : Sg} (h : Hold w0 w σ) : Hold w0 (w.alloc (.cells #[.bool false, .slice none 0 0] 60 (0, 0))) (upd σ w.heap.size (int false 0)) := by
  refine h.add (s := fun _ => none) ((Chg.refl w _).alloc _) (Nat.le_refl _) (.inl ⟨Nat.le_of_ble_eq_true rfl, fun _ => .slice none 0 0, allocB _ _, fun o g N ho => ?_⟩) (fun _ _ _ _ _ h => by cases h) (fun _ _ _ _ _ _ _ _ _ h => by cases h)
  rcases It.num_cases ho with ⟨hk, _⟩ | ⟨hk, _⟩ | ⟨_, rfl, hp⟩ | ⟨hk, _⟩ | ⟨hk, _⟩
  · exact absurd hk (Nat.ne_of_beq_eq_false rfl)
  · exact absurd hk (Nat.ne_of_beq_eq_false rfl)
  · cases hp; exact IsNat.zero _
  all_goals exact absurd hk (Nat.ne_of_beq_eq_false rfl)
theorem Hold.newTv {w0 w : World} {σ : Sg} (h : Hold w0 w σ) (d : Int) : Hold w0 (w.alloc (.cells #[.int .i64 d, .bool false, .slice none 0 0, .bool false, .bool false, .slice none 0 0, .bool false] 155 (0, 0))) (upd σ w.heap.size (tv d false 0 false 0)) := by
  refine h.add (s := fun _ => none) ((Chg.refl w _).alloc _) (Nat.le_refl _) (.inl ⟨Nat.le_of_ble_eq_true rfl, fun _ => .slice none 0 0, allocB _ _, fun o g N ho => ?_⟩) (fun _ _ _ _ _ h => by cases h) (fun _ _ _ _ _ _ _ _ _ h => by cases h)
  rcases It.num_cases ho with ⟨hk, _⟩ | ⟨hk, _⟩ | ⟨hk, _⟩ | ⟨_, rfl, hp⟩ | ⟨_, rfl, hp⟩
  · exact absurd hk (Nat.ne_of_beq_eq_false rfl)
  · exact absurd hk (Nat.ne_of_beq_eq_false rfl)
  · exact absurd hk (Nat.ne_of_beq_eq_false rfl)
  all_goals (cases hp; exact IsNat.zero _)
theorem Hold.newRaw {w0 w : World} {σ : Sg} (h : Hold w0 w σ) (o : Obj) : Hold w0 (w.alloc o) (upd σ w.heap.size (Go.Proofs.YtgdpljjmnmapmaaGreatDoor.raw o)) := by
  refine h.add (s := fun _ => none) ((Chg.refl w _).alloc _) (Nat.le_refl _) (.inr ⟨Nat.le_of_ble_eq_true rfl, allocB _ _⟩) (fun _ _ _ _ _ h => by cases h) (fun _ _ _ _ _ _ _ _ _ h => by cases h)
/-- Less is told. -/
def Le (τ σ : Sg) : Prop := ∀ c it, τ c = some it → σ c = some it
theorem Le.refl (σ : Sg) : Le σ σ := fun _ _ h => h
theorem Le.trans {a b c : Sg} (h : Le a b) (h' : Le b c) : Le a c := fun k it hk => h' k it (h k it hk)
theorem Le.skip {τ σ : Sg} {k : Nat} {jt : It} (hk : τ k = none) (h : Le τ σ) : Le τ (upd σ k jt) := fun c it hc => by
  rw [upd_ne _ _ (by rintro rfl; rw [hk] at hc; cases hc)]; exact h c it hc
theorem Le.both {τ σ : Sg} {k : Nat} {jt : It} (h : Le τ σ) : Le (upd τ k jt) (upd σ k jt) := fun c it hc => by
  by_cases e : c = k
  · subst e; rw [upd_eq] at hc ⊢; exact hc
  · rw [upd_ne _ _ e] at hc ⊢; exact h c it hc
theorem Le.put {τ σ : Sg} (h : Le τ σ) (b o : Nat) (g : Bool) (N : Nat) {it : It} (hb : τ b = some it) : Le (Go.Proofs.YtgdpljjmnmapmaaGreatDoor.put τ b o g N) (Go.Proofs.YtgdpljjmnmapmaaGreatDoor.put σ b o g N) := by
  rw [put_upd hb, put_upd (h b it hb)]; exact h.both
theorem Hold.le {w0 w : World} {σ τ : Sg} (h : Hold w0 w σ) (hl : Le τ σ) : Hold w0 w τ := h.sub hl
end Go.Proofs.YtgdpljjmnmapmaaGreatDoor
