/- Natural numbers in memory: a slice of words, the last one not 0, at the head of a block of its own. -/
import Derived.Test.YtabggbajgpbmmaaGreatDoorD4
namespace Go.Proofs.YtabggbajgpbmmaaGreatDoor
open Go Go.RowKit

/-- From w to w' only blocks of S have turned, and new ones have come. -/
structure Chg (w w' : World) (S : Nat → Prop) : Prop where
  os : w'.os = w.os
  tape : w'.tape = w.tape
  output : w'.output = w.output
  size : w.heap.size ≤ w'.heap.size
  block : ∀ k, k < w.heap.size → ¬ S k → w'.heap[k]? = w.heap[k]?

theorem Chg.refl (w : World) (S : Nat → Prop) : Chg w w S := ⟨rfl, rfl, rfl, Nat.le_refl _, fun _ _ _ => rfl⟩
theorem Chg.drewN {w w' : World} {S : Nat → Prop} (h : Chg w w' S) (n : Nat) : Chg w (w'.drewN n) S := ⟨h.os, h.tape, h.output, h.size, h.block⟩
theorem Chg.drew {w w' : World} {S : Nat → Prop} (h : Chg w w' S) : Chg w w'.drew S := ⟨h.os, h.tape, h.output, h.size, h.block⟩
theorem Chg.mono {w w' : World} {S T : Nat → Prop} (h : Chg w w' S) (hT : ∀ k, k < w.heap.size → S k → T k) : Chg w w' T :=
  ⟨h.os, h.tape, h.output, h.size, fun k hk hn => h.block k hk (fun hs => hn (hT k hk hs))⟩
theorem Chg.trans {a b c : World} {S : Nat → Prop} (h : Chg a b S) (h' : Chg b c (fun k => S k ∨ a.heap.size ≤ k)) : Chg a c S :=
  ⟨h'.os.trans h.os, h'.tape.trans h.tape, h'.output.trans h.output, Nat.le_trans h.size h'.size,
    fun k hk hn => (h'.block k (Nat.lt_of_lt_of_le hk h.size) (fun hs => hs.elim hn (fun h2 => absurd hk (Nat.not_lt.2 h2)))).trans (h.block k hk hn)⟩
theorem Chg.alloc {w w' : World} {S : Nat → Prop} (h : Chg w w' S) (o : Obj) : Chg w (w'.alloc o) S :=
  ⟨h.os, h.tape, h.output, by rw [World.size_alloc]; have := h.size; omega, fun k hk hn => by rw [Below.heap_alloc _ _ _ (Nat.lt_of_lt_of_le hk h.size)]; exact h.block k hk hn⟩
theorem Sub.chg {w w' : World} {b : Nat} {C : List Nat} (h : Sub w w' b C) : Chg w w' (· = b) := ⟨h.os, h.tape, h.output, by rw [h.size]; exact Nat.le_refl _, fun k _ hn => h.block k hn⟩
theorem Chg.arr {w w' : World} {S : Nat → Prop} {b : Nat} {C : List Nat} (h : Chg w w' S) (ha : Arr w b C) (hn : ¬ S b) : Arr w' b C := ⟨by rw [h.block b ha.lt hn]; exact ha.heap, ha.wd⟩

/-- As large as a block may be here. -/
def CAP : Nat := 1000000

/-- A place for a number: nothing, or a slice at the head of a block of words (o: the block). -/
def Stor (w : World) (v : Value) (o : Option Nat) : Prop :=
  (v = .slice none 0 0 ∧ o = none) ∨ ∃ b l cap C, o = some b ∧ v = .slice (some ⟨b, 0, none⟩) l cap ∧ l ≤ cap ∧ Arr w b C ∧ C.length = cap ∧ (0 < cap ∧ cap ≤ 1000000)

/-- The number N as a slice (o: its block). -/
def IsNat (w : World) (v : Value) (N : Nat) (o : Option Nat) : Prop :=
  (v = .slice none 0 0 ∧ N = 0 ∧ o = none) ∨
    ∃ b cap C, o = some b ∧ v = .slice (some ⟨b, 0, none⟩) (digs N).length cap ∧ Arr w b C ∧ C.length = cap ∧ (0 < cap ∧ cap ≤ 1000000) ∧ C.take (digs N).length = digs N

theorem take_len_le {C L : List Nat} (h : C.take L.length = L) : L.length ≤ C.length := by
  have := congrArg List.length h
  rw [List.length_take] at this; omega
theorem IsNat.stor {w : World} {v : Value} {N : Nat} {o : Option Nat} (h : IsNat w v N o) : Stor w v o := by
  rcases h with ⟨rfl, _, rfl⟩ | ⟨b, cap, C, rfl, rfl, ha, hc, hcap, ht⟩
  · exact .inl ⟨rfl, rfl⟩
  · exact .inr ⟨b, _, cap, C, rfl, rfl, by rw [← hc]; exact take_len_le ht, ha, hc, hcap⟩
theorem IsNat.zero (w : World) : IsNat w (.slice none 0 0) 0 none := .inl ⟨rfl, rfl, rfl⟩
theorem IsNat.chg {w w' : World} {v : Value} {N : Nat} {o : Option Nat} {S : Nat → Prop} (h : IsNat w v N o) (hc : Chg w w' S) (hn : ∀ b, o = some b → ¬ S b) : IsNat w' v N o := by
  rcases h with h | ⟨b, cap, C, rfl, rfl, ha, hc1, hcap, ht⟩
  · exact .inl h
  · exact .inr ⟨b, cap, C, rfl, rfl, hc.arr ha (hn b rfl), hc1, hcap, ht⟩
theorem Stor.chg {w w' : World} {v : Value} {o : Option Nat} {S : Nat → Prop} (h : Stor w v o) (hc : Chg w w' S) (hn : ∀ b, o = some b → ¬ S b) : Stor w' v o := by
  rcases h with h | ⟨b, l, cap, C, rfl, rfl, hl, ha, hc1, hcap⟩
  · exact .inl h
  · exact .inr ⟨b, l, cap, C, rfl, rfl, hl, hc.arr ha (hn b rfl), hc1, hcap⟩
theorem IsNat.lt {w : World} {v : Value} {N : Nat} {b : Nat} (h : IsNat w v N (some b)) : b < w.heap.size := by
  rcases h with ⟨_, _, h⟩ | ⟨b', cap, C, h, _, ha, _⟩
  · cases h
  · cases h; exact ha.lt
theorem Stor.lt {w : World} {v : Value} {b : Nat} (h : Stor w v (some b)) : b < w.heap.size := by
  rcases h with ⟨_, h⟩ | ⟨b', l, cap, C, h, _, _, ha, _⟩
  · cases h
  · cases h; exact ha.lt
/-- The parts of a number's slice: its pointer, its capacity. -/
theorem IsNat.shape {w : World} {v : Value} {N : Nat} {o : Option Nat} (h : IsNat w v N o) : ∃ p cap, v = .slice p (digs N).length cap ∧ (digs N).length ≤ cap ∧ cap ≤ 1000000 := by
  rcases h with ⟨rfl, rfl, _⟩ | ⟨b, cap, C, rfl, rfl, ha, hc1, hcap, ht⟩
  · exact ⟨none, 0, by simp [digs_zero], by simp [digs_zero], by omega⟩
  · exact ⟨_, cap, rfl, by rw [← hc1]; exact take_len_le ht, hcap.2⟩
/-- A number that is not 0. -/
theorem IsNat.pos {w : World} {v : Value} {N : Nat} {o : Option Nat} (h : IsNat w v N o) (h0 : N ≠ 0) :
    ∃ b cap C, o = some b ∧ v = .slice (some ⟨b, 0, none⟩) (digs N).length cap ∧ Arr w b C ∧ C.length = cap ∧ (0 < cap ∧ cap ≤ 1000000) ∧ C.take (digs N).length = digs N ∧ (digs N).length ≤ C.length ∧ 0 < (digs N).length := by
  rcases h with ⟨_, h, _⟩ | ⟨b, cap, C, rfl, rfl, ha, hc1, hcap, ht⟩
  · exact absurd h h0
  · exact ⟨b, cap, C, rfl, rfl, ha, hc1, hcap, ht, take_len_le ht, Nat.pos_of_ne_zero (fun e => h0 (digs_len_eq_zero.1 e))⟩

/-- What a function on numbers hands back that may use the place o: the number N. -/
def NatRes (w w' : World) (o : Option Nat) (r : Value) (N : Nat) : Prop :=
  ∃ o', IsNat w' r N o' ∧ (o' = o ∨ o' = none ∨ ∃ b, o' = some b ∧ w.heap.size ≤ b) ∧ Chg w w' (fun k => some k = o)

/-- Out of words that are known. -/
theorem isNat_of {w : World} {b l cap : Nat} {C : List Nat} (ha : Arr w b C) (hc : C.length = cap) (hcap : 0 < cap ∧ cap ≤ 1000000) (hl : l ≤ cap) :
    IsNat w (.slice (some ⟨b, 0, none⟩) (digs (val (C.take l))).length cap) (val (C.take l)) (some b) := by
  refine .inr ⟨b, cap, C, rfl, rfl, ha, hc, hcap, ?_⟩
  -- the words of a value stand at its head
  have key : ∀ L : List Nat, Wd L → L.take (digs (val L)).length = digs (val L) := by
    intro L hL
    have h1 := val_digs (val L)
    have h2 : (digs (val L)).length ≤ L.length := digs_len_le.2 (val_lt hL)
    have e : L = digs (val L) ++ List.replicate (L.length - (digs (val L)).length) 0 := by
      refine val_inj hL ((Wd_digs _).append (Wd.zeros _)) (by simp; omega) ?_
      rw [val_append_zeros, h1]
    conv => lhs; rw [e]
    rw [List.take_append_of_le_length (by
      conv => lhs; rw [← e]
      exact Nat.le_refl _)]
    conv => lhs; rw [← e]
    rw [List.take_length]
  have h3 := key (C.take l) (ha.wd.take l)
  rw [List.take_take] at h3
  have h4 : (digs (val (C.take l))).length ≤ l := by
    have := digs_len_le.2 (val_lt (ha.wd.take l))
    rw [List.length_take] at this; omega
  rw [Nat.min_eq_left h4] at h3
  exact h3

end Go.Proofs.YtabggbajgpbmmaaGreatDoor
