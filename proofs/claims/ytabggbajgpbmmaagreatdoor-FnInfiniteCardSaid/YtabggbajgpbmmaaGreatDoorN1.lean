/- nat: norm, make. -/
import Derived.Test.YtabggbajgpbmmaaGreatDoorM1
namespace Go.Proofs.YtabggbajgpbmmaaGreatDoor
open Go Go.RowKit

/-- Noughts at the end are left out. -/
theorem digs_val_cut {L : List Nat} (hL : Wd L) {k : Nat} (hk : k ≤ L.length) (hz : ∀ j, k ≤ j → j < L.length → nth L j = 0) (hl : k = 0 ∨ nth L (k - 1) ≠ 0) : (digs (val L)).length = k := by
  have := digs_take hL hk (fun j h1 h2 => by rw [get_nth h2, hz j h1 h2]) (by
    rcases hl with h | h
    · exact .inl h
    · rcases Nat.eq_zero_or_pos k with h0 | h0
      · exact .inl h0
      · exact .inr ⟨_, get_nth (by omega), h⟩)
  rw [this, List.length_take]; omega

set_option maxHeartbeats 400000 in
theorem norm_c (w : World) (b l cap : Nat) (C : List Nat) (hb : Arr w b C) (hl : l ≤ C.length) (hlc : l ≤ cap) (hn : l ≤ 1000000) :
    Calls Tryz.prog 133 #[.slice (some ⟨b, 0, none⟩) l cap] w fun e w' => e = .returned (.slice (some ⟨b, 0, none⟩) (digs (val (C.take l))).length cap) ∧ w = w' := by
  have hL : (C.take l).length = l := by rw [List.length_take]; omega
  replace hL := Lib.hid hL
  go_enter Tryz.func133, Tryz.ntmps133
  go_wp2
  go_loop [3] (fun i => ∃ k : Nat, k ≤ l ∧ i = .int .i64 k ∧ ∀ j, k ≤ j → j < l → nth (C.take l) j = 0) (fun i => (intOf i).toNat)
  case atStart => exact ⟨l, Nat.le_refl _, rfl, fun j h1 h2 => by omega⟩
  case round =>
    obtain ⟨k, hk, rfl, hz⟩ := hrel
    replace hz := Lib.hid hz
    by_cases hk0 : k = 0
    · subst hk0
      go_wp2
      go_ret
      have := digs_val_cut (hb.wd.take l) (k := 0) (Nat.zero_le _) (fun j h1 h2 => hz.out j h1 (by rw [hL.out] at h2; exact h2)) (.inl rfl)
      exact ⟨by rw [this]; rfl, rfl⟩
    · obtain ⟨j, rfl⟩ : ∃ j, k = j + 1 := ⟨k - 1, by omega⟩
      have hcell := hb.cellN (i := j) (by omega)
      have hnt : nth (C.take l) j = nth C j := nth_take (by omega)
      by_cases h0 : nth C j = 0
      · rw [h0] at hcell
        replace h0 := Lib.hid h0
        replace hnt := Lib.hid hnt
        go_wp2
        go_round
        case rel =>
          refine ⟨j, by omega, rfl, fun i h1 h2 => ?_⟩
          by_cases e : i = j
          · subst e; rw [hnt.out, h0.out]
          · exact hz.out i (by omega) h2
        case measure => simp [intOf]
      · have e0 : ((nth C j : Int) == 0) = false := by simp; omega
        replace h0 := Lib.hid h0
        replace hnt := Lib.hid hnt
        go_wp2
        go_ret
        have := digs_val_cut (hb.wd.take l) (k := j + 1) (by rw [hL.out]; omega) (fun i h1 h2 => hz.out i h1 (by rw [hL.out] at h2; exact h2)) (.inr (by rw [Nat.add_sub_cancel, hnt.out]; exact h0.out))
        exact ⟨by rw [this]; rfl, rfl⟩

theorem makeZ : (Tryz.prog.info? 128).map (fun i => (i.zero, i.size, i.bytes)) = some (some (.int .u64 0), 1, 8) := by kernel_rfl

/-- A new block of noughts. -/
def zeroObj (c : Nat) : Obj := .cells ((List.replicate c 0).map uw).toArray 128 (0, 0)
theorem arr_zero (w : World) (c : Nat) : Arr (w.alloc (zeroObj c)) w.heap.size (List.replicate c 0) := by
  refine ⟨?_, Wd.zeros c⟩
  show (w.heap.push _)[w.heap.size]? = _
  rw [Array.getElem?_push, if_pos rfl]; rfl
theorem run_makeW (w : World) {l c : Int} {l' c' : Nat} (hl : l = l') (hc : c = c') (hlc : l' ≤ c') (hcap : c' ≤ 1000000) (T : TypeId) (hT : Tryz.prog.underlying T = some (.slice 128)) :
    (Instr.makeSlice T (.int .i64 l) (.int .i64 c)).run Tryz.prog w = .ok (.slice (some ⟨w.heap.size, 0, none⟩) l' c') (w.alloc (zeroObj c')) := by
  have h := makeZ
  cases hi : Tryz.prog.info? 128 with
  | none => rw [hi] at h; cases h
  | some i =>
    rw [hi] at h
    simp only [Option.map_some, Option.some.injEq, Prod.mk.injEq] at h
    obtain ⟨h1, h2, h3⟩ := h
    subst hl hc
    rw [run_make (P := Tryz.prog) w T 128 i (.int .u64 0) hT hi h1 .i64 .i64 l' c' (by omega) (by omega) (by rw [h3]; omega) (by omega)]
    simp only [Int.toNat_natCast]
    have e : madeCells (Value.int .u64 0).cells (c' * i.size) = ((List.replicate c' 0).map uw).toArray := by
      rw [h2, Nat.mul_one]
      unfold madeCells
      apply Array.ext
      · simp
      · intro j h1 h2
        simp [Value.cells, uw]
        have : j % 1 = 0 := Nat.mod_one j
        simp [Nat.mod_one]
    unfold zeroObj
    rw [e]

/-- A place of n words: in the old block, or in a new one. -/
def MakeRes (w w' : World) (o : Option Nat) (r : Value) (n : Nat) : Prop :=
  ∃ b cap C, r = .slice (some ⟨b, 0, none⟩) n cap ∧ Arr w' b C ∧ C.length = cap ∧ n ≤ cap ∧ (0 < cap ∧ cap ≤ 1000000) ∧ ((o = some b ∧ w' = w) ∨ w.heap.size = b) ∧ Chg w w' (fun _ => False)

set_option maxHeartbeats 400000 in
theorem make_c (w : World) (z : Value) (o : Option Nat) (hz : Stor w z o) (n : Nat) (hn0 : 0 < n) (hn : n ≤ 1000) :
    Calls Tryz.prog 153 #[z, .int .i64 n] w fun e w' => ∃ r, e = .returned r ∧ MakeRes w w' o r n := by
  have hz' : ∃ p l c, z = .slice p l c ∧ l ≤ c ∧ c ≤ 1000000 ∧ (n ≤ c → ∃ b C, p = some ⟨b, 0, none⟩ ∧ o = some b ∧ Arr w b C ∧ C.length = c) := by
    rcases hz with ⟨rfl, rfl⟩ | ⟨b, l, cap, C, rfl, rfl, hl, ha, hc, hcap⟩
    · exact ⟨none, 0, 0, rfl, Nat.le_refl _, by omega, fun h => by omega⟩
    · exact ⟨_, l, cap, rfl, hl, hcap.2, fun _ => ⟨b, C, rfl, rfl, ha, hc⟩⟩
  obtain ⟨p, l, c, rfl, hl, hc, hp⟩ := hz'
  by_cases h : n ≤ c
  · obtain ⟨b, C, rfl, rfl, ha, hC⟩ := hp h
    clear hz hp
    go_enter Tryz.func153, Tryz.ntmps153
    go_wp2
    go_ret
    exact ⟨_, rfl, b, c, C, rfl, ha, hC, h, ⟨by omega, hc⟩, .inl ⟨rfl, rfl⟩, Chg.refl _ _⟩
  · clear hz hp
    by_cases h1 : n = 1
    · subst h1
      have hmk := fun w => run_makeW w (l := 1) (c := 1) (l' := 1) (c' := 1) rfl rfl (Nat.le_refl _) (by omega) 52 Tryz.underlying52
      go_enter Tryz.func153, Tryz.ntmps153
      go_wp2
      go_ret
      exact ⟨_, rfl, w.heap.size, 1, _, rfl, arr_zero w 1, by simp, by omega, ⟨by omega, by omega⟩, .inr rfl, (Chg.refl _ _).alloc _⟩
    · have e1 : ((n : Int) == 1) = false := by simp; omega
      have hmk := fun w => run_makeW w (l := (n : Int)) (c := (n : Int) + 4) (l' := n) (c' := n + 4) rfl (by omega) (by omega) (by omega) 52 Tryz.underlying52
      go_enter Tryz.func153, Tryz.ntmps153
      go_wp2
      go_ret
      exact ⟨_, rfl, w.heap.size, n + 4, _, rfl, arr_zero w (n + 4), by simp, by omega, ⟨by omega, by omega⟩, .inr rfl, (Chg.refl _ _).alloc _⟩
end Go.Proofs.YtabggbajgpbmmaaGreatDoor
