/- nat: alias, mul, sqr. -/
import Derived.Test.YtabggbajgpbmmaaGreatDoorN6
namespace Go.Proofs.YtabggbajgpbmmaaGreatDoor
open Go Go.RowKit

theorem run_eql_ptr_other {P : Program} {w : World} {tp te : TypeId} {j : TypeInfo} {a b : Addr} {ca cb : Array Value} {ta tb : TypeId} (hp : P.underlying tp = some (.pointer te)) (hte : P.info? te = some j) (hsz : j.size ≠ 0)
    (hne : a ≠ b) (ha : w.heap[a.block]? = some (.cells ca ta (0, 0))) (hb : w.heap[b.block]? = some (.cells cb tb (0, 0))) :
    (binOp .eql tp (.pointer (some a)) (.pointer (some b))).run P w = .ok (.bool false) w := by
  have h : ∀ d : Nat, (Op.equalIn (d + 1) tp (.pointer (some a)) (.pointer (some b))).run P w = .ok false w := fun d => by
    simp [Op.equalIn, run_underlying hp, sizeOf, typeInfo, hte, hsz, run_sameAddr_other w hne ha hb]
  simp only [binOp]
  simp [Op.equal, Op.maxDepth, h 9999]
theorem run_eql_ptr_same {P : Program} {w : World} {tp te : TypeId} {j : TypeInfo} (a : Addr) (hp : P.underlying tp = some (.pointer te)) (hte : P.info? te = some j) :
    (binOp .eql tp (.pointer (some a)) (.pointer (some a))).run P w = .ok (.bool true) w := by
  have h : ∀ d : Nat, (Op.equalIn (d + 1) tp (.pointer (some a)) (.pointer (some a))).run P w = .ok true w := fun d => by
    simp [Op.equalIn, run_underlying hp, sizeOf, typeInfo, hte, run_sameAddr_same]
  simp only [binOp]
  simp [Op.equal, Op.maxDepth, h 9999]
theorem eql_word_ptr {w : World} {bz oz bx ox : Nat} {Cz Cx : List Nat} (hz : Arr w bz Cz) (hx : Arr w bx Cx) (hne : bx ≠ bz) (n : Nat) :
    (binOp .eql 202 (.pointer (some ⟨bz, oz, none⟩)) (.pointer (some ⟨bx, ox, none⟩))).run Tryz.prog (w.drewN n) = .ok (.bool false) (w.drewN n) := by
  obtain ⟨j, hj, hs⟩ := infoWj
  exact run_eql_ptr_other Tryz.underlying202 hj hs (fun e => hne (congrArg Addr.block e).symm) (hz.drewN n).heap (hx.drewN n).heap
theorem eql_word_ptr_same {w : World} (a : Addr) (n : Nat) : (binOp .eql 202 (.pointer (some a)) (.pointer (some a))).run Tryz.prog (w.drewN n) = .ok (.bool true) (w.drewN n) := by
  obtain ⟨j, hj, hs⟩ := infoWj
  exact run_eql_ptr_same a Tryz.underlying202 hj

set_option maxRecDepth 100000 in
set_option maxHeartbeats 1000000 in
theorem alias_c (w : World) (x y : Value) (ox oy : Option Nat) (hx : Stor w x ox) (hy : Stor w y oy) :
    Calls Tryz.prog 167 #[x, y] w fun e w' => e = .returned (.bool (decide (ox = oy ∧ ox ≠ none))) ∧ ∃ n, w' = w.drewN n := by
  rcases hx with ⟨rfl, rfl⟩ | ⟨bx, lx, cx, Cx, rfl, rfl, hlx, hax, hcx, hcapx⟩
  · obtain ⟨py, ly, cy, rfl⟩ : ∃ p l c, y = .slice p l c := by
      rcases hy with ⟨rfl, _⟩ | ⟨b, l, cap, C, _, rfl, _⟩
      · exact ⟨_, _, _, rfl⟩
      · exact ⟨_, _, _, rfl⟩
    clear hy
    go_enter Tryz.func167, Tryz.ntmps167
    go_wp2
    go_quiet (fail)
    go_wp2
    go_ret
    exact ⟨by simp, _, rfl⟩
  · rcases hy with ⟨rfl, rfl⟩ | ⟨by_, ly, cy, Cy, rfl, rfl, hly, hay, hcy, hcapy⟩
    · obtain ⟨h1, h2⟩ := hcapx
      go_enter Tryz.func167, Tryz.ntmps167
      go_wp2
      go_quiet (fail)
      go_wp2
      go_ret
      exact ⟨by simp, _, rfl⟩
    · obtain ⟨h1, h2⟩ := hcapx
      obtain ⟨h3, h4⟩ := hcapy
      obtain ⟨d, rfl⟩ : ∃ d, cx = d + 1 := ⟨cx - 1, by omega⟩
      obtain ⟨d', rfl⟩ : ∃ d, cy = d + 1 := ⟨cy - 1, by omega⟩
      clear hlx hly h1 h3
      by_cases he : bx = by_
      · subst he
        obtain rfl := hax.inj hay
        obtain rfl : d = d' := by omega
        have hp := eql_word_ptr_same (w := w) ⟨bx, d, none⟩
        go_enter Tryz.func167, Tryz.ntmps167
        go_wp2
        go_quiet (fail)
        go_wp2
        go_ret
        exact ⟨by simp, _, rfl⟩
      · have hp := eql_word_ptr (oz := d) (ox := d') hax hay (Ne.symm he)
        go_enter Tryz.func167, Tryz.ntmps167
        go_wp2
        go_quiet (fail)
        go_wp2
        go_ret
        exact ⟨by simp [he], _, rfl⟩
end Go.Proofs.YtabggbajgpbmmaaGreatDoor
