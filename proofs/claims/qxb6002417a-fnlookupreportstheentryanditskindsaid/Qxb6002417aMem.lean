/-
  What the memfs laws share: slices that came in, sizes, clones, the model 'lastIndex', a new node.
-/
import Derived.Test.Qxb6002417aCalls
import Derived.ProofKit
import Derived.OpenShut
import Derived.ShutString
import Derived.ChangeOld
namespace Go.Proofs.Qxb6002417a.Mem
open Go.RowKit
set_option linter.unusedVariables false

/-- What the walk is told of a slice of strings: it is empty, or leads to a row of them. -/
def IsStrs (w : World) (ao : Option Addr) (n : Nat) (S : Nat → ByteArray) : Prop :=
  n = 0 ∨ ∃ b off, ao = some ⟨b, off, none⟩ ∧ b < w.heap.size ∧ ∀ j, j < n → w.cell? ⟨b, off + j, none⟩ = some (.string (S j)) ∧ (S j).size ≤ maxLen
def IsModes (w : World) (ao : Option Addr) (n : Nat) (M : Nat → Int) : Prop :=
  n = 0 ∨ ∃ b off, ao = some ⟨b, off, none⟩ ∧ b < w.heap.size ∧ ∀ j, j < n → w.cell? ⟨b, off + j, none⟩ = some (.int .u32 (M j)) ∧ (Lit.int .u32 (M j)).wf = true

theorem IsStrs.below {w w' : World} {ao : Option Addr} {n : Nat} {S : Nat → ByteArray} (h : IsStrs w ao n S) (hb : Below w.heap.size w w') : IsStrs w' ao n S := by
  rcases h with h | ⟨b, off, e, hlt, hc⟩
  · exact .inl h
  · exact .inr ⟨b, off, e, Nat.lt_of_lt_of_le hlt hb.size, fun j hj => ⟨(hb.cell (p := ⟨b, off + j, none⟩) hlt).trans (hc j hj).1, (hc j hj).2⟩⟩
theorem IsModes.below {w w' : World} {ao : Option Addr} {n : Nat} {M : Nat → Int} (h : IsModes w ao n M) (hb : Below w.heap.size w w') : IsModes w' ao n M := by
  rcases h with h | ⟨b, off, e, hlt, hc⟩
  · exact .inl h
  · exact .inr ⟨b, off, e, Nat.lt_of_lt_of_le hlt hb.size, fun j hj => ⟨(hb.cell (p := ⟨b, off + j, none⟩) hlt).trans (hc j hj).1, (hc j hj).2⟩⟩

/-- It hands back a bool, whichever. -/
def SomeBool (e : Ending) : Prop := ∃ x, e = .returned (.bool x)
theorem SomeBool.mk {e : Ending} (x : Bool) (h : e = .returned (.bool x)) : SomeBool e := ⟨x, h⟩

set_option maxHeartbeats 1000000 in
theorem bytes17 (w : World) (ao mo : Option Addr) (n c m d : Nat) (S : Nat → ByteArray) (r : Bool) (s : ByteArray) (hn : n ≤ maxLen) (hm : m ≤ maxLen) (hs : s.size ≤ maxLen) (hS : IsStrs w ao n S) :
    Calls Try.prog 17 #[.slice ao n c, .slice mo m d, .bool r, .string s] w fun e w' => SomeBool e ∧ w = w' := by
  unfold maxLen at hn hm hs
  by_cases hl : 1048576 < n
  · go_enter Try.func17, Try.ntmps17
    go_wp2
    go_ret
    exact ⟨SomeBool.mk _ rfl, rfl⟩
  have hl' : n ≤ 1048576 := by omega
  rcases hS with h0 | ⟨b, off, rfl, hlt, hc⟩
  · have h0' : n ≤ 0 := by omega
    subst h0
    go_enter Try.func17, Try.ntmps17
    go_wp2
    go_loop [9, 10] (fun t i => t = .int .i64 0 ∧ i = .int .i64 0) (fun _ _ => 0)
    case atStart => exact ⟨rfl, rfl⟩
    case round =>
      obtain ⟨rfl, rfl⟩ := hrel
      go_wp2
      all_goals (go_ret; exact ⟨SomeBool.mk _ rfl, rfl⟩)
  · go_enter Try.func17, Try.ntmps17
    go_wp2
    go_loop [9, 10] (fun t i => ∃ k q : Nat, k ≤ n ∧ i = .int .i64 k ∧ t = .int .i64 q ∧ q ≤ 1048576) (fun _ i => n - (intOf i).toNat)
    case atStart => exact ⟨0, n, Nat.zero_le _, rfl, rfl, hl'⟩
    case round =>
      obtain ⟨k, q, hk, rfl, rfl, hq⟩ := hrel
      by_cases hkn : k < n
      · obtain ⟨hck, hsk⟩ := hc k hkn
        unfold maxLen at hsk
        clear hc
        by_cases h1 : 1048576 < (S k).size
        · go_wp2
          go_ret
          exact ⟨SomeBool.mk _ rfl, rfl⟩
        by_cases h2 : 1048576 < q + (S k).size
        · go_wp2
          go_ret
          exact ⟨SomeBool.mk _ rfl, rfl⟩
        · go_wp2
          go_round
          case rel => exact ⟨k + 1, q + (S k).size, by omega, by go_num, by go_num, by omega⟩
          case measure => simp [intOf]; omega
      · clear hc
        go_wp2
        all_goals (go_ret; exact ⟨SomeBool.mk _ rfl, rfl⟩)
end Go.Proofs.Qxb6002417a.Mem
