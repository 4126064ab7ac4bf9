/-
  What a slice of strings, and a slice of uint32, that can be read tells the walk.
-/
import Derived.Test.Qxb6002417aMem
import Derived.Deep.Strs
namespace Go.Proofs.Qxb6002417a.Mem
open Go.ChangeShapes Go.WideShapes Go.ChangeAt Go.RowKit
set_option linter.unusedVariables false

theorem block_lt {W : World} {b o : Nat} {v : Value} (h : W.cell? ⟨b, o, none⟩ = some v) : b < W.heap.size := by
  rcases Nat.lt_or_ge b W.heap.size with h' | h'
  · exact h'
  · simp [World.cell?, Array.getElem?_eq_none h'] at h

theorem strs_of {H : Type} {enc : TypeId × Value → H} {W : World} {a0 : Option Addr} {n c fuel : Nat} {x : DataW H × List MemPlace}
    (hf : DataW.trod enc Try.prog W 0 (fun _ => true) true fuel 30 [.slice a0 n c] = some x) : n ≤ maxLen ∧ ∃ S, IsStrs W a0 n S := by
  rcases Deep.open_strs Try.underlying30 Try.underlying9 (by kernel_rfl) hf with ⟨hcs, _⟩ | ⟨a, len, cap, m, S, hcs, _, hl, hm, hmm, _, hcell⟩
  · simp at hcs
    obtain ⟨rfl, rfl, rfl⟩ := hcs
    exact ⟨Nat.zero_le _, fun _ => ByteArray.empty, .inl rfl⟩
  · simp at hcs
    obtain ⟨rfl, rfl, rfl⟩ := hcs
    simp at hmm
    subst hmm
    refine ⟨Nat.le_trans hl hm, S, ?_⟩
    by_cases hn : n = 0
    · exact .inl hn
    · obtain ⟨b, off, spot⟩ := a
      have h0 := (hcell 0 (by omega)).1
      have hspot : spot = none := by simpa [Addr.add] using World.cell?_spot h0
      subst hspot
      rw [add_plain] at h0
      exact .inr ⟨b, off, rfl, block_lt h0, fun j hj => ⟨by rw [← add_plain]; exact (hcell j (by omega)).1, (hcell j (by omega)).2⟩⟩

theorem modes_of {H : Type} {enc : TypeId × Value → H} {W : World} {a0 : Option Addr} {n c fuel : Nat} {x : DataW H × List MemPlace}
    (hf : DataW.trod enc Try.prog W 0 (fun _ => true) true fuel 31 [.slice a0 n c] = some x) : n ≤ maxLen ∧ ∃ M, IsModes W a0 n M := by
  rcases open_ints Try.underlying31 Try.underlying44 (by kernel_rfl) hf with ⟨hcs, _⟩ | ⟨a, l, cap, zs, hcs, _, hl, hm, hz, _, hcell, hwz⟩
  · simp at hcs
    obtain ⟨rfl, rfl, rfl⟩ := hcs
    exact ⟨Nat.zero_le _, fun _ => 0, .inl rfl⟩
  · simp at hcs
    obtain ⟨rfl, rfl, rfl⟩ := hcs
    have hz' : zs.length = c := by simpa using hz
    refine ⟨Nat.le_trans hl hm, fun j => zs.getD j 0, ?_⟩
    by_cases hn : n = 0
    · exact .inl hn
    · obtain ⟨b, off, spot⟩ := a
      have h0 := hcell 0 (by omega)
      have hspot : spot = none := by simpa [Addr.add] using World.cell?_spot h0
      subst hspot
      rw [add_plain] at h0
      refine .inr ⟨b, off, rfl, block_lt h0, fun j hj => ⟨by rw [← add_plain]; exact hcell j (by omega), ?_⟩⟩
      have hj' : j < zs.length := by omega
      have e : zs.getD j 0 = zs[j] := by simp [List.getD, List.getElem?_eq_getElem hj']
      show (Lit.int .u32 (zs.getD j 0)).wf = true
      rw [e]
      exact hwz _ (List.getElem_mem hj')
end Go.Proofs.Qxb6002417a.Mem
