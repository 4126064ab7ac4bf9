/-
  A row of the call's own that is filled from the left: 'Fill w B N P f': block B has N cells that may be written; the first P hold f 0, f 1, ..
-/
import Derived.Test.Qxb6002417aMem
namespace Go.Proofs.Qxb6002417a.Mem
open Go.RowKit

def Fill (w : World) (B N P : Nat) (f : Nat → Value) : Prop :=
  (∀ i, i < N → (∃ v, w.cell? ⟨B, i, none⟩ = some v) ∧ w.frozen? ⟨B, i, none⟩ = false) ∧ ∀ i, i < P → w.cell? ⟨B, i, none⟩ = some (f i)

theorem Fill.start {w : World} {base e B N : Nat} {xs : List Value} (f : Nat → Value) (h : w.ownsRow base e 1 (.slice (some ⟨B, 0, none⟩) N N) N xs) : Fill w B N 0 f := by
  refine ⟨fun i hi => ⟨?_, h.frozenAt i⟩, fun i hi => by omega⟩
  have hx : xs.length = N * 1 := h.1
  exact ⟨xs[i]'(by omega), by rw [h.cellAt i (by omega), List.getElem?_eq_getElem]⟩

theorem Fill.step {w : World} {B N P : Nat} {f : Nat → Value} (h : Fill w B N P f) (hP : P < N) (v : Value) (hv : v = f P) : Fill (w.setCell ⟨B, P, none⟩ v) B N (P + 1) f := by
  obtain ⟨h1, h2⟩ := h
  obtain ⟨⟨u, hu⟩, hf⟩ := h1 P hP
  have hsame : (w.setCell ⟨B, P, none⟩ v).cell? ⟨B, P, none⟩ = some v := World.cell?_setCell_same _ _ _ hu
  have hother : ∀ i, i ≠ P → (w.setCell ⟨B, P, none⟩ v).cell? ⟨B, i, none⟩ = w.cell? ⟨B, i, none⟩ := fun i hi => World.cell?_setCell_other _ _ _ _ (fun e => hi (Addr.mk.inj e).2.1.symm)
  refine ⟨fun i hi => ⟨?_, ?_⟩, fun i hi => ?_⟩
  · by_cases e : i = P
    · subst e; exact ⟨_, hsame⟩
    · rw [hother i e]; exact (h1 i hi).1
  · rw [World.frozen?_setCell]; exact (h1 i hi).2
  · by_cases e : i = P
    · subst e; rw [hsame, hv]
    · rw [hother i e]; exact h2 i (by omega)

theorem Fill.cell {w : World} {B N P : Nat} {f : Nat → Value} (h : Fill w B N P f) (i : Nat) (hi : i < N) : ∃ v, w.cell? ⟨B, i, none⟩ = some v := (h.1 i hi).1
theorem Fill.free {w : World} {B N P : Nat} {f : Nat → Value} (h : Fill w B N P f) (i : Nat) (hi : i < N) : w.frozen? ⟨B, i, none⟩ = false := (h.1 i hi).2

theorem own_lt {w : World} {base e B N : Nat} {xs : List Value} (h : w.ownsRow base e 1 (.slice (some ⟨B, 0, none⟩) N N) N xs) : B < w.heap.size := by
  rcases h.2 with ⟨h', _⟩ | ⟨g', cap', cur, h', _, hg, _⟩
  · simp at h'
  · simp only [Value.slice.injEq, Option.some.injEq, Addr.mk.injEq, and_true, true_and] at h'
    obtain ⟨rfl, rfl⟩ := h'
    exact (Array.getElem?_eq_some_iff.1 hg).1

end Go.Proofs.Qxb6002417a.Mem
