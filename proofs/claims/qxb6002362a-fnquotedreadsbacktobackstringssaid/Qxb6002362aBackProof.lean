/-
  'Rows.FnQuotedReadsBackToBackStringsSaid': the row's step over the walks of Qxb6002362aBack*.lean.
-/
import Derived.Test.Qxb6002362aBackZ
import Derived.Deep.Strs
namespace Go.Proofs.Qxb6002362a.fnQuotedReadsBackToBackStrings
open Go.ChangeShapes Go.WideShapes Go.ChangeAt Go.RowKit
open Go.ChangeMaps (open_string shut_string)
set_option linter.unusedVariables false

theorem own : ownKnob Try.prog.godebug = none := by kernel_rfl
theorem laidOut : laidOutB Try.prog = true := by kernel_rfl

/-- The walk at whatever slice of strings can be read. -/
theorem walk {H : Type} {enc : TypeId × Value → H} (W : World) (a0 : Option Addr) (n c : Nat) (x : DataW H × List MemPlace) (fuel : Nat)
    (hf : DataW.trod enc Try.prog W 0 (fun _ => true) true fuel 31 [.slice a0 n c] = some x) :
    Calls Try.prog 5 #[.slice a0 n c] W fun e w' => e = .returned (.bool true) ∧ Below W.heap.size W w' := by
  rcases Deep.open_strs Try.underlying31 Try.underlying9 (by kernel_rfl) hf with ⟨hcs, _⟩ | ⟨a, len, cap, m, S, hcs, _, hl, hm, hmm, _, hcell⟩
  · simp at hcs
    obtain ⟨rfl, rfl, rfl⟩ := hcs
    exact Back.zero_nil W 0
  · simp at hcs
    obtain ⟨rfl, rfl, rfl⟩ := hcs
    simp at hmm
    subst hmm
    by_cases hn : n = 0
    · subst hn
      exact Back.zero_some W a m
    · obtain ⟨b, off, spot⟩ := a
      have h0 := (hcell 0 (by omega)).1
      have hspot : spot = none := by simpa [Addr.add] using World.cell?_spot h0
      subst hspot
      have hb : b < W.heap.size := by
        rcases Nat.lt_or_ge b W.heap.size with h | h
        · exact h
        · rw [add_plain] at h0
          simp [World.cell?, Array.getElem?_eq_none h] at h0
      exact Back.phA W S n b off m (by omega) hb (fun j hj => by rw [← add_plain]; exact (hcell j (by omega)).1) (fun j hj => (hcell j (by omega)).2)

set_option maxRecDepth 100000 in
theorem lifted (os : Os) (started : os.Started) (H : Type) (enc : TypeId × Value → H) :
    ReturnsInHanded {} Try.checked os 5 .any (Rows.fnQuotedReadsBackToBackStringsSpec.pre6 enc Try.prog Try.f5 Rows.fnQuotedReadsBackToBackStringsRow.domain false) (Rows.fnQuotedReadsBackToBackStringsSpec.post enc Try.prog Try.f5 false true false false) := by
  refine returnsInHanded_of_change (C := Try.checked) own started (by kernel_rfl) Try.func5
    (ChangeSpec.witness6 (enc := enc) (C := Try.checked) false ⟨#[], #[.slice none 0 0], []⟩ 8 (by kernel_rfl) (by kernel_rfl) (by kernel_rfl) (by kernel_rfl)) ?_
  intro W base args ds gs before hval0 hW hcnd _
  have hval : ∀ (j : Nat) t v, Try.f5.params[j]? = some t → args[j]? = some v → Value.okWide Try.prog W .any base t v := hval0
  have hW' := hW
  obtain ⟨p, q, hA0, hV, rfl, hfz, hnd⟩ := hW
  have hA : DataW.TrodAll enc Try.prog W 0 (fun _ => true) true Try.f5.params.toList args.toList ds p := hA0
  rw [Try.params5] at hA hval
  obtain ⟨v0, vs0, d0, ds0, p0, q0, hargs, rfl, rfl, h0, r0⟩ := trodAll_cons hA
  obtain ⟨rfl, rfl, rfl⟩ := trodAll_nil r0
  obtain rfl : args = #[v0] := by cases args; simp_all
  obtain ⟨rfl, rfl⟩ := trodVars_none hV
  obtain ⟨a0, len0, cap0, rfl⟩ := okWide_slice Try.underlying31 (hval 0 31 v0 rfl rfl)
  have k0 := h0
  have lt0 : ∀ x ∈ p0, x.block < W.heap.size := by obtain ⟨m, hm⟩ := k0; exact DataW.trod_lt m _ _ _ hm
  obtain ⟨fuel, hf⟩ := h0
  clear hA0 hval0
  refine (walk W a0 len0 cap0 _ fuel (by simpa [Value.cells] using hf)).mono fun e W' ⟨he, bel⟩ => ?_
  subst he
  exact ⟨_, rfl, _, _, _, [], _, [], hW', trodAll_mk1 (shut_bool Try.underlying4 _), (trodAll_cons_mk (Below.trod laidOut (by kernel_rfl) (of_decide_eq_true (by kernel_rfl)) k0 bel lt0) trodAll_mk0), rfl, bel.frame _, fun h => by cases h⟩

theorem over : Rows.fnQuotedReadsBackToBackStringsRow.holds Try.pinned (OpenSpec.ofChange Rows.fnQuotedReadsBackToBackStringsSpec) :=
  OpenClaim.holds_of_wide 5 Try.f5 rfl rfl rfl rfl rfl rfl rfl ⟨rfl, rfl, rfl, rfl, rfl⟩ rfl rfl rfl rfl rfl (by kernel_rfl) Try.func5 (by kernel_rfl)
    (of_decide_eq_true (by kernel_rfl)) (by unfold Func.isWrapper; first | (rw [if_pos (by decide +kernel)]; kernel_rfl) | (rw [if_neg (by decide +kernel)]; exact ⟨rfl, rfl⟩))
    (fun os started H enc _ => lifted os started H enc)

/-- THE STATEMENT. -/
theorem proved : Rows.FnQuotedReadsBackToBackStringsSaid :=
  over
#print axioms proved
end Go.Proofs.Qxb6002362a.fnQuotedReadsBackToBackStrings
