/-
  The walk of FnCheckElemExactSpec.
-/
import Derived.Test.Qxb6002417aCalls
import Derived.ProofKit
import Derived.OpenShut
import Derived.ShutString
import Derived.ChangeOld
namespace Go.Proofs.Qxb6002417a.Elem
open Go.RowKit
set_option linter.unusedVariables false

set_option maxHeartbeats 400000 in
theorem bytes13 (s : ByteArray) (w : World) (h : s.size ≤ 1048576) :
    Calls Try.prog 13 #[.string s] w fun e w' => e = .returned (.bool true) ∧ w = w' := by
  go_enter Try.func13, Try.ntmps13
  go_wp2
  go_ret
  exact ⟨rfl, rfl⟩

set_option maxHeartbeats 400000 in
theorem walk_long (s : ByteArray) (w : World) (hs : s.size ≤ maxLen) (h : 1048576 < s.size) :
    Calls Try.prog 4 #[.string s] w fun e w' => e = .returned (.bool true) ∧ Below w.heap.size w w' := by
  unfold maxLen at hs
  go_enter Try.func4, Try.ntmps4
  go_wp2_with (go_at_call 13; go_in)
  go_ret
  exact ⟨rfl, Below.refl _ _⟩

set_option maxHeartbeats 400000 in
theorem walk_nul (s : ByteArray) (w : World) (h : s.size ≤ 1048576) (hq : Hid (hasB s.data.toList 0 = true)) :
    Calls Try.prog 4 #[.string s] w fun e w' => e = .returned (.bool true) ∧ Below w.heap.size w w' := by
  go_enter Try.func4, Try.ntmps4
  go_wp2_with (first | (go_at_call 13; refine (bytes13 _ _ h).mono ?_; rintro e w' ⟨rfl, rfl⟩) | (go_at_call 9; refine (nul_at _ _ _ (by unfold maxLen; omega) hq).mono ?_; rintro e w' ⟨rfl, rfl⟩) | (go_at_call 14; refine (elem_nul _ _ hq).mono ?_; rintro e w' ⟨rfl, rfl⟩))
  go_ret
  exact ⟨rfl, Below.refl _ _⟩

set_option maxHeartbeats 400000 in
theorem walk_over (s : ByteArray) (w : World) (h : s.size ≤ 1048576) (h2 : 255 < s.size) (hq : Hid (hasB s.data.toList 0 = false)) :
    Calls Try.prog 4 #[.string s] w fun e w' => e = .returned (.bool true) ∧ Below w.heap.size w w' := by
  go_enter Try.func4, Try.ntmps4
  go_wp2_with (first | (go_at_call 13; refine (bytes13 _ _ h).mono ?_; rintro e w' ⟨rfl, rfl⟩) | (go_at_call 9; refine (nul_at _ _ _ (by unfold maxLen; omega) hq).mono ?_; rintro e w' ⟨rfl, rfl⟩) | (go_at_call 14; refine (elem_long _ _ hq h2).mono ?_; rintro e w' ⟨rfl, rfl⟩))
  go_ret
  exact ⟨rfl, Below.refl _ _⟩

set_option maxRecDepth 100000 in
set_option maxHeartbeats 400000 in
theorem walk_ok (s : ByteArray) (w : World) (h2 : s.size ≤ 255) (hq : Hid (hasB s.data.toList 0 = false)) :
    Calls Try.prog 4 #[.string s] w fun e w' => e = .returned (.bool true) ∧ Below w.heap.size w w' := by
  have hd : decide ((s.size : Int) ≤ 255) = true := decide_eq_true (by omega)
  go_enter Try.func4, Try.ntmps4
  go_wp2_with (first | (go_at_call 13; refine (bytes13 _ _ (by omega)).mono ?_; rintro e w' ⟨rfl, rfl⟩) | (go_at_call 9; refine (nul_at _ _ _ (by unfold maxLen; omega) hq).mono ?_; rintro e w' ⟨rfl, rfl⟩) | (go_at_call 14; refine (elem_ok _ _ hq h2).mono ?_; rintro e w' ⟨rfl, rfl⟩))
  refine (name_ok _ _ hq (by omega)).mono ?_
  rintro e w' ⟨rfl, rfl⟩
  go_wp2_with fail
  refine (name_ok _ _ (by show hasB _ 0 = false; rw [hasB_cons]; exact hq.out) (by rw [size_cons]; omega)).mono ?_
  rintro e w' ⟨rfl, rfl⟩
  go_wp2_with fail
  go_ret
  exact ⟨rfl, Below.refl _ _⟩

theorem walk (s : ByteArray) (hs : s.size ≤ maxLen) (w : World) :
    Calls Try.prog 4 #[.string s] w fun e w' => e = .returned (.bool true) ∧ Below w.heap.size w w' := by
  by_cases h : 1048576 < s.size
  · exact walk_long s w hs h
  cases hq : hasB s.data.toList 0 with
  | true => exact walk_nul s w (by omega) hq
  | false =>
    by_cases h2 : 255 < s.size
    · exact walk_over s w (by omega) h2 hq
    · exact walk_ok s w (by omega) hq
end Go.Proofs.Qxb6002417a.Elem
