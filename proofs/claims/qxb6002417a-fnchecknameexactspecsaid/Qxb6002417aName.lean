/-
  The walk of FnCheckNameExactSpec.
-/
import Derived.Test.Qxb6002417aCalls
import Derived.ProofKit
import Derived.OpenShut
import Derived.ShutString
import Derived.ChangeOld
namespace Go.Proofs.Qxb6002417a.Nm
open Go.RowKit
set_option linter.unusedVariables false

set_option maxHeartbeats 400000 in
theorem bytes8 (s : ByteArray) (w : World) (h : s.size ≤ 1048576) :
    Calls Try.prog 8 #[.string s] w fun e w' => e = .returned (.bool true) ∧ w = w' := by
  go_enter Try.func8, Try.ntmps8
  go_wp2
  go_ret
  exact ⟨rfl, rfl⟩

theorem rlen_yes (s : ByteArray) (w : World) (h : s.size ≤ 1048576) (hsl : Hid (slashB s = true)) :
    Calls Try.prog 10 #[.string s] w fun e w' => e = .returned (.int .i64 s.size) ∧ w = w' := by
  go_enter Try.func10, Try.ntmps10
  go_wp2_with (go_at_call 27; refine (slash_is _ _ _ hsl).mono ?_; rintro e w' ⟨rfl, rfl⟩)
  go_ret
  exact ⟨rfl, rfl⟩
theorem rlen_no (s : ByteArray) (w : World) (h : s.size ≤ 1048576) (hsl : Hid (slashB s = false)) :
    Calls Try.prog 10 #[.string s] w fun e w' => e = .returned (.int .i64 ((s.size : Int) + 1)) ∧ w = w' := by
  go_enter Try.func10, Try.ntmps10
  go_wp2_with (go_at_call 27; refine (slash_is _ _ _ hsl).mono ?_; rintro e w' ⟨rfl, rfl⟩)
  go_ret
  exact ⟨rfl, rfl⟩
theorem rooted_yes (s : ByteArray) (w : World) (h : s.size ≤ 1048576) (hsl : Hid (slashB s = true)) :
    Calls Try.prog 12 #[.string s] w fun e w' => e = .returned (.string s) ∧ w = w' := by
  go_enter Try.func12, Try.ntmps12
  go_wp2_with (go_at_call 27; refine (slash_is _ _ _ hsl).mono ?_; rintro e w' ⟨rfl, rfl⟩)
  go_ret
  exact ⟨rfl, rfl⟩
theorem rooted_no (s : ByteArray) (w : World) (h : s.size ≤ 1048576) (hsl : Hid (slashB s = false)) :
    Calls Try.prog 12 #[.string s] w fun e w' => e = .returned (.string ({ data := #[47] } ++ s)) ∧ w = w' := by
  go_enter Try.func12, Try.ntmps12
  go_wp2_with (go_at_call 27; refine (slash_is _ _ _ hsl).mono ?_; rintro e w' ⟨rfl, rfl⟩)
  go_ret
  exact ⟨rfl, rfl⟩

/-- The string that CheckName is asked of the second time, and what it answers. -/
theorem rooted_any (s : ByteArray) (w : World) (h : s.size ≤ 1048576) :
    Calls Try.prog 12 #[.string s] w fun e w' => (∃ t : ByteArray, e = .returned (.string t) ∧ Hid (t = if slashB s then s else { data := #[47] } ++ s)) ∧ w = w' := by
  cases hsl : slashB s with
  | true =>
    refine (rooted_yes s w h hsl).mono ?_
    rintro e w' ⟨rfl, rfl⟩
    exact ⟨⟨s, rfl, rfl⟩, rfl⟩
  | false =>
    refine (rooted_no s w h hsl).mono ?_
    rintro e w' ⟨rfl, rfl⟩
    exact ⟨⟨_, rfl, rfl⟩, rfl⟩

set_option maxHeartbeats 400000 in
theorem walk_long (s : ByteArray) (w : World) (hs : s.size ≤ maxLen) (h : 1048576 < s.size) :
    Calls Try.prog 3 #[.string s] w fun e w' => e = .returned (.bool true) ∧ Below w.heap.size w w' := by
  unfold maxLen at hs
  go_enter Try.func3, Try.ntmps3
  go_wp2_with (go_at_call 8; go_in)
  go_ret
  exact ⟨rfl, Below.refl _ _⟩

/-- What CheckName answers: nil. -/
def Ok (s : ByteArray) : Prop := hasB s.data.toList 0 = false ∧ (s.size < 4095 ∨ (s.size = 4095 ∧ slashB s = true))
/-- .. an error. -/
def Bad (s : ByteArray) : Prop := hasB s.data.toList 0 = true ∨ 4096 ≤ s.size ∨ (s.size = 4095 ∧ slashB s = false)

/-- An error, whichever. -/
def SomeErr (e : Ending) : Prop := ∃ k : Int, e = .returned (.iface 48 (.int .u64 k))

theorem name_is_ok (s : ByteArray) (w : World) (h : Ok s) : Calls Try.prog 11 #[.string s] w fun e w' => e = .returned .nilIface ∧ w = w' := by
  obtain ⟨hq, h1 | ⟨h1, h2⟩⟩ := h
  · exact name_ok s w hq h1
  · exact name_edge_ok s w hq h1 h2

theorem name_is_bad (s : ByteArray) (w : World) (h : Bad s) : Calls Try.prog 11 #[.string s] w fun e w' => SomeErr e ∧ w = w' := by
  cases hq : hasB s.data.toList 0 with
  | true =>
    refine (name_nul s w hq).mono ?_
    rintro e w' ⟨rfl, rfl⟩
    exact ⟨⟨_, rfl⟩, rfl⟩
  | false =>
    rcases h with h | h | ⟨h1, h2⟩
    · rw [hq] at h; cases h
    · refine (name_long s w hq h).mono ?_
      rintro e w' ⟨rfl, rfl⟩
      exact ⟨⟨_, rfl⟩, rfl⟩
    · refine (name_edge_bad s w hq h1 h2).mono ?_
      rintro e w' ⟨rfl, rfl⟩
      exact ⟨⟨_, rfl⟩, rfl⟩

theorem rooted_ok {s t : ByteArray} (h : Ok s) (ht : t = if slashB s then s else { data := #[47] } ++ s) : Ok t := by
  obtain ⟨hq, h1⟩ := h
  cases hsl : slashB s with
  | true => rw [hsl] at ht; subst ht; exact ⟨hq, h1⟩
  | false =>
    rw [hsl] at ht h1
    subst ht
    refine ⟨by rw [if_neg (by simp), hasB_cons]; exact hq, ?_⟩
    rw [if_neg (by simp), size_cons, slash_cons]
    have h2 : s.size < 4095 := by
      rcases h1 with h | ⟨_, h⟩
      · exact h
      · cases h
    by_cases h3 : s.size + 1 < 4095
    · exact .inl h3
    · exact .inr ⟨by omega, rfl⟩

theorem rooted_bad {s t : ByteArray} (h : Bad s) (ht : t = if slashB s then s else { data := #[47] } ++ s) : Bad t := by
  cases hsl : slashB s with
  | true => rw [hsl] at ht; subst ht; exact h
  | false =>
    rw [hsl] at ht
    subst ht
    rw [if_neg (by simp)]
    rcases h with h | h | h
    · left; rw [hasB_cons]; exact h
    · right; left; rw [size_cons]; omega
    · right; left; rw [size_cons]; omega

set_option maxRecDepth 100000 in
set_option maxHeartbeats 400000 in
theorem walk_nul (s : ByteArray) (w : World) (h : s.size ≤ 1048576) (hq : Hid (hasB s.data.toList 0 = true)) :
    Calls Try.prog 3 #[.string s] w fun e w' => e = .returned (.bool true) ∧ Below w.heap.size w w' := by
  go_enter Try.func3, Try.ntmps3
  go_wp2_with (first | (go_at_call 8; refine (bytes8 _ _ h).mono ?_; rintro e w' ⟨rfl, rfl⟩) | (go_at_call 9; refine (nul_at _ _ _ (by unfold maxLen; omega) hq).mono ?_; rintro e w' ⟨rfl, rfl⟩))
  refine (name_is_bad s _ (.inl hq.out)).mono ?_
  rintro e w' ⟨⟨k, rfl⟩, rfl⟩
  go_wp2_with fail
  refine (rooted_any s _ h).mono ?_
  rintro e w' ⟨⟨t, rfl, ht⟩, rfl⟩
  go_wp2_with fail
  refine (name_is_bad t _ (rooted_bad (.inl hq.out) ht.out)).mono ?_
  rintro e w' ⟨⟨k2, rfl⟩, rfl⟩
  go_wp2_with fail
  go_ret
  exact ⟨rfl, Below.refl _ _⟩

set_option maxRecDepth 100000 in
set_option maxHeartbeats 400000 in
/-- No zero byte; the length with its slash is n. -/
theorem walk_len (s : ByteArray) (n : Nat) (w : World) (h : s.size ≤ 1048576) (hq : Hid (hasB s.data.toList 0 = false)) (hn : ∀ w, Calls Try.prog 10 #[.string s] w fun e w' => e = .returned (.int .i64 n) ∧ w = w') (hok : (n < 4096 ∧ Ok s) ∨ (4096 ≤ n ∧ Bad s)) :
    Calls Try.prog 3 #[.string s] w fun e w' => e = .returned (.bool true) ∧ Below w.heap.size w w' := by
  have HN : Hid (∀ w, Calls Try.prog 10 #[.string s] w fun e w' => e = .returned (.int .i64 n) ∧ w = w') := hn
  clear hn
  rcases hok with ⟨h1, h2⟩ | ⟨h1, h2⟩
  · have h3 : decide ((n : Int) < 4096) = true := decide_eq_true (by omega)
    go_enter Try.func3, Try.ntmps3
    go_wp2_with (first | (go_at_call 8; refine (bytes8 _ _ h).mono ?_; rintro e w' ⟨rfl, rfl⟩) | (go_at_call 9; refine (nul_at _ _ _ (by unfold maxLen; omega) hq).mono ?_; rintro e w' ⟨rfl, rfl⟩) | (go_at_call 10; refine (HN.out _).mono ?_; rintro e w' ⟨rfl, rfl⟩))
    refine (name_is_ok s _ h2).mono ?_
    rintro e w' ⟨rfl, rfl⟩
    go_wp2_with fail
    refine (rooted_any s _ h).mono ?_
    rintro e w' ⟨⟨t, rfl, ht⟩, rfl⟩
    go_wp2_with fail
    refine (name_is_ok t _ (rooted_ok h2 ht.out)).mono ?_
    rintro e w' ⟨rfl, rfl⟩
    go_wp2_with fail
    go_ret
    exact ⟨rfl, Below.refl _ _⟩
  · have h3 : decide ((n : Int) < 4096) = false := decide_eq_false (by omega)
    go_enter Try.func3, Try.ntmps3
    go_wp2_with (first | (go_at_call 8; refine (bytes8 _ _ h).mono ?_; rintro e w' ⟨rfl, rfl⟩) | (go_at_call 9; refine (nul_at _ _ _ (by unfold maxLen; omega) hq).mono ?_; rintro e w' ⟨rfl, rfl⟩) | (go_at_call 10; refine (HN.out _).mono ?_; rintro e w' ⟨rfl, rfl⟩))
    refine (name_is_bad s _ h2).mono ?_
    rintro e w' ⟨⟨k, rfl⟩, rfl⟩
    go_wp2_with fail
    refine (rooted_any s _ h).mono ?_
    rintro e w' ⟨⟨t, rfl, ht⟩, rfl⟩
    go_wp2_with fail
    refine (name_is_bad t _ (rooted_bad h2 ht.out)).mono ?_
    rintro e w' ⟨⟨k2, rfl⟩, rfl⟩
    go_wp2_with fail
    go_ret
    exact ⟨rfl, Below.refl _ _⟩

theorem walk (s : ByteArray) (hs : s.size ≤ maxLen) (w : World) :
    Calls Try.prog 3 #[.string s] w fun e w' => e = .returned (.bool true) ∧ Below w.heap.size w w' := by
  by_cases h : 1048576 < s.size
  · exact walk_long s w hs h
  have h' : s.size ≤ 1048576 := by omega
  cases hq : hasB s.data.toList 0 with
  | true => exact walk_nul s w h' hq
  | false =>
    cases hsl : slashB s with
    | true =>
      refine walk_len s s.size w h' hq (fun w => rlen_yes s w h' hsl) ?_
      by_cases h2 : s.size < 4096
      · refine .inl ⟨h2, hq, ?_⟩
        by_cases h3 : s.size < 4095
        · exact .inl h3
        · exact .inr ⟨by omega, hsl⟩
      · exact .inr ⟨by omega, .inr (.inl (by omega))⟩
    | false =>
      refine walk_len s (s.size + 1) w h' hq (fun w => ?_) ?_
      · refine (rlen_no s w h' hsl).mono ?_
        rintro e w' ⟨rfl, rfl⟩
        exact ⟨by rw [Int.natCast_add]; rfl, rfl⟩
      by_cases h2 : s.size + 1 < 4096
      · exact .inl ⟨h2, hq, .inl (by omega)⟩
      · refine .inr ⟨by omega, ?_⟩
        by_cases h3 : 4096 ≤ s.size
        · exact .inr (.inl h3)
        · exact .inr (.inr ⟨by omega, hsl⟩)
end Go.Proofs.Qxb6002417a.Nm
