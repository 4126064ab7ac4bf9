/-
  The walk of FnCheckLinkExactSpec.
-/
import Derived.Test.Qxb6002417aCalls
import Derived.ProofKit
import Derived.OpenShut
import Derived.ShutString
import Derived.ChangeOld
namespace Go.Proofs.Qxb6002417a.Link
open Go.RowKit
set_option linter.unusedVariables false

set_option maxHeartbeats 400000 in
theorem bytes_no (a b : ByteArray) (w : World) (ha : a.size ≤ maxLen) (hb : b.size ≤ maxLen) (h : 1048576 < a.size + b.size) :
    Calls Try.prog 15 #[.string a, .string b] w fun e w' => e = .returned (.bool false) ∧ w = w' := by
  unfold maxLen at ha hb
  go_enter Try.func15, Try.ntmps15
  go_wp2
  all_goals first | (exfalso; omega) | (go_ret; exact ⟨rfl, rfl⟩)

set_option maxHeartbeats 400000 in
theorem bytes_yes (a b : ByteArray) (w : World) (h : a.size + b.size ≤ 1048576) :
    Calls Try.prog 15 #[.string a, .string b] w fun e w' => e = .returned (.bool true) ∧ w = w' := by
  go_enter Try.func15, Try.ntmps15
  go_wp2
  go_ret
  exact ⟨rfl, rfl⟩

set_option maxHeartbeats 400000 in
/-- CheckNUL over two names. -/
theorem two_first (a b : ByteArray) (B : Nat) (w : World) (ca : w.cell? ⟨B, 0, none⟩ = some (.string a)) (h : Hid (hasB a.data.toList 0 = true)) :
    Calls Try.prog 29 #[.slice (some ⟨B, 0, none⟩) 2 2] w fun e w' => e = .returned (.iface 48 (.int .u64 22)) ∧ w = w' := by
  go_enter Try.func29, Try.ntmps29
  go_wp2
  refine wp_loop_rounds 1 ?_
  rw [rounds_succ]
  go_wp2_with (go_at_call 28; refine (holds_at _ _ _ h).mono ?_; rintro e w' ⟨rfl, rfl⟩)
  go_ret
  exact ⟨rfl, rfl⟩

set_option maxHeartbeats 400000 in
theorem two_second (a b : ByteArray) (B : Nat) (w : World) (ca : w.cell? ⟨B, 0, none⟩ = some (.string a)) (cb : w.cell? ⟨B, 1, none⟩ = some (.string b)) (h : Hid (hasB a.data.toList 0 = false)) (h2 : Hid (hasB b.data.toList 0 = true)) :
    Calls Try.prog 29 #[.slice (some ⟨B, 0, none⟩) 2 2] w fun e w' => e = .returned (.iface 48 (.int .u64 22)) ∧ w = w' := by
  go_enter Try.func29, Try.ntmps29
  go_wp2
  refine wp_loop_rounds 2 ?_
  rw [rounds_succ]
  go_wp2_with fail
  refine (holds_at _ _ _ h).mono ?_
  rintro e w' ⟨rfl, rfl⟩
  go_wp2_with fail
  rw [rounds_succ]
  go_wp2_with fail
  refine (holds_at _ _ _ h2).mono ?_
  rintro e w' ⟨rfl, rfl⟩
  go_wp2_with fail
  go_ret
  exact ⟨rfl, rfl⟩

set_option maxHeartbeats 400000 in
theorem two_none (a b : ByteArray) (B : Nat) (w : World) (ca : w.cell? ⟨B, 0, none⟩ = some (.string a)) (cb : w.cell? ⟨B, 1, none⟩ = some (.string b)) (h : Hid (hasB a.data.toList 0 = false)) (h2 : Hid (hasB b.data.toList 0 = false)) :
    Calls Try.prog 29 #[.slice (some ⟨B, 0, none⟩) 2 2] w fun e w' => e = .returned .nilIface ∧ w = w' := by
  go_enter Try.func29, Try.ntmps29
  go_wp2
  refine wp_loop_rounds 3 ?_
  rw [rounds_succ]
  go_wp2_with fail
  refine (holds_at _ _ _ h).mono ?_
  rintro e w' ⟨rfl, rfl⟩
  go_wp2_with fail
  rw [rounds_succ]
  go_wp2_with fail
  refine (holds_at _ _ _ h2).mono ?_
  rintro e w' ⟨rfl, rfl⟩
  go_wp2_with fail
  rw [rounds_succ]
  go_wp2_with fail
  go_ret
  exact ⟨rfl, rfl⟩

/-- An error, whichever. -/
def SomeErr (e : Ending) : Prop := ∃ k : Int, e = .returned (.iface 48 (.int .u64 k))
theorem SomeErr.mk {e : Ending} (k : Int) (h : e = .returned (.iface 48 (.int .u64 k))) : SomeErr e := ⟨k, h⟩

theorem below_new (w : World) (o : Obj) : Below w.heap.size w (w.alloc o) := (Below.refl _ _).alloc (Nat.le_refl _) o

set_option maxHeartbeats 400000 in
theorem link_first (a b : ByteArray) (w : World) (h : Hid (hasB a.data.toList 0 = true)) :
    Calls Try.prog 16 #[.string a, .string b] w fun e w' => SomeErr e ∧ Below w.heap.size w w' := by
  go_enter Try.func16, Try.ntmps16
  go_wp2_with fail
  refine (two_first a b _ _ (by simp) h).mono ?_
  rintro e w' ⟨rfl, rfl⟩
  go_wp2_with fail
  go_ret
  exact ⟨SomeErr.mk _ rfl, below_new _ _⟩

set_option maxHeartbeats 400000 in
theorem link_second (a b : ByteArray) (w : World) (h : Hid (hasB a.data.toList 0 = false)) (h2 : Hid (hasB b.data.toList 0 = true)) :
    Calls Try.prog 16 #[.string a, .string b] w fun e w' => SomeErr e ∧ Below w.heap.size w w' := by
  go_enter Try.func16, Try.ntmps16
  go_wp2_with fail
  refine (two_second a b _ _ (by simp) (by simp) h h2).mono ?_
  rintro e w' ⟨rfl, rfl⟩
  go_wp2_with fail
  go_ret
  exact ⟨SomeErr.mk _ rfl, below_new _ _⟩

theorem empty_of (a : ByteArray) (h : a.size = 0) : a.toList.isEmpty = true := by
  rw [Lib.toList_data, List.isEmpty_iff]
  exact List.length_eq_zero_iff.1 (by rw [← Lib.size_eq]; exact h)
theorem nonempty_of (a : ByteArray) (h : 0 < a.size) : a.toList.isEmpty = false := by
  rw [Lib.toList_data]
  cases hl : a.data.toList with
  | nil =>
    have e := Lib.size_eq a
    rw [hl] at e
    simp at e
    rw [e] at h
    cases h
  | cons x l => rfl

set_option maxRecDepth 100000 in
set_option maxHeartbeats 400000 in
theorem link_size (a b : ByteArray) (w : World) (h : Hid (hasB a.data.toList 0 = false)) (h2 : Hid (hasB b.data.toList 0 = false)) (hs : a.size = 0 ∨ 4096 ≤ a.size) (hm : a.size ≤ 1048576) :
    Calls Try.prog 16 #[.string a, .string b] w fun e w' => SomeErr e ∧ Below w.heap.size w w' := by
  rcases hs with hs | hs
  · have he := empty_of a hs
    clear hs
    go_enter Try.func16, Try.ntmps16
    go_wp2_with fail
    refine (two_none a b _ _ (by simp) (by simp) h h2).mono ?_
    rintro e w' ⟨rfl, rfl⟩
    go_wp2_with fail
    go_ret
    exact ⟨SomeErr.mk _ rfl, below_new _ _⟩
  · have he := nonempty_of a (by omega)
    go_enter Try.func16, Try.ntmps16
    go_wp2_with fail
    refine (two_none a b _ _ (by simp) (by simp) h h2).mono ?_
    rintro e w' ⟨rfl, rfl⟩
    go_wp2_with fail
    go_ret
    exact ⟨SomeErr.mk _ rfl, below_new _ _⟩

set_option maxRecDepth 100000 in
set_option maxHeartbeats 400000 in
theorem link_good (a b : ByteArray) (w : World) (h : Hid (hasB a.data.toList 0 = false)) (h2 : Hid (hasB b.data.toList 0 = false)) (hs : 0 < a.size) (hs2 : a.size < 4096) :
    Calls Try.prog 16 #[.string a, .string b] w fun e w' => e = .returned .nilIface ∧ Below w.heap.size w w' := by
  have he := nonempty_of a hs
  go_enter Try.func16, Try.ntmps16
  go_wp2_with fail
  refine (two_none a b _ _ (by simp) (by simp) h h2).mono ?_
  rintro e w' ⟨rfl, rfl⟩
  go_wp2_with fail
  go_ret
  exact ⟨rfl, below_new _ _⟩

def Bad (a b : ByteArray) : Prop := hasB a.data.toList 0 = true ∨ hasB b.data.toList 0 = true ∨ a.size = 0 ∨ 4096 ≤ a.size

theorem link_bad (a b : ByteArray) (w : World) (hm : a.size ≤ 1048576) (h : Bad a b) :
    Calls Try.prog 16 #[.string a, .string b] w fun e w' => SomeErr e ∧ Below w.heap.size w w' := by
  cases ha : hasB a.data.toList 0 with
  | true => exact link_first a b w ha
  | false =>
    cases hb : hasB b.data.toList 0 with
    | true => exact link_second a b w ha hb
    | false =>
      rcases h with h | h | h
      · rw [ha] at h; cases h
      · rw [hb] at h; cases h
      · exact link_size a b w ha hb h hm

set_option maxHeartbeats 400000 in
theorem walk_long (a b : ByteArray) (w : World) (ha : a.size ≤ maxLen) (hb : b.size ≤ maxLen) (h : 1048576 < a.size + b.size) :
    Calls Try.prog 5 #[.string a, .string b] w fun e w' => e = .returned (.bool true) ∧ Below w.heap.size w w' := by
  go_enter Try.func5, Try.ntmps5
  go_wp2_with (go_at_call 15; refine (bytes_no _ _ _ ha hb h).mono ?_; rintro e w' ⟨rfl, rfl⟩)
  go_ret
  exact ⟨rfl, Below.refl _ _⟩

/-- The empty string holds no zero byte. -/
theorem has_empty : hasB (ByteArray.mk #[]).data.toList 0 = false := rfl

set_option maxRecDepth 100000 in
set_option maxHeartbeats 1000000 in
/-- The target alone is at fault. -/
theorem walk_target (a b : ByteArray) (w : World) (h : a.size + b.size ≤ 1048576) (hs : a.size = 0 ∨ 4096 ≤ a.size ∨ (0 < a.size ∧ a.size < 4096 ∧ hasB a.data.toList 0 = true)) :
    Calls Try.prog 5 #[.string a, .string b] w fun e w' => e = .returned (.bool true) ∧ Below w.heap.size w w' := by
  have hbad : ∀ c, Bad a c := fun c => by
    rcases hs with h | h | ⟨_, _, h⟩
    · exact .inr (.inr (.inl h))
    · exact .inr (.inr (.inr h))
    · exact .inl h
  have HB : Hid (∀ c, Bad a c) := hbad
  clear hbad
  rcases hs with hs | hs | ⟨hs, hs2, hq⟩
  · have hd : decide ((0 : Int) < (a.size : Int)) = false := decide_eq_false (by omega)
    have hs0 : a.size ≤ 0 := by omega
    clear hs
    go_enter Try.func5, Try.ntmps5
    go_wp2_with (go_at_call 15; refine (bytes_yes _ _ _ h).mono ?_; rintro e w' ⟨rfl, rfl⟩)
    refine (link_bad a b _ (by omega) (HB.out b)).mono ?_
    rintro e w1 ⟨⟨k, rfl⟩, hb1⟩
    go_wp2_with fail
    refine (link_bad a _ _ (by omega) (HB.out _)).mono ?_
    rintro e w2 ⟨⟨k, rfl⟩, hb2⟩
    go_wp2_with fail
    go_ret
    exact ⟨rfl, hb1.trans (hb2.mono hb1.size)⟩
  · have hd : decide ((0 : Int) < (a.size : Int)) = true := decide_eq_true (by omega)
    have hd2 : decide ((a.size : Int) < 4096) = false := decide_eq_false (by omega)
    go_enter Try.func5, Try.ntmps5
    go_wp2_with (go_at_call 15; refine (bytes_yes _ _ _ h).mono ?_; rintro e w' ⟨rfl, rfl⟩)
    refine (link_bad a b _ (by omega) (HB.out b)).mono ?_
    rintro e w1 ⟨⟨k, rfl⟩, hb1⟩
    go_wp2_with fail
    refine (link_bad a _ _ (by omega) (HB.out _)).mono ?_
    rintro e w2 ⟨⟨k, rfl⟩, hb2⟩
    go_wp2_with fail
    go_ret
    exact ⟨rfl, hb1.trans (hb2.mono hb1.size)⟩
  · have hd : decide ((0 : Int) < (a.size : Int)) = true := decide_eq_true (by omega)
    have hd2 : decide ((a.size : Int) < 4096) = true := decide_eq_true (by omega)
    have HQ : Hid (hasB a.data.toList 0 = true) := hq
    clear hq
    go_enter Try.func5, Try.ntmps5
    go_wp2_with (go_at_call 15; refine (bytes_yes _ _ _ h).mono ?_; rintro e w' ⟨rfl, rfl⟩)
    refine (nul_at a _ _ (by unfold maxLen; omega) HQ).mono ?_
    rintro e w' ⟨rfl, rfl⟩
    go_wp2_with fail
    refine (link_bad a b _ (by omega) (HB.out b)).mono ?_
    rintro e w1 ⟨⟨k, rfl⟩, hb1⟩
    go_wp2_with fail
    refine (link_bad a _ _ (by omega) (HB.out _)).mono ?_
    rintro e w2 ⟨⟨k, rfl⟩, hb2⟩
    go_wp2_with fail
    go_ret
    exact ⟨rfl, hb1.trans (hb2.mono hb1.size)⟩

set_option maxRecDepth 100000 in
set_option maxHeartbeats 1000000 in
/-- The name alone is at fault. -/
theorem walk_name (a b : ByteArray) (w : World) (h : a.size + b.size ≤ 1048576) (hs : 0 < a.size) (hs2 : a.size < 4096) (HQ : Hid (hasB a.data.toList 0 = false)) (HQ2 : Hid (hasB b.data.toList 0 = true)) :
    Calls Try.prog 5 #[.string a, .string b] w fun e w' => e = .returned (.bool true) ∧ Below w.heap.size w w' := by
  have hd : decide ((0 : Int) < (a.size : Int)) = true := decide_eq_true (by omega)
  have hd2 : decide ((a.size : Int) < 4096) = true := decide_eq_true (by omega)
  go_enter Try.func5, Try.ntmps5
  go_wp2_with (go_at_call 15; refine (bytes_yes _ _ _ h).mono ?_; rintro e w' ⟨rfl, rfl⟩)
  refine (nul_at a _ _ (by unfold maxLen; omega) HQ).mono ?_
  rintro e w' ⟨rfl, rfl⟩
  go_wp2_with fail
  refine (nul_at b _ _ (by unfold maxLen; omega) HQ2).mono ?_
  rintro e w' ⟨rfl, rfl⟩
  go_wp2_with fail
  refine (link_bad a b _ (by omega) (.inr (.inl HQ2.out))).mono ?_
  rintro e w1 ⟨⟨k, rfl⟩, hb1⟩
  go_wp2_with fail
  refine (link_good a _ _ HQ has_empty hs hs2).mono ?_
  rintro e w2 ⟨rfl, hb2⟩
  go_wp2_with fail
  refine (nul_at b _ _ (by unfold maxLen; omega) HQ2).mono ?_
  rintro e w' ⟨rfl, rfl⟩
  go_wp2_with fail
  go_ret
  exact ⟨rfl, hb1.trans (hb2.mono hb1.size)⟩

set_option maxRecDepth 100000 in
set_option maxHeartbeats 1000000 in
/-- Nothing is at fault. -/
theorem walk_good (a b : ByteArray) (w : World) (h : a.size + b.size ≤ 1048576) (hs : 0 < a.size) (hs2 : a.size < 4096) (HQ : Hid (hasB a.data.toList 0 = false)) (HQ2 : Hid (hasB b.data.toList 0 = false)) :
    Calls Try.prog 5 #[.string a, .string b] w fun e w' => e = .returned (.bool true) ∧ Below w.heap.size w w' := by
  have hd : decide ((0 : Int) < (a.size : Int)) = true := decide_eq_true (by omega)
  have hd2 : decide ((a.size : Int) < 4096) = true := decide_eq_true (by omega)
  go_enter Try.func5, Try.ntmps5
  go_wp2_with (go_at_call 15; refine (bytes_yes _ _ _ h).mono ?_; rintro e w' ⟨rfl, rfl⟩)
  refine (nul_at a _ _ (by unfold maxLen; omega) HQ).mono ?_
  rintro e w' ⟨rfl, rfl⟩
  go_wp2_with fail
  refine (nul_at b _ _ (by unfold maxLen; omega) HQ2).mono ?_
  rintro e w' ⟨rfl, rfl⟩
  go_wp2_with fail
  refine (link_good a b _ HQ HQ2 hs hs2).mono ?_
  rintro e w1 ⟨rfl, hb1⟩
  go_wp2_with fail
  refine (link_good a _ _ HQ has_empty hs hs2).mono ?_
  rintro e w2 ⟨rfl, hb2⟩
  go_wp2_with fail
  refine (nul_at b _ _ (by unfold maxLen; omega) HQ2).mono ?_
  rintro e w' ⟨rfl, rfl⟩
  go_wp2_with fail
  go_ret
  exact ⟨rfl, hb1.trans (hb2.mono hb1.size)⟩

theorem walk (a b : ByteArray) (ha : a.size ≤ maxLen) (hb : b.size ≤ maxLen) (w : World) :
    Calls Try.prog 5 #[.string a, .string b] w fun e w' => e = .returned (.bool true) ∧ Below w.heap.size w w' := by
  by_cases h : 1048576 < a.size + b.size
  · exact walk_long a b w ha hb h
  have h' : a.size + b.size ≤ 1048576 := by omega
  by_cases h1 : a.size = 0
  · exact walk_target a b w h' (.inl h1)
  by_cases h2 : 4096 ≤ a.size
  · exact walk_target a b w h' (.inr (.inl h2))
  cases hq : hasB a.data.toList 0 with
  | true => exact walk_target a b w h' (.inr (.inr ⟨by omega, by omega, hq⟩))
  | false =>
    cases hq2 : hasB b.data.toList 0 with
    | true => exact walk_name a b w h' (by omega) (by omega) hq hq2
    | false => exact walk_good a b w h' (by omega) (by omega) hq hq2
end Go.Proofs.Qxb6002417a.Link
