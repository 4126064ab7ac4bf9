import Derived.Test.Qxb6002362aUpTo
namespace Go.Proofs.Qxb6002362a.Round
open Go.ChangeShapes Go.WideShapes Go.ChangeAt Go.RowKit
open Go.ChangeMaps (open_string shut_string)
open Go.Proofs.Qxb6002362a.UpTo (bcell hasQ_at)
set_option linter.unusedVariables false

set_option maxHeartbeats 400000 in
theorem bytes_no (a b c : ByteArray) (w : World) (ha : a.size ≤ maxLen) (hb : b.size ≤ maxLen) (hc : c.size ≤ maxLen) (h : 1048576 < a.size + b.size + c.size) :
    Calls Try.prog 9 #[.string a, .string b, .string c] w fun e w' => e = .returned (.bool false) ∧ w' = w := by
  unfold maxLen at ha hb hc
  go_enter Try.func9, Try.ntmps9
  go_wp2
  all_goals first | (exfalso; omega) | (go_ret; exact ⟨rfl, rfl⟩)

set_option maxHeartbeats 400000 in
theorem bytes_yes (a b c : ByteArray) (w : World) (h : a.size + b.size + c.size ≤ 1048576) :
    Calls Try.prog 9 #[.string a, .string b, .string c] w fun e w' => e = .returned (.bool true) ∧ w' = w := by
  go_enter Try.func9, Try.ntmps9
  go_wp2
  go_ret
  exact ⟨rfl, rfl⟩

set_option maxHeartbeats 400000 in
theorem walk_long (a b c : ByteArray) (w : World) (ha : a.size ≤ maxLen) (hb : b.size ≤ maxLen) (hc : c.size ≤ maxLen) (h : 1048576 < a.size + b.size + c.size) :
    Calls Try.prog 4 #[.string a, .string b, .string c] w fun e w' => e = .returned (.bool true) ∧ Below w.heap.size w w' := by
  go_enter Try.func4, Try.ntmps4
  go_wp2_with (go_at_call 9; refine (bytes_no _ _ _ _ ha hb hc h).mono ?_; rintro e w' ⟨rfl, rfl⟩)
  go_ret
  exact ⟨rfl, Below.refl _ _⟩

set_option maxHeartbeats 400000 in
theorem walk_long2 (a b c : ByteArray) (w : World) (h : a.size + b.size + c.size ≤ 1048576) (h2 : 262144 < a.size ∨ 262144 < b.size ∨ 262144 < c.size) :
    Calls Try.prog 4 #[.string a, .string b, .string c] w fun e w' => e = .returned (.bool true) ∧ Below w.heap.size w w' := by
  go_enter Try.func4, Try.ntmps4
  go_wp2_with (go_at_call 9; refine (bytes_yes _ _ _ _ h).mono ?_; rintro e w' ⟨rfl, rfl⟩)
  all_goals first | (exfalso; omega) | (go_ret; exact ⟨rfl, Below.refl _ _⟩)

set_option maxHeartbeats 400000 in
theorem walk_quote (a b c : ByteArray) (w : World) (ha : a.size ≤ 262144) (hb : b.size ≤ 262144) (hc : c.size ≤ 262144) (hq : Hid (hasB b.data.toList 34 = true)) :
    Calls Try.prog 4 #[.string a, .string b, .string c] w fun e w' => e = .returned (.bool true) ∧ Below w.heap.size w w' := by
  go_enter Try.func4, Try.ntmps4
  go_wp2_with (first | (go_at_call 9; refine (bytes_yes _ _ _ _ (by omega)).mono ?_; rintro e w' ⟨rfl, rfl⟩) | (go_at_call 8; refine (hasQ_at _ _ _ (by simp [maxLen]; omega) hq).mono ?_; rintro e w' ⟨rfl, rfl⟩))
  go_ret
  exact ⟨rfl, Below.refl _ _⟩

theorem text_list (a b c : ByteArray) : (a ++ { data := #[34] } ++ b ++ { data := #[34] } ++ c).data.toList = a.data.toList ++ 34 :: (b.data.toList ++ 34 :: c.data.toList) := by simp

theorem str_ext {a b : ByteArray} (h : a.data.toList = b.data.toList) : a = b := by
  cases a; cases b
  simp only [ByteArray.mk.injEq]
  exact Array.toList_inj.1 h

theorem mid_list (a b c : ByteArray) : ((a.data.toList ++ 34 :: (b.data.toList ++ 34 :: c.data.toList)).drop (a.size + 1)).take b.size = b.data.toList := by
  have e : a.size + 1 = (a.data.toList ++ [34]).length := by simp
  have e2 : a.data.toList ++ 34 :: (b.data.toList ++ 34 :: c.data.toList) = (a.data.toList ++ [34]) ++ (b.data.toList ++ 34 :: c.data.toList) := by simp
  have e3 : b.size = b.data.toList.length := by simp
  rw [e, e2, List.drop_left, e3, List.take_left]

theorem first_index {a b c T : ByteArray} (h : T.data.toList = a.data.toList ++ 34 :: (b.data.toList ++ 34 :: c.data.toList)) (hq : hasB b.data.toList 34 = false) :
    Lib.indexByte (T.extract (a.size + 1) T.size).data.toList 34 = (b.size : Int) := by
  have e : a.size + 1 = (a.data.toList ++ [34]).length := by simp
  have e2 : a.data.toList ++ 34 :: (b.data.toList ++ 34 :: c.data.toList) = (a.data.toList ++ [34]) ++ (b.data.toList ++ 34 :: c.data.toList) := by simp
  rw [Lib.extract_to_end, h, e, e2, List.drop_left, ib_first _ _ _ (hasB_false.1 hq)]
  simp

theorem tail_eq {a b c T : ByteArray} (h : T.data.toList = a.data.toList ++ 34 :: (b.data.toList ++ 34 :: c.data.toList)) :
    ((T.extract (a.size + b.size + 2) T.size).toList == c.toList) = true := by
  have e : a.size + b.size + 2 = (a.data.toList ++ 34 :: (b.data.toList ++ [34])).length := by simp; omega
  have e2 : a.data.toList ++ 34 :: (b.data.toList ++ 34 :: c.data.toList) = (a.data.toList ++ 34 :: (b.data.toList ++ [34])) ++ c.data.toList := by simp
  rw [Lib.toList_data, Lib.toList_data, Lib.extract_to_end, h, e, e2, List.drop_left]
  simp

theorem open_list (a b : ByteArray) : (a ++ { data := #[34] } ++ b).data.toList = a.data.toList ++ 34 :: b.data.toList := by simp

theorem ix_none {a b T : ByteArray} (h : T.data.toList = a.data.toList ++ 34 :: b.data.toList) (hq : hasB b.data.toList 34 = false) :
    Lib.indexByte (T.extract (a.size + 1) T.size).data.toList 34 = -1 := by
  have e : a.size + 1 = (a.data.toList ++ [34]).length := by simp
  have e2 : a.data.toList ++ 34 :: b.data.toList = (a.data.toList ++ [34]) ++ b.data.toList := by simp
  rw [Lib.extract_to_end, h, e, e2, List.drop_left, ib_none _ _ (hasB_false.1 hq)]

set_option maxHeartbeats 400000 in
theorem walk_main (a b c : ByteArray) (w : World) (ha : a.size ≤ 262144) (hb : b.size ≤ 262144) (hc : c.size ≤ 262144) (hq : Hid (hasB b.data.toList 34 = false)) :
    Calls Try.prog 4 #[.string a, .string b, .string c] w fun e w' => e = .returned (.bool true) ∧ Below w.heap.size w w' := by
  go_enter Try.func4, Try.ntmps4
  go_wp2_with (first | (go_at_call 9; refine (bytes_yes _ _ _ _ (by omega)).mono ?_; rintro e w' ⟨rfl, rfl⟩) | (go_at_call 8; refine (hasQ_at _ _ _ (by simp [maxLen]; omega) hq).mono ?_; rintro e w' ⟨rfl, rfl⟩))
  generalize hT : a ++ { data := #[34] } ++ b ++ { data := #[34] } ++ c = T
  have eT := text_list a b c
  rw [hT] at eT
  have HT : Hid (T.data.toList = a.data.toList ++ 34 :: (b.data.toList ++ 34 :: c.data.toList)) := eT
  have hlen : T.size = a.size + b.size + c.size + 2 := by
    have := congrArg List.length eT
    simp at this
    omega
  have h1 : T.size ≤ 1048576 := by omega
  have h2 : a.size + b.size + 2 ≤ T.size := by omega
  have hL : Hid (T.size = a.size + b.size + c.size + 2) := hlen
  clear hlen eT hT
  refine (quoted_some T a.size b.size _ _ h1 h2 (by simp) (by simp) (by simp) (first_index HT.out hq.out)).mono ?_
  rintro e w1 ⟨s, rfl, hs, c0, c1, f1, hb1⟩
  have hsb : s = b := str_ext (by rw [hs.out, HT.out]; exact mid_list _ _ _)
  subst hsb
  go_wp2_with fail
  · have hne : (!(T.extract (a.size + s.size + 2) T.size).toList == c.toList) = true := by assumption
    rw [tail_eq HT.out] at hne
    cases hne
  have eU := open_list a s
  generalize a ++ { data := #[34] } ++ s = U at eU ⊢
  have HU : Hid (U.data.toList = a.data.toList ++ 34 :: s.data.toList) := eU
  have h3 : a.size < U.size ∧ U.size ≤ 1048576 := by
    have := congrArg List.length eU
    simp at this
    omega
  clear eU
  refine (quoted_none U a.size _ _ h3.2 h3.1 (by simp) (by simp) (ix_none HU.out hq.out)).mono ?_
  rintro e w2 ⟨⟨ad, rfl⟩, hb2⟩
  obtain ⟨hc2, hf2⟩ := bcell hb2
  go_wp2_with fail
  go_ret
  have hsz : w'.heap.size ≤ w1.heap.size := by have := hb1.size; simp at this; omega
  exact ⟨rfl, (((Below.refl _ _).alloc (Nat.le_refl _) _).trans hb1).trans (((Below.refl _ _).alloc hsz _).trans (hb2.mono (by simp; omega)))⟩

/-- The law's walk, every input. -/
theorem walk (a b c : ByteArray) (ha : a.size ≤ maxLen) (hb : b.size ≤ maxLen) (hc : c.size ≤ maxLen) (w : World) :
    Calls Try.prog 4 #[.string a, .string b, .string c] w fun e w' => e = .returned (.bool true) ∧ Below w.heap.size w w' := by
  by_cases h : 1048576 < a.size + b.size + c.size
  · exact walk_long a b c w ha hb hc h
  by_cases h2 : 262144 < a.size ∨ 262144 < b.size ∨ 262144 < c.size
  · exact walk_long2 a b c w (by omega) h2
  cases hq : hasB b.data.toList 34 with
  | true => exact walk_quote a b c w (by omega) (by omega) (by omega) hq
  | false => exact walk_main a b c w (by omega) (by omega) (by omega) hq
end Go.Proofs.Qxb6002362a.Round
