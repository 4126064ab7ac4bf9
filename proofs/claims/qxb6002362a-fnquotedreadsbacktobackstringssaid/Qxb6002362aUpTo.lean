import Derived.Test.Qxb6002362aCalls
import Derived.Lib.IndexBytes
import Derived.ProofKit
import Derived.OpenShut
import Derived.ShutString
import Derived.ChangeOld
import Derived.Below
namespace Go.Proofs.Qxb6002362a.UpTo
open Go.ChangeShapes Go.WideShapes Go.ChangeAt Go.RowKit
open Go.ChangeMaps (open_string shut_string)
set_option linter.unusedVariables false

theorem bcell {W w1 : World} (hb : Below W.heap.size W w1) : (∀ b o, b < W.heap.size → w1.cell? ⟨b, o, none⟩ = W.cell? ⟨b, o, none⟩) ∧ (∀ b o, b < W.heap.size → w1.frozen? ⟨b, o, none⟩ = W.frozen? ⟨b, o, none⟩) :=
  ⟨fun b o h => hb.cell (p := ⟨b, o, none⟩) h, fun b o h => hb.frozen (p := ⟨b, o, none⟩) h⟩

theorem hasQ_at (s : ByteArray) (x : Bool) (w : World) (hs : s.size ≤ maxLen) (h : Hid (hasB s.data.toList 34 = x)) :
    Calls Try.prog 8 #[.string s] w fun e w' => e = .returned (.bool x) ∧ w' = w := by
  refine (hasQ_any s w hs).mono ?_
  rintro e w' ⟨rfl, rfl⟩
  exact ⟨by rw [h.out], rfl⟩

set_option maxHeartbeats 400000 in
theorem walk_long (T : ByteArray) (z : Int) (hT : T.size ≤ maxLen) (h : 1048576 < T.size) (w : World) :
    Calls Try.prog 3 #[.string T, .int .i64 z] w fun e w' => e = .returned (.bool true) ∧ Below w.heap.size w w' := by
  unfold maxLen at hT
  have h1 : (1048576 : Int) < (T.size : Int) := by omega
  go_enter Try.func3, Try.ntmps3
  go_wp2
  go_ret
  exact ⟨rfl, Below.refl _ _⟩

set_option maxHeartbeats 400000 in
theorem walk_out (T : ByteArray) (z : Int) (h : T.size ≤ 1048576) (hz : z < 0 ∨ (T.size : Int) ≤ z) (w : World) :
    Calls Try.prog 3 #[.string T, .int .i64 z] w fun e w' => e = .returned (.bool true) ∧ Below w.heap.size w w' := by
  have h1 : (T.size : Int) ≤ (1048576 : Int) := by omega
  rcases hz with hz | hz
  · go_enter Try.func3, Try.ntmps3
    go_wp2
    go_ret
    exact ⟨rfl, Below.refl _ _⟩
  · have hn : 0 ≤ z := by omega
    go_enter Try.func3, Try.ntmps3
    go_wp2
    go_ret
    exact ⟨rfl, Below.refl _ _⟩

set_option maxHeartbeats 400000 in
theorem walk_other (T : ByteArray) (p : Nat) (h : T.size ≤ 1048576) (hp : p < T.size) (hb : ((T[p].toNat : Int) == 34) = false) (w : World) :
    Calls Try.prog 3 #[.string T, .int .i64 p] w fun e w' => e = .returned (.bool true) ∧ Below w.heap.size w w' := by
  have hb' : ((T[p].toNat : Int) != 34) = true := by simp only [bne, hb]; rfl
  go_enter Try.func3, Try.ntmps3
  go_wp2
  go_ret
  exact ⟨rfl, Below.refl _ _⟩

set_option maxHeartbeats 400000 in
theorem walk_none (T : ByteArray) (p : Nat) (h : T.size ≤ 1048576) (hp : p < T.size) (hb : ((T[p].toNat : Int) == 34) = true) (hno : Hid (Lib.indexByte (T.extract (p + 1) T.size).data.toList 34 = -1)) (hq : Hid (hasB (T.extract (p + 1) T.size).data.toList 34 = false)) (w : World) :
    Calls Try.prog 3 #[.string T, .int .i64 p] w fun e w' => e = .returned (.bool true) ∧ Below w.heap.size w w' := by
  have hb' : ((T[p].toNat : Int) != 34) = false := by simp only [bne, hb]; rfl
  go_enter Try.func3, Try.ntmps3
  go_wp2_with (go_at_call 6; go_in)
  refine (quoted_none T p w.heap.size _ h hp (by simp) (by simp) hno).mono ?_
  rintro e w1 ⟨⟨a, rfl⟩, hb1⟩
  obtain ⟨hc, hf⟩ := bcell hb1
  have hz : w.heap.size < w1.heap.size := by have := hb1.size; simp at this; omega
  go_wp2_with (go_at_call 8; refine (hasQ_at _ _ _ (by simp [maxLen]; omega) hq).mono ?_; rintro e w' ⟨rfl, rfl⟩)
  go_ret
  exact ⟨rfl, ((Below.refl _ _).alloc (Nat.le_refl _) _).trans (hb1.mono (by simp))⟩

set_option maxHeartbeats 400000 in
theorem walk_some (T : ByteArray) (p n : Nat) (h : T.size ≤ 1048576) (hp : p + n + 2 ≤ T.size) (hb : ((T[p].toNat : Int) == 34) = true) (hix : Hid (Lib.indexByte (T.extract (p + 1) T.size).data.toList 34 = n))
    (hq : Hid (hasB ((T.data.toList.drop (p + 1)).take n) 34 = false)) (hcl : Hid (∀ hx : p + n + 1 < T.size, (T[p + n + 1].toNat : Int) = 34)) (w : World) :
    Calls Try.prog 3 #[.string T, .int .i64 p] w fun e w' => e = .returned (.bool true) ∧ Below w.heap.size w w' := by
  have hb' : ((T[p].toNat : Int) != 34) = false := by simp only [bne, hb]; rfl
  go_enter Try.func3, Try.ntmps3
  go_wp2_with (go_at_call 6; go_in)
  refine (quoted_some T p n w.heap.size _ h hp (by simp) (by simp) (by simp) hix).mono ?_
  rintro e w1 ⟨s, rfl, hs, c0, c1, f1, hb1⟩
  have hq' : Hid (hasB s.data.toList 34 = false) := by rw [hs.out]; exact hq
  have hsz : s.size = n := by
    have := congrArg List.length hs.out
    simp at this
    omega
  go_wp2_with (go_at_call 8; refine (hasQ_at _ _ _ (by simp [maxLen]; omega) hq').mono ?_; rintro e w' ⟨rfl, rfl⟩)
  · go_ret
    exact ⟨rfl, ((Below.refl _ _).alloc (Nat.le_refl _) _).trans hb1⟩
  · have hne : ¬(T.extract (p + 1) (p + n + 1)).toList = s.toList := by assumption
    refine absurd ?_ hne
    rw [Lib.toList_data, Lib.toList_data, hs.out, Lib.extract_data, show p + n + 1 - (p + 1) = n by omega]
  · have hne : ¬(T[p + n + 1].toNat : Int) = 34 := by assumption
    exact absurd (hcl.out _) hne

/-- The law's walk, every input. -/
theorem walk (T : ByteArray) (z : Int) (hT : T.size ≤ maxLen) (w : World) :
    Calls Try.prog 3 #[.string T, .int .i64 z] w fun e w' => e = .returned (.bool true) ∧ Below w.heap.size w w' := by
  by_cases h : 1048576 < T.size
  · exact walk_long T z hT h w
  have h' : T.size ≤ 1048576 := by omega
  by_cases hz : z < 0 ∨ (T.size : Int) ≤ z
  · exact walk_out T z h' hz w
  obtain ⟨p, rfl⟩ := Int.eq_ofNat_of_zero_le (show 0 ≤ z by omega)
  have hp : p < T.size := by omega
  cases hb : ((T[p].toNat : Int) == 34) with
  | false => exact walk_other T p h' hp hb w
  | true =>
    have ed := Lib.extract_to_end T (p + 1)
    rcases ib_cases (T.data.toList.drop (p + 1)) 34 with ⟨hno, hix⟩ | ⟨a, b, e, ha, hix⟩
    · exact walk_none T p h' hp hb (by rw [ed]; exact hix) (by rw [ed]; exact hasB_false.2 hno) w
    · have hl : (T.data.toList.drop (p + 1)).length = a.length + (b.length + 1) := by rw [e]; simp
      have hl2 : T.size - (p + 1) = a.length + (b.length + 1) := by simpa using hl
      refine walk_some T p a.length h' (by omega) hb (by rw [ed]; exact hix) ?_ ?_ w
      · show hasB _ 34 = false
        rw [e, List.take_left]
        exact hasB_false.2 ha
      · intro hx
        obtain ⟨hk, e1⟩ := get_list T (p + a.length + 1) hx
        have e2 : T.data.toList[p + a.length + 1]? = some 34 := by
          have : (T.data.toList.drop (p + 1))[a.length]? = some 34 := by rw [e]; simp
          rw [List.getElem?_drop] at this
          rw [← this]
          congr 1
          omega
        rw [List.getElem?_eq_getElem hk, e1] at e2
        simp only [Option.some.injEq] at e2
        rw [e2]
        rfl
end Go.Proofs.Qxb6002362a.UpTo
