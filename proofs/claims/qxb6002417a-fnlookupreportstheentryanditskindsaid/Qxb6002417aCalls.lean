/-
  CONTRACTS: zzHasNUL (9), IndexByte (35, 33), holdsNUL (28), CheckElem (14), zzStartsWithSlash (27), CheckName (11).
-/
import Derived.Test.Qxb6002417aRows
import Derived.Test.Qxb6002417aPlain
import Derived.WalkKit
import Derived.Lib.Strings
import Derived.Lib.Slices
import Derived.Lib.Walk
import Derived.Lib.Bytealg
import Derived.WalkSpells
import Derived.WalkSmall
namespace Go.Proofs.Qxb6002417a
open Go.RowKit
set_option linter.unusedVariables false

theorem ret_bool {a b : Bool} (h : a = b) : Ending.returned (.bool a) = .returned (.bool b) := by rw [h]

set_option maxHeartbeats 1000000 in
set_option maxRecDepth 100000 in
theorem slite_any (s : ByteArray) (c : Int) (w : World) :
    Calls Try.prog 35 #[.string s, .int .u8 c] w fun e w' => e = .returned (.int .i64 (Lib.indexByte s.data.toList c.toNat.toUInt8)) ∧ w' = w := by
  go_enter Try.func35, Try.ntmps35
  go_wp2
  rw [run_callFunc_extern Try.func36 (by kernel_rfl) (by kernel_rfl) (by kernel_rfl) (e := Extern.BytealgIndexByte.indexByte) (by kernel_rfl), Lib.run_indexByteString]
  simp only [Result.andThen]
  rw [Oper.upon_value]
  go_wp2
  go_ret
  exact ⟨rfl, rfl⟩

set_option maxHeartbeats 1000000 in
theorem index_any (s : ByteArray) (c : Int) (w : World) :
    Calls Try.prog 33 #[.string s, .int .u8 c] w fun e w' => e = .returned (.int .i64 (Lib.indexByte s.data.toList c.toNat.toUInt8)) ∧ w = w' := by
  go_enter Try.func33, Try.ntmps33
  go_wp2_with (go_at_call 35; refine (slite_any _ _ _).mono ?_; rintro e w' ⟨rfl, rfl⟩)
  go_ret
  exact ⟨rfl, rfl⟩

set_option maxHeartbeats 400000 in
theorem nul_any (s : ByteArray) (w : World) (hs : s.size ≤ maxLen) :
    Calls Try.prog 9 #[.string s] w fun e w' => e = .returned (.bool (hasB s.data.toList 0)) ∧ w = w' := by
  unfold maxLen at hs
  go_enter Try.func9, Try.ntmps9
  go_wp2
  go_loop [3] (fun i => ∃ k : Nat, k ≤ s.size ∧ i = .int .i64 k ∧ (0 : UInt8) ∉ s.data.toList.take k) (fun i => s.size - (intOf i).toNat)
  case atStart => exact ⟨0, Nat.zero_le _, rfl, by simp⟩
  case round =>
    obtain ⟨k, hk, rfl, hno⟩ := hrel
    have HN : Hid ((0 : UInt8) ∉ s.data.toList.take k) := hno
    clear hno
    by_cases hlt : k < s.size
    · cases hb : ((s[k].toNat : Int) == 0) with
      | true =>
        go_wp2
        go_ret
        exact ⟨ret_bool (has_yes s k hlt hb).symm, rfl⟩
      | false =>
        go_wp2
        go_round
        case rel => exact ⟨k + 1, by omega, by go_num, has_step s k hlt hb HN.out⟩
        case measure => simp [intOf]; omega
    · go_wp2
      go_ret
      exact ⟨ret_bool (has_no s k hlt HN.out).symm, rfl⟩

theorem nul_at (s : ByteArray) (x : Bool) (w : World) (hs : s.size ≤ maxLen) (h : Hid (hasB s.data.toList 0 = x)) :
    Calls Try.prog 9 #[.string s] w fun e w' => e = .returned (.bool x) ∧ w = w' := by
  refine (nul_any s w hs).mono ?_
  rintro e w' ⟨rfl, rfl⟩
  exact ⟨by rw [h.out], rfl⟩

theorem index_at (s : ByteArray) (n : Int) (w : World) (h : Hid (Lib.indexByte s.data.toList 0 = n)) :
    Calls Try.prog 33 #[.string s, .int .u8 0] w fun e w' => e = .returned (.int .i64 n) ∧ w = w' := by
  refine (index_any s 0 w).mono ?_
  rintro e w' ⟨rfl, rfl⟩
  exact ⟨by rw [show (0 : Int).toNat.toUInt8 = 0 from rfl, h.out], rfl⟩

set_option maxHeartbeats 400000 in
theorem holds_at (s : ByteArray) (x : Bool) (w : World) (h : Hid (hasB s.data.toList 0 = x)) :
    Calls Try.prog 28 #[.string s] w fun e w' => e = .returned (.bool x) ∧ w = w' := by
  obtain ⟨n, hn⟩ : ∃ n : Int, Lib.indexByte s.data.toList 0 = n := ⟨_, rfl⟩
  have hx : Hid (decide (0 ≤ n) = x) := by rw [← hn, ib_has]; exact h
  have HN : Hid (Lib.indexByte s.data.toList 0 = n) := hn
  clear hn
  go_enter Try.func28, Try.ntmps28
  go_wp2_with (go_at_call 33; refine (index_at _ _ _ HN).mono ?_; rintro e w' ⟨rfl, rfl⟩)
  go_ret
  exact ⟨ret_bool hx.out, rfl⟩

/-- CheckElem. -/
theorem elem_nul (s : ByteArray) (w : World) (h : Hid (hasB s.data.toList 0 = true)) :
    Calls Try.prog 14 #[.string s] w fun e w' => e = .returned (.iface 48 (.int .u64 22)) ∧ w = w' := by
  go_enter Try.func14, Try.ntmps14
  go_wp2_with (go_at_call 28; refine (holds_at _ _ _ h).mono ?_; rintro e w' ⟨rfl, rfl⟩)
  go_ret
  exact ⟨rfl, rfl⟩
theorem elem_long (s : ByteArray) (w : World) (h : Hid (hasB s.data.toList 0 = false)) (hl : 255 < s.size) :
    Calls Try.prog 14 #[.string s] w fun e w' => e = .returned (.iface 48 (.int .u64 36)) ∧ w = w' := by
  go_enter Try.func14, Try.ntmps14
  go_wp2_with (go_at_call 28; refine (holds_at _ _ _ h).mono ?_; rintro e w' ⟨rfl, rfl⟩)
  go_ret
  exact ⟨rfl, rfl⟩
theorem elem_ok (s : ByteArray) (w : World) (h : Hid (hasB s.data.toList 0 = false)) (hl : s.size ≤ 255) :
    Calls Try.prog 14 #[.string s] w fun e w' => e = .returned .nilIface ∧ w = w' := by
  go_enter Try.func14, Try.ntmps14
  go_wp2_with (go_at_call 28; refine (holds_at _ _ _ h).mono ?_; rintro e w' ⟨rfl, rfl⟩)
  go_ret
  exact ⟨rfl, rfl⟩

/-- zzStartsWithSlash. -/
theorem slash_is (s : ByteArray) (x : Bool) (w : World) (h : Hid (slashB s = x)) :
    Calls Try.prog 27 #[.string s] w fun e w' => e = .returned (.bool x) ∧ w = w' := by
  by_cases h0 : 0 < s.size
  · have h1 := slash_at s h0
    rw [h.out] at h1
    have h2 : (0 : Int) < (s.size : Int) := by omega
    cases x
    · go_enter Try.func27, Try.ntmps27
      go_wp2
      go_ret
      exact ⟨rfl, rfl⟩
    · go_enter Try.func27, Try.ntmps27
      go_wp2
      go_ret
      exact ⟨rfl, rfl⟩
  · have h1 : s.size = 0 := by omega
    have hx : x = false := by rw [← h.out]; exact slash_empty s h1
    subst hx
    have h2 : decide ((0 : Int) < (s.size : Int)) = false := decide_eq_false (by omega)
    clear h1
    go_enter Try.func27, Try.ntmps27
    go_wp2
    go_ret
    exact ⟨rfl, rfl⟩

/-- CheckName. -/
theorem name_nul (s : ByteArray) (w : World) (h : Hid (hasB s.data.toList 0 = true)) :
    Calls Try.prog 11 #[.string s] w fun e w' => e = .returned (.iface 48 (.int .u64 22)) ∧ w = w' := by
  go_enter Try.func11, Try.ntmps11
  go_wp2_with (go_at_call 28; refine (holds_at _ _ _ h).mono ?_; rintro e w' ⟨rfl, rfl⟩)
  go_ret
  exact ⟨rfl, rfl⟩
set_option maxRecDepth 100000 in
theorem name_long (s : ByteArray) (w : World) (h : Hid (hasB s.data.toList 0 = false)) (hl : 4096 ≤ s.size) :
    Calls Try.prog 11 #[.string s] w fun e w' => e = .returned (.iface 48 (.int .u64 36)) ∧ w = w' := by
  go_enter Try.func11, Try.ntmps11
  go_wp2_with (go_at_call 28; refine (holds_at _ _ _ h).mono ?_; rintro e w' ⟨rfl, rfl⟩)
  go_ret
  exact ⟨rfl, rfl⟩
set_option maxRecDepth 100000 in
theorem name_ok (s : ByteArray) (w : World) (h : Hid (hasB s.data.toList 0 = false)) (hl : s.size < 4095) :
    Calls Try.prog 11 #[.string s] w fun e w' => e = .returned .nilIface ∧ w = w' := by
  have h1 : ((s.size : Int) == 4095) = false := by rw [beq_eq_false_iff_ne]; omega
  go_enter Try.func11, Try.ntmps11
  go_wp2_with (go_at_call 28; refine (holds_at _ _ _ h).mono ?_; rintro e w' ⟨rfl, rfl⟩)
  go_ret
  exact ⟨rfl, rfl⟩
set_option maxRecDepth 100000 in
theorem name_edge_ok (s : ByteArray) (w : World) (h : Hid (hasB s.data.toList 0 = false)) (hl : s.size = 4095) (hsl : slashB s = true) :
    Calls Try.prog 11 #[.string s] w fun e w' => e = .returned .nilIface ∧ w = w' := by
  have h1 : ((s.size : Int) == 4095) = true := by rw [beq_iff_eq]; omega
  have h0 : 0 < s.size := by omega
  have h2 : s.size < 4096 := by omega
  have h3 : ((s[0].toNat : Int) != 47) = false := by simp only [bne, slash_at s h0, hsl]; rfl
  clear hl hsl
  go_enter Try.func11, Try.ntmps11
  go_wp2_with (go_at_call 28; refine (holds_at _ _ _ h).mono ?_; rintro e w' ⟨rfl, rfl⟩)
  go_ret
  exact ⟨rfl, rfl⟩
set_option maxRecDepth 100000 in
theorem name_edge_bad (s : ByteArray) (w : World) (h : Hid (hasB s.data.toList 0 = false)) (hl : s.size = 4095) (hsl : slashB s = false) :
    Calls Try.prog 11 #[.string s] w fun e w' => e = .returned (.iface 48 (.int .u64 36)) ∧ w = w' := by
  have h1 : ((s.size : Int) == 4095) = true := by rw [beq_iff_eq]; omega
  have h0 : 0 < s.size := by omega
  have h2 : s.size < 4096 := by omega
  have h3 : ((s[0].toNat : Int) != 47) = true := by simp only [bne, slash_at s h0, hsl]; rfl
  clear hl hsl
  go_enter Try.func11, Try.ntmps11
  go_wp2_with (go_at_call 28; refine (holds_at _ _ _ h).mono ?_; rintro e w' ⟨rfl, rfl⟩)
  go_ret
  exact ⟨rfl, rfl⟩
end Go.Proofs.Qxb6002417a
