/-
  No strings at all: a nil slice, or an empty one.
-/
import Derived.Test.Qxb6002362aBackA
namespace Go.Proofs.Qxb6002362a.Back
open Go.ChangeShapes Go.WideShapes Go.ChangeAt Go.RowKit
set_option linter.unusedVariables false

set_option maxHeartbeats 400000 in
theorem bytes_zero (w : World) (ao : Option Addr) (c : Nat) :
    Calls Try.prog 10 #[.slice ao 0 c] w fun e w' => e = .returned (.bool true) ∧ w = w' := by
  go_enter Try.func10, Try.ntmps10
  go_wp2
  go_loop [4] (fun i => i = .int .i64 0) (fun _ => 0)
  case atStart => rfl
  case round =>
    subst hrel
    go_wp2
    go_ret
    exact ⟨rfl, rfl⟩

set_option maxRecDepth 100000 in
set_option maxHeartbeats 1000000 in
theorem zero_nil (w : World) (c : Nat) :
    Calls Try.prog 5 #[.slice none 0 c] w fun e w' => e = .returned (.bool true) ∧ Below w.heap.size w w' := by
  have hne := fun w => run_neq_slice_nil_any (P := Try.prog) w 31 9 none 0 c 0 0 Try.underlying31
  obtain ⟨i0, hi, hz0, hz1, hz2⟩ := info_parts info5
  have hconv := fun (w : World) (g : Nat) => run_convert_bytes_arg (P := Try.prog) w 33 5 Try.underlying33 Try.underlying5 g 0 0 0 [] rfl (fun i hi => by omega) 9 Try.underlying9
  go_enter Try.func5, Try.ntmps5
  go_wp2_with (go_at_call 10; refine (bytes_zero _ _ _).mono ?_; rintro e w' ⟨rfl, rfl⟩)
  go_loop [4] (fun i => i = .int .i64 0) (fun _ => 0)
  case atStart => rfl
  case round =>
  subst hrel
  go_wp2_with fail
  go_loop [5] (fun i => i = .int .i64 0) (fun _ => 0)
  case atStart => rfl
  case round =>
  subst hrel
  go_wp2_with fail
  go_loop [8, 9] (fun s i => s = .int .i64 0 ∧ i = .int .i64 0) (fun _ _ => 0)
  case atStart => exact ⟨rfl, rfl⟩
  case round =>
  obtain ⟨rfl, rfl⟩ := hrel
  go_wp2_with (at_make; refine wpList_make_full _ rfl _ _ 33 rfl w.heap.size 5 i0 (.int .u8 0) 1 Try.underlying33 hi hz0 hz1 .i64 .i64 _ _ 0 rfl rfl rfl rfl (by omega) (by unfold maxLen; omega) (Nat.le_refl _) ?_; intro w1 hown hgrow)
  have hb1 : Below w.heap.size w w1 := (Below.refl _ _).grown hgrow (Nat.le_refl _) (fun k hk => by cases hk)
  clear hown hgrow hi hz0 hz1 hz2
  go_loop [12] (fun i => i = .int .i64 0) (fun _ => 0)
  case atStart => rfl
  case round =>
  subst hrel
  go_wp2_with fail
  go_loop [17] (fun i => i = .int .i64 0) (fun _ => 0)
  case atStart => rfl
  case round =>
  subst hrel
  go_wp2_with fail
  go_ret
  exact ⟨ret_bool rfl, hb1.alloc hb1.size _⟩

set_option maxRecDepth 100000 in
set_option maxHeartbeats 1000000 in
theorem zero_some (w : World) (a : Addr) (c : Nat) :
    Calls Try.prog 5 #[.slice (some a) 0 c] w fun e w' => e = .returned (.bool true) ∧ Below w.heap.size w w' := by
  have hne := fun w => run_neq_slice_nil_any (P := Try.prog) w 31 9 (some a) 0 c 0 0 Try.underlying31
  obtain ⟨i0, hi, hz0, hz1, hz2⟩ := info_parts info5
  obtain ⟨i9, hi9, hz90, hz91, hz92⟩ := info_parts info9
  have hconv := fun (w : World) (g : Nat) => run_convert_bytes_arg (P := Try.prog) w 33 5 Try.underlying33 Try.underlying5 g 0 0 0 [] rfl (fun i hi => by omega) 9 Try.underlying9
  go_enter Try.func5, Try.ntmps5
  go_wp2_with (go_at_call 10; refine (bytes_zero _ _ _).mono ?_; rintro e w' ⟨rfl, rfl⟩)
  go_loop [4] (fun i => i = .int .i64 0) (fun _ => 0)
  case atStart => rfl
  case round =>
  subst hrel
  go_wp2_with fail
  go_loop [5] (fun i => i = .int .i64 0) (fun _ => 0)
  case atStart => rfl
  case round =>
  subst hrel
  go_wp2_with (at_make; refine wpList_make_full _ rfl _ _ 31 rfl w.heap.size 9 i9 (.string ByteArray.empty) 1 Try.underlying31 hi9 hz90 hz91 .i64 .i64 _ _ 0 rfl rfl rfl rfl (by omega) (by unfold maxLen; omega) (Nat.le_refl _) ?_; intro w2 hown2 hgrow2)
  have hb2 : Below w.heap.size w w2 := (Below.refl _ _).grown hgrow2 (Nat.le_refl _) (fun k hk => by cases hk)
  clear hown2 hgrow2
  go_loop [7] (fun i => i = .int .i64 0) (fun _ => 0)
  case atStart => rfl
  case round =>
  subst hrel
  go_wp2_with fail
  go_loop [8, 9] (fun s i => s = .int .i64 0 ∧ i = .int .i64 0) (fun _ _ => 0)
  case atStart => exact ⟨rfl, rfl⟩
  case round =>
  obtain ⟨rfl, rfl⟩ := hrel
  go_wp2_with (at_make; refine wpList_make_full _ rfl _ _ 33 rfl w2.heap.size 5 i0 (.int .u8 0) 1 Try.underlying33 hi hz0 hz1 .i64 .i64 _ _ 0 rfl rfl rfl rfl (by omega) (by unfold maxLen; omega) (Nat.le_refl _) ?_; intro w1 hown hgrow)
  have hb1 : Below w2.heap.size w2 w1 := (Below.refl _ _).grown hgrow (Nat.le_refl _) (fun k hk => by cases hk)
  clear hown hgrow hi hz0 hz1 hz2
  go_loop [12] (fun i => i = .int .i64 0) (fun _ => 0)
  case atStart => rfl
  case round =>
  subst hrel
  go_wp2_with fail
  go_loop [17] (fun i => i = .int .i64 0) (fun _ => 0)
  case atStart => rfl
  case round =>
  subst hrel
  go_wp2_with fail
  go_ret
  exact ⟨ret_bool rfl, (hb2.trans (hb1.mono hb2.size)).alloc (Nat.le_trans hb2.size hb1.size) _⟩
end Go.Proofs.Qxb6002362a.Back
