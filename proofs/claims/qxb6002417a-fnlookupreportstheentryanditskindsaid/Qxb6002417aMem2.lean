/-
  tooBig (18), cloneNames (19), cloneModes (20), modeAt (26), lastIndex (22).
-/
import Derived.Test.Qxb6002417aRow
namespace Go.Proofs.Qxb6002417a.Mem
open Go.RowKit
set_option linter.unusedVariables false

set_option maxHeartbeats 1000000 in
theorem big_long (w : World) (ao mo : Option Addr) (n c m d : Nat) (s t : ByteArray) (hn : n ≤ maxLen) (hm : m ≤ maxLen) (h : 65536 < n ∨ 65536 < m) :
    Calls Try.prog 18 #[.slice ao n c, .slice mo m d, .string s, .string t] w fun e w' => e = .returned (.bool true) ∧ w = w' := by
  unfold maxLen at hn hm
  by_cases h1 : 65536 < n
  · go_enter Try.func18, Try.ntmps18
    go_wp2
    go_ret
    exact ⟨rfl, rfl⟩
  · have h2 : 65536 < m := by omega
    go_enter Try.func18, Try.ntmps18
    go_wp2
    go_ret
    exact ⟨rfl, rfl⟩

set_option maxHeartbeats 1000000 in
theorem big_any (w : World) (ao mo : Option Addr) (n c m d : Nat) (S : Nat → ByteArray) (s t : ByteArray) (hn : n ≤ 65536) (hm : m ≤ 65536) (hs : s.size ≤ maxLen) (ht : t.size ≤ maxLen) (hS : IsStrs w ao n S) :
    Calls Try.prog 18 #[.slice ao n c, .slice mo m d, .string s, .string t] w fun e w' => SomeBool e ∧ w = w' := by
  unfold maxLen at hs ht
  by_cases hs1 : 1048576 < s.size
  · go_enter Try.func18, Try.ntmps18
    go_wp2
    go_ret
    exact ⟨SomeBool.mk _ rfl, rfl⟩
  by_cases ht1 : 1048576 < t.size
  · go_enter Try.func18, Try.ntmps18
    go_wp2
    go_ret
    exact ⟨SomeBool.mk _ rfl, rfl⟩
  have hq0 : 16 * n + 4 * m + s.size + t.size ≤ 4000000 := by omega
  rcases hS with h0 | ⟨b, off, rfl, hlt, hc⟩
  · subst h0
    go_enter Try.func18, Try.ntmps18
    go_wp2
    go_loop [9, 10] (fun t i => ∃ q : Nat, q ≤ 4000000 ∧ t = .int .i64 q ∧ i = .int .i64 0) (fun _ _ => 0)
    case atStart => exact ⟨16 * 0 + 4 * m + s.size + t.size, hq0, by go_num, rfl⟩
    case round =>
      obtain ⟨q, hq, rfl, rfl⟩ := hrel
      go_wp2
      go_ret
      exact ⟨SomeBool.mk _ rfl, rfl⟩
  · go_enter Try.func18, Try.ntmps18
    go_wp2
    go_loop [9, 10] (fun t i => ∃ k q : Nat, k ≤ n ∧ q ≤ 4000000 ∧ t = .int .i64 q ∧ i = .int .i64 k) (fun _ i => n - (intOf i).toNat)
    case atStart => exact ⟨0, 16 * n + 4 * m + s.size + t.size, Nat.zero_le _, hq0, by go_num, rfl⟩
    case round =>
      obtain ⟨k, q, hk, hq, rfl, rfl⟩ := hrel
      by_cases hkn : k < n
      · obtain ⟨hck, hsk⟩ := hc k hkn
        unfold maxLen at hsk
        clear hc
        by_cases h1 : 1048576 < (S k).size
        · go_wp2
          go_ret
          exact ⟨SomeBool.mk _ rfl, rfl⟩
        by_cases h2 : 1048576 < q + (S k).size
        · go_wp2
          go_ret
          exact ⟨SomeBool.mk _ rfl, rfl⟩
        · go_wp2
          go_round
          case rel => exact ⟨k + 1, q + (S k).size, by omega, by omega, by go_num, by go_num⟩
          case measure => simp [intOf]; omega
      · clear hc
        go_wp2
        go_ret
        exact ⟨SomeBool.mk _ rfl, rfl⟩

theorem run_eq_slice (w : World) (T : TypeId) (E : TypeId) (h : Try.prog.underlying T = some (.slice E)) (a : Option Addr) (n c : Nat) :
    (binOp .eql T (.slice a n c) (.slice none 0 0)).run Try.prog w = .ok (.bool a.isNone) w := by
  simp only [binOp]
  simp [Op.equal, Op.maxDepth, Lib.run_equalIn_slice_nil w 9999 T E a n c 0 0 h]

theorem info9 : (Try.prog.info? 9).map (fun i => (i.zero, i.size, i.bytes)) = some (some (.string ByteArray.empty), 1, 16) := by kernel_rfl
theorem info44 : (Try.prog.info? 44).map (fun i => (i.zero, i.size, i.bytes)) = some (some (.int .u32 0), 1, 4) := by kernel_rfl

set_option maxHeartbeats 1000000 in
theorem names_clone (w : World) (ao : Option Addr) (n c : Nat) (S : Nat → ByteArray) (hn : n ≤ 65536) (hS : IsStrs w ao n S) :
    Calls Try.prog 19 #[.slice ao n c] w fun e w' => ∃ ao' c', e = .returned (.slice ao' n c') ∧ IsStrs w' ao' n S ∧ Below w.heap.size w w' := by
  obtain ⟨i0, hi, hz0, hz1, hz2⟩ := info_parts info9
  cases ao with
  | none =>
    have hn0 : n = 0 := by
      rcases hS with h | ⟨b, off, e, _⟩
      · exact h
      · cases e
    subst hn0
    have heq := fun w => run_eq_slice w 30 9 Try.underlying30 none 0 c
    go_enter Try.func19, Try.ntmps19
    go_wp2
    go_ret
    exact ⟨none, 0, rfl, .inl rfl, Below.refl _ _⟩
  | some a =>
    have heq := fun w => run_eq_slice w 30 9 Try.underlying30 (some a) n c
    go_enter Try.func19, Try.ntmps19
    go_wp2_with (at_make; refine wpList_make_full _ rfl _ _ 30 rfl w.heap.size 9 i0 (.string ByteArray.empty) 1 Try.underlying30 hi hz0 hz1 .i64 .i64 _ _ n rfl rfl rfl rfl (by rw [hz2]; omega) (by unfold maxLen; omega) (Nat.le_refl _) ?_; intro w1 hown hgrow)
    have hF := Fill.start (fun i => .string (S i)) hown
    have hb1 : Below w.heap.size w w1 := (Below.refl _ _).grown hgrow (Nat.le_refl _) (fun k hk => by cases hk)
    have hsz1 : w.heap.size < w1.heap.size := own_lt hown
    clear hown hgrow hi hz0 hz1 hz2 heq
    go_loopw [4] (fun i w' => ∃ k : Nat, k ≤ n ∧ i = .int .i64 k ∧ Fill w' w.heap.size n k (fun i => .string (S i)) ∧ Below w.heap.size w w' ∧ w.heap.size < w'.heap.size) (fun i _ => n - (intOf i).toNat)
    case atStart => exact ⟨0, Nat.zero_le _, rfl, hF, hb1, hsz1⟩
    case round =>
      clear hF hb1 hsz1
      obtain ⟨k, hk, rfl, hF, hb, hsz⟩ := hrel
      by_cases hlt : k < n
      · rcases hS with h0 | ⟨b, off, e, hb0, hc⟩
        · omega
        simp only [Option.some.injEq] at e
        subst e
        have hck : wr.cell? ⟨b, off + k, none⟩ = some (.string (S k)) := (hb.cell (p := ⟨b, off + k, none⟩) hb0).trans (hc k hlt).1
        obtain ⟨v0, hv0⟩ := hF.cell k hlt
        have hf0 := hF.free k hlt
        clear hc
        go_wp2_with fail
        go_roundw
        case rel => exact ⟨k + 1, by omega, by go_num, hF.step hlt _ rfl, hb.setCell (p := ⟨w.heap.size, k, none⟩) (Nat.le_refl _) _, by simpa using hsz⟩
        case measure => simp [intOf]; omega
      · have hkn : k = n := by omega
        subst hkn
        go_wp2_with fail
        go_ret
        refine ⟨some ⟨w.heap.size, 0, none⟩, k, rfl, ?_, hb⟩
        rcases hS with h0 | ⟨b, off, e, hb0, hc⟩
        · exact .inl h0
        · exact .inr ⟨w.heap.size, 0, rfl, hsz, fun j hj => ⟨by rw [Nat.zero_add]; exact hF.2 j hj, (hc j hj).2⟩⟩

set_option maxHeartbeats 1000000 in
theorem modes_clone (w : World) (ao : Option Addr) (n c : Nat) (S : Nat → Int) (hn : n ≤ 65536) (hS : IsModes w ao n S) :
    Calls Try.prog 20 #[.slice ao n c] w fun e w' => ∃ ao' c', e = .returned (.slice ao' n c') ∧ IsModes w' ao' n S ∧ Below w.heap.size w w' := by
  obtain ⟨i0, hi, hz0, hz1, hz2⟩ := info_parts info44
  cases ao with
  | none =>
    have hn0 : n = 0 := by
      rcases hS with h | ⟨b, off, e, _⟩
      · exact h
      · cases e
    subst hn0
    have heq := fun w => run_eq_slice w 31 44 Try.underlying31 none 0 c
    go_enter Try.func20, Try.ntmps20
    go_wp2
    go_ret
    exact ⟨none, 0, rfl, .inl rfl, Below.refl _ _⟩
  | some a =>
    have heq := fun w => run_eq_slice w 31 44 Try.underlying31 (some a) n c
    go_enter Try.func20, Try.ntmps20
    go_wp2_with (at_make; refine wpList_make_full _ rfl _ _ 31 rfl w.heap.size 44 i0 (.int .u32 0) 1 Try.underlying31 hi hz0 hz1 .i64 .i64 _ _ n rfl rfl rfl rfl (by rw [hz2]; omega) (by unfold maxLen; omega) (Nat.le_refl _) ?_; intro w1 hown hgrow)
    have hF := Fill.start (fun i => .int .u32 (S i)) hown
    have hb1 : Below w.heap.size w w1 := (Below.refl _ _).grown hgrow (Nat.le_refl _) (fun k hk => by cases hk)
    have hsz1 : w.heap.size < w1.heap.size := own_lt hown
    clear hown hgrow hi hz0 hz1 hz2 heq
    go_loopw [4] (fun i w' => ∃ k : Nat, k ≤ n ∧ i = .int .i64 k ∧ Fill w' w.heap.size n k (fun i => .int .u32 (S i)) ∧ Below w.heap.size w w' ∧ w.heap.size < w'.heap.size) (fun i _ => n - (intOf i).toNat)
    case atStart => exact ⟨0, Nat.zero_le _, rfl, hF, hb1, hsz1⟩
    case round =>
      clear hF hb1 hsz1
      obtain ⟨k, hk, rfl, hF, hb, hsz⟩ := hrel
      by_cases hlt : k < n
      · rcases hS with h0 | ⟨b, off, e, hb0, hc⟩
        · omega
        simp only [Option.some.injEq] at e
        subst e
        have hck : wr.cell? ⟨b, off + k, none⟩ = some (.int .u32 (S k)) := (hb.cell (p := ⟨b, off + k, none⟩) hb0).trans (hc k hlt).1
        obtain ⟨v0, hv0⟩ := hF.cell k hlt
        have hf0 := hF.free k hlt
        clear hc
        go_wp2_with fail
        go_roundw
        case rel => exact ⟨k + 1, by omega, by go_num, hF.step hlt _ rfl, hb.setCell (p := ⟨w.heap.size, k, none⟩) (Nat.le_refl _) _, by simpa using hsz⟩
        case measure => simp [intOf]; omega
      · have hkn : k = n := by omega
        subst hkn
        go_wp2_with fail
        go_ret
        refine ⟨some ⟨w.heap.size, 0, none⟩, k, rfl, ?_, hb⟩
        rcases hS with h0 | ⟨b, off, e, hb0, hc⟩
        · exact .inl h0
        · exact .inr ⟨w.heap.size, 0, rfl, hsz, fun j hj => ⟨by rw [Nat.zero_add]; exact hF.2 j hj, (hc j hj).2⟩⟩

/-- modeAt. -/
def modeOf (M : Nat → Int) (m i : Nat) : Int := if i < m then M i else 0

theorem mode_at (w : World) (ao : Option Addr) (m c i : Nat) (M : Nat → Int) (hi : i ≤ 65536) (hm : m ≤ 65536) (hM : IsModes w ao m M) :
    Calls Try.prog 26 #[.slice ao m c, .int .i64 i] w fun e w' => e = .returned (.int .u32 (modeOf M m i)) ∧ w = w' := by
  by_cases h : i < m
  · rcases hM with h0 | ⟨b, off, rfl, hb0, hc⟩
    · omega
    have hck := (hc i h).1
    clear hc
    have e : modeOf M m i = M i := if_pos h
    rw [e]
    clear e
    go_enter Try.func26, Try.ntmps26
    go_wp2
    go_ret
    exact ⟨rfl, rfl⟩
  · have e : modeOf M m i = 0 := if_neg h
    rw [e]
    clear e hM
    go_enter Try.func26, Try.ntmps26
    go_wp2
    go_ret
    exact ⟨rfl, rfl⟩
end Go.Proofs.Qxb6002417a.Mem
