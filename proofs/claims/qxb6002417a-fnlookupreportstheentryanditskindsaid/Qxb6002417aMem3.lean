/-
  lastIndex (22), ZZNewNode (30).
-/
import Derived.Test.Qxb6002417aMem2
namespace Go.Proofs.Qxb6002417a.Mem
open Go.RowKit
set_option linter.unusedVariables false

/-- The last place below k at which the string stands; -1 where there is none. -/
def lastIdx (S : Nat → ByteArray) (s : ByteArray) : Nat → Int
  | 0 => -1
  | k + 1 => if ((S k).toList == s.toList) = true then (k : Int) else lastIdx S s k

theorem last_hit {S : Nat → ByteArray} {s : ByteArray} {k : Nat} (h : ((S k).toList == s.toList) = true) : lastIdx S s (k + 1) = k := by
  rw [lastIdx, if_pos h]
theorem last_miss {S : Nat → ByteArray} {s : ByteArray} {k : Nat} (h : ((S k).toList == s.toList) = false) : lastIdx S s (k + 1) = lastIdx S s k := by
  rw [lastIdx, if_neg (by rw [h]; simp)]

theorem ret_int {k : IntKind} {a b : Int} (h : a = b) : Ending.returned (.int k a) = .returned (.int k b) := by rw [h]

set_option maxHeartbeats 1000000 in
theorem last_any (w : World) (ao : Option Addr) (n c : Nat) (S : Nat → ByteArray) (s : ByteArray) (hn : n ≤ 65536) (hS : IsStrs w ao n S) :
    Calls Try.prog 22 #[.slice ao n c, .string s] w fun e w' => e = .returned (.int .i64 (lastIdx S s n)) ∧ w = w' := by
  go_enter Try.func22, Try.ntmps22
  go_wp2
  go_loop [5] (fun i => ∃ k : Nat, k ≤ n ∧ i = .int .i64 ((k : Int) - 1) ∧ Hid (lastIdx S s n = lastIdx S s k)) (fun i => (intOf i + 1).toNat)
  case atStart => exact ⟨n, Nat.le_refl _, rfl, rfl⟩
  case round =>
    obtain ⟨k, hk, rfl, hl⟩ := hrel
    cases k with
    | zero =>
      go_wp2
      go_ret
      exact ⟨ret_int hl.out.symm, rfl⟩
    | succ k =>
      rcases hS with h0 | ⟨b, off, rfl, hb0, hc⟩
      · omega
      have hck := (hc k (by omega)).1
      clear hc
      cases hb : ((S k).toList == s.toList) with
      | true =>
        have e : Hid (lastIdx S s n = k) := hl.out.trans (last_hit hb)
        go_wp2
        go_ret
        exact ⟨ret_int e.out.symm, rfl⟩
      | false =>
        have e : Hid (lastIdx S s n = lastIdx S s k) := hl.out.trans (last_miss hb)
        go_wp2
        go_round
        case rel => exact ⟨k, by omega, rfl, e⟩
        case measure => simp [intOf]

/-- A new node: mode, modTime (3 cells), content (3 cells), target, entries, removed. -/
def nodeObj (z : Int) (mv : Option Nat) (r : Bool) : Obj :=
  .cells #[.int .u32 z, .int .u64 0, .int .i64 0, .pointer none, .int .i64 0, .slice none 0 0, .map none, .string { data := #[] }, .map mv, .bool r] 68

theorem node_new (w : World) (z : Int) (mv : Option Nat) (r : Bool) :
    Calls Try.prog 30 #[.int .u32 z, .map mv, .bool r] w fun e w' => e = .returned (.pointer (some ⟨w.heap.size, 0, none⟩)) ∧ w' = w.alloc (nodeObj z mv r) := by
  go_enter Try.func30, Try.ntmps30
  go_wp2
  go_ret
  exact ⟨rfl, rfl⟩

theorem node_cells (w : World) (z : Int) (mv : Option Nat) (r : Bool) :
    (w.alloc (nodeObj z mv r)).cell? ⟨w.heap.size, 0, none⟩ = some (.int .u32 z) ∧ (w.alloc (nodeObj z mv r)).cell? ⟨w.heap.size, 8, none⟩ = some (.map mv) ∧ (w.alloc (nodeObj z mv r)).cell? ⟨w.heap.size, 9, none⟩ = some (.bool r) := by
  unfold nodeObj
  simp

/-- An error, whichever. -/
def SomeErr (v : Value) : Prop := ∃ k : Int, v = .iface 48 (.int .u64 k)

theorem run_equalIn_iface_int {P : Program} (w : World) (d : Nat) {ti tn : TypeId} {ms : Array (String × TypeId)} {i : TypeInfo} {k : IntKind} (a b : Int)
    (hi : P.underlying ti = some (.interface ms)) (hn : P.underlying tn = some (.int k)) (hinfo : P.info? tn = some i) (hcomp : i.comparable = true) :
    (Op.equalIn (d + 2) ti (.iface tn (.int k a)) (.iface tn (.int k b))).run P w = .ok (a == b) w := by
  simp [Op.equalIn, run_underlying hi, run_underlying hn, typeInfo, hinfo, hcomp]

theorem run_eql_iface_int {P : Program} (w : World) {ti tn : TypeId} {ms : Array (String × TypeId)} {i : TypeInfo} {k : IntKind} (a b : Int)
    (hi : P.underlying ti = some (.interface ms)) (hn : P.underlying tn = some (.int k)) (hinfo : P.info? tn = some i) (hcomp : i.comparable = true) :
    (binOp .eql ti (.iface tn (.int k a)) (.iface tn (.int k b))).run P w = .ok (.bool (a == b)) w := by
  simp only [binOp]
  simp [Op.equal, Op.maxDepth, run_equalIn_iface_int w 9998 a b hi hn hinfo hcomp]

theorem info48 : (Try.prog.info? 48).map (fun i => i.comparable) = some true := by kernel_rfl

theorem eql_errno (w : World) (a b : Int) : (binOp .eql 25 (.iface 48 (.int .u64 a)) (.iface 48 (.int .u64 b))).run Try.prog w = .ok (.bool (a == b)) w := by
  obtain ⟨i, hi, hc⟩ := Option.map_eq_some_iff.1 info48
  exact run_eql_iface_int w a b Try.underlying25 Try.underlying48 hi hc

set_option maxHeartbeats 1000000 in
theorem child_hit (w : World) (D : Nat) (mv : Option Nat) (s : ByteArray) (a : Addr) (c8 : w.cell? ⟨D, 8, none⟩ = some (.map mv))
    (hrun : (Instr.lookup 50 (.map mv) (.string s) false).run Try.prog w = .ok (.pointer (some a)) w) :
    Calls Try.prog 31 #[.pointer (some ⟨D, 0, none⟩), .string s] w fun e w' => e = .returned (.tuple #[.pointer (some a), .nilIface]) ∧ w = w' := by
  go_enter Try.func31, Try.ntmps31
  go_wp2_with fail
  go_ret2
  exact ⟨rfl, rfl⟩

set_option maxHeartbeats 1000000 in
theorem child_miss (w : World) (D : Nat) (mv : Option Nat) (s : ByteArray) (r : Bool) (c8 : w.cell? ⟨D, 8, none⟩ = some (.map mv)) (c9 : w.cell? ⟨D, 9, none⟩ = some (.bool r))
    (hrun : (Instr.lookup 50 (.map mv) (.string s) false).run Try.prog w = .ok (.pointer none) w) :
    Calls Try.prog 31 #[.pointer (some ⟨D, 0, none⟩), .string s] w fun e w' => (∃ v, e = .returned (.tuple #[.pointer none, v]) ∧ SomeErr v) ∧ w = w' := by
  have heq := eql_errno
  cases hq : hasB s.data.toList 0 with
  | true =>
    have HQ : Hid (hasB s.data.toList 0 = true) := hq
    clear hq
    go_enter Try.func31, Try.ntmps31
    go_wp2_with (go_at_call 14; refine (elem_nul _ _ HQ).mono ?_; rintro e w' ⟨rfl, rfl⟩)
    all_goals (go_ret2; exact ⟨⟨_, rfl, ⟨_, rfl⟩⟩, rfl⟩)
  | false =>
    have HQ : Hid (hasB s.data.toList 0 = false) := hq
    clear hq
    by_cases hl : 255 < s.size
    · go_enter Try.func31, Try.ntmps31
      go_wp2_with (go_at_call 14; refine (elem_long _ _ HQ hl).mono ?_; rintro e w' ⟨rfl, rfl⟩)
      all_goals (go_ret2; exact ⟨⟨_, rfl, ⟨_, rfl⟩⟩, rfl⟩)
    · go_enter Try.func31, Try.ntmps31
      go_wp2_with (go_at_call 14; refine (elem_ok _ _ HQ (by omega)).mono ?_; rintro e w' ⟨rfl, rfl⟩)
      all_goals (go_ret2; exact ⟨⟨_, rfl, ⟨_, rfl⟩⟩, rfl⟩)
end Go.Proofs.Qxb6002417a.Mem
