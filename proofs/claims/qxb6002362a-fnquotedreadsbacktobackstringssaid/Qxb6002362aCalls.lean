/-
  CONTRACTS OF THE CALLEES: zzHasQuote (8), internal/stringslite.IndexByte (13), strings.IndexByte (11), errors.New (12).
-/
import Derived.Test.Qxb6002362aRows
import Derived.Test.Qxb6002362aPlain
import Derived.WalkKit
import Derived.Lib.Strings
import Derived.Lib.Slices
import Derived.Lib.Walk
import Derived.Lib.Bytealg
import Derived.WalkSpells
import Derived.WalkSmall
import Derived.Deep.QuietTactic
import Derived.BigQuiet
namespace Go.Proofs.Qxb6002362a
open Go.RowKit

set_option maxHeartbeats 1000000 in
set_option maxRecDepth 100000 in
theorem slite_any (s : ByteArray) (c : Int) (w : World) :
    Calls Try.prog 13 #[.string s, .int .u8 c] w fun e w' => e = .returned (.int .i64 (Lib.indexByte s.data.toList c.toNat.toUInt8)) ∧ w' = w := by
  go_enter Try.func13, Try.ntmps13
  go_wp2
  rw [run_callFunc_extern Try.func14 (by kernel_rfl) (by kernel_rfl) (by kernel_rfl) (e := Extern.BytealgIndexByte.indexByte) (by kernel_rfl), Lib.run_indexByteString]
  simp only [Result.andThen]
  rw [Oper.upon_value]
  go_wp2
  go_ret
  exact ⟨rfl, rfl⟩

set_option maxHeartbeats 1000000 in
theorem index_any (s : ByteArray) (c : Int) (w : World) :
    Calls Try.prog 11 #[.string s, .int .u8 c] w fun e w' => e = .returned (.int .i64 (Lib.indexByte s.data.toList c.toNat.toUInt8)) ∧ w' = w := by
  go_enter Try.func11, Try.ntmps11
  go_wp2_with (go_at_call 13; refine (slite_any _ _ _).mono ?_; rintro e w' ⟨rfl, rfl⟩)
  go_ret
  exact ⟨rfl, rfl⟩

theorem ret_bool {a b : Bool} (h : a = b) : Ending.returned (.bool a) = .returned (.bool b) := by rw [h]

set_option maxHeartbeats 400000 in
theorem hasQ_any (s : ByteArray) (w : World) (hs : s.size ≤ maxLen) :
    Calls Try.prog 8 #[.string s] w fun e w' => e = .returned (.bool (hasB s.data.toList 34)) ∧ w' = w := by
  unfold maxLen at hs
  go_enter Try.func8, Try.ntmps8
  go_wp2
  go_loop [3] (fun i => ∃ k : Nat, k ≤ s.size ∧ i = .int .i64 k ∧ (34 : UInt8) ∉ s.data.toList.take k) (fun i => s.size - (intOf i).toNat)
  case atStart => exact ⟨0, Nat.zero_le _, rfl, by simp⟩
  case round =>
    obtain ⟨k, hk, rfl, hno⟩ := hrel
    by_cases hlt : k < s.size
    · have HN : Hid ((34 : UInt8) ∉ s.data.toList.take k) := hno
      clear hno
      go_wp2
      · have hb : ((s[k].toNat : Int) == 34) = true := by assumption
        go_ret
        exact ⟨ret_bool (has_yes s k hlt hb).symm, rfl⟩
      · have hb : ((s[k].toNat : Int) == 34) = false := by assumption
        go_round
        case rel => exact ⟨k + 1, by omega, by go_num, has_step s k hlt hb HN.out⟩
        case measure => simp [intOf]; omega
    · have HN : Hid ((34 : UInt8) ∉ s.data.toList.take k) := hno
      clear hno
      go_wp2
      go_ret
      exact ⟨ret_bool (has_no s k hlt HN.out).symm, rfl⟩

set_option maxHeartbeats 400000 in
theorem new_any (s : ByteArray) (w : World) :
    Calls Try.prog 12 #[.string s] w fun e w' => e = .returned (.iface 37 (.pointer (some ⟨w.heap.size, 0, none⟩))) ∧ w' = w.alloc (.cells #[.string s] 39) := by
  go_enter Try.func12, Try.ntmps12
  go_wp2
  go_ret
  exact ⟨rfl, rfl⟩

theorem index_at (s : ByteArray) (n : Int) (w : World) (h : Hid (Lib.indexByte s.data.toList 34 = n)) :
    Calls Try.prog 11 #[.string s, .int .u8 34] w fun e w' => e = .returned (.int .i64 n) ∧ w' = w := by
  refine (index_any s 34 w).mono ?_
  rintro e w' ⟨rfl, rfl⟩
  exact ⟨by rw [show (34 : Int).toNat.toUInt8 = 34 from rfl, h.out], rfl⟩

set_option maxHeartbeats 400000 in
/-- Quoted, no closing quote: refused; the scanner is as it was. -/
theorem quoted_none (T : ByteArray) (p b : Nat) (w : World) (hT : T.size ≤ 1048576) (hp : p < T.size) (c0 : w.cell? ⟨b, 0, none⟩ = some (.string T)) (c1 : w.cell? ⟨b, 1, none⟩ = some (.int .i64 p))
    (hno : Hid (Lib.indexByte (T.extract (p + 1) T.size).data.toList 34 = -1)) :
    Calls Try.prog 7 #[.pointer (some ⟨b, 0, none⟩)] w fun e w' => (∃ a, e = .returned (.tuple #[.string ByteArray.empty, .iface 37 (.pointer (some a))])) ∧ Below w.heap.size w w' := by
  have hl0 : (0 : Int) ≤ (p : Int) + 1 := by omega
  have hl1 : (p : Int) + 1 ≤ (T.size : Int) := by omega
  go_enter Try.func7, Try.ntmps7
  go_wp2
  go_quiet (fail)
  go_wp2_with fail
  refine (index_at _ _ _ hno).mono ?_
  rintro e w' ⟨rfl, rfl⟩
  go_wp2_with fail
  refine (new_any _ _).mono ?_
  rintro e w' ⟨rfl, rfl⟩
  go_wp2_with fail
  go_ret2
  exact ⟨⟨_, rfl⟩, below_drewN ((Below.refl _ _).alloc (Nat.le_refl _) _) _⟩

theorem set_pos (w : World) (T : ByteArray) (p b : Nat) (z : Int) (nq : Nat) (c0 : w.cell? ⟨b, 0, none⟩ = some (.string T)) (c1 : w.cell? ⟨b, 1, none⟩ = some (.int .i64 p)) (f1 : w.frozen? ⟨b, 1, none⟩ = false) :
    ((w.setCell ⟨b, 1, none⟩ (.int .i64 z)).drewN nq).cell? ⟨b, 0, none⟩ = some (.string T) ∧ ((w.setCell ⟨b, 1, none⟩ (.int .i64 z)).drewN nq).cell? ⟨b, 1, none⟩ = some (.int .i64 z) ∧
      ((w.setCell ⟨b, 1, none⟩ (.int .i64 z)).drewN nq).frozen? ⟨b, 1, none⟩ = false ∧ Below b w ((w.setCell ⟨b, 1, none⟩ (.int .i64 z)).drewN nq) := by
  refine ⟨?_, ?_, ?_, ?_⟩
  · rw [World.cell?_drewN, World.cell?_setCell_other _ _ _ _ (by simp)]; exact c0
  · rw [World.cell?_drewN]; exact World.cell?_setCell_same _ _ _ c1
  · rw [World.frozen?_drewN, World.frozen?_setCell]; exact f1
  · exact below_drewN ((Below.refl b w).setCell (p := ⟨b, 1, none⟩) (Nat.le_refl b) _) nq

theorem cut_cut (T : ByteArray) (p n : Nat) (h : p + n + 2 ≤ T.size) : ((T.extract (p + 1) T.size).extract 0 n).data.toList = (T.data.toList.drop (p + 1)).take n := by
  rw [Lib.extract_data, Lib.extract_data, List.drop_zero, Nat.sub_zero, List.take_take, Nat.min_eq_left (by omega)]

set_option maxHeartbeats 400000 in
/-- Quoted, a closing quote n bytes on: what lies between is handed back; the scanner stands behind the quote. -/
theorem quoted_some (T : ByteArray) (p n b : Nat) (w : World) (hT : T.size ≤ 1048576) (hp : p + n + 2 ≤ T.size) (c0 : w.cell? ⟨b, 0, none⟩ = some (.string T)) (c1 : w.cell? ⟨b, 1, none⟩ = some (.int .i64 p)) (f1 : w.frozen? ⟨b, 1, none⟩ = false)
    (hix : Hid (Lib.indexByte (T.extract (p + 1) T.size).data.toList 34 = n)) :
    Calls Try.prog 7 #[.pointer (some ⟨b, 0, none⟩)] w fun e w' => ∃ s : ByteArray, e = .returned (.tuple #[.string s, .nilIface]) ∧ Hid (s.data.toList = (T.data.toList.drop (p + 1)).take n) ∧
      w'.cell? ⟨b, 0, none⟩ = some (.string T) ∧ w'.cell? ⟨b, 1, none⟩ = some (.int .i64 ((p : Int) + n + 2)) ∧ w'.frozen? ⟨b, 1, none⟩ = false ∧ Below b w w' := by
  have hl0 : (0 : Int) ≤ (p : Int) + 1 := by omega
  have hl1 : (p : Int) + 1 ≤ (T.size : Int) := by omega
  go_enter Try.func7, Try.ntmps7
  go_wp2
  go_quiet (fail)
  go_wp2_with fail
  refine (index_at _ _ _ hix).mono ?_
  rintro e w' ⟨rfl, rfl⟩
  go_wp2_with fail
  go_ret2
  have hw : ((p : Int) + (n + 2)) = (p : Int) + n + 2 := by omega
  refine ⟨_, rfl, cut_cut T p n hp, ?_⟩
  rw [hw]
  exact set_pos w T p b _ _ c0 c1 f1
end Go.Proofs.Qxb6002362a
