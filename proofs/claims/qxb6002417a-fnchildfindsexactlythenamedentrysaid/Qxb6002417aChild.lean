/-
  The walk of FnChildFindsExactlyTheNamedEntry.
-/
import Derived.Test.Qxb6002417aBuild
import Derived.Deep.QuietTactic
import Derived.BigQuiet
import Derived.LaidEqlPtr
namespace Go.Proofs.Qxb6002417a.Mem
open Go.RowKit Go.Maps
set_option linter.unusedVariables false

theorem zz_hit (w : World) (D : Nat) (mv : Option Nat) (s : ByteArray) (a : Addr) (c8 : w.cell? ⟨D, 8, none⟩ = some (.map mv))
    (hrun : (Instr.lookup 50 (.map mv) (.string s) false).run Try.prog w = .ok (.pointer (some a)) w) :
    Calls Try.prog 23 #[.pointer (some ⟨D, 0, none⟩), .string s] w fun e w' => e = .returned (.tuple #[.pointer (some a), .nilIface]) ∧ w = w' := by
  have hc := child_hit w D mv s a c8 hrun
  go_enter Try.func23, Try.ntmps23
  go_wp2_with fail
  refine hc.mono ?_
  rintro e w' ⟨rfl, rfl⟩
  go_wp2_with fail
  go_ret2
  exact ⟨rfl, rfl⟩

theorem zz_miss (w : World) (D : Nat) (mv : Option Nat) (s : ByteArray) (r : Bool) (c8 : w.cell? ⟨D, 8, none⟩ = some (.map mv)) (c9 : w.cell? ⟨D, 9, none⟩ = some (.bool r))
    (hrun : (Instr.lookup 50 (.map mv) (.string s) false).run Try.prog w = .ok (.pointer none) w) :
    Calls Try.prog 23 #[.pointer (some ⟨D, 0, none⟩), .string s] w fun e w' => (∃ k : Int, e = .returned (.tuple #[.pointer none, .iface 48 (.int .u64 k)])) ∧ w = w' := by
  have hc := child_miss w D mv s r c8 c9 hrun
  go_enter Try.func23, Try.ntmps23
  go_wp2_with fail
  refine hc.mono ?_
  rintro e w' ⟨⟨v, rfl, ⟨k, rfl⟩⟩, rfl⟩
  go_wp2_with fail
  go_ret2
  exact ⟨⟨k, rfl⟩, rfl⟩

/-- One pointer, compared with itself. -/
theorem ptr_eql (w : World) (a : Addr) : (binOp .eql 36 (.pointer (some a)) (.pointer (some a))).run Try.prog w = .ok (.bool true) w := by
  have h : ∃ j, Try.prog.info? 68 = some j := by
    have e : (Try.prog.info? 68).isSome = true := by kernel_rfl
    exact Option.isSome_iff_exists.1 e
  obtain ⟨j, hj⟩ := h
  exact run_eql_ptr_same w a Try.underlying36 hj
theorem ptr_neq (w : World) (a : Addr) : (binOp .neq 36 (.pointer (some a)) (.pointer (some a))).run Try.prog w = .ok (.bool false) w := by
  have h : ∃ j, Try.prog.info? 68 = some j := by
    have e : (Try.prog.info? 68).isSome = true := by kernel_rfl
    exact Option.isSome_iff_exists.1 e
  obtain ⟨j, hj⟩ := h
  have h : ∀ d : Nat, (Op.equalIn (d + 1) 36 (.pointer (some a)) (.pointer (some a))).run Try.prog w = .ok true w := fun d => by
    simp [Op.equalIn, run_underlying Try.underlying36, sizeOf, typeInfo, hj, run_sameAddr_same]
  simp only [binOp]
  simp [Op.equal, Op.maxDepth, h 9999]

set_option maxRecDepth 100000 in
set_option maxHeartbeats 1000000 in
theorem child_walk (w : World) (ao mo : Option Addr) (n c m d : Nat) (S : Nat → ByteArray) (M : Nat → Int) (r : Bool) (s : ByteArray) (hn : n ≤ maxLen) (hm : m ≤ maxLen) (hs : s.size ≤ maxLen) (hS : IsStrs w ao n S) (hM : IsModes w mo m M) :
    Calls Try.prog 6 #[.slice ao n c, .slice mo m d, .bool r, .string s] w fun e w' => e = .returned (.bool true) ∧ Below w.heap.size w w' := by
  have h17 := bytes17 w ao mo n c m d S r s hn hm hs hS
  by_cases hbig : 65536 < n ∨ 65536 < m
  · have h18 := big_long w ao mo n c m d s { data := #[] } hn hm hbig
    go_enter Try.func6, Try.ntmps6
    go_wp2_with fail
    refine h17.mono ?_
    rintro e w' ⟨⟨x, rfl⟩, rfl⟩
    cases x
    · go_wp2_with fail
      go_ret
      exact ⟨rfl, Below.refl _ _⟩
    go_wp2_with fail
    refine h18.mono ?_
    rintro e w' ⟨rfl, rfl⟩
    go_wp2_with fail
    go_ret
    exact ⟨rfl, Below.refl _ _⟩
  have hn' : n ≤ 65536 := by omega
  have hm' : m ≤ 65536 := by omega
  have h18 := big_any w ao mo n c m d S s { data := #[] } hn' hm' hs (by unfold maxLen; show 0 ≤ _; omega) hS
  go_enter Try.func6, Try.ntmps6
  go_wp2_with fail
  refine h17.mono ?_
  rintro e w' ⟨⟨x, rfl⟩, rfl⟩
  cases x
  · go_wp2_with fail
    go_ret
    exact ⟨rfl, Below.refl _ _⟩
  go_wp2_with fail
  refine h18.mono ?_
  rintro e w' ⟨⟨x, rfl⟩, rfl⟩
  clear h17 h18
  cases x
  case true =>
    go_wp2_with fail
    go_ret
    exact ⟨rfl, Below.refl _ _⟩
  go_wp2_with fail
  refine (names_clone w ao n c S hn' hS).mono ?_
  rintro e w1 ⟨ao', c', rfl, hS1, hb1⟩
  go_wp2_with fail
  refine (modes_clone w1 mo m d M hm' (hM.below hb1)).mono ?_
  rintro e w2 ⟨mo', d', rfl, hM2, hb2⟩
  have hS2 := hS1.below hb2
  go_wp2_with fail
  refine (build_any w2 ao' mo' n c' m d' S M r hn' hm' hS2 hM2).mono ?_
  rintro e w3 ⟨D, KB, mv, Nb, rfl, hD, hb3⟩
  have hS3 := hS2.below hb3
  have hbel : Below w.heap.size w w3 := (hb1.trans (hb2.mono hb1.size)).trans (hb3.mono (Nat.le_trans hb1.size hb2.size))
  clear hS hM hS1 hM2 hS2 hb1 hb2 hb3
  go_wp2_with fail
  refine (last_any w3 ao' n c' S s hn' hS3).mono ?_
  rintro e w' ⟨rfl, rfl⟩
  clear hS3
  have hlook := hD.look w3 (Below.refl _ _) s hs
  have c8 := hD.entries
  have c9 := hD.removed
  rcases last_look S Nb s n with ⟨hl, hp⟩ | ⟨i, hi, hl, hp⟩
  · rw [hl]
    rw [hp] at hlook
    clear hl hp hD
    go_wp2_with fail
    refine (zz_miss w3 D mv s r c8 c9 hlook).mono ?_
    rintro e w' ⟨⟨k, rfl⟩, rfl⟩
    go_wp2_with fail
    refine (zz_miss w3 D mv s r c8 c9 hlook).mono ?_
    rintro e w' ⟨⟨k2, rfl⟩, rfl⟩
    go_wp2_with fail
    go_quiet (fail)
    go_wp2_with fail
    go_ret
    exact ⟨rfl, below_drewN hbel _⟩
  · rw [hl]
    rw [hp] at hlook
    have hkid := hD.kids i hi
    have hi' : (i : Int) < (n : Int) := by omega
    have he1 := ptr_eql
    have he2 := ptr_neq
    clear hl hp hD
    go_wp2_with fail
    refine (zz_hit w3 D mv s _ c8 hlook).mono ?_
    rintro e w' ⟨rfl, rfl⟩
    go_wp2_with fail
    refine (zz_hit w3 D mv s _ c8 hlook).mono ?_
    rintro e w' ⟨rfl, rfl⟩
    go_wp2_with fail
    go_quiet (fail)
    go_wp2_with fail
    go_ret
    exact ⟨rfl, below_drewN hbel _⟩
end Go.Proofs.Qxb6002417a.Mem
