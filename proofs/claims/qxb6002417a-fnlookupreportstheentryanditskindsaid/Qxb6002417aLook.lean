/-
  The walk of FnLookupReportsTheEntryAndItsKind.
-/
import Derived.Test.Qxb6002417aChild
import Derived.Test.Qxb6002417aOpen
import Derived.Test.Qxb6002417aBits
namespace Go.Proofs.Qxb6002417a.Mem
open Go.RowKit Go.Maps
set_option linter.unusedVariables false

set_option maxHeartbeats 1000000 in
theorem bytes24 (w : World) (ao mo : Option Addr) (n c m d : Nat) (S : Nat → ByteArray) (r : Bool) (s t : ByteArray) (l : Bool) (hn : n ≤ maxLen) (hm : m ≤ maxLen) (hs : s.size ≤ maxLen) (ht : t.size ≤ maxLen) (hS : IsStrs w ao n S) :
    Calls Try.prog 24 #[.slice ao n c, .slice mo m d, .bool r, .string s, .string t, .bool l] w fun e w' => SomeBool e ∧ w = w' := by
  unfold maxLen at hn hm hs ht
  by_cases hl : 1048576 < n
  · go_enter Try.func24, Try.ntmps24
    go_wp2
    go_ret
    exact ⟨SomeBool.mk _ rfl, rfl⟩
  have hl' : n ≤ 1048576 := by omega
  rcases hS with h0 | ⟨b, off, rfl, hlt, hc⟩
  · have h0' : n ≤ 0 := by omega
    subst h0
    go_enter Try.func24, Try.ntmps24
    go_wp2
    go_loop [13, 14] (fun t i => t = .int .i64 0 ∧ i = .int .i64 0) (fun _ _ => 0)
    case atStart => exact ⟨rfl, rfl⟩
    case round =>
      obtain ⟨rfl, rfl⟩ := hrel
      go_wp2
      all_goals (go_ret; exact ⟨SomeBool.mk _ rfl, rfl⟩)
  · go_enter Try.func24, Try.ntmps24
    go_wp2
    go_loop [13, 14] (fun t i => ∃ k q : Nat, k ≤ n ∧ i = .int .i64 k ∧ t = .int .i64 q ∧ q ≤ 1048576) (fun _ i => n - (intOf i).toNat)
    case atStart => exact ⟨0, n, Nat.zero_le _, rfl, rfl, hl'⟩
    case round =>
      obtain ⟨k, q, hk, rfl, rfl, hq⟩ := hrel
      by_cases hkn : k < n
      · obtain ⟨hck, hsk⟩ := hc k hkn
        unfold maxLen at hsk
        clear hc
        by_cases h1 : 1048576 < (S k).size
        · go_wp2
          go_ret
          exact ⟨SomeBool.mk _ rfl, rfl⟩
        by_cases h2 : 1048576 < q + (S k).size
        · go_wp2
          go_ret
          exact ⟨SomeBool.mk _ rfl, rfl⟩
        · go_wp2
          go_round
          case rel => exact ⟨k + 1, q + (S k).size, by omega, by go_num, by go_num, by omega⟩
          case measure => simp [intOf]; omega
      · clear hc
        go_wp2
        all_goals (go_ret; exact ⟨SomeBool.mk _ rfl, rfl⟩)

/-- FileMode's Type. -/
theorem type_any (w : World) (z : Int) : Calls Try.prog 34 #[.int .u32 z] w fun e w' => e = .returned (.int .u32 (typeOf z)) ∧ w = w' := by
  go_enter Try.func34, Try.ntmps34
  go_wp2
  go_ret
  exact ⟨rfl, rfl⟩

theorem below_new (w : World) (o : Obj) : Below w.heap.size w (w.alloc o) := (Below.refl _ _).alloc (Nat.le_refl _) o

set_option maxHeartbeats 1000000 in
theorem look_hit (w : World) (D : Nat) (mv : Option Nat) (s t : ByteArray) (l : Bool) (N : Nat) (z : Int) (c8 : ∀ o, (w.alloc o).cell? ⟨D, 8, none⟩ = some (.map mv)) (cn : ∀ o, (w.alloc o).cell? ⟨N, 0, none⟩ = some (.int .u32 z))
    (hrun : ∀ o, (Instr.lookup 50 (.map mv) (.string s) false).run Try.prog (w.alloc o) = .ok (.pointer (some ⟨N, 0, none⟩)) (w.alloc o)) :
    Calls Try.prog 32 #[.agg #[.pointer none], .pointer (some ⟨D, 0, none⟩), .string s, .string t, .bool l] w fun e w' => e = .returned (.tuple #[.pointer (some ⟨N, 0, none⟩), .int .u32 (typeOf z), .nilIface]) ∧ Below w.heap.size w w' := by
  have hc := fun o => child_hit (w.alloc o) D mv s _ (c8 o) (hrun o)
  have HC : Hid (∀ o, Calls Try.prog 31 #[.pointer (some ⟨D, 0, none⟩), .string s] (w.alloc o) fun e w' => e = .returned (.tuple #[.pointer (some ⟨N, 0, none⟩), .nilIface]) ∧ w.alloc o = w') := hc
  clear hc hrun c8
  go_enter Try.func32, Try.ntmps32
  go_wp2_with fail
  refine (HC.out _).mono ?_
  rintro e w' ⟨rfl, rfl⟩
  go_wp2_with fail
  refine (type_any _ _).mono ?_
  rintro e w' ⟨rfl, rfl⟩
  go_wp2_with fail
  go_ret3
  exact ⟨rfl, below_new _ _⟩

set_option maxHeartbeats 1000000 in
theorem look_miss (w : World) (D : Nat) (mv : Option Nat) (s t : ByteArray) (l r : Bool) (c8 : ∀ o, (w.alloc o).cell? ⟨D, 8, none⟩ = some (.map mv)) (c9 : ∀ o, (w.alloc o).cell? ⟨D, 9, none⟩ = some (.bool r))
    (hrun : ∀ o, (Instr.lookup 50 (.map mv) (.string s) false).run Try.prog (w.alloc o) = .ok (.pointer none) (w.alloc o)) :
    Calls Try.prog 32 #[.agg #[.pointer none], .pointer (some ⟨D, 0, none⟩), .string s, .string t, .bool l] w fun e w' => (∃ k : Int, e = .returned (.tuple #[.pointer none, .int .u32 0, .iface 48 (.int .u64 k)])) ∧ Below w.heap.size w w' := by
  have hc := fun o => child_miss (w.alloc o) D mv s r (c8 o) (c9 o) (hrun o)
  have HC : Hid (∀ o, Calls Try.prog 31 #[.pointer (some ⟨D, 0, none⟩), .string s] (w.alloc o) fun e w' => (∃ v, e = .returned (.tuple #[.pointer none, v]) ∧ SomeErr v) ∧ w.alloc o = w') := hc
  clear hc hrun c8 c9
  go_enter Try.func32, Try.ntmps32
  go_wp2_with fail
  refine (HC.out _).mono ?_
  rintro e w' ⟨⟨v, rfl, ⟨k, rfl⟩⟩, rfl⟩
  go_wp2_with fail
  go_ret3
  exact ⟨⟨k, rfl⟩, below_new _ _⟩

set_option maxHeartbeats 1000000 in
theorem zzl_hit (w : World) (D : Nat) (mv : Option Nat) (s t : ByteArray) (l : Bool) (N : Nat) (z : Int) (c8 : ∀ o, (w.alloc o).cell? ⟨D, 8, none⟩ = some (.map mv)) (cn : ∀ o, (w.alloc o).cell? ⟨N, 0, none⟩ = some (.int .u32 z))
    (hrun : ∀ o, (Instr.lookup 50 (.map mv) (.string s) false).run Try.prog (w.alloc o) = .ok (.pointer (some ⟨N, 0, none⟩)) (w.alloc o)) :
    Calls Try.prog 25 #[.pointer (some ⟨D, 0, none⟩), .string s, .string t, .bool l] w fun e w' => e = .returned (.tuple #[.pointer (some ⟨N, 0, none⟩), .int .u32 (typeOf z), .nilIface]) ∧ Below w.heap.size w w' := by
  have hc := look_hit w D mv s t l N z c8 cn hrun
  clear c8 cn hrun
  go_enter Try.func25, Try.ntmps25
  go_wp2_with fail
  refine hc.mono ?_
  rintro e w1 ⟨rfl, hb⟩
  go_wp2_with fail
  go_ret3
  exact ⟨rfl, hb⟩

set_option maxHeartbeats 1000000 in
theorem zzl_miss (w : World) (D : Nat) (mv : Option Nat) (s t : ByteArray) (l r : Bool) (c8 : ∀ o, (w.alloc o).cell? ⟨D, 8, none⟩ = some (.map mv)) (c9 : ∀ o, (w.alloc o).cell? ⟨D, 9, none⟩ = some (.bool r))
    (hrun : ∀ o, (Instr.lookup 50 (.map mv) (.string s) false).run Try.prog (w.alloc o) = .ok (.pointer none) (w.alloc o)) :
    Calls Try.prog 25 #[.pointer (some ⟨D, 0, none⟩), .string s, .string t, .bool l] w fun e w' => (∃ k : Int, e = .returned (.tuple #[.pointer none, .int .u32 0, .iface 48 (.int .u64 k)])) ∧ Below w.heap.size w w' := by
  have hc := look_miss w D mv s t l r c8 c9 hrun
  clear c8 c9 hrun
  go_enter Try.func25, Try.ntmps25
  go_wp2_with fail
  refine hc.mono ?_
  rintro e w1 ⟨⟨k, rfl⟩, hb⟩
  go_wp2_with fail
  go_ret3
  exact ⟨⟨k, rfl⟩, hb⟩

/-- A mode fits its kind. -/
theorem mode_fits {w : World} {mo : Option Addr} {m : Nat} {M : Nat → Int} (h : IsModes w mo m M) (i : Nat) : 0 ≤ modeOf M m i ∧ modeOf M m i < 4294967296 := by
  unfold modeOf
  split
  · rename_i hi
    rcases h with h0 | ⟨b, off, _, _, hc⟩
    · omega
    · have := bounds_u32 (hc i hi).2
      omega
  · omega

theorem cell_alloc {w : World} {b o : Nat} {v : Value} (h : w.cell? ⟨b, o, none⟩ = some v) (x : Obj) : (w.alloc x).cell? ⟨b, o, none⟩ = some v :=
  (World.cell?_alloc_lt _ _ _ (block_lt h)).trans h

set_option maxRecDepth 100000 in
set_option maxHeartbeats 2000000 in
theorem look_walk (w : World) (ao mo : Option Addr) (n c m d : Nat) (S : Nat → ByteArray) (M : Nat → Int) (r : Bool) (s t : ByteArray) (l : Bool) (hn : n ≤ maxLen) (hm : m ≤ maxLen) (hs : s.size ≤ maxLen) (ht : t.size ≤ maxLen) (hS : IsStrs w ao n S) (hM : IsModes w mo m M) :
    Calls Try.prog 7 #[.slice ao n c, .slice mo m d, .bool r, .string s, .string t, .bool l] w fun e w' => e = .returned (.bool true) ∧ Below w.heap.size w w' := by
  have h24 := bytes24 w ao mo n c m d S r s t l hn hm hs ht hS
  by_cases hbig : 65536 < n ∨ 65536 < m
  · have h18 := big_long w ao mo n c m d s t hn hm hbig
    go_enter Try.func7, Try.ntmps7
    go_wp2_with fail
    refine h24.mono ?_
    rintro e w' ⟨⟨x, rfl⟩, rfl⟩
    cases x
    · go_wp2_with fail
      go_ret
      exact ⟨rfl, Below.refl _ _⟩
    go_wp2_with fail
    refine h18.mono ?_
    rintro e w' ⟨rfl, rfl⟩
    go_wp2_with fail
    go_ret
    exact ⟨rfl, Below.refl _ _⟩
  have hn' : n ≤ 65536 := by omega
  have hm' : m ≤ 65536 := by omega
  have h18 := big_any w ao mo n c m d S s t hn' hm' hs ht hS
  go_enter Try.func7, Try.ntmps7
  go_wp2_with fail
  refine h24.mono ?_
  rintro e w' ⟨⟨x, rfl⟩, rfl⟩
  cases x
  · go_wp2_with fail
    go_ret
    exact ⟨rfl, Below.refl _ _⟩
  go_wp2_with fail
  refine h18.mono ?_
  rintro e w' ⟨⟨x, rfl⟩, rfl⟩
  clear h24 h18
  cases x
  case true =>
    go_wp2_with fail
    go_ret
    exact ⟨rfl, Below.refl _ _⟩
  go_wp2_with fail
  refine (names_clone w ao n c S hn' hS).mono ?_
  rintro e w1 ⟨ao', c', rfl, hS1, hb1⟩
  go_wp2_with fail
  refine (modes_clone w1 mo m d M hm' (hM.below hb1)).mono ?_
  rintro e w2 ⟨mo', d', rfl, hM2, hb2⟩
  have hS2 := hS1.below hb2
  go_wp2_with fail
  refine (build_any w2 ao' mo' n c' m d' S M r hn' hm' hS2 hM2).mono ?_
  rintro e w3 ⟨D, KB, mv, Nb, rfl, hD, hb3⟩
  have hS3 := hS2.below hb3
  have hM3 := hM2.below hb3
  have hbel : Below w.heap.size w w3 := (hb1.trans (hb2.mono hb1.size)).trans (hb3.mono (Nat.le_trans hb1.size hb2.size))
  clear hS hM hS1 hM2 hS2 hb1 hb2 hb3
  go_wp2_with fail
  have hlook := fun o => hD.look (w3.alloc o) (below_new _ _) s hs
  have c8 := fun o => cell_alloc hD.entries o
  have c9 := fun o => cell_alloc hD.removed o
  rcases last_look S Nb s n with ⟨hl, hp⟩ | ⟨i, hi, hl, hp⟩
  · rw [hp] at hlook
    have HL : Hid (lastIdx S s n = -1) := hl
    have hz := zzl_miss w3 D mv s t l r c8 c9 hlook
    clear hl hp hD c8 c9 hlook
    refine hz.mono ?_
    rintro e w4 ⟨⟨k, rfl⟩, hb4⟩
    clear hz
    go_wp2_with fail
    refine (last_any w4 ao' n c' S s hn' (hS3.below hb4)).mono ?_
    rintro e w' ⟨rfl, rfl⟩
    rw [HL.out]
    go_wp2_with fail
    go_ret
    exact ⟨rfl, hbel.trans (hb4.mono hbel.size)⟩
  · rw [hp] at hlook
    have HL : Hid (lastIdx S s n = i) := hl
    have hz := zzl_hit w3 D mv s t l (Nb i) (modeOf M m i) c8 (fun o => cell_alloc (hD.modes i hi) o) hlook
    have hkid := hD.kids i hi
    obtain ⟨z0, z1⟩ := mode_fits hM3 i
    have g1 := type_notperm _ z0 z1
    have g2 := type_within _ z0 z1
    have g3 := type_dir _ z0 z1
    have g4 := type_link _ z0 z1
    have hi' : (i : Int) < (n : Int) := by omega
    have he2 := ptr_neq
    clear hl hp hD c8 c9 hlook
    refine hz.mono ?_
    rintro e w4 ⟨rfl, hb4⟩
    clear hz
    have hM4 := hM3.below hb4
    have hkid4 : w4.cell? ⟨KB, i, none⟩ = some (.pointer (some ⟨Nb i, 0, none⟩)) := (hb4.cell (p := ⟨KB, i, none⟩) (block_lt hkid)).trans hkid
    have hma := mode_at w4 mo' m d' i M (by omega) hm' hM4
    clear hkid hM3 hM4
    generalize modeOf M m i = z at *
    generalize typeOf z = T at *
    go_wp2_with fail
    refine (last_any w4 ao' n c' S s hn' (hS3.below hb4)).mono ?_
    rintro e w' ⟨rfl, rfl⟩
    rw [HL.out]
    go_wp2_with fail
    refine hma.mono ?_
    rintro e w' ⟨rfl, rfl⟩
    go_wp2_with fail
    go_ret
    exact ⟨rfl, hbel.trans (hb4.mono hbel.size)⟩
end Go.Proofs.Qxb6002417a.Mem
