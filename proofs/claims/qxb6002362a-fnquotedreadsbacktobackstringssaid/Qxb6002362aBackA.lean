/-
  From the entry to 'own': the size guards and the search for quotes.
-/
import Derived.Test.Qxb6002362aBackB
namespace Go.Proofs.Qxb6002362a.Back
open Go.ChangeShapes Go.WideShapes Go.ChangeAt Go.RowKit
open Go.Proofs.Qxb6002362a.UpTo (hasQ_at)
set_option linter.unusedVariables false

/-- It hands back a bool, whichever. -/
def SomeBool (e : Ending) : Prop := ∃ x, e = .returned (.bool x)
theorem SomeBool.mk {e : Ending} (x : Bool) (h : e = .returned (.bool x)) : SomeBool e := ⟨x, h⟩

set_option maxHeartbeats 400000 in
theorem bytes_any (w : World) (S : Nat → ByteArray) (n b off c : Nat) (hn : n ≤ maxLen) (hcell : ∀ j, j < n → w.cell? ⟨b, off + j, none⟩ = some (.string (S j))) (hS : ∀ j, j < n → (S j).size ≤ maxLen) :
    Calls Try.prog 10 #[.slice (some ⟨b, off, none⟩) n c] w fun e w' => SomeBool e ∧ w = w' := by
  unfold maxLen at hn hS
  by_cases hl : 1048576 < n
  · go_enter Try.func10, Try.ntmps10
    go_wp2
    go_ret
    exact ⟨SomeBool.mk _ rfl, rfl⟩
  have hl' : n ≤ 1048576 := by omega
  go_enter Try.func10, Try.ntmps10
  go_wp2
  go_loop [3, 4] (fun t i => ∃ k m : Nat, k ≤ n ∧ i = .int .i64 k ∧ t = .int .i64 m ∧ m ≤ 1048576) (fun _ i => n - (intOf i).toNat)
  case atStart => exact ⟨0, n, Nat.zero_le _, rfl, rfl, hl'⟩
  case round =>
    obtain ⟨k, m, hk, rfl, rfl, hm⟩ := hrel
    by_cases hlt : k < n
    · have hck := hcell k hlt
      have hsk := hS k hlt
      clear hcell hS
      by_cases h1 : 1048576 < (S k).size
      · go_wp2
        go_ret
        exact ⟨SomeBool.mk _ rfl, rfl⟩
      by_cases h2 : 1048576 < m + (S k).size
      · go_wp2
        go_ret
        exact ⟨SomeBool.mk _ rfl, rfl⟩
      · go_wp2
        go_round
        case rel => exact ⟨k + 1, m + (S k).size, by omega, by go_num, by go_num, by omega⟩
        case measure => simp [intOf]; omega
    · go_wp2
      go_ret
      exact ⟨SomeBool.mk _ rfl, rfl⟩

set_option maxRecDepth 100000 in
set_option maxHeartbeats 1000000 in
theorem ph6 (w : World) (S : Nat → ByteArray) (n b off c : Nat) (u1 u2 u3 u4 u5 u6 u7 u8 u9 u10 u11 u12 u13 u14 u15 u16 u17 u18 u19 u20 u21 u22 u23 u24 u25 u26 u27 u28 u29 u30 u31 u32 u33 u34 u35 u36 u37 u38 u39 u40 u41 u42 u43 u44 u45 u46 u47 u48 u49 u50 u51 u52 u53 u54 u55 u56 u57 u58 u59 u60 u61 u62 u63 u64 u65 u66 u67 u68 u69 u70 u71 u72 u73 u74 u75 u76 u77 u78 u79 u80 u81 u82 u83 u84 u85 u86 u87 u88 u89 u90 u91 u92 u93 u94 u95 u96 u97 u98 u99 u100 u101 u102 u103 u104 u105 u106 u107 u108 u109 u110 u111 u112 u113 u114 u115 u116 u117 u118 u119 u120 u121 u122 u123 u124 u125 u126 u127 u128 u129 u130 u131 u132 u133 u134 u135 u136 u137 u138 u139 u140 u141 u142 u143 u144 u145 u146 u147 u148 u149 u150 u151 u152 u153 u154 u155 u156 u157 u158 u159 u160 u161 u162 u163 u164 u165 u166 u167 u168 u169 u170 u171 u172 : Value) (hn : n ≤ 65536) (hb0 : b < w.heap.size) (hcell : ∀ j, j < n → w.cell? ⟨b, off + j, none⟩ = some (.string (S j))) (hS : Hid (∀ j, j < n → (S j).size ≤ maxLen)) (hN : Hid ((encTo S n).length ≤ 1048576)) :
    Code.wp Try.prog (sfx 6 (Try.f5.body.getD .skip)) (bodyPost Try.prog Try.f5 fun e w' => e = .returned (.bool true) ∧ Below w.heap.size w w')
      ⟨#[.slice (some ⟨b, off, none⟩) n c, u1, u2, u3, u4, u5, u6, u7, u8, u9, u10, u11, u12, u13, u14, u15, u16, u17, u18, u19, u20, u21, u22, u23, u24, u25, u26, u27, u28, u29, u30, u31, u32, u33, u34, u35, u36, u37, u38, u39, u40, u41, u42, u43, u44, u45, u46, u47, u48, u49, u50, u51, u52, u53, u54, u55, u56, u57, u58, u59, u60, u61, u62, u63, u64, u65, u66, u67, u68, u69, u70, u71, u72, u73, u74, u75, u76, u77, u78, u79, u80, u81, u82, u83, u84, u85, u86, u87, u88, u89, u90, u91, u92, u93, u94, u95, u96, u97, u98, u99, u100, u101, u102, u103, u104, u105, u106, u107, u108, u109, u110, u111, u112, u113, u114, u115, u116, u117, u118, u119, u120, u121, u122, u123, u124, u125, u126, u127, u128, u129, u130, u131, u132, u133, u134, u135, u136, u137, u138, u139, u140, u141, u142, u143, u144, u145, u146, u147, u148, u149, u150, u151, u152, u153, u154, u155, u156, u157, u158, u159, u160, u161, u162, u163, u164, u165, u166, u167, u168, u169, u170, u171, u172], []⟩ w := by
  refine wp_part _ (hd (sfx 6 (Try.f5.body.getD .skip))) (sfx 7 (Try.f5.body.getD .skip)) rfl fun K hK => ?_
  conv => arg 2; whnf
  go_wp2_with fail
  go_loop [5] (fun i => ∃ k : Nat, k ≤ n ∧ i = .int .i64 k ∧ Hid (∀ j, j < k → hasB (S j).data.toList 34 = false)) (fun i => n - (intOf i).toNat)
  case atStart => exact ⟨0, Nat.zero_le _, rfl, fun j hj => by omega⟩
  case round =>
    obtain ⟨k, hk, rfl, hq⟩ := hrel
    by_cases hlt : k < n
    · have hck := hcell k hlt
      have hsk := hS.out k hlt
      cases hqk : hasB (S k).data.toList 34 with
      | true =>
        have Hq : Hid (hasB (S k).data.toList 34 = true) := hqk
        clear hqk
        go_wp2_with (go_at_call 8; refine (hasQ_at _ _ _ hsk Hq).mono ?_; rintro e w' ⟨rfl, hw⟩; subst hw)
        go_ret
        exact ⟨rfl, Below.refl _ _⟩
      | false =>
        have Hq : Hid (hasB (S k).data.toList 34 = false) := hqk
        clear hqk
        go_wp2_with (go_at_call 8; refine (hasQ_at _ _ _ hsk Hq).mono ?_; rintro e w' ⟨rfl, hw⟩; subst hw)
        go_round
        case rel => exact ⟨k + 1, by omega, by go_num, fun j hj => by
          by_cases e : j = k
          · subst e; exact Hq
          · exact hq.out j (by omega)⟩
        case measure => simp [intOf]; omega
    · have hkn : k = n := by omega
      subst hkn
      go_wp2_with fail
      exact phB w S k b off c _ _ _ _ _ _ _ _ _ _ _ _ _ _ _ _ _ _ _ _ _ _ _ _ _ _ _ _ _ _ _ _ _ _ _ _ _ _ _ _ _ _ _ _ _ _ _ _ _ _ _ _ _ _ _ _ _ _ _ _ _ _ _ _ _ _ _ _ _ _ _ _ _ _ _ _ _ _ _ _ _ _ _ _ _ _ _ _ _ _ _ _ _ _ _ _ _ _ _ _ _ _ _ _ _ _ _ _ _ _ _ _ _ _ _ _ _ _ _ _ _ _ _ _ _ _ _ _ _ _ _ _ _ _ _ _ _ _ _ _ _ _ _ _ _ _ _ _ _ _ _ _ _ _ _ _ _ _ _ _ _ _ _ _ _ _ _ _ _ _ _ _ hn hb0 hcell hN.out hq

set_option maxRecDepth 100000 in
set_option maxHeartbeats 1000000 in
theorem ph5 (w : World) (S : Nat → ByteArray) (n b off c : Nat) (u1 u2 u4 u5 u6 u7 u8 u9 u10 u11 u12 u13 u14 u15 u16 u17 u18 u19 u20 u21 u22 u23 u24 u25 u26 u27 u28 u29 u30 u31 u32 u33 u34 u35 u36 u37 u38 u39 u40 u41 u42 u43 u44 u45 u46 u47 u48 u49 u50 u51 u52 u53 u54 u55 u56 u57 u58 u59 u60 u61 u62 u63 u64 u65 u66 u67 u68 u69 u70 u71 u72 u73 u74 u75 u76 u77 u78 u79 u80 u81 u82 u83 u84 u85 u86 u87 u88 u89 u90 u91 u92 u93 u94 u95 u96 u97 u98 u99 u100 u101 u102 u103 u104 u105 u106 u107 u108 u109 u110 u111 u112 u113 u114 u115 u116 u117 u118 u119 u120 u121 u122 u123 u124 u125 u126 u127 u128 u129 u130 u131 u132 u133 u134 u135 u136 u137 u138 u139 u140 u141 u142 u143 u144 u145 u146 u147 u148 u149 u150 u151 u152 u153 u154 u155 u156 u157 u158 u159 u160 u161 u162 u163 u164 u165 u166 u167 u168 u169 u170 u171 u172 : Value) (hn : n ≤ 65536) (hb0 : b < w.heap.size) (hcell : ∀ j, j < n → w.cell? ⟨b, off + j, none⟩ = some (.string (S j))) (hS : Hid (∀ j, j < n → (S j).size ≤ maxLen)) :
    Code.wp Try.prog (sfx 5 (Try.f5.body.getD .skip)) (bodyPost Try.prog Try.f5 fun e w' => e = .returned (.bool true) ∧ Below w.heap.size w w')
      ⟨#[.slice (some ⟨b, off, none⟩) n c, u1, u2, .int .i64 ((n : Int) * 16), u4, u5, u6, u7, u8, u9, u10, u11, u12, u13, u14, u15, u16, u17, u18, u19, u20, u21, u22, u23, u24, u25, u26, u27, u28, u29, u30, u31, u32, u33, u34, u35, u36, u37, u38, u39, u40, u41, u42, u43, u44, u45, u46, u47, u48, u49, u50, u51, u52, u53, u54, u55, u56, u57, u58, u59, u60, u61, u62, u63, u64, u65, u66, u67, u68, u69, u70, u71, u72, u73, u74, u75, u76, u77, u78, u79, u80, u81, u82, u83, u84, u85, u86, u87, u88, u89, u90, u91, u92, u93, u94, u95, u96, u97, u98, u99, u100, u101, u102, u103, u104, u105, u106, u107, u108, u109, u110, u111, u112, u113, u114, u115, u116, u117, u118, u119, u120, u121, u122, u123, u124, u125, u126, u127, u128, u129, u130, u131, u132, u133, u134, u135, u136, u137, u138, u139, u140, u141, u142, u143, u144, u145, u146, u147, u148, u149, u150, u151, u152, u153, u154, u155, u156, u157, u158, u159, u160, u161, u162, u163, u164, u165, u166, u167, u168, u169, u170, u171, u172], []⟩ w := by
  refine wp_part _ (hd (sfx 5 (Try.f5.body.getD .skip))) (sfx 6 (Try.f5.body.getD .skip)) rfl fun K hK => ?_
  conv => arg 2; whnf
  go_wp2_with fail
  go_loop [3, 4] (fun t i => ∃ k m : Nat, k ≤ n ∧ i = .int .i64 k ∧ t = .int .i64 m ∧ m ≤ 1048576 ∧ Hid (m + 2 * k = 16 * n + (encTo S k).length)) (fun _ i => n - (intOf i).toNat)
  case atStart => exact ⟨0, n * 16, Nat.zero_le _, rfl, by go_num, by omega, by show _ = _; simp [encTo]; omega⟩
  case round =>
    obtain ⟨k, m, hk, rfl, rfl, hm, hsum⟩ := hrel
    by_cases hlt : k < n
    · have hck := hcell k hlt
      have hsk := hS.out k hlt
      unfold maxLen at hsk
      by_cases h1 : 1048576 < (S k).size
      · go_wp2_with fail
        go_ret
        exact ⟨rfl, Below.refl _ _⟩
      by_cases h2 : 1048576 < m + (S k).size
      · go_wp2_with fail
        go_ret
        exact ⟨rfl, Below.refl _ _⟩
      · go_wp2_with fail
        go_round
        case rel => exact ⟨k + 1, m + (S k).size, by omega, by go_num, by go_num, by omega, sum_next hsum.out⟩
        case measure => simp [intOf]; omega
    · have hkn : k = n := by omega
      subst hkn
      go_wp2_with fail
      exact ph6 w S k b off c _ _ _ _ _ _ _ _ _ _ _ _ _ _ _ _ _ _ _ _ _ _ _ _ _ _ _ _ _ _ _ _ _ _ _ _ _ _ _ _ _ _ _ _ _ _ _ _ _ _ _ _ _ _ _ _ _ _ _ _ _ _ _ _ _ _ _ _ _ _ _ _ _ _ _ _ _ _ _ _ _ _ _ _ _ _ _ _ _ _ _ _ _ _ _ _ _ _ _ _ _ _ _ _ _ _ _ _ _ _ _ _ _ _ _ _ _ _ _ _ _ _ _ _ _ _ _ _ _ _ _ _ _ _ _ _ _ _ _ _ _ _ _ _ _ _ _ _ _ _ _ _ _ _ _ _ _ _ _ _ _ _ _ _ _ _ _ _ _ _ _ _ hn hb0 hcell hS (sum_end hm hsum.out)

set_option maxRecDepth 100000 in
set_option maxHeartbeats 1000000 in
theorem phA (w : World) (S : Nat → ByteArray) (n b off c : Nat) (hn : n ≤ maxLen) (hb0 : b < w.heap.size) (hcell : ∀ j, j < n → w.cell? ⟨b, off + j, none⟩ = some (.string (S j))) (hS : ∀ j, j < n → (S j).size ≤ maxLen) :
    Calls Try.prog 5 #[.slice (some ⟨b, off, none⟩) n c] w fun e w' => e = .returned (.bool true) ∧ Below w.heap.size w w' := by
  have hby := bytes_any w S n b off c hn hcell hS
  have HS : Hid (∀ j, j < n → (S j).size ≤ maxLen) := hS
  clear hS
  unfold maxLen at hn
  go_enter Try.func5, Try.ntmps5
  refine wp_part _ (hd (sfx 0 (Try.f5.body.getD .skip))) (sfx 1 (Try.f5.body.getD .skip)) rfl fun K hK => ?_
  conv => arg 2; whnf
  go_wp2_with fail
  refine wp_part _ (hd (sfx 1 (Try.f5.body.getD .skip))) (sfx 2 (Try.f5.body.getD .skip)) rfl fun K hK => ?_
  conv => arg 2; whnf
  go_wp2_with fail
  refine hby.mono ?_
  rintro e w' ⟨⟨x, rfl⟩, rfl⟩
  clear hby
  cases x
  · go_wp2_with fail
    go_ret
    exact ⟨rfl, Below.refl _ _⟩
  go_wp2_with fail
  refine wp_part _ (hd (sfx 2 (Try.f5.body.getD .skip))) (sfx 3 (Try.f5.body.getD .skip)) rfl fun K hK => ?_
  conv => arg 2; whnf
  by_cases hl : 65536 < n
  · go_wp2_with fail
    go_ret
    exact ⟨rfl, Below.refl _ _⟩
  go_wp2_with fail
  refine wp_part _ (hd (sfx 3 (Try.f5.body.getD .skip))) (sfx 4 (Try.f5.body.getD .skip)) rfl fun K hK => ?_
  conv => arg 2; whnf
  go_wp2_with fail
  refine wp_part _ (hd (sfx 4 (Try.f5.body.getD .skip))) (sfx 5 (Try.f5.body.getD .skip)) rfl fun K hK => ?_
  conv => arg 2; whnf
  go_wp2_with fail
  exact ph5 w S n b off c _ _ _ _ _ _ _ _ _ _ _ _ _ _ _ _ _ _ _ _ _ _ _ _ _ _ _ _ _ _ _ _ _ _ _ _ _ _ _ _ _ _ _ _ _ _ _ _ _ _ _ _ _ _ _ _ _ _ _ _ _ _ _ _ _ _ _ _ _ _ _ _ _ _ _ _ _ _ _ _ _ _ _ _ _ _ _ _ _ _ _ _ _ _ _ _ _ _ _ _ _ _ _ _ _ _ _ _ _ _ _ _ _ _ _ _ _ _ _ _ _ _ _ _ _ _ _ _ _ _ _ _ _ _ _ _ _ _ _ _ _ _ _ _ _ _ _ _ _ _ _ _ _ _ _ _ _ _ _ _ _ _ _ _ _ _ _ _ _ _ _ (by omega) hb0 hcell HS
end Go.Proofs.Qxb6002362a.Back
