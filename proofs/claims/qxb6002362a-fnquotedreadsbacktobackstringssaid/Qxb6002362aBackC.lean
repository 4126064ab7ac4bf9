/-
  'size' is reckoned.
-/
import Derived.Test.Qxb6002362aBackD
namespace Go.Proofs.Qxb6002362a.Back
open Go.ChangeShapes Go.WideShapes Go.ChangeAt Go.RowKit
set_option linter.unusedVariables false

set_option maxRecDepth 100000 in
set_option maxHeartbeats 1000000 in
theorem phC (w0 wz : World) (S : Nat → ByteArray) (n B : Nat) (u1 u2 u3 u4 u5 u6 u7 u8 u9 u10 u11 u12 u13 u14 u15 u16 u17 u18 u19 u20 u21 u22 u23 u24 u25 u26 u27 u28 u29 u30 u31 u32 u33 u34 u35 u36 u37 u38 u39 u40 u41 u42 u43 u44 u45 u46 u47 u48 u49 u50 u51 u52 u53 u54 u55 u56 u57 u58 u59 u60 u61 u62 u63 u64 u65 u66 u67 u68 u69 u70 u71 u72 u73 u74 u75 u76 u77 u78 u79 u80 u81 u82 u83 u84 u85 u86 u87 u88 u89 u90 u91 u92 u93 u94 u95 u96 u97 u98 u99 u100 u101 u102 u103 u104 u105 u106 u107 u108 u109 u110 u111 u112 u113 u114 u115 u116 u117 u118 u119 u120 u121 u122 u123 u124 u125 u126 u127 u128 u129 u130 u131 u132 u133 u134 u135 u136 u137 u138 u139 u140 u141 u142 u143 u144 u145 u146 u147 u148 u149 u150 u151 u152 u153 u154 u155 u156 u157 u158 u159 u160 u161 u162 u163 u164 u165 u166 u167 u168 u169 u170 u171 u172 : Value)
    (hn : n ≤ 65536) (hB : B < wz.heap.size) (hcell : ∀ j, j < n → wz.cell? ⟨B, j, none⟩ = some (.string (S j))) (hN : (encTo S n).length ≤ 1048576)
    (hq : Hid (∀ j, j < n → hasB (S j).data.toList 34 = false)) (hbel : Below w0.heap.size w0 wz) (hB3 : w0.heap.size ≤ wz.heap.size) :
    Code.wp Try.prog (sfx 10 (Try.f5.body.getD .skip)) (bodyPost Try.prog Try.f5 fun e w' => e = .returned (.bool true) ∧ Below w0.heap.size w0 w')
      ⟨#[.slice (some ⟨B, 0, none⟩) n n, u1, u2, u3, u4, u5, u6, u7, u8, u9, u10, u11, u12, u13, u14, u15, u16, u17, u18, u19, u20, u21, u22, u23, u24, u25, u26, u27, u28, u29, u30, u31, u32, u33, u34, u35, u36, u37, u38, u39, u40, u41, u42, u43, u44, u45, u46, u47, u48, u49, u50, u51, u52, u53, u54, u55, u56, u57, u58, u59, u60, u61, u62, u63, u64, u65, u66, u67, u68, u69, u70, u71, u72, u73, u74, u75, u76, u77, u78, u79, u80, u81, u82, u83, u84, u85, u86, u87, u88, u89, u90, u91, u92, u93, u94, u95, u96, u97, u98, u99, u100, u101, u102, u103, u104, u105, u106, u107, u108, u109, u110, u111, u112, u113, u114, u115, u116, u117, u118, u119, u120, u121, u122, u123, u124, u125, u126, u127, u128, u129, u130, u131, u132, u133, u134, u135, u136, u137, u138, u139, u140, u141, u142, u143, u144, u145, u146, u147, u148, u149, u150, u151, u152, u153, u154, u155, u156, u157, u158, u159, u160, u161, u162, u163, u164, u165, u166, u167, u168, u169, u170, u171, u172], []⟩ wz := by
  refine wp_part _ (hd (sfx 10 (Try.f5.body.getD .skip))) (sfx 11 (Try.f5.body.getD .skip)) rfl fun K hK => ?_
  conv => arg 2; whnf
  go_wp2_with fail
  refine wp_part _ (hd (sfx 11 (Try.f5.body.getD .skip))) (sfx 12 (Try.f5.body.getD .skip)) rfl fun K hK => ?_
  conv => arg 2; whnf
  go_wp2_with fail
  go_loop [8, 9] (fun s i => ∃ k P : Nat, k ≤ n ∧ i = .int .i64 k ∧ s = .int .i64 P ∧ Hid (P = (encTo S k).length)) (fun _ i => n - (intOf i).toNat)
  case atStart => exact ⟨0, 0, Nat.zero_le _, rfl, rfl, rfl⟩
  case round =>
    obtain ⟨k, P, hk, rfl, rfl, hP⟩ := hrel
    by_cases hlt : k < n
    · have hck := hcell k hlt
      have hle := encTo_le S (k + 1) n hlt
      rw [encTo_len, ← hP.out] at hle
      have hs1 : P + (S k).size + 2 ≤ 1048576 := by omega
      clear hle hN
      go_wp2_with fail
      go_round
      case rel => exact ⟨k + 1, P + (S k).size + 2, by omega, by go_num, by go_num, next_pos hP.out⟩
      case measure => simp [intOf]; omega
    · have hkn : k = n := by omega
      subst hkn
      have hPN : P ≤ 1048576 := by rw [hP.out]; exact hN
      clear hN
      go_wp2_with fail
      exact phD w0 wz S k B P _ _ _ _ _ _ _ _ _ _ _ _ _ _ _ _ _ _ _ _ _ _ _ _ _ _ _ _ _ _ _ _ _ _ _ _ _ _ _ _ _ _ _ _ _ _ _ _ _ _ _ _ _ _ _ _ _ _ _ _ _ _ _ _ _ _ _ _ _ _ _ _ _ _ _ _ _ _ _ _ _ _ _ _ _ _ _ _ _ _ _ _ _ _ _ _ _ _ _ _ _ _ _ _ _ _ _ _ _ _ _ _ _ _ _ _ _ _ _ _ _ _ _ _ _ _ _ _ _ _ _ _ _ _ _ _ _ _ _ _ _ _ _ _ _ _ _ _ _ _ _ _ _ _ _ _ _ _ _ _ _ _ _ _ _ _ _ _ _ _ _ hn hB hcell hP.out.symm hPN hq hbel hB3
end Go.Proofs.Qxb6002362a.Back
