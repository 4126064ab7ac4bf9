/-
  THE LAST LOOP: the scanner reads the strings back.
-/
import Derived.Test.Qxb6002362aBackCode
namespace Go.Proofs.Qxb6002362a.Back
open Go.ChangeShapes Go.WideShapes Go.ChangeAt Go.RowKit
open Go.Proofs.Qxb6002362a.UpTo (bcell hasQ_at)
set_option linter.unusedVariables false

set_option maxRecDepth 100000 in
set_option maxHeartbeats 1000000 in
theorem phF (w0 wz : World) (S : Nat → ByteArray) (n B B3 : Nat) (T : ByteArray) (u1 u2 u3 u4 u5 u6 u7 u8 u9 u10 u11 u12 u13 u14 u17 u18 u19 u20 u21 u22 u23 u24 u25 u26 u27 u28 u29 u30 u31 u32 u33 u34 u35 u36 u37 u38 u39 u40 u41 u42 u43 u44 u45 u46 u47 u48 u49 u50 u51 u52 u53 u54 u55 u56 u57 u58 u59 u60 u61 u62 u63 u64 u65 u66 u67 u68 u69 u70 u71 u72 u73 u74 u75 u76 u77 u78 u79 u80 u81 u82 u83 u84 u85 u86 u87 u88 u89 u90 u91 u92 u93 u94 u95 u96 u97 u98 u99 u100 u101 u102 u103 u104 u105 u106 u107 u108 u109 u110 u111 u112 u113 u114 u115 u116 u117 u118 u119 u120 u121 u122 u123 u124 u125 u126 u127 u128 u129 u130 u131 u132 u133 u134 u135 u136 u137 u138 u139 u140 u141 u142 u143 u144 u145 u146 u147 u148 u149 u150 u151 u152 u153 u154 u155 u156 u157 u158 u159 u160 u161 u162 u163 u164 u165 u166 u167 u168 u169 u170 u171 u172 : Value)
    (hn : n ≤ 65536) (hB : B < B3) (hcell : ∀ j, j < n → wz.cell? ⟨B, j, none⟩ = some (.string (S j))) (c0 : wz.cell? ⟨B3, 0, none⟩ = some (.string T)) (c1 : wz.cell? ⟨B3, 1, none⟩ = some (.int .i64 0)) (f1 : wz.frozen? ⟨B3, 1, none⟩ = false)
    (hT : Hid (T.data.toList = encTo S n)) (hTs : T.size ≤ 1048576) (hq : Hid (∀ j, j < n → hasB (S j).data.toList 34 = false)) (hbel : Below w0.heap.size w0 wz) (hB3 : w0.heap.size ≤ B3) :
    Code.wp Try.prog (sfx 17 (Try.f5.body.getD .skip)) (bodyPost Try.prog Try.f5 fun e w' => e = .returned (.bool true) ∧ Below w0.heap.size w0 w')
      ⟨#[.slice (some ⟨B, 0, none⟩) n n, u1, u2, u3, u4, u5, u6, u7, u8, u9, u10, u11, u12, u13, u14, .string T, .pointer (some ⟨B3, 0, none⟩), u17, u18, u19, u20, u21, u22, u23, u24, u25, u26, u27, u28, u29, u30, u31, u32, u33, u34, u35, u36, u37, u38, u39, u40, u41, u42, u43, u44, u45, u46, u47, u48, u49, u50, u51, u52, u53, u54, u55, u56, u57, u58, u59, u60, u61, u62, u63, u64, u65, u66, u67, u68, u69, u70, u71, u72, u73, u74, u75, u76, u77, u78, u79, u80, u81, u82, u83, u84, u85, u86, u87, u88, u89, u90, u91, u92, u93, u94, u95, u96, u97, u98, u99, u100, u101, u102, u103, u104, u105, u106, u107, u108, u109, u110, u111, u112, u113, u114, u115, u116, u117, u118, u119, u120, u121, u122, u123, u124, u125, u126, u127, u128, u129, u130, u131, u132, u133, u134, u135, u136, u137, u138, u139, u140, u141, u142, u143, u144, u145, u146, u147, u148, u149, u150, u151, u152, u153, u154, u155, u156, u157, u158, u159, u160, u161, u162, u163, u164, u165, u166, u167, u168, u169, u170, u171, u172], []⟩ wz := by
  conv => arg 2; whnf
  go_wp2_with fail
  go_loopw [17] (fun i w' => ∃ k P : Nat, k ≤ n ∧ i = .int .i64 k ∧ Hid (P = (encTo S k).length) ∧ w'.cell? ⟨B3, 0, none⟩ = some (.string T) ∧ w'.cell? ⟨B3, 1, none⟩ = some (.int .i64 P) ∧ w'.frozen? ⟨B3, 1, none⟩ = false ∧ Below B3 wz w') (fun i _ => n - (intOf i).toNat)
  case atStart => exact ⟨0, 0, Nat.zero_le _, rfl, rfl, c0, c1, f1, Below.refl _ _⟩
  case round =>
    clear c0 c1 f1
    obtain ⟨k, P, hk, rfl, hP, c0, c1, f1, hb⟩ := hrel
    by_cases hlt : k < n
    · have hqk := hq.out k hlt
      have hround := at_round hT.out hlt hP.out
      rcases hround with ⟨h1, h2, h3⟩ | h4
      case inr => rw [hqk] at h4; cases h4
      have hPT : P < T.size := by omega
      have hch := h2 hPT
      have hix : Hid (Lib.indexByte (T.extract (P + 1) T.size).data.toList 34 = ((S k).size : Int)) := h3
      have hck : wr.cell? ⟨B, k, none⟩ = some (.string (S k)) := (hb.cell (p := ⟨B, k, none⟩) hB).trans (hcell k hlt)
      clear h2 h3 hqk
      go_wp2_with fail
      refine (quoted_some T P (S k).size B3 wr hTs h1 c0 c1 f1 hix).mono ?_
      rintro e w1 ⟨s, rfl, hs, d0, d1, g1, hb1⟩
      obtain rfl := between hT.out hlt hP.out hs.out
      have hck1 : w1.cell? ⟨B, k, none⟩ = some (.string (S k)) := (hb1.cell (p := ⟨B, k, none⟩) hB).trans hck
      clear hck c0 c1 f1
      go_wp2_with fail
      go_roundw
      case rel => exact ⟨k + 1, P + (S k).size + 2, by omega, by go_num, next_pos hP.out, d0, by rw [d1]; go_num, g1, hb.trans hb1⟩
      case measure => simp [intOf]; omega
    · have hkn : k = n := by omega
      go_wp2_with fail
      go_ret
      exact ⟨ret_bool (end_pos hT.out hkn hP.out), hbel.trans (hb.mono hB3)⟩
end Go.Proofs.Qxb6002362a.Back
