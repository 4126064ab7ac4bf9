/-
  'text := string(buf)', 'sc := ..': the text is what was built; then the last loop.
-/
import Derived.Test.Qxb6002362aBackF
namespace Go.Proofs.Qxb6002362a.Back
open Go.ChangeShapes Go.WideShapes Go.ChangeAt Go.RowKit
set_option linter.unusedVariables false

theorem conv_bytes (w : World) (B2 N : Nat) (L : List UInt8) (hN : L.length = N) (hcell : ∀ i, i < N → w.cell? ⟨B2, i, none⟩ = some (.int .u8 ((L.getD i 0).toNat : Int))) :
    ∃ T : ByteArray, T.data.toList = L ∧ (convert 33 9 (.slice (some ⟨B2, 0, none⟩) N N)).run Try.prog w = .ok (.string T) w := by
  refine ⟨strOfNums (L.map fun b => (b.toNat : Int)), ?_, run_convert_bytes_arg (P := Try.prog) w 33 5 Try.underlying33 Try.underlying5 B2 0 N N (L.map fun b => (b.toNat : Int)) (by simpa using hN) (fun i hi => ?_) 9 Try.underlying9⟩
  · rw [strOfNums_data, List.map_map]
    conv => rhs; rw [← List.map_id L]
    apply List.map_congr_left
    intro x _
    simp
  · rw [Nat.zero_add, hcell i hi]
    have h' : i < L.length := by omega
    simp [List.getD, List.getElem?_eq_getElem h']

set_option maxRecDepth 100000 in
set_option maxHeartbeats 1000000 in
theorem phE (w0 wz : World) (S : Nat → ByteArray) (n B B2 N : Nat) (u1 u2 u3 u4 u5 u6 u7 u8 u9 u11 u12 u13 u14 u15 u16 u17 u18 u19 u20 u21 u22 u23 u24 u25 u26 u27 u28 u29 u30 u31 u32 u33 u34 u35 u36 u37 u38 u39 u40 u41 u42 u43 u44 u45 u46 u47 u48 u49 u50 u51 u52 u53 u54 u55 u56 u57 u58 u59 u60 u61 u62 u63 u64 u65 u66 u67 u68 u69 u70 u71 u72 u73 u74 u75 u76 u77 u78 u79 u80 u81 u82 u83 u84 u85 u86 u87 u88 u89 u90 u91 u92 u93 u94 u95 u96 u97 u98 u99 u100 u101 u102 u103 u104 u105 u106 u107 u108 u109 u110 u111 u112 u113 u114 u115 u116 u117 u118 u119 u120 u121 u122 u123 u124 u125 u126 u127 u128 u129 u130 u131 u132 u133 u134 u135 u136 u137 u138 u139 u140 u141 u142 u143 u144 u145 u146 u147 u148 u149 u150 u151 u152 u153 u154 u155 u156 u157 u158 u159 u160 u161 u162 u163 u164 u165 u166 u167 u168 u169 u170 u171 u172 : Value)
    (hn : n ≤ 65536) (hB : B < wz.heap.size) (hcell : ∀ j, j < n → wz.cell? ⟨B, j, none⟩ = some (.string (S j))) (hN : Hid ((encTo S n).length = N)) (hNs : N ≤ 1048576) (hbuf : Hid (∀ i, i < N → wz.cell? ⟨B2, i, none⟩ = some (.int .u8 (((encTo S n).getD i 0).toNat : Int))))
    (hq : Hid (∀ j, j < n → hasB (S j).data.toList 34 = false)) (hbel : Below w0.heap.size w0 wz) (hB3 : w0.heap.size ≤ wz.heap.size) :
    Code.wp Try.prog (sfx 15 (Try.f5.body.getD .skip)) (bodyPost Try.prog Try.f5 fun e w' => e = .returned (.bool true) ∧ Below w0.heap.size w0 w')
      ⟨#[.slice (some ⟨B, 0, none⟩) n n, u1, u2, u3, u4, u5, u6, u7, u8, u9, .slice (some ⟨B2, 0, none⟩) N N, u11, u12, u13, u14, u15, u16, u17, u18, u19, u20, u21, u22, u23, u24, u25, u26, u27, u28, u29, u30, u31, u32, u33, u34, u35, u36, u37, u38, u39, u40, u41, u42, u43, u44, u45, u46, u47, u48, u49, u50, u51, u52, u53, u54, u55, u56, u57, u58, u59, u60, u61, u62, u63, u64, u65, u66, u67, u68, u69, u70, u71, u72, u73, u74, u75, u76, u77, u78, u79, u80, u81, u82, u83, u84, u85, u86, u87, u88, u89, u90, u91, u92, u93, u94, u95, u96, u97, u98, u99, u100, u101, u102, u103, u104, u105, u106, u107, u108, u109, u110, u111, u112, u113, u114, u115, u116, u117, u118, u119, u120, u121, u122, u123, u124, u125, u126, u127, u128, u129, u130, u131, u132, u133, u134, u135, u136, u137, u138, u139, u140, u141, u142, u143, u144, u145, u146, u147, u148, u149, u150, u151, u152, u153, u154, u155, u156, u157, u158, u159, u160, u161, u162, u163, u164, u165, u166, u167, u168, u169, u170, u171, u172], []⟩ wz := by
  obtain ⟨T, hT, hrun⟩ := conv_bytes wz B2 N (encTo S n) hN.out hbuf.out
  have HT : Hid (T.data.toList = encTo S n) := hT
  have hTs : T.size ≤ 1048576 := by
    have := congrArg List.length hT
    simp at this
    have := hN.out
    omega
  clear hT
  refine wp_part _ (hd (sfx 15 (Try.f5.body.getD .skip))) (sfx 16 (Try.f5.body.getD .skip)) rfl fun K hK => ?_
  conv => arg 2; whnf
  go_wp2_with fail
  refine wp_part _ (hd (sfx 16 (Try.f5.body.getD .skip))) (sfx 17 (Try.f5.body.getD .skip)) rfl fun K hK => ?_
  conv => arg 2; whnf
  go_wp2_with fail
  refine phF w0 _ S n B wz.heap.size T _ _ _ _ _ _ _ _ _ _ _ _ _ _ _ _ _ _ _ _ _ _ _ _ _ _ _ _ _ _ _ _ _ _ _ _ _ _ _ _ _ _ _ _ _ _ _ _ _ _ _ _ _ _ _ _ _ _ _ _ _ _ _ _ _ _ _ _ _ _ _ _ _ _ _ _ _ _ _ _ _ _ _ _ _ _ _ _ _ _ _ _ _ _ _ _ _ _ _ _ _ _ _ _ _ _ _ _ _ _ _ _ _ _ _ _ _ _ _ _ _ _ _ _ _ _ _ _ _ _ _ _ _ _ _ _ _ _ _ _ _ _ _ _ _ _ _ _ _ _ _ _ _ _ _ _ _ _ _ _ _ _ _ _ _ _ _ _ _ _ hn hB ?_ (by simp) (by simp) (by simp) HT hTs hq ?_ hB3
  · intro j hj
    rw [World.cell?_alloc_lt _ _ _ hB]
    exact hcell j hj
  · exact hbel.alloc hB3 _
end Go.Proofs.Qxb6002362a.Back
