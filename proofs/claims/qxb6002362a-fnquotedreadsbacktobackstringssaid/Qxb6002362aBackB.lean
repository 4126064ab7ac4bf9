/-
  'own' is made and filled; 'items = own'.
-/
import Derived.Test.Qxb6002362aBackC
namespace Go.Proofs.Qxb6002362a.Back
open Go.ChangeShapes Go.WideShapes Go.ChangeAt Go.RowKit
set_option linter.unusedVariables false

theorem info9 : (Try.prog.info? 9).map (fun i => (i.zero, i.size, i.bytes)) = some (some (.string ByteArray.empty), 1, 16) := by kernel_rfl

set_option maxRecDepth 100000 in
set_option maxHeartbeats 1000000 in
theorem phB (w0 : World) (S : Nat → ByteArray) (n b off c : Nat) (u1 u2 u3 u4 u5 u6 u7 u8 u9 u10 u11 u12 u13 u14 u15 u16 u17 u18 u19 u20 u21 u22 u23 u24 u25 u26 u27 u28 u29 u30 u31 u32 u33 u34 u35 u36 u37 u38 u39 u40 u41 u42 u43 u44 u45 u46 u47 u48 u49 u50 u51 u52 u53 u54 u55 u56 u57 u58 u59 u60 u61 u62 u63 u64 u65 u66 u67 u68 u69 u70 u71 u72 u73 u74 u75 u76 u77 u78 u79 u80 u81 u82 u83 u84 u85 u86 u87 u88 u89 u90 u91 u92 u93 u94 u95 u96 u97 u98 u99 u100 u101 u102 u103 u104 u105 u106 u107 u108 u109 u110 u111 u112 u113 u114 u115 u116 u117 u118 u119 u120 u121 u122 u123 u124 u125 u126 u127 u128 u129 u130 u131 u132 u133 u134 u135 u136 u137 u138 u139 u140 u141 u142 u143 u144 u145 u146 u147 u148 u149 u150 u151 u152 u153 u154 u155 u156 u157 u158 u159 u160 u161 u162 u163 u164 u165 u166 u167 u168 u169 u170 u171 u172 : Value)
    (hn : n ≤ 65536) (hb0 : b < w0.heap.size) (hcell : ∀ j, j < n → w0.cell? ⟨b, off + j, none⟩ = some (.string (S j))) (hN : (encTo S n).length ≤ 1048576)
    (hq : Hid (∀ j, j < n → hasB (S j).data.toList 34 = false)) :
    Code.wp Try.prog (sfx 7 (Try.f5.body.getD .skip)) (bodyPost Try.prog Try.f5 fun e w' => e = .returned (.bool true) ∧ Below w0.heap.size w0 w')
      ⟨#[.slice (some ⟨b, off, none⟩) n c, u1, u2, u3, u4, u5, u6, u7, u8, u9, u10, u11, u12, u13, u14, u15, u16, u17, u18, u19, u20, u21, u22, u23, u24, u25, u26, u27, u28, u29, u30, u31, u32, u33, u34, u35, u36, u37, u38, u39, u40, u41, u42, u43, u44, u45, u46, u47, u48, u49, u50, u51, u52, u53, u54, u55, u56, u57, u58, u59, u60, u61, u62, u63, u64, u65, u66, u67, u68, u69, u70, u71, u72, u73, u74, u75, u76, u77, u78, u79, u80, u81, u82, u83, u84, u85, u86, u87, u88, u89, u90, u91, u92, u93, u94, u95, u96, u97, u98, u99, u100, u101, u102, u103, u104, u105, u106, u107, u108, u109, u110, u111, u112, u113, u114, u115, u116, u117, u118, u119, u120, u121, u122, u123, u124, u125, u126, u127, u128, u129, u130, u131, u132, u133, u134, u135, u136, u137, u138, u139, u140, u141, u142, u143, u144, u145, u146, u147, u148, u149, u150, u151, u152, u153, u154, u155, u156, u157, u158, u159, u160, u161, u162, u163, u164, u165, u166, u167, u168, u169, u170, u171, u172], []⟩ w0 := by
  obtain ⟨i0, hi, hz0, hz1, hz2⟩ := info_parts info9
  have HN : Hid ((encTo S n).length ≤ 1048576) := hN
  clear hN
  have hne := fun w => run_neq_slice_nil_any (P := Try.prog) w 31 9 (some ⟨b, off, none⟩) n c 0 0 Try.underlying31
  refine wp_part _ (hd (sfx 7 (Try.f5.body.getD .skip))) (sfx 8 (Try.f5.body.getD .skip)) rfl fun K hK => ?_
  conv => arg 2; whnf
  go_wp2_with fail
  refine wp_part _ (hd (sfx 8 (Try.f5.body.getD .skip))) (sfx 9 (Try.f5.body.getD .skip)) rfl fun K hK => ?_
  conv => arg 2; whnf
  go_wp2_with (at_make; refine wpList_make_full _ rfl _ _ 31 rfl w0.heap.size 9 i0 (.string ByteArray.empty) 1 Try.underlying31 hi hz0 hz1 .i64 .i64 _ _ n rfl rfl rfl rfl (by rw [hz2]; omega) (by unfold maxLen; omega) (Nat.le_refl _) ?_; intro w1 hown hgrow)
  have hF := Fill.start (fun i => .string (S i)) hown
  have hb1 : Below w0.heap.size w0 w1 := (Below.refl _ _).grown hgrow (Nat.le_refl _) (fun k hk => by cases hk)
  have hsz1 : w0.heap.size < w1.heap.size := own_lt hown
  clear hown hgrow hi hz0 hz1 hz2 hne
  go_loopw [7] (fun i w' => ∃ k : Nat, k ≤ n ∧ i = .int .i64 k ∧ Fill w' w0.heap.size n k (fun i => .string (S i)) ∧ Below w0.heap.size w0 w' ∧ w0.heap.size < w'.heap.size) (fun i _ => n - (intOf i).toNat)
  case atStart => exact ⟨0, Nat.zero_le _, rfl, hF, hb1, hsz1⟩
  case round =>
    clear hF hb1 hsz1
    obtain ⟨k, hk, rfl, hF, hb, hsz⟩ := hrel
    by_cases hlt : k < n
    · have hck : wr.cell? ⟨b, off + k, none⟩ = some (.string (S k)) := (hb.cell (p := ⟨b, off + k, none⟩) hb0).trans (hcell k hlt)
      obtain ⟨v0, hv0⟩ := hF.cell k hlt
      have hf0 := hF.free k hlt
      go_wp2_with fail
      go_roundw
      case rel => exact ⟨k + 1, by omega, by go_num, hF.step hlt _ rfl, hb.setCell (p := ⟨w0.heap.size, k, none⟩) (Nat.le_refl _) _, by simpa using hsz⟩
      case measure => simp [intOf]; omega
    · have hkn : k = n := by omega
      subst hkn
      go_wp2_with fail
      refine wp_part _ (hd (sfx 9 (Try.f5.body.getD .skip))) (sfx 10 (Try.f5.body.getD .skip)) rfl fun K hK => ?_
      conv => arg 2; whnf
      go_wp2_with fail
      exact phC w0 wr S k w0.heap.size _ _ _ _ _ _ _ _ _ _ _ _ _ _ _ _ _ _ _ _ _ _ _ _ _ _ _ _ _ _ _ _ _ _ _ _ _ _ _ _ _ _ _ _ _ _ _ _ _ _ _ _ _ _ _ _ _ _ _ _ _ _ _ _ _ _ _ _ _ _ _ _ _ _ _ _ _ _ _ _ _ _ _ _ _ _ _ _ _ _ _ _ _ _ _ _ _ _ _ _ _ _ _ _ _ _ _ _ _ _ _ _ _ _ _ _ _ _ _ _ _ _ _ _ _ _ _ _ _ _ _ _ _ _ _ _ _ _ _ _ _ _ _ _ _ _ _ _ _ _ _ _ _ _ _ _ _ _ _ _ _ _ _ _ _ _ _ _ _ _ _ _ hn hsz hF.2 HN.out hq hb hb.size
end Go.Proofs.Qxb6002362a.Back
