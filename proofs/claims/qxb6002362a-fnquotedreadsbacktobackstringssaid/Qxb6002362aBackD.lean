/-
  'buf := make([]byte, size)' and the two loops that fill it.
-/
import Derived.Test.Qxb6002362aBackE
import Derived.Test.Qxb6002362aBackRow
namespace Go.Proofs.Qxb6002362a.Back
open Go.ChangeShapes Go.WideShapes Go.ChangeAt Go.RowKit
set_option linter.unusedVariables false

theorem info5 : (Try.prog.info? 5).map (fun i => (i.zero, i.size, i.bytes)) = some (some (.int .u8 0), 1, 1) := by kernel_rfl

set_option maxRecDepth 100000 in
set_option maxHeartbeats 1000000 in
theorem phD (w0 wz : World) (S : Nat → ByteArray) (n B N : Nat) (u1 u2 u3 u4 u5 u6 u7 u9 u10 u11 u12 u13 u14 u15 u16 u17 u18 u19 u20 u21 u22 u23 u24 u25 u26 u27 u28 u29 u30 u31 u32 u33 u34 u35 u36 u37 u38 u39 u40 u41 u42 u43 u44 u45 u46 u47 u48 u49 u50 u51 u52 u53 u54 u55 u56 u57 u58 u59 u60 u61 u62 u63 u64 u65 u66 u67 u68 u69 u70 u71 u72 u73 u74 u75 u76 u77 u78 u79 u80 u81 u82 u83 u84 u85 u86 u87 u88 u89 u90 u91 u92 u93 u94 u95 u96 u97 u98 u99 u100 u101 u102 u103 u104 u105 u106 u107 u108 u109 u110 u111 u112 u113 u114 u115 u116 u117 u118 u119 u120 u121 u122 u123 u124 u125 u126 u127 u128 u129 u130 u131 u132 u133 u134 u135 u136 u137 u138 u139 u140 u141 u142 u143 u144 u145 u146 u147 u148 u149 u150 u151 u152 u153 u154 u155 u156 u157 u158 u159 u160 u161 u162 u163 u164 u165 u166 u167 u168 u169 u170 u171 u172 : Value)
    (hn : n ≤ 65536) (hB : B < wz.heap.size) (hcell : ∀ j, j < n → wz.cell? ⟨B, j, none⟩ = some (.string (S j))) (hN : Hid ((encTo S n).length = N)) (hNs : N ≤ 1048576)
    (hq : Hid (∀ j, j < n → hasB (S j).data.toList 34 = false)) (hbel : Below w0.heap.size w0 wz) (hB3 : w0.heap.size ≤ wz.heap.size) :
    Code.wp Try.prog (sfx 12 (Try.f5.body.getD .skip)) (bodyPost Try.prog Try.f5 fun e w' => e = .returned (.bool true) ∧ Below w0.heap.size w0 w')
      ⟨#[.slice (some ⟨B, 0, none⟩) n n, u1, u2, u3, u4, u5, u6, u7, .int .i64 N, u9, u10, u11, u12, u13, u14, u15, u16, u17, u18, u19, u20, u21, u22, u23, u24, u25, u26, u27, u28, u29, u30, u31, u32, u33, u34, u35, u36, u37, u38, u39, u40, u41, u42, u43, u44, u45, u46, u47, u48, u49, u50, u51, u52, u53, u54, u55, u56, u57, u58, u59, u60, u61, u62, u63, u64, u65, u66, u67, u68, u69, u70, u71, u72, u73, u74, u75, u76, u77, u78, u79, u80, u81, u82, u83, u84, u85, u86, u87, u88, u89, u90, u91, u92, u93, u94, u95, u96, u97, u98, u99, u100, u101, u102, u103, u104, u105, u106, u107, u108, u109, u110, u111, u112, u113, u114, u115, u116, u117, u118, u119, u120, u121, u122, u123, u124, u125, u126, u127, u128, u129, u130, u131, u132, u133, u134, u135, u136, u137, u138, u139, u140, u141, u142, u143, u144, u145, u146, u147, u148, u149, u150, u151, u152, u153, u154, u155, u156, u157, u158, u159, u160, u161, u162, u163, u164, u165, u166, u167, u168, u169, u170, u171, u172], []⟩ wz := by
  obtain ⟨i0, hi, hz0, hz1, hz2⟩ := info_parts info5
  refine wp_part _ (hd (sfx 12 (Try.f5.body.getD .skip))) (sfx 13 (Try.f5.body.getD .skip)) rfl fun K hK => ?_
  conv => arg 2; whnf
  go_wp2_with (at_make; refine wpList_make_full _ rfl _ _ 33 rfl wz.heap.size 5 i0 (.int .u8 0) 1 Try.underlying33 hi hz0 hz1 .i64 .i64 _ _ N rfl rfl rfl rfl (by rw [hz2]; omega) (by unfold maxLen; omega) (Nat.le_refl _) ?_; intro w1 hown hgrow)
  have hF := Fill.start (fun i => .int .u8 (((encTo S n).getD i 0).toNat : Int)) hown
  have hb1 : Below wz.heap.size wz w1 := (Below.refl _ _).grown hgrow (Nat.le_refl _) (fun k hk => by cases hk)
  clear hown hgrow hi hz0 hz1 hz2
  refine wp_part _ (hd (sfx 13 (Try.f5.body.getD .skip))) (sfx 14 (Try.f5.body.getD .skip)) rfl fun K hK => ?_
  conv => arg 2; whnf
  go_wp2_with fail
  refine wp_part _ (hd (sfx 14 (Try.f5.body.getD .skip))) (sfx 15 (Try.f5.body.getD .skip)) rfl fun K hK => ?_
  conv => arg 2; whnf
  go_wp2_with fail
  go_loopw [11, 12] (fun p i w' => ∃ k P : Nat, k ≤ n ∧ i = .int .i64 k ∧ p = .int .i64 P ∧ Hid (P = (encTo S k).length) ∧ Fill w' wz.heap.size N P (fun i => .int .u8 (((encTo S n).getD i 0).toNat : Int)) ∧ Below wz.heap.size wz w') (fun _ i _ => n - (intOf i).toNat)
  case atStart => exact ⟨0, 0, Nat.zero_le _, rfl, rfl, rfl, hF, hb1⟩
  case round =>
    clear hF hb1
    obtain ⟨k, P, hk, rfl, rfl, hP, hF, hb⟩ := hrel
    by_cases hlt : k < n
    · obtain ⟨r1, r2, r3, r4⟩ := bytes_round hlt hP.out
      rw [hN.out] at r1
      have R2 : Hid ((encTo S n).getD P 0 = 34) := r2
      have R3 : Hid (∀ j (hj : j < (S k).size), (encTo S n).getD (P + 1 + j) 0 = (S k)[j]) := r3
      have R4 : Hid ((encTo S n).getD (P + 1 + (S k).size) 0 = 34) := r4
      clear r2 r3 r4
      have hck : ∀ v, (wr.setCell ⟨wz.heap.size, P, none⟩ v).cell? ⟨B, k, none⟩ = some (.string (S k)) := fun v => (World.cell?_setCell_other _ _ _ _ (fun e => by have := (Addr.mk.inj e).1; omega)).trans ((hb.cell (p := ⟨B, k, none⟩) hB).trans (hcell k hlt))
      obtain ⟨v0, hv0⟩ := hF.cell P (by omega)
      have hf0 := hF.free P (by omega)
      go_wp2_with fail
      go_loopw [11, 14] (fun p j w' => ∃ m : Nat, m ≤ (S k).size ∧ j = .int .i64 m ∧ p = .int .i64 ((P : Int) + 1 + m) ∧ Fill w' wz.heap.size N (P + 1 + m) (fun i => .int .u8 (((encTo S n).getD i 0).toNat : Int)) ∧ Below wz.heap.size wz w') (fun _ j _ => (S k).size - (intOf j).toNat)
      case atStart => exact ⟨0, Nat.zero_le _, rfl, by simp, hF.step (by omega) _ (by rw [R2.out]; rfl), hb.setCell (p := ⟨wz.heap.size, P, none⟩) (Nat.le_refl _) _⟩
      case round =>
        clear hF hb hck hv0 hf0
        obtain ⟨m, hm, rfl, rfl, hF, hb⟩ := hrel
        obtain ⟨v0, hv0⟩ := hF.cell (P + 1 + m) (by omega)
        have hf0 := hF.free (P + 1 + m) (by omega)
        by_cases hmt : m < (S k).size
        · go_wp2_with fail
          go_roundw
          case rel => exact ⟨m + 1, by omega, by go_num, by go_num, hF.step (by omega) _ (by rw [R3.out m hmt]), hb.setCell (p := ⟨wz.heap.size, P + 1 + m, none⟩) (Nat.le_refl _) _⟩
          case measure => simp [intOf]; omega
        · have hme : m = (S k).size := by omega
          subst hme
          go_wp2_with fail
          go_roundw
          case rel => exact ⟨k + 1, P + (S k).size + 2, by omega, by go_num, by go_num, next_pos hP.out, by have := hF.step (by omega) (.int .u8 34) (by rw [R4.out]; rfl); rwa [show P + 1 + (S k).size + 1 = P + (S k).size + 2 by omega] at this, hb.setCell (p := ⟨wz.heap.size, P + 1 + (S k).size, none⟩) (Nat.le_refl _) _⟩
          case measure => simp [intOf]; omega
    · have hkn : k = n := by omega
      subst hkn
      have hPN : P = N := by rw [hP.out, hN.out]
      subst hPN
      go_wp2_with fail
      exact phE w0 wr S k B wz.heap.size P _ _ _ _ _ _ _ _ _ _ _ _ _ _ _ _ _ _ _ _ _ _ _ _ _ _ _ _ _ _ _ _ _ _ _ _ _ _ _ _ _ _ _ _ _ _ _ _ _ _ _ _ _ _ _ _ _ _ _ _ _ _ _ _ _ _ _ _ _ _ _ _ _ _ _ _ _ _ _ _ _ _ _ _ _ _ _ _ _ _ _ _ _ _ _ _ _ _ _ _ _ _ _ _ _ _ _ _ _ _ _ _ _ _ _ _ _ _ _ _ _ _ _ _ _ _ _ _ _ _ _ _ _ _ _ _ _ _ _ _ _ _ _ _ _ _ _ _ _ _ _ _ _ _ _ _ _ _ _ _ _ _ _ _ _ _ _ _ _ _ _ hn (Nat.lt_of_lt_of_le hB hb.size) (fun j hj => (hb.cell (p := ⟨B, j, none⟩) hB).trans (hcell j hj)) hN hNs hF.2 hq (hbel.trans (hb.mono hB3)) (Nat.le_trans hB3 hb.size)
end Go.Proofs.Qxb6002362a.Back
