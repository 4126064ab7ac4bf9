/-
  buildDir (21), walked.
-/
import Derived.Test.Qxb6002417aDir
namespace Go.Proofs.Qxb6002417a.Mem
open Go.RowKit Go.Maps
set_option linter.unusedVariables false

theorem info36 : (Try.prog.info? 36).map (fun i => (i.zero, i.size, i.bytes)) = some (some (.pointer none), 1, 8) := by kernel_rfl

set_option maxHeartbeats 1000000 in
theorem build_zero (w : World) (ao mo : Option Addr) (c m d : Nat) (S : Nat → ByteArray) (M : Nat → Int) (r : Bool) :
    Calls Try.prog 21 #[.slice ao 0 c, .slice mo m d, .bool r] w fun e w' => ∃ D KB mv Nb, e = .returned (.tuple #[.pointer (some ⟨D, 0, none⟩), .slice (some ⟨KB, 0, none⟩) 0 0]) ∧ Dir w' S M m 0 r D KB mv Nb ∧ Below w.heap.size w w' := by
  obtain ⟨i0, hi, hz0, hz1, hz2⟩ := info_parts info36
  go_enter Try.func21, Try.ntmps21
  go_wp2_with (at_make; refine wpList_make_full _ rfl _ _ 37 rfl w.heap.size 36 i0 (.pointer none) 1 Try.underlying37 hi hz0 hz1 .i64 .i64 _ _ 0 rfl rfl rfl rfl (by omega) (by unfold maxLen; omega) (Nat.le_refl _) ?_; intro w1 hown hgrow)
  have hb1 : Below w.heap.size w w1 := (Below.refl _ _).grown hgrow (Nat.le_refl _) (fun k hk => by cases hk)
  clear hown hgrow hi hz0 hz1 hz2
  go_loop [10] (fun i => i = .int .i64 0) (fun _ => 0)
  case atStart => rfl
  case round =>
    subst hrel
    go_wp2_with fail
    refine (node_new2 _ _ _ _).mono ?_
    rintro e w2 ⟨rfl, hb2, hlt2, c0, c8, c9⟩
    go_wp2_with fail
    go_ret2
    exact ⟨w1.heap.size, w.heap.size, none, fun _ => 0, rfl, ⟨c8, c9, fun j hj => by omega, fun j hj => by omega, fun w' _ s hs => Maps.look_nil false law9 Try.underlying50 (zero36 _) (WideMaps.keyOf_string_mk Try.underlying9 hs)⟩, hb1.trans (hb2.mono hb1.size)⟩

/-- The loop's relation: k kids are made. -/
structure Built (w wr : World) (S : Nat → ByteArray) (M : Nat → Int) (m n : Nat) (MB KB k : Nat) (Nb : Nat → Nat) : Prop where
  fill : Fill wr KB n k (fun j => .pointer (some ⟨Nb j, 0, none⟩))
  ents : Entries wr S Nb MB k
  modes : ∀ j, j < k → Nb j < wr.heap.size ∧ KB < Nb j ∧ wr.cell? ⟨Nb j, 0, none⟩ = some (.int .u32 (modeOf M m j))
  below : Below w.heap.size w wr
  lt : KB < wr.heap.size

theorem Fill.congr {w : World} {B N P : Nat} {f g : Nat → Value} (h : Fill w B N P f) (e : ∀ j, j < P → f j = g j) : Fill w B N P g :=
  ⟨h.1, fun i hi => by rw [h.2 i hi, e i hi]⟩

theorem own_block {w w' : World} {B k : Nat} {D : DataW Unit} (h : w.ownsMap Try.prog 9 nodeElem B k D) (e : w'.heap[B]? = w.heap[B]?) : w'.ownsMap Try.prog 9 nodeElem B k D := by
  obtain ⟨es, clock, hb, F, hs, hD⟩ := h
  exact ⟨es, clock, e.trans hb, F, hs, hD⟩

theorem built_start {w w1 : World} {S : Nat → ByteArray} {M : Nat → Int} {m n : Nat} {xs : List Value} (hown : w1.ownsRow (w.heap.size + 1) 36 1 (.slice (some ⟨w.heap.size + 1, 0, none⟩) n n) n xs) (hg : (w.alloc (.map #[] 0)).grownBy w1 none) :
    Built w w1 S M m n w.heap.size (w.heap.size + 1) 0 (fun _ => 0) where
  fill := Fill.start _ hown
  ents := (Entries.start w S (fun _ => 0)).of_block (hg.block w.heap.size (by simp) (by simp))
  modes := fun j hj => by omega
  below := ((Below.refl _ _).alloc (Nat.le_refl _) _).grown hg (by simp) (fun k hk => by cases hk)
  lt := own_lt hown

theorem built_step {w wr w2 w4 : World} {S : Nat → ByteArray} {M : Nat → Int} {m n MB KB k : Nat} {Nb : Nat → Nat} {D : DataW Unit} (hB : Built w wr S M m n MB KB k Nb) (hMB : MB < KB) (hw : w.heap.size ≤ MB) (hk : k < n)
    (hb2 : Below wr.heap.size wr w2) (hlt2 : wr.heap.size < w2.heap.size) (c0 : w2.cell? ⟨wr.heap.size, 0, none⟩ = some (.int .u32 (modeOf M m k)))
    (hD : IsMap D) (hat : ∀ s : ByteArray, D.atKey (.string s.data.toList) .nil = datumOf (lookP S Nb s k))
    (hown4 : w4.ownsMap Try.prog 9 nodeElem MB (k + 1) (D.put (.string (S k).data.toList) (.lit (.int .i64 (wr.heap.size : Int)))))
    (hg : (w2.setCell ⟨KB, k, none⟩ (.pointer (some ⟨wr.heap.size, 0, none⟩))).grownBy w4 (some MB)) :
    Built w w4 S M m n MB KB (k + 1) (fun j => if j = k then wr.heap.size else Nb j) := by
  have hlt := hB.lt
  have hsz3 : (w2.setCell ⟨KB, k, none⟩ (.pointer (some ⟨wr.heap.size, 0, none⟩))).heap.size = w2.heap.size := by simp [World.setCell]
  have hsz4 : w2.heap.size ≤ w4.heap.size := by have := hg.size; rw [hsz3] at this; exact this
  have keep : ∀ x, x < w2.heap.size → x ≠ MB → x ≠ KB → w4.heap[x]? = w2.heap[x]? := fun x hx h1 h2 =>
    (hg.block x (by rw [hsz3]; exact hx) (fun e => h1 (Option.some.inj e))).trans (Below.heap_setCell _ _ _ _ h2)
  refine ⟨?_, ?_, ?_, ?_, ?_⟩
  · have f2 := (hB.fill.of_block (hb2.block KB hlt)).congr (g := fun j => .pointer (some ⟨if j = k then wr.heap.size else Nb j, 0, none⟩)) (fun j hj => by rw [if_neg (by omega)])
    have f3 := f2.step hk (.pointer (some ⟨wr.heap.size, 0, none⟩)) (by simp)
    exact f3.of_block (hg.block KB (by rw [hsz3]; omega) (fun e => by have := Option.some.inj e; omega))
  · exact ⟨_, hown4, put_next hD hat⟩
  · intro j hj
    by_cases e : j = k
    · subst e
      rw [if_pos rfl]
      exact ⟨by omega, hlt, (World.cell?_of_block (w := w2) (a := ⟨wr.heap.size, 0, none⟩) (keep wr.heap.size hlt2 (by omega) (by omega))).trans c0⟩
    · rw [if_neg e]
      obtain ⟨h1, h2, h3⟩ := hB.modes j (by omega)
      exact ⟨by omega, h2, (World.cell?_of_block (w := w2) (a := ⟨Nb j, 0, none⟩) (keep (Nb j) (by omega) (by omega) (by omega))).trans ((hb2.cell (p := ⟨Nb j, 0, none⟩) h1).trans h3)⟩
  · refine (((hB.below.trans (hb2.mono hB.below.size)).setCell (p := ⟨KB, k, none⟩) (by show w.heap.size ≤ KB; omega) _).grown hg ?_ ?_)
    · rw [hsz3]; have := hB.below.size; omega
    · intro j hj; cases hj; exact hw
  · omega

theorem built_dir {w wr w5 : World} {S : Nat → ByteArray} {M : Nat → Int} {m n MB KB : Nat} {Nb : Nat → Nat} {r : Bool} (hB : Built w wr S M m n MB KB n Nb) (hMB : MB < KB)
    (hb5 : Below wr.heap.size wr w5) (c8 : w5.cell? ⟨wr.heap.size, 8, none⟩ = some (.map (some MB))) (c9 : w5.cell? ⟨wr.heap.size, 9, none⟩ = some (.bool r)) :
    Dir w5 S M m n r wr.heap.size KB (some MB) Nb ∧ Below w.heap.size w w5 :=
  ⟨⟨c8, c9, fun j hj => (hb5.cell (p := ⟨KB, j, none⟩) hB.lt).trans (hB.fill.2 j hj), fun j hj => (hb5.cell (p := ⟨Nb j, 0, none⟩) (hB.modes j hj).1).trans (hB.modes j hj).2.2,
    fun w' hb s hs => ((hB.ents.of_block (hb5.block MB (by have := hB.lt; omega))).of_block (hb.block MB (by have := hB.lt; have := hb5.size; omega))).look s hs⟩, hB.below.trans (hb5.mono hB.below.size)⟩

set_option maxHeartbeats 1000000 in
theorem build_some (w : World) (b off : Nat) (mo : Option Addr) (n c m d : Nat) (S : Nat → ByteArray) (M : Nat → Int) (r : Bool) (hn : n ≤ 65536) (hm : m ≤ 65536) (hn0 : 0 < n) (hb0 : b < w.heap.size)
    (hc : ∀ j, j < n → w.cell? ⟨b, off + j, none⟩ = some (.string (S j)) ∧ (S j).size ≤ maxLen) (hM : IsModes w mo m M) :
    Calls Try.prog 21 #[.slice (some ⟨b, off, none⟩) n c, .slice mo m d, .bool r] w fun e w' => ∃ D KB mv Nb, e = .returned (.tuple #[.pointer (some ⟨D, 0, none⟩), .slice (some ⟨KB, 0, none⟩) n n]) ∧ Dir w' S M m n r D KB mv Nb ∧ Below w.heap.size w w' := by
  obtain ⟨i0, hi, hz0, hz1, hz2⟩ := info_parts info36
  have hmm := @run_makeMap Try.prog
  have hn1 : (0 : Int) < (n : Int) := by omega
  go_enter Try.func21, Try.ntmps21
  go_wp2_with (at_make; refine wpList_make_full _ rfl _ _ 37 rfl (w.heap.size + 1) 36 i0 (.pointer none) 1 Try.underlying37 hi hz0 hz1 .i64 .i64 _ _ n rfl rfl rfl rfl (by rw [hz2]; omega) (by unfold maxLen; omega) (by simp) ?_; intro w1 hown hgrow)
  have e1 : (w.alloc (.map #[] 0)).heap.size = w.heap.size + 1 := by simp
  rw [e1] at hown
  have hB0 : Built w w1 S M m n w.heap.size (w.heap.size + 1) 0 (fun _ => 0) := built_start hown hgrow
  clear hown hgrow hi hz0 hz1 hz2 e1 hmm
  go_loopw [10] (fun i w' => ∃ (k : Nat) (Nb : Nat → Nat), k ≤ n ∧ i = .int .i64 k ∧ Built w w' S M m n w.heap.size (w.heap.size + 1) k Nb) (fun i _ => n - (intOf i).toNat)
  case atStart => exact ⟨0, _, Nat.zero_le _, rfl, hB0⟩
  case round =>
    clear hB0
    obtain ⟨k, Nb, hk, rfl, hB⟩ := hrel
    by_cases hlt : k < n
    · have hMr : IsModes wr mo m M := hM.below hB.below
      have hlw := hB.lt
      obtain ⟨D, hownD, hmapD, hatD⟩ := hB.ents
      have HAT : Hid (∀ s : ByteArray, D.atKey (.string s.data.toList) .nil = datumOf (lookP S Nb s k)) := hatD
      clear hatD
      go_wp2_with fail
      refine (mode_at wr mo m d k M (by omega) hm hMr).mono ?_
      rintro e w' ⟨rfl, rfl⟩
      go_wp2_with fail
      refine (node_new2 _ _ _ _).mono ?_
      rintro e w2 ⟨rfl, hb2, hlt2, c0, c8, c9⟩
      obtain ⟨v0, hv0⟩ := (hB.fill.of_block (hb2.block _ hlw)).cell k hlt
      have hf0 := (hB.fill.of_block (hb2.block _ hlw)).free k hlt
      have hck : ∀ v, (w2.setCell ⟨w.heap.size + 1, k, none⟩ v).cell? ⟨b, off + k, none⟩ = some (.string (S k)) := fun v =>
        (World.cell?_setCell_other _ _ _ _ (fun e => by have := (Addr.mk.inj e).1; omega)).trans ((hb2.cell (p := ⟨b, off + k, none⟩) (by show b < wr.heap.size; omega)).trans ((hB.below.cell (p := ⟨b, off + k, none⟩) hb0).trans (hc k hlt).1))
      have hown3 : ∀ v, (w2.setCell ⟨w.heap.size + 1, k, none⟩ v).ownsMap Try.prog 9 nodeElem w.heap.size k D := fun v =>
        own_block hownD ((Below.heap_setCell _ _ _ _ (by show w.heap.size ≠ w.heap.size + 1; omega)).trans (hb2.block _ (by omega)))
      have hkey : keyOf Try.prog 9 (.string (S k)) = some (.string (S k).data.toList) := WideMaps.keyOf_string_mk Try.underlying9 (hc k hlt).2
      clear c8 c9 hMr
      go_wp2_with (at_mapUpdate; refine wpList_mapUpdate_own _ rfl _ _ _ 50 rfl 9 36 law9 Try.underlying50 nodeElem w.heap.size k D rfl (hown3 _) (by unfold maxLen; omega) _ _ _ rfl rfl hkey _ [] rfl ?_; intro w4 hown4 hgrow4)
      go_roundw
      case rel => exact ⟨k + 1, _, by omega, by go_num, built_step hB (by omega) (Nat.le_refl _) hlt hb2 hlt2 c0 hmapD HAT.out hown4 hgrow4⟩
      case measure => simp [intOf]; omega
    · have hkn : k = n := by omega
      subst hkn
      go_wp2_with fail
      refine (node_new2 _ _ _ _).mono ?_
      rintro e w5 ⟨rfl, hb5, hlt5, c0, c8, c9⟩
      obtain ⟨hdir, hbel⟩ := built_dir hB (by omega) hb5 c8 c9
      go_wp2_with fail
      go_ret2
      exact ⟨_, _, _, Nb, rfl, hdir, hbel⟩

/-- buildDir, whatever the slices. -/
theorem build_any (w : World) (ao mo : Option Addr) (n c m d : Nat) (S : Nat → ByteArray) (M : Nat → Int) (r : Bool) (hn : n ≤ 65536) (hm : m ≤ 65536) (hS : IsStrs w ao n S) (hM : IsModes w mo m M) :
    Calls Try.prog 21 #[.slice ao n c, .slice mo m d, .bool r] w fun e w' => ∃ D KB mv Nb, e = .returned (.tuple #[.pointer (some ⟨D, 0, none⟩), .slice (some ⟨KB, 0, none⟩) n n]) ∧ Dir w' S M m n r D KB mv Nb ∧ Below w.heap.size w w' := by
  by_cases h0 : n = 0
  · subst h0
    exact build_zero w ao mo c m d S M r
  · rcases hS with h | ⟨b, off, rfl, hb0, hc⟩
    · exact absurd h h0
    · exact build_some w b off mo n c m d S M r hn hm (by omega) hb0 hc hM
end Go.Proofs.Qxb6002417a.Mem
