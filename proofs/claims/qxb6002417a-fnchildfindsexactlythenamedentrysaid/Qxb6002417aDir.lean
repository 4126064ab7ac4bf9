/-
  What buildDir leaves: a directory node, its map of entries, the row of its kids. No walk here.
-/
import Derived.Test.Qxb6002417aMem3
import Derived.Maps.OwnSet
namespace Go.Proofs.Qxb6002417a.Mem
open Go.RowKit Go.Maps
set_option linter.unusedVariables false

/-- How an element of the map reads: nil, or the number of the node's block. -/
def nodeElem : Value → Option (DataW Unit × List MemPlace)
  | .pointer none => some (.nil, [])
  | .pointer (some ⟨b, 0, none⟩) => some (.lit (.int .i64 (b : Int)), [])
  | _ => none

/-- The node under the name s among the first k entries, the last one given. -/
def lookP (S : Nat → ByteArray) (Nb : Nat → Nat) (s : ByteArray) : Nat → Option Addr
  | 0 => none
  | k + 1 => if ((S k).toList == s.toList) = true then some ⟨Nb k, 0, none⟩ else lookP S Nb s k
/-- .. as a datum. -/
def datumOf : Option Addr → DataW Unit
  | none => .nil
  | some a => .lit (.int .i64 (a.block : Int))

theorem lookP_plain (S : Nat → ByteArray) (Nb : Nat → Nat) (s : ByteArray) : ∀ k, lookP S Nb s k = none ∨ ∃ i, i < k ∧ lookP S Nb s k = some ⟨Nb i, 0, none⟩
  | 0 => .inl rfl
  | k + 1 => by
    unfold lookP
    split
    · exact .inr ⟨k, by omega, rfl⟩
    · rcases lookP_plain S Nb s k with h | ⟨i, hi, h⟩
      · exact .inl h
      · exact .inr ⟨i, by omega, h⟩

theorem lookP_congr (S : Nat → ByteArray) (Nb Nb' : Nat → Nat) (s : ByteArray) : ∀ k, (∀ j, j < k → Nb j = Nb' j) → lookP S Nb s k = lookP S Nb' s k
  | 0, _ => rfl
  | k + 1, h => by
    unfold lookP
    rw [h k (by omega), lookP_congr S Nb Nb' s k (fun j hj => h j (by omega))]

/-- The model 'lastIndex' and the look-up agree. -/
theorem last_look (S : Nat → ByteArray) (Nb : Nat → Nat) (s : ByteArray) : ∀ k, (lastIdx S s k = -1 ∧ lookP S Nb s k = none) ∨ ∃ i, i < k ∧ lastIdx S s k = (i : Int) ∧ lookP S Nb s k = some ⟨Nb i, 0, none⟩
  | 0 => .inl ⟨rfl, rfl⟩
  | k + 1 => by
    unfold lastIdx lookP
    split
    · exact .inr ⟨k, by omega, rfl, rfl⟩
    · rcases last_look S Nb s k with h | ⟨i, hi, h⟩
      · exact .inl h
      · exact .inr ⟨i, by omega, h⟩

/-- A value that reads as the look-up's datum is the look-up's pointer. -/
theorem elem_inv {v : Value} {S : Nat → ByteArray} {Nb : Nat → Nat} {s : ByteArray} {k : Nat} {ps : List MemPlace} (h : nodeElem v = some (datumOf (lookP S Nb s k), ps)) : v = .pointer (lookP S Nb s k) := by
  unfold nodeElem at h
  split at h
  · rcases lookP_plain S Nb s k with e | ⟨i, _, e⟩
    · rw [e]
    · rw [e] at h; simp [datumOf] at h
  · rename_i b
    rcases lookP_plain S Nb s k with e | ⟨i, _, e⟩
    · rw [e] at h; simp [datumOf] at h
    · rw [e] at h ⊢
      simp only [datumOf, Option.some.injEq, Prod.mk.injEq, DataW.lit.injEq, Lit.int.injEq] at h
      have hb : b = Nb i := by omega
      rw [hb]
  · cases h

theorem law9 : Keyed Try.prog 9 := string_keyed Try.underlying9
theorem zero36 (w : World) : (zeroValue 36).run Try.prog w = .ok (.pointer none) w := by kernel_rfl

/-- The map of the first k entries. -/
def Entries (w : World) (S : Nat → ByteArray) (Nb : Nat → Nat) (B k : Nat) : Prop :=
  ∃ D : DataW Unit, w.ownsMap Try.prog 9 nodeElem B k D ∧ IsMap D ∧ ∀ s : ByteArray, D.atKey (.string s.data.toList) .nil = datumOf (lookP S Nb s k)

theorem Entries.look {w : World} {S : Nat → ByteArray} {Nb : Nat → Nat} {B k : Nat} (h : Entries w S Nb B k) (s : ByteArray) (hs : s.size ≤ maxLen) :
    (Instr.lookup 50 (.map (some B)) (.string s) false).run Try.prog w = .ok (.pointer (lookP S Nb s k)) w := by
  obtain ⟨D, hown, _, hat⟩ := h
  obtain ⟨v, ps, hrun, hv⟩ := hown.lookup law9 Try.underlying50 (zero36 w) (zd := .nil) (zp := []) rfl (WideMaps.keyOf_string_mk Try.underlying9 hs)
  rw [hat s] at hv
  rw [hrun, elem_inv hv]

theorem Entries.of_block {w w' : World} {S : Nat → ByteArray} {Nb : Nat → Nat} {B k : Nat} (h : Entries w S Nb B k) (e : w'.heap[B]? = w.heap[B]?) : Entries w' S Nb B k := by
  obtain ⟨D, ⟨es, clock, hb, F, hs, hD⟩, r⟩ := h
  exact ⟨D, ⟨es, clock, e.trans hb, F, hs, hD⟩, r⟩

theorem Entries.start (w : World) (S : Nat → ByteArray) (Nb : Nat → Nat) : Entries (w.alloc (.map #[] 0)) S Nb w.heap.size 0 :=
  ⟨.map [], World.ownsMap_made _ _ _ _, isMap_empty, fun _ => rfl⟩

/-- A store of the k-th entry. -/
theorem put_next {S : Nat → ByteArray} {Nb : Nat → Nat} {k b : Nat} {D : DataW Unit} (hD : IsMap D) (hat : ∀ s : ByteArray, D.atKey (.string s.data.toList) .nil = datumOf (lookP S Nb s k)) :
    IsMap (D.put (.string (S k).data.toList) (.lit (.int .i64 (b : Int)))) ∧ ∀ s : ByteArray, (D.put (.string (S k).data.toList) (.lit (.int .i64 (b : Int)))).atKey (.string s.data.toList) .nil = datumOf (lookP S (fun j => if j = k then b else Nb j) s (k + 1)) := by
  refine ⟨hD.put _ _, fun s => ?_⟩
  unfold lookP
  rw [Lib.toList_data, Lib.toList_data]
  by_cases h : s.data.toList = (S k).data.toList
  · rw [if_pos (by rw [h]; simp), h, atKey_put_same (k := .string (S k).data.toList) hD trivial]
    simp [datumOf]
  · rw [if_neg (fun e => h (beq_iff_eq.1 e).symm), atKey_put_other (fun e => h (by injection e)), hat s]
    rw [lookP_congr S Nb (fun j => if j = k then b else Nb j) s k (fun j hj => by rw [if_neg (by omega)])]

/-- What buildDir leaves in memory. -/
structure Dir (w : World) (S : Nat → ByteArray) (M : Nat → Int) (m n : Nat) (r : Bool) (D KB : Nat) (mv : Option Nat) (Nb : Nat → Nat) : Prop where
  entries : w.cell? ⟨D, 8, none⟩ = some (.map mv)
  removed : w.cell? ⟨D, 9, none⟩ = some (.bool r)
  kids : ∀ j, j < n → w.cell? ⟨KB, j, none⟩ = some (.pointer (some ⟨Nb j, 0, none⟩))
  modes : ∀ j, j < n → w.cell? ⟨Nb j, 0, none⟩ = some (.int .u32 (modeOf M m j))
  look : ∀ w' : World, Below w.heap.size w w' → ∀ s : ByteArray, s.size ≤ maxLen → (Instr.lookup 50 (.map mv) (.string s) false).run Try.prog w' = .ok (.pointer (lookP S Nb s n)) w'

theorem Fill.of_block {w w' : World} {B N P : Nat} {f : Nat → Value} (h : Fill w B N P f) (e : w'.heap[B]? = w.heap[B]?) : Fill w' B N P f := by
  have hc : ∀ i, w'.cell? ⟨B, i, none⟩ = w.cell? ⟨B, i, none⟩ := fun i => World.cell?_of_block (w := w) (a := ⟨B, i, none⟩) e
  have hf : ∀ i, w'.frozen? ⟨B, i, none⟩ = w.frozen? ⟨B, i, none⟩ := fun i => World.frozen?_of_block (w := w) (a := ⟨B, i, none⟩) e
  refine ⟨fun i hi => ⟨?_, ?_⟩, fun i hi => ?_⟩
  · rw [hc]; exact (h.1 i hi).1
  · rw [hf]; exact (h.1 i hi).2
  · rw [hc]; exact h.2 i hi

theorem node_new2 (w : World) (z : Int) (mv : Option Nat) (r : Bool) :
    Calls Try.prog 30 #[.int .u32 z, .map mv, .bool r] w fun e w' => e = .returned (.pointer (some ⟨w.heap.size, 0, none⟩)) ∧ Below w.heap.size w w' ∧ w.heap.size < w'.heap.size ∧
      w'.cell? ⟨w.heap.size, 0, none⟩ = some (.int .u32 z) ∧ w'.cell? ⟨w.heap.size, 8, none⟩ = some (.map mv) ∧ w'.cell? ⟨w.heap.size, 9, none⟩ = some (.bool r) := by
  refine (node_new w z mv r).mono ?_
  rintro e w' ⟨rfl, rfl⟩
  exact ⟨rfl, (Below.refl _ _).alloc (Nat.le_refl _) _, by simp, node_cells w z mv r⟩
end Go.Proofs.Qxb6002417a.Mem
