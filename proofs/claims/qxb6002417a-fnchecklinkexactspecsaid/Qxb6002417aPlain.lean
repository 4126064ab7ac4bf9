/-
  PLAIN LAWS, no program in sight: what 'Lib.indexByte' says of a list of bytes; 'hasB': does a list hold a byte.
-/
import Derived.Lib.Bytealg
namespace Go.Proofs.Qxb6002417a
open Go.Lib (indexByte)

/-- Does the list hold the byte? (A plain function, closed to the walk.) -/
def hasB (l : List UInt8) (c : UInt8) : Bool := decide (c ∈ l)

theorem hasB_true {l : List UInt8} {c : UInt8} : hasB l c = true ↔ c ∈ l := by unfold hasB; simp
theorem hasB_false {l : List UInt8} {c : UInt8} : hasB l c = false ↔ c ∉ l := by unfold hasB; simp

theorem ib_none : ∀ (l : List UInt8) (c : UInt8), c ∉ l → indexByte l c = -1
  | [], _, _ => rfl
  | b :: l, c, h => by
    have hb : (b == c) = false := by
      rw [beq_eq_false_iff_ne]; intro e; exact h (by rw [e]; exact List.mem_cons_self ..)
    have hl : c ∉ l := fun m => h (List.mem_cons_of_mem _ m)
    unfold indexByte
    rw [hb, ib_none l c hl]
    rfl

theorem ib_first : ∀ (a b : List UInt8) (c : UInt8), c ∉ a → indexByte (a ++ c :: b) c = (a.length : Int)
  | [], b, c, _ => by
    show indexByte (c :: b) c = 0
    unfold indexByte
    simp
  | x :: a, b, c, h => by
    have hx : (x == c) = false := by
      rw [beq_eq_false_iff_ne]; intro e; exact h (by rw [e]; exact List.mem_cons_self ..)
    have ha : c ∉ a := fun m => h (List.mem_cons_of_mem _ m)
    have ih := ib_first a b c ha
    show indexByte (x :: (a ++ c :: b)) c = _
    unfold indexByte
    rw [hx, ih]
    have hne : ((a.length : Int) == -1) = false := by rw [beq_eq_false_iff_ne]; omega
    rw [hne]
    simp

/-- Either the byte is not there, or the list parts at the first place where it stands. -/
theorem ib_cases : ∀ (l : List UInt8) (c : UInt8), (c ∉ l ∧ indexByte l c = -1) ∨ ∃ a b, l = a ++ c :: b ∧ c ∉ a ∧ indexByte l c = (a.length : Int)
  | l, c => by
    by_cases h : c ∈ l
    · right
      obtain ⟨a, b, e, ha⟩ : ∃ a b, l = a ++ c :: b ∧ c ∉ a := by
        induction l with
        | nil => cases h
        | cons x l ih =>
          by_cases hx : x = c
          · exact ⟨[], l, by rw [hx]; rfl, by simp⟩
          · have hl : c ∈ l := by
              rcases List.mem_cons.1 h with e | m
              · exact absurd e.symm hx
              · exact m
            obtain ⟨a, b, e, ha⟩ := ih hl
            exact ⟨x :: a, b, by rw [e]; rfl, by
              intro m
              rcases List.mem_cons.1 m with e' | m'
              · exact hx e'.symm
              · exact ha m'⟩
      exact ⟨a, b, e, ha, by rw [e]; exact ib_first a b c ha⟩
    · left
      exact ⟨h, ib_none l c h⟩

theorem mem_take_succ (l : List UInt8) (k : Nat) (h : k < l.length) (c : UInt8) : c ∈ l.take (k + 1) ↔ c ∈ l.take k ∨ c = l[k] := by
  rw [List.take_succ_eq_append_getElem h, List.mem_append, List.mem_singleton]

theorem byteZ (x : UInt8) : ((x.toNat : Int) == 0) = true ↔ x = 0 := by
  rw [beq_iff_eq]
  constructor
  · intro h; exact UInt8.toNat_inj.1 (by simp; omega)
  · intro h; rw [h]; rfl

theorem get_list (s : ByteArray) (k : Nat) (h : k < s.size) : ∃ hk : k < s.data.toList.length, s.data.toList[k] = s[k] := ⟨by simpa using h, rfl⟩

theorem has_yes (s : ByteArray) (k : Nat) (h : k < s.size) (hb : ((s[k].toNat : Int) == 0) = true) : hasB s.data.toList 0 = true := by
  obtain ⟨hk, e⟩ := get_list s k h
  have h1 := (byteZ _).1 hb
  rw [hasB_true, ← h1, ← e]
  exact List.getElem_mem hk

theorem has_step (s : ByteArray) (k : Nat) (h : k < s.size) (hb : ((s[k].toNat : Int) == 0) = false) (hno : (0 : UInt8) ∉ s.data.toList.take k) : (0 : UInt8) ∉ s.data.toList.take (k + 1) := by
  obtain ⟨hk, e⟩ := get_list s k h
  rw [mem_take_succ _ _ hk]
  intro hm
  rcases hm with hm | hm
  · exact hno hm
  · rw [e] at hm
    rw [(byteZ _).2 hm.symm] at hb
    cases hb

theorem has_no (s : ByteArray) (k : Nat) (h : ¬ k < s.size) (hno : (0 : UInt8) ∉ s.data.toList.take k) : hasB s.data.toList 0 = false := by
  rw [hasB_false]
  rwa [List.take_of_length_le (by simpa using h)] at hno

/-- Does the string begin with a slash? -/
def slashB (s : ByteArray) : Bool := s.data.toList.head? == some 47

/-- Does the index that IndexByte gives say that the byte is there? -/
theorem ib_has (l : List UInt8) (c : UInt8) : decide (0 ≤ indexByte l c) = hasB l c := by
  rcases ib_cases l c with ⟨h, e⟩ | ⟨a, b, e, _, e2⟩
  · rw [e, hasB_false.2 h]; rfl
  · rw [e2, hasB_true.2 (by rw [e]; simp)]
    simp

theorem slash_cons (s : ByteArray) : slashB ({ data := #[47] } ++ s) = true := by simp [slashB]

theorem size_cons (s : ByteArray) : ({ data := #[47] } ++ s : ByteArray).size = s.size + 1 := by
  rw [ByteArray.size_append, show ({ data := #[47] } : ByteArray).size = 1 from rfl]
  omega

theorem hasB_cons (s : ByteArray) : hasB ({ data := #[47] } ++ s : ByteArray).data.toList 0 = hasB s.data.toList 0 := by
  unfold hasB
  simp

theorem slash_at (s : ByteArray) (h : 0 < s.size) : ((s[0].toNat : Int) == 47) = slashB s := by
  obtain ⟨hk, e⟩ := get_list s 0 h
  unfold slashB
  cases hl : s.data.toList with
  | nil => rw [hl] at hk; simp at hk
  | cons x l =>
    have ex : s[0] = x := by
      rw [← e]
      simp [hl]
    rw [ex]
    rw [Bool.eq_iff_iff]
    simp only [beq_iff_eq, List.head?_cons, Option.some.injEq]
    constructor
    · intro h; exact UInt8.toNat_inj.1 (by simp; omega)
    · intro h; rw [h]; rfl

theorem slash_empty (s : ByteArray) (h : s.size = 0) : slashB s = false := by
  unfold slashB
  have : s.data.toList = [] := List.length_eq_zero_iff.1 (by simpa using h)
  rw [this]
  rfl

end Go.Proofs.Qxb6002417a
