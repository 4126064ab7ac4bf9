/-
  The law FnQuotedReadsBackToBackStrings is a chain of statements: 'sfx i c': what is left of the chain behind i statements; 'hd c': the first of what is left. And what the chain builds: 'encTo S k': the first k strings, each in quotes, one behind the other.
-/
import Derived.Test.Qxb6002362aUpTo
namespace Go.Proofs.Qxb6002362a.Back
open Go.RowKit

def sfx : Nat → Code → Code
  | 0, c => c
  | n + 1, .seq _ b => sfx n b
  | _ + 1, c => c
def hd : Code → Code
  | .seq a _ => a
  | c => c

theorem wp_part {P : Program} {Q : Exit → Act → World → Prop} {a : Act} {w : World} (c x y : Code) (e : c = .seq x y)
    (h : ∀ K : Act → World → Prop, (∀ a w, y.wp P Q a w → K a w) → x.wp P (Exit.then K Q) a w) : c.wp P Q a w := by
  subst e
  exact wp_seq_k h

def encTo (S : Nat → ByteArray) : Nat → List UInt8
  | 0 => []
  | k + 1 => encTo S k ++ (34 :: ((S k).data.toList ++ [34]))

theorem encTo_succ (S : Nat → ByteArray) (k : Nat) : encTo S (k + 1) = encTo S k ++ (34 :: ((S k).data.toList ++ [34])) := rfl

theorem encTo_len (S : Nat → ByteArray) (k : Nat) : (encTo S (k + 1)).length = (encTo S k).length + (S k).size + 2 := by
  rw [encTo_succ]
  simp
  omega

theorem encTo_split (S : Nat → ByteArray) (k : Nat) : ∀ n, k < n → ∃ r, encTo S n = encTo S k ++ (34 :: ((S k).data.toList ++ 34 :: r))
  | 0, h => by omega
  | n + 1, h => by
    by_cases hk : k = n
    · subst hk
      exact ⟨[], rfl⟩
    · obtain ⟨r, hr⟩ := encTo_split S k n (by omega)
      exact ⟨r ++ (34 :: ((S n).data.toList ++ [34])), by rw [encTo_succ, hr]; simp⟩

theorem encTo_le (S : Nat → ByteArray) (k n : Nat) (h : k ≤ n) : (encTo S k).length ≤ (encTo S n).length := by
  by_cases hk : k < n
  · obtain ⟨r, hr⟩ := encTo_split S k n hk
    rw [hr]
    simp
  · have : k = n := by omega
    rw [this]
    exact Nat.le_refl _

/-- Where the scanner stands at round k: a quote; its partner stands just behind string k. -/
theorem at_round {S : Nat → ByteArray} {n k P : Nat} {T : ByteArray} (hT : T.data.toList = encTo S n) (hk : k < n) (hP : P = (encTo S k).length) :
    P + (S k).size + 2 ≤ T.size ∧ (∀ hx : P < T.size, ((T[P].toNat : Int) != 34) = false) ∧ Lib.indexByte (T.extract (P + 1) T.size).data.toList 34 = ((S k).size : Int) ∨ hasB (S k).data.toList 34 = true := by
  by_cases hq : hasB (S k).data.toList 34 = true
  · exact .inr hq
  left
  obtain ⟨r, hr⟩ := encTo_split S k n hk
  have hTr := hT.trans hr
  have hlen := congrArg List.length hTr
  simp at hlen
  refine ⟨by omega, ?_, ?_⟩
  · intro hx
    obtain ⟨hk', e⟩ := get_list T P hx
    have e2 : T.data.toList[P]? = some 34 := by rw [hTr, hP]; simp
    rw [List.getElem?_eq_getElem hk', e] at e2
    simp only [Option.some.injEq] at e2
    rw [e2]
    rfl
  · have e : P + 1 = (encTo S k ++ [34]).length := by simp [hP]
    have e2 : encTo S k ++ (34 :: ((S k).data.toList ++ 34 :: r)) = (encTo S k ++ [34]) ++ ((S k).data.toList ++ 34 :: r) := by simp
    rw [Lib.extract_to_end, hTr, e, e2, List.drop_left, ib_first _ _ _ (hasB_false.1 (by simpa using hq))]
    simp

/-- What lies between the two quotes is string k. -/
theorem between {S : Nat → ByteArray} {n k P : Nat} {T s : ByteArray} (hT : T.data.toList = encTo S n) (hk : k < n) (hP : P = (encTo S k).length) (hs : s.data.toList = (T.data.toList.drop (P + 1)).take (S k).size) : s = S k := by
  obtain ⟨r, hr⟩ := encTo_split S k n hk
  have e : P + 1 = (encTo S k ++ [34]).length := by simp [hP]
  have e2 : encTo S k ++ (34 :: ((S k).data.toList ++ 34 :: r)) = (encTo S k ++ [34]) ++ ((S k).data.toList ++ 34 :: r) := by simp
  have e3 : (S k).size = (S k).data.toList.length := by simp
  rw [hT, hr, e, e2, List.drop_left, e3, List.take_left] at hs
  cases s; cases hS : S k
  rw [hS] at hs
  simp only [ByteArray.mk.injEq]
  exact Array.toList_inj.1 hs

theorem next_pos {S : Nat → ByteArray} {k P : Nat} (hP : P = (encTo S k).length) : Hid (P + (S k).size + 2 = (encTo S (k + 1)).length) := by
  show _ = _
  rw [encTo_len, hP]

theorem sum_next {S : Nat → ByteArray} {k m n : Nat} (h : m + 2 * k = 16 * n + (encTo S k).length) : Hid (m + (S k).size + 2 * (k + 1) = 16 * n + (encTo S (k + 1)).length) := by
  show _ = _
  rw [encTo_len]
  omega

theorem sum_end {S : Nat → ByteArray} {k m : Nat} (hm : m ≤ 1048576) (h : m + 2 * k = 16 * k + (encTo S k).length) : Hid ((encTo S k).length ≤ 1048576) := by
  show _ ≤ _
  omega

theorem end_pos {S : Nat → ByteArray} {n k P : Nat} {T : ByteArray} (hT : T.data.toList = encTo S n) (hk : k = n) (hP : P = (encTo S k).length) : ((P : Int) == (T.size : Int)) = true := by
  have := congrArg List.length hT
  simp at this
  rw [beq_iff_eq]
  subst hk
  omega
end Go.Proofs.Qxb6002362a.Back
