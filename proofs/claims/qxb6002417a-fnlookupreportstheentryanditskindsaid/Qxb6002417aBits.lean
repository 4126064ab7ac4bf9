/-
  The type bits of a mode: plain facts on 'bits'.
-/
import Derived.WalkKit
namespace Go.Proofs.Qxb6002417a.Mem

/-- The type bits of a mode (io/fs.FileMode's Type). -/
def typeOf (z : Int) : Int := bits .and .u32 z 2401763328

theorem type_nat (a : Nat) (h : a < 4294967296) : typeOf (a : Int) = ((a &&& 2401763328 : Nat) : Int) := by
  have := u32_and_nat a 2401763328 h (by omega)
  unfold typeOf
  exact this

theorem and_lt (a b : Nat) (h : a < 4294967296) : a &&& b < 4294967296 := Nat.lt_of_le_of_lt Nat.and_le_left h

theorem type_notperm (z : Int) (h0 : 0 ≤ z) (h : z < 4294967296) : (bits .and .u32 (typeOf z) 13631999 == 0) = true := by
  obtain ⟨a, rfl⟩ := Int.eq_ofNat_of_zero_le h0
  have ha : a < 4294967296 := by omega
  rw [type_nat a ha]
  have := u32_and_nat (a &&& 2401763328) 13631999 (and_lt _ _ ha) (by omega)
  rw [show ((13631999 : Nat) : Int) = 13631999 from rfl] at this
  rw [this, Nat.and_assoc, show (2401763328 &&& 13631999 : Nat) = 0 from by decide +kernel, Nat.and_zero]
  rfl

theorem type_within (z : Int) (h0 : 0 ≤ z) (h : z < 4294967296) : (bits .andNot .u32 (typeOf z) z == 0) = true := by
  obtain ⟨a, rfl⟩ := Int.eq_ofNat_of_zero_le h0
  have ha : a < 4294967296 := by omega
  rw [type_nat a ha, u32_andNot_nat (a &&& 2401763328) a (and_lt _ _ ha) ha]
  have e : (a &&& 2401763328) &&& (4294967295 - a) = 0 := by
    apply Nat.eq_of_testBit_eq
    intro i
    rw [Nat.testBit_and, Nat.testBit_and, Nat.zero_testBit]
    have h2 : (4294967295 - a).testBit i = (decide (i < 32) && !a.testBit i) := by
      have := Nat.testBit_two_pow_sub_succ (n := 32) (x := a) (by omega) i
      rw [show (2 ^ 32 - (a + 1) : Nat) = 4294967295 - a from by omega] at this
      exact this
    rw [h2]
    cases a.testBit i <;> simp
  rw [e]
  rfl

theorem type_dir (z : Int) (h0 : 0 ≤ z) (h : z < 4294967296) : bits .and .u32 (typeOf z) 2147483648 = bits .and .u32 z 2147483648 := by
  obtain ⟨a, rfl⟩ := Int.eq_ofNat_of_zero_le h0
  have ha : a < 4294967296 := by omega
  rw [type_nat a ha]
  have h1 := u32_and_nat (a &&& 2401763328) 2147483648 (and_lt _ _ ha) (by omega)
  have h2 := u32_and_nat a 2147483648 ha (by omega)
  rw [show ((2147483648 : Nat) : Int) = 2147483648 from rfl] at h1 h2
  rw [h1, h2, Nat.and_assoc, show (2401763328 &&& 2147483648 : Nat) = 2147483648 from by decide +kernel]

theorem type_link (z : Int) (h0 : 0 ≤ z) (h : z < 4294967296) : bits .and .u32 (typeOf z) 134217728 = bits .and .u32 z 134217728 := by
  obtain ⟨a, rfl⟩ := Int.eq_ofNat_of_zero_le h0
  have ha : a < 4294967296 := by omega
  rw [type_nat a ha]
  have h1 := u32_and_nat (a &&& 2401763328) 134217728 (and_lt _ _ ha) (by omega)
  have h2 := u32_and_nat a 134217728 ha (by omega)
  rw [show ((134217728 : Nat) : Int) = 134217728 from rfl] at h1 h2
  rw [h1, h2, Nat.and_assoc, show (2401763328 &&& 134217728 : Nat) = 134217728 from by decide +kernel]
end Go.Proofs.Qxb6002417a.Mem
