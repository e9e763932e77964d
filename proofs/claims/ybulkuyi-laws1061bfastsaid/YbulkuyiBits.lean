/-
  The sign bit of a uint64, with no Go in sight.
-/
import Derived.Laws.Bits64b
namespace Go.Proofs.Ybulkuyi.SignBit

theorem bits_or_bv (x y : Int) : bits .or .u64 x y = ((BitVec.ofInt 64 x ||| BitVec.ofInt 64 y).toNat : Int) := by
  show IntKind.u64.wrap ((BitVec.ofInt 64 x ||| BitVec.ofInt 64 y).toNat : Int) = _
  have := (BitVec.ofInt 64 x ||| BitVec.ofInt 64 y).isLt
  rw [IntKind.wrap_u64]
  omega
theorem bits_and_bv (x y : Int) : bits .and .u64 x y = ((BitVec.ofInt 64 x &&& BitVec.ofInt 64 y).toNat : Int) := by
  show IntKind.u64.wrap ((BitVec.ofInt 64 x &&& BitVec.ofInt 64 y).toNat : Int) = _
  have := (BitVec.ofInt 64 x &&& BitVec.ofInt 64 y).isLt
  rw [IntKind.wrap_u64]
  omega
theorem bits_andNot_bv (x y : Int) : bits .andNot .u64 x y = ((BitVec.ofInt 64 x &&& ~~~(BitVec.ofInt 64 y)).toNat : Int) := by
  show IntKind.u64.wrap ((BitVec.ofInt 64 x &&& ~~~(BitVec.ofInt 64 y)).toNat : Int) = _
  have := (BitVec.ofInt 64 x &&& ~~~(BitVec.ofInt 64 y)).isLt
  rw [IntKind.wrap_u64]
  omega
theorem ofInt_back (b : BitVec 64) : BitVec.ofInt 64 ((b.toNat : Nat) : Int) = b := by
  rw [BitVec.ofInt_natCast]
  simp

theorem and_or_self (a s : BitVec 64) : (a ||| s) &&& s = s := by
  ext i hi
  simp
  exact fun h => .inr h
theorem andNot_and (a s : BitVec 64) : (a &&& ~~~s) &&& s = 0#64 := by
  ext i hi
  simp

/-- The sign bit that was set is seen. -/
theorem seen (d s : Int) (hs : BitVec.ofInt 64 s ≠ 0#64) : (bits .and .u64 (bits .or .u64 d s) s != 0) = true := by
  rw [bits_or_bv, bits_and_bv, ofInt_back, and_or_self, bne_iff_ne]
  intro h
  have h' : (BitVec.ofInt 64 s).toNat = (0#64).toNat := by
    have : (0#64).toNat = 0 := rfl
    omega
  exact hs (BitVec.eq_of_toNat_eq h')
/-- The sign bit that was struck is not seen. -/
theorem unseen (d s : Int) : (bits .and .u64 (bits .andNot .u64 d s) s != 0) = false := by
  rw [bits_andNot_bv, bits_and_bv, ofInt_back, andNot_and]
  simp

theorem or_zero (h l : Int) (h0 : 0 ≤ h) (h1 : h ≤ 18446744073709551615) (l0 : 0 ≤ l) (l1 : l ≤ 18446744073709551615) : (bits .or .u64 h l == 0) = (h == 0 && l == 0) := by
  obtain ⟨a, rfl⟩ := Int.eq_ofNat_of_zero_le h0
  obtain ⟨b, rfl⟩ := Int.eq_ofNat_of_zero_le l0
  rw [bits_or_u64_nat a b (by omega) (by omega)]
  rw [Bool.eq_iff_iff]
  simp

end Go.Proofs.Ybulkuyi.SignBit
