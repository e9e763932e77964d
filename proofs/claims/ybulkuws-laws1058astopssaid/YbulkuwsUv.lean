/-
  encoding/binary.Uvarint at this program: the shelf's contract laid in plain words (written by the kit's lay-shelf.mjs and lay-plain.mjs for this dump; the names turned), and what it gives on a varint with bytes behind it.
-/
import Derived.Shelf.Bin.Uvarint
import Derived.Lib.Varint
import Derived.Lib.VarintMem
import Derived.Test.YbulkuwsProg
import Derived.KernelRfl
namespace Go.Proofs.Ybulkuws.Uv
open Go.Shelf Go.RowKit
def uv_ren : Go.Shelf.Ren := ⟨fun | 45 => 20 | n => n, fun | 22 => 23 | 33 => 46 | 3 => 3 | 45 => 88 | 0 => 0 | 5 => 5 | 4 => 4 | n => n, fun | n => n⟩
theorem uv_lays : Go.Proofs.LaysBin.n45 Yba.prog uv_ren := {
  mixed := by kernel_rfl
  f45 := Yba.func20.trans (congrArg some (by kernel_rfl))
  t0 := Yba.underlying0
  a0 := Yba.isAgg0
  z0 := Yba.sizeOf0
  v0 := Yba.zeroValue0
  i0 := by kernel_rfl
  t3 := Yba.underlying3
  a3 := Yba.isAgg3
  z3 := Yba.sizeOf3
  v3 := Yba.zeroValue3
  i3 := by kernel_rfl
  t4 := Yba.underlying4
  a4 := Yba.isAgg4
  z4 := Yba.sizeOf4
  v4 := Yba.zeroValue4
  i4 := by kernel_rfl
  t5 := Yba.underlying5
  a5 := Yba.isAgg5
  z5 := Yba.sizeOf5
  v5 := Yba.zeroValue5
  i5 := by kernel_rfl
  t22 := Yba.underlying23
  a22 := Yba.isAgg23
  z22 := Yba.sizeOf23
  v22 := Yba.zeroValue23
  i22 := by kernel_rfl
  t33 := Yba.underlying46
  a33 := Yba.isAgg46
  z33 := Yba.sizeOf46
  v33 := Yba.zeroValue46
  i33 := by kernel_rfl
  t45 := Yba.underlying88
  a45 := Yba.isAgg88
  z45 := Yba.sizeOf88
  v45 := Yba.zeroValue88
  i45 := by kernel_rfl }
theorem uv_any (g o n c : Nat) (l : List UInt8) (w : World) (hl : l.length = n) (hcell : ∀ j (hj : j < l.length), w.cell? ⟨g, o + j, none⟩ = some (.int .u8 (l[j]).toNat)) :
    Calls Yba.prog 20 #[.slice (some ⟨g, o, none⟩) n c] w fun e w' => e = .returned (.tuple #[.int .u64 (Lib.uvarintDec l).1, .int .i64 (Lib.uvarintDec l).2]) ∧ w' = w := Any.binary_Uvarint uv_lays g o n c l w hl hcell

theorem uvarintFrom_big (i acc : Nat) (b : UInt8) (r : List UInt8) (hi : i ≠ 10) (hb : ¬ b.toNat < 128) : Lib.uvarintFrom i acc (b :: r) = Lib.uvarintFrom (i + 1) (acc + b.toNat % 128 * 2 ^ (7 * i)) r := by
  simp [Lib.uvarintFrom, hi, hb]

/-- Decoding what was encoded: i bytes have been read, they spell acc. -/
theorem from_uvarint (x : Nat) : ∀ (i acc : Nat) (r : List UInt8), x * 2 ^ (7 * i) < 2 ^ 64 → i ≤ 9 →
    Lib.uvarintFrom i acc (Lib.uvarint x ++ r) = (acc + x * 2 ^ (7 * i), (i : Int) + (Lib.uvarint x).length) := by
  induction x using Nat.strongRecOn with
  | _ x ih =>
    intro i acc r hx hi
    by_cases h : x < 128
    · rw [Lib.uvarint_small h]
      have hb : (x.toUInt8).toNat = x := Lib.toUInt8_toNat (by omega)
      have h9 : ¬ (i = 9 ∧ 1 < x) := by
        rintro ⟨rfl, h1⟩
        have e : (2 : Nat) ^ (7 * 9) = 9223372036854775808 := by decide
        have e' : (2 : Nat) ^ 64 = 18446744073709551616 := by decide
        rw [e, e'] at hx
        omega
      simp [Lib.uvarintFrom, hb, h, show i ≠ 10 by omega, h9]
    · have hx9 : i ≤ 8 := by
        rcases Nat.lt_or_ge i 9 with h8 | h8
        · omega
        · obtain rfl : i = 9 := by omega
          have e : (2 : Nat) ^ (7 * 9) = 9223372036854775808 := by decide
          have e' : (2 : Nat) ^ 64 = 18446744073709551616 := by decide
          rw [e, e'] at hx
          omega
      rw [Lib.uvarint_big (by omega)]
      have hb : ((x % 128 + 128).toUInt8).toNat = x % 128 + 128 := Lib.toUInt8_toNat (by omega)
      have hp : (2 : Nat) ^ (7 * (i + 1)) = 128 * 2 ^ (7 * i) := by
        rw [show 7 * (i + 1) = 7 * i + 7 by omega, Nat.pow_add, Nat.mul_comm]
      rw [List.cons_append, uvarintFrom_big _ _ _ _ (by omega) (by rw [hb]; omega), ih (x / 128) (by omega) (i + 1) _ r ?_ (by omega), hb]
      · have e1 : (x % 128 + 128) % 128 = x % 128 := by omega
        rw [e1, hp]
        refine Prod.ext ?_ ?_
        · show acc + x % 128 * 2 ^ (7 * i) + x / 128 * (128 * 2 ^ (7 * i)) = acc + x * 2 ^ (7 * i)
          have e2 : x / 128 * (128 * 2 ^ (7 * i)) = (x / 128 * 128) * 2 ^ (7 * i) := by rw [Nat.mul_assoc]
          rw [e2, Nat.add_assoc, ← Nat.add_mul]
          congr 2
          omega
        · simp
          omega
      · rw [hp, ← Nat.mul_assoc]
        exact Nat.lt_of_le_of_lt (Nat.mul_le_mul_right _ (Nat.div_mul_le_self x 128)) hx

theorem dec_uvarint (x : Nat) (r : List UInt8) (hx : x < 18446744073709551616) : Lib.uvarintDec (Lib.uvarint x ++ r) = (x, ((Lib.uvarint x).length : Int)) := by
  unfold Lib.uvarintDec
  rw [from_uvarint x 0 0 r (by simpa using hx) (by omega)]
  simp

/-- binary.Uvarint where a varint stands ahead of whatever bytes. -/
theorem uv_dec (g o n c x : Nat) (r : List UInt8) (w : World) (hx : x < 18446744073709551616) (hl : (Lib.uvarint x ++ r).length = n) (hcell : ∀ j (hj : j < (Lib.uvarint x ++ r).length), w.cell? ⟨g, o + j, none⟩ = some (.int .u8 ((Lib.uvarint x ++ r)[j]).toNat)) :
    Calls Yba.prog 20 #[.slice (some ⟨g, o, none⟩) n c] w fun e w' => e = .returned (.tuple #[.int .u64 x, .int .i64 ((Lib.uvarint x).length : Nat)]) ∧ w' = w := by
  have h := uv_any g o n c (Lib.uvarint x ++ r) w hl hcell
  rw [dec_uvarint x r hx] at h
  exact h

end Go.Proofs.Ybulkuws.Uv
