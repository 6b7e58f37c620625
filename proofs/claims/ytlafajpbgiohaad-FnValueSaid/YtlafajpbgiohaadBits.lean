/-
  THE PLAIN PART OF THE READER, for FnValue: what readvarint and step compute of bits, as arithmetic. No program in sight.
-/
import Derived.Test.YtlafajpbgiohaadPlain
import Derived.Laws.BitsAllLaws
namespace Go.Proofs.Ytlafajpbgiohaad
open Go Go.RowKit

/-- what a round of readvarint makes of v, in the walk's own words -/
def orV (V b s : Int) : Int := bits BinOp.or .u32 V (bits BinOp.and .u32 b 127 * 2 ^ s.toNat % 4294967296)

theorem orV_eq (V : Nat) (b k : Nat) (hV : V < 2 ^ (7 * k)) (hb : b < 256) (hs : V + b % 128 * 2 ^ (7 * k) < 4294967296) :
    orV (V : Int) (b : Int) ((7 * k : Nat) : Int) = ((V + b % 128 * 2 ^ (7 * k) : Nat) : Int) := by
  unfold orV
  have h1 : bits BinOp.and .u32 (b : Int) 127 = ((b % 128 : Nat) : Int) := by
    have := u32_and_nat b 127 (by omega) (by omega)
    rw [show ((127 : Nat) : Int) = 127 from rfl] at this
    rw [this, show (127 : Nat) = 2 ^ 7 - 1 from rfl, Nat.and_two_pow_sub_one_eq_mod]
  rw [h1, Int.toNat_natCast]
  have h2 : (((b % 128 : Nat) : Int) * 2 ^ (7 * k)) % 4294967296 = ((b % 128 * 2 ^ (7 * k) : Nat) : Int) := by
    rw [show ((b % 128 : Nat) : Int) * 2 ^ (7 * k) = ((b % 128 * 2 ^ (7 * k) : Nat) : Int) by rw [Int.natCast_mul, Int.natCast_pow]; rfl]
    omega
  rw [h2, u32_or_nat V _ (by omega) (by omega)]
  congr 1
  rw [Nat.or_comm, ← Nat.shiftLeft_eq, ← Nat.shiftLeft_add_eq_or_of_lt hV, Nat.add_comm]

/-- the one bit that tells whether more bytes follow -/
theorem top_lo {b : Nat} (h : b < 128) : bits BinOp.and .u8 (b : Int) 128 = 0 := by
  have := u8_and_nat b 128 (by omega) (by omega)
  rw [show ((128 : Nat) : Int) = 128 from rfl] at this
  rw [this]
  have : ∀ b : Fin 128, b.val &&& 128 = 0 := by decide +kernel
  exact congrArg Nat.cast (this ⟨b, h⟩)
theorem top_hi {b : Nat} (h0 : 128 ≤ b) (h : b < 256) : bits BinOp.and .u8 (b : Int) 128 = 128 := by
  have := u8_and_nat b 128 (by omega) (by omega)
  rw [show ((128 : Nat) : Int) = 128 from rfl] at this
  rw [this]
  have : ∀ b : Fin 256, 128 ≤ b.val → b.val &&& 128 = 128 := by decide +kernel
  exact congrArg Nat.cast (this ⟨b, h⟩ h0)

/-- the lowest bit of a difference -/
theorem low_bit (z : Nat) (h : z < 4294967296) : bits BinOp.and .u32 (z : Int) 1 = ((z % 2 : Nat) : Int) := by
  have := u32_and_nat z 1 h (by omega)
  rw [show ((1 : Nat) : Int) = 1 from rfl] at this
  rw [this, show (1 : Nat) = 2 ^ 1 - 1 from rfl, Nat.and_two_pow_sub_one_eq_mod]
theorem max_u32 : IntKind.u32.max = 4294967295 := by decide
/-- a number inverted -/
theorem not_u32 (z : Nat) (h : z < 4294967296) : bits BinOp.xor .u32 IntKind.u32.max (z : Int) = 4294967295 - (z : Int) := by
  rw [max_u32]
  show IntKind.u32.wrap ((BitVec.ofInt 32 4294967295 ^^^ BitVec.ofInt 32 (z : Int)).toNat : Int) = _
  have h1 : BitVec.ofInt 32 4294967295 = BitVec.allOnes 32 := by decide
  rw [h1, BitVec.allOnes_xor, BitVec.toNat_not, BitVec.ofInt_natCast, BitVec.toNat_ofNat, IntKind.wrap_u32]
  omega
/-- a difference is read back from its number -/
theorem zz_odd {d : Int} (h : d < 0) : zz d % 2 = 1 ∧ ((zz d / 2 : Nat) : Int) = -(d + 1) := by
  unfold zz; rw [if_pos h]; omega
theorem zz_even {d : Int} (h : ¬ d < 0) : zz d % 2 = 0 ∧ ((zz d / 2 : Nat) : Int) = d := by
  unfold zz; rw [if_neg h]; omega
end Go.Proofs.Ytlafajpbgiohaad
