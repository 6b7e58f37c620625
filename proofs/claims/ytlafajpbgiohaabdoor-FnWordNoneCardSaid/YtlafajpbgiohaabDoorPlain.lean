/-
  THE PLAIN LAW OF FnWordNone: a number of 32 bits with two single ones that are not beside each other, and this number inverted, are no word masks; 1 is one.
  'wordB' is what the code of decodeMask32 computes for 'valid', in the walk's own words; 'maskB' the same over bit vectors. No program in sight.
-/
import Derived.WalkKit
namespace Go.Proofs.YtlafajpbgiohaabDoor
open Go Go.RowKit

/-- what the code computes of 'v & -v + v' -/
def wordP (u : Int) : Int := (bits BinOp.and .u32 u (-u % 4294967296) + u) % 4294967296
/-- the code's 'valid' -/
def wordB (u : Int) : Bool := (bits BinOp.and .u32 u (wordP u) == 0 || bits BinOp.and .u32 (bits BinOp.xor .u32 IntKind.u32.max u) (wordP (bits BinOp.xor .u32 IntKind.u32.max u)) == 0) && (u != 0)

/-- the same over bit vectors -/
def maskB (m : BitVec 32) : Bool := (m &&& ((m &&& -m) + m) == 0#32 || ~~~m &&& ((~~~m &&& -(~~~m)) + ~~~m) == 0#32) && m != 0#32

theorem mod_toNat (n : Int) : n % 4294967296 = ((BitVec.ofInt 32 n).toNat : Int) := by
  simp only [BitVec.toNat_ofInt]
  omega

theorem wrap_toNat (n : Int) : IntKind.u32.wrap n = ((BitVec.ofInt 32 n).toNat : Int) := by
  rw [← mod_toNat]
  simp [IntKind.wrap, IntKind.bits, IntKind.signed]

theorem ofInt_toNat (m : BitVec 32) : BitVec.ofInt 32 (m.toNat : Int) = m := by
  rw [BitVec.ofInt_natCast]; simp

theorem ofInt_mod (n : Int) : BitVec.ofInt 32 (n % 4294967296) = BitVec.ofInt 32 n := by
  rw [mod_toNat, ofInt_toNat]

theorem wrap_nat32 (m : BitVec 32) : IntKind.u32.wrap (m.toNat : Int) = (m.toNat : Int) := by
  rw [wrap_toNat, ofInt_toNat]
theorem and_u32 (x y : Int) : bits .and .u32 x y = ((BitVec.ofInt 32 x &&& BitVec.ofInt 32 y).toNat : Int) := wrap_nat32 _
theorem or_u32 (x y : Int) : bits .or .u32 x y = ((BitVec.ofInt 32 x ||| BitVec.ofInt 32 y).toNat : Int) := wrap_nat32 _
theorem xor_u32 (x y : Int) : bits .xor .u32 x y = ((BitVec.ofInt 32 x ^^^ BitVec.ofInt 32 y).toNat : Int) := wrap_nat32 _

theorem ofInt_max : BitVec.ofInt 32 IntKind.u32.max = BitVec.allOnes 32 := by decide

theorem wordP_toNat (m : BitVec 32) : wordP (m.toNat : Int) = (((m &&& -m) + m).toNat : Int) := by
  unfold wordP
  rw [mod_toNat, and_u32]
  simp only [BitVec.ofInt_add, BitVec.ofInt_neg, ofInt_toNat, ofInt_mod]

theorem beq_zero (m : BitVec 32) : ((m.toNat : Int) == 0) = (m == 0#32) := by
  rw [Bool.eq_iff_iff]
  simp only [beq_iff_eq]
  constructor
  · intro h; apply BitVec.eq_of_toNat_eq; simp; omega
  · rintro rfl; rfl

theorem wordB_mask (m : BitVec 32) : wordB (m.toNat : Int) = maskB m := by
  unfold wordB maskB
  have hx : bits BinOp.xor .u32 IntKind.u32.max (m.toNat : Int) = ((~~~m).toNat : Int) := by
    rw [xor_u32]; simp only [ofInt_toNat, ofInt_max, BitVec.allOnes_xor]
  simp only [hx, wordP_toNat, and_u32, ofInt_toNat, beq_zero, bne]

theorem ofInt_two (a : Nat) : BitVec.ofInt 32 (2 ^ a) = BitVec.ofNat 32 (2 ^ a) := by
  rw [← BitVec.ofInt_natCast]
  congr 1

/-- the finite law, by the kernel: 32 times 32 cases -/
theorem masks_none : ∀ a : Fin 32, ∀ b : Fin 32, (a.val + 2 ≤ b.val ∧ b.val ≤ a.val + 30) →
    maskB (BitVec.ofNat 32 (2 ^ a.val) ||| BitVec.ofNat 32 (2 ^ b.val)) = false ∧ maskB (~~~(BitVec.ofNat 32 (2 ^ a.val) ||| BitVec.ofNat 32 (2 ^ b.val))) = false := by
  decide +kernel

/-- the mask that the statement makes, as the walk spells it -/
theorem none_of (a b : Int) (h1 : 0 ≤ a) (h2 : a ≤ 31) (h3 : 0 ≤ b) (h4 : b ≤ 31) (h5 : 2 ≤ b - a) (h6 : b - a ≤ 30) :
    wordB (bits BinOp.or IntKind.u32 (2 ^ a.toNat % 4294967296) (2 ^ b.toNat % 4294967296)) = false ∧
    wordB (bits BinOp.xor IntKind.u32 IntKind.u32.max (bits BinOp.or IntKind.u32 (2 ^ a.toNat % 4294967296) (2 ^ b.toNat % 4294967296))) = false := by
  have hm : bits BinOp.or IntKind.u32 (2 ^ a.toNat % 4294967296) (2 ^ b.toNat % 4294967296) = ((BitVec.ofNat 32 (2 ^ a.toNat) ||| BitVec.ofNat 32 (2 ^ b.toNat)).toNat : Int) := by
    rw [or_u32]
    simp only [ofInt_mod, ofInt_two]
  have hn := masks_none ⟨a.toNat, by omega⟩ ⟨b.toNat, by omega⟩ ⟨by simp only; omega, by simp only; omega⟩
  rw [hm, wordB_mask, xor_u32, ofInt_toNat, ofInt_max, BitVec.allOnes_xor, wordB_mask]
  exact hn

theorem one_is : wordB 1 = true := by
  have h := wordB_mask 1#32
  rw [show ((1#32).toNat : Int) = 1 from rfl] at h
  rw [h]; decide +kernel
end Go.Proofs.YtlafajpbgiohaabDoor
