/-
  THE PLAIN LAW OF FnRotateNone: a number of 64 bits with two single ones that are not beside each other, and this number inverted, are no rotate masks; 1 is one.
  'rotB' is what the code of isPPC64DoublewordRotateMask computes, in the walk's own words; 'maskB' the same over bit vectors. No program in sight.
-/
import Derived.WalkKit
namespace Go.Proofs.Ytlafajpbgiohaaa
open Go Go.RowKit

/-- what the code computes of 'v & -v + v' over an unsigned number -/
def rotP (u : Int) : Int := IntKind.u64.wrap (bits BinOp.and .u64 u (IntKind.u64.wrap (-u)) + u)
/-- the answer of the code over the unsigned number -/
def rotQ (u : Int) : Bool := (bits BinOp.and .u64 u (rotP u) == 0 || bits BinOp.and .u64 (bits BinOp.xor .u64 IntKind.u64.max u) (rotP (bits BinOp.xor .u64 IntKind.u64.max u)) == 0) && (u != 0)
/-- the answer of the code -/
def rotB (v : Int) : Bool := rotQ (IntKind.u64.wrap v)

/-- the same over bit vectors -/
def maskB (m : BitVec 64) : Bool := (m &&& ((m &&& -m) + m) == 0#64 || ~~~m &&& ((~~~m &&& -(~~~m)) + ~~~m) == 0#64) && m != 0#64

theorem wrap_toNat (n : Int) : IntKind.u64.wrap n = ((BitVec.ofInt 64 n).toNat : Int) := by
  simp only [BitVec.toNat_ofInt]
  simp only [IntKind.wrap, IntKind.bits, IntKind.signed]
  simp
  omega

theorem ofInt_toNat (m : BitVec 64) : BitVec.ofInt 64 (m.toNat : Int) = m := by
  rw [BitVec.ofInt_natCast]; simp

theorem ofInt_wrap (n : Int) : BitVec.ofInt 64 (IntKind.u64.wrap n) = BitVec.ofInt 64 n := by
  rw [wrap_toNat, ofInt_toNat]

theorem ofInt_wrapS (n : Int) : BitVec.ofInt 64 (IntKind.i64.wrap n) = BitVec.ofInt 64 n := by
  apply BitVec.eq_of_toNat_eq
  simp only [BitVec.toNat_ofInt]
  congr 1
  simp only [IntKind.wrap, IntKind.bits, IntKind.signed]
  simp only [Bool.true_and]
  split <;> omega

theorem ofInt_wrap64 (n : Int) : BitVec.ofInt 64 (wrap64 n) = BitVec.ofInt 64 n := by
  apply BitVec.eq_of_toNat_eq
  simp only [BitVec.toNat_ofInt]
  congr 1
  unfold wrap64
  omega

theorem wrap_nat64 (m : BitVec 64) : IntKind.u64.wrap (m.toNat : Int) = (m.toNat : Int) := by
  rw [wrap_toNat, ofInt_toNat]
theorem and_u64 (x y : Int) : bits .and .u64 x y = ((BitVec.ofInt 64 x &&& BitVec.ofInt 64 y).toNat : Int) := wrap_nat64 _
theorem or_u64 (x y : Int) : bits .or .u64 x y = ((BitVec.ofInt 64 x ||| BitVec.ofInt 64 y).toNat : Int) := wrap_nat64 _
theorem xor_u64 (x y : Int) : bits .xor .u64 x y = ((BitVec.ofInt 64 x ^^^ BitVec.ofInt 64 y).toNat : Int) := wrap_nat64 _

theorem ofInt_max : BitVec.ofInt 64 IntKind.u64.max = BitVec.allOnes 64 := by decide

theorem rotP_toNat (m : BitVec 64) : rotP (m.toNat : Int) = (((m &&& -m) + m).toNat : Int) := by
  unfold rotP
  rw [wrap_toNat, and_u64]
  simp only [BitVec.ofInt_add, BitVec.ofInt_neg, ofInt_toNat, ofInt_wrap]

theorem beq_zero (m : BitVec 64) : ((m.toNat : Int) == 0) = (m == 0#64) := by
  rw [Bool.eq_iff_iff]
  simp only [beq_iff_eq]
  constructor
  · intro h; apply BitVec.eq_of_toNat_eq; simp; omega
  · rintro rfl; rfl

theorem rotB_mask (v : Int) : rotB v = maskB (BitVec.ofInt 64 v) := by
  unfold rotB rotQ maskB
  rw [wrap_toNat]
  generalize BitVec.ofInt 64 v = m
  have hx : bits BinOp.xor .u64 IntKind.u64.max (m.toNat : Int) = ((~~~m).toNat : Int) := by
    rw [xor_u64]; simp only [ofInt_toNat, ofInt_max, BitVec.allOnes_xor]
  simp only [hx, rotP_toNat, and_u64, ofInt_toNat, beq_zero, bne]

theorem ofInt_two (a : Nat) : BitVec.ofInt 64 (2 ^ a) = BitVec.ofNat 64 (2 ^ a) := by
  rw [← BitVec.ofInt_natCast]
  congr 1

/-- the finite law, by the kernel: 64 times 64 cases -/
theorem masks_none : ∀ a : Fin 64, ∀ b : Fin 64, (a.val + 2 ≤ b.val ∧ b.val ≤ a.val + 62) →
    maskB (BitVec.ofNat 64 (2 ^ a.val) ||| BitVec.ofNat 64 (2 ^ b.val)) = false ∧ maskB (~~~(BitVec.ofNat 64 (2 ^ a.val) ||| BitVec.ofNat 64 (2 ^ b.val))) = false := by
  decide +kernel

/-- the mask that the statement makes, as the walk spells it -/
theorem none_of (a b : Int) (h1 : 0 ≤ a) (h2 : a ≤ 63) (h3 : 0 ≤ b) (h4 : b ≤ 63) (h5 : 2 ≤ b - a) (h6 : b - a ≤ 62) :
    rotB (wrap64 (bits BinOp.or IntKind.u64 (IntKind.u64.wrap (2 ^ a.toNat)) (IntKind.u64.wrap (2 ^ b.toNat)))) = false ∧
    rotB (bits BinOp.xor IntKind.i64 (-1) (wrap64 (bits BinOp.or IntKind.u64 (IntKind.u64.wrap (2 ^ a.toNat)) (IntKind.u64.wrap (2 ^ b.toNat))))) = false := by
  have hm : BitVec.ofInt 64 (wrap64 (bits BinOp.or IntKind.u64 (IntKind.u64.wrap (2 ^ a.toNat)) (IntKind.u64.wrap (2 ^ b.toNat)))) = BitVec.ofNat 64 (2 ^ a.toNat) ||| BitVec.ofNat 64 (2 ^ b.toNat) := by
    rw [ofInt_wrap64, or_u64, ofInt_toNat]
    simp only [ofInt_wrap, ofInt_two]
  have hn := masks_none ⟨a.toNat, by omega⟩ ⟨b.toNat, by omega⟩ ⟨by simp only; omega, by simp only; omega⟩
  refine ⟨by rw [rotB_mask, hm]; exact hn.1, ?_⟩
  have hx : ∀ x : Int, BitVec.ofInt 64 (bits BinOp.xor IntKind.i64 (-1) x) = ~~~BitVec.ofInt 64 x := by
    intro x
    show BitVec.ofInt 64 (IntKind.i64.wrap ((BitVec.ofInt 64 (-1) ^^^ BitVec.ofInt 64 x).toNat : Int)) = _
    rw [ofInt_wrapS, ofInt_toNat]
    have h1 : BitVec.ofInt 64 (-1) = BitVec.allOnes 64 := by decide
    rw [h1, BitVec.allOnes_xor]
  rw [rotB_mask, hx, hm]
  exact hn.2

theorem one_is : rotB 1 = true := by
  rw [rotB_mask]; decide +kernel
end Go.Proofs.Ytlafajpbgiohaaa
