/-
  THE PLAIN LAW OF FnDoubleWraps: a mask of 64 bits from bit 'first' to bit 'last', counted from the highest one on, that goes on from the lowest bit to the highest one and leaves some bit out, is not valid for decodeMask64, and this mask inverted is.
  'maskI' is what the loop of spec.Mask64 makes, 'validB' what the code of decodeMask64 computes for 'valid', both in the walk's own words; 'maskV' and 'runB' the same over bit vectors. No program in sight.
-/
import Derived.WalkKit
namespace Go.Proofs.YtlafajpbgiohaacDoor
open Go Go.RowKit

/-- one round of Mask64: bit i, counted from the highest one on, is set -/
def setI (x i : Int) : Int := bits BinOp.or .u64 x (IntKind.u64.wrap (2 ^ (63 - i).toNat))
/-- d rounds more, from place i on -/
def maskI : Nat → Int → Int → Int
  | 0, i, x => setI x i
  | d + 1, i, x => maskI d ((i + 1) % 64) (setI x i)
/-- the mask from first to last -/
def maskOf (first last : Int) : Int := maskI ((last - first) % 64).toNat first 0

/-- the code's 'valid' over the unsigned number -/
def validQ (u : Int) : Bool := (bits BinOp.and .u64 (IntKind.u64.wrap (bits BinOp.and .u64 u (IntKind.u64.wrap (-u)) + u)) u == 0) && (u != 0)
/-- the code's 'valid' -/
def validB (v : Int) : Bool := validQ (IntKind.u64.wrap v)

/-- the same over bit vectors -/
def setV (x : BitVec 64) (i : Nat) : BitVec 64 := x ||| BitVec.ofNat 64 (2 ^ (63 - i))
def maskV : Nat → Nat → BitVec 64 → BitVec 64
  | 0, i, x => setV x i
  | d + 1, i, x => maskV d ((i + 1) % 64) (setV x i)
def runB (m : BitVec 64) : Bool := (((m &&& -m) + m) &&& m == 0#64) && m != 0#64

theorem wrap_toNat (n : Int) : IntKind.u64.wrap n = ((BitVec.ofInt 64 n).toNat : Int) := by
  simp only [BitVec.toNat_ofInt]
  simp only [IntKind.wrap, IntKind.bits, IntKind.signed]
  simp
  omega

theorem ofInt_toNat (m : BitVec 64) : BitVec.ofInt 64 (m.toNat : Int) = m := by
  rw [BitVec.ofInt_natCast]; simp

theorem ofInt_wrap (n : Int) : BitVec.ofInt 64 (IntKind.u64.wrap n) = BitVec.ofInt 64 n := by
  rw [wrap_toNat, ofInt_toNat]

theorem ofInt_wrapS (n : Int) : BitVec.ofInt 64 (IntKind.i64.wrap n) = BitVec.ofInt 64 n := by
  apply BitVec.eq_of_toNat_eq
  simp only [BitVec.toNat_ofInt]
  congr 1
  simp only [IntKind.wrap, IntKind.bits, IntKind.signed]
  simp only [Bool.true_and]
  split <;> omega

theorem ofInt_wrap64 (n : Int) : BitVec.ofInt 64 (wrap64 n) = BitVec.ofInt 64 n := by
  apply BitVec.eq_of_toNat_eq
  simp only [BitVec.toNat_ofInt]
  congr 1
  unfold wrap64
  omega

theorem wrap_nat64 (m : BitVec 64) : IntKind.u64.wrap (m.toNat : Int) = (m.toNat : Int) := by
  rw [wrap_toNat, ofInt_toNat]
theorem and_u64 (x y : Int) : bits .and .u64 x y = ((BitVec.ofInt 64 x &&& BitVec.ofInt 64 y).toNat : Int) := wrap_nat64 _
theorem or_u64 (x y : Int) : bits .or .u64 x y = ((BitVec.ofInt 64 x ||| BitVec.ofInt 64 y).toNat : Int) := wrap_nat64 _

theorem ofInt_two (a : Nat) : BitVec.ofInt 64 (2 ^ a) = BitVec.ofNat 64 (2 ^ a) := by
  rw [← BitVec.ofInt_natCast]
  congr 1

theorem beq_zero (m : BitVec 64) : ((m.toNat : Int) == 0) = (m == 0#64) := by
  rw [Bool.eq_iff_iff]
  simp only [beq_iff_eq]
  constructor
  · intro h; apply BitVec.eq_of_toNat_eq; simp; omega
  · rintro rfl; rfl

theorem validB_run (v : Int) : validB v = runB (BitVec.ofInt 64 v) := by
  unfold validB validQ runB
  rw [wrap_toNat v]
  generalize BitVec.ofInt 64 v = m
  simp only [and_u64, ofInt_wrap, BitVec.ofInt_add, BitVec.ofInt_neg, ofInt_toNat, beq_zero, bne]

theorem setI_toNat (x : BitVec 64) (i : Nat) (hi : i ≤ 63) : setI (x.toNat : Int) (i : Int) = ((setV x i).toNat : Int) := by
  unfold setI setV
  rw [or_u64, ofInt_toNat, ofInt_wrap, ofInt_two, show ((63 : Int) - (i : Int)).toNat = 63 - i by omega]

theorem maskI_toNat (d : Nat) : ∀ (i : Nat) (x : BitVec 64), i ≤ 63 → maskI d (i : Int) (x.toNat : Int) = ((maskV d i x).toNat : Int) := by
  induction d with
  | zero => intro i x hi; exact setI_toNat x i hi
  | succ d ih =>
    intro i x hi
    simp only [maskI, maskV]
    rw [setI_toNat x i hi, show ((i : Int) + 1) % 64 = (((i + 1) % 64 : Nat) : Int) by omega]
    exact ih _ _ (by omega)

/-- the finite law, by the kernel: 64 times 64 cases -/
theorem wraps : ∀ f : Fin 64, ∀ l : Fin 64, l.val + 1 < f.val →
    runB (maskV (64 + l.val - f.val) f.val 0#64) = false ∧ runB (~~~(maskV (64 + l.val - f.val) f.val 0#64)) = true := by
  decide +kernel

/-- the mask that the statement makes, as the walk spells it -/
theorem wraps_of (f l : Int) (h1 : 0 ≤ f) (h2 : f ≤ 63) (h3 : 0 ≤ l) (h4 : l ≤ 63) (h5 : l + 1 < f) :
    validB (wrap64 (maskOf f l)) = false ∧ validB (bits BinOp.xor IntKind.i64 (-1) (wrap64 (maskOf f l))) = true := by
  have hm : maskOf f l = ((maskV (64 + l.toNat - f.toNat) f.toNat 0#64).toNat : Int) := by
    unfold maskOf
    have := maskI_toNat (64 + l.toNat - f.toNat) f.toNat 0#64 (by omega)
    rw [← this, show ((l - f) % 64).toNat = 64 + l.toNat - f.toNat by omega, show ((f.toNat : Nat) : Int) = f by omega]
    rfl
  have hn := wraps ⟨f.toNat, by omega⟩ ⟨l.toNat, by omega⟩ (by simp only; omega)
  have hx : ∀ x : Int, BitVec.ofInt 64 (bits BinOp.xor IntKind.i64 (-1) x) = ~~~BitVec.ofInt 64 x := by
    intro x
    show BitVec.ofInt 64 (IntKind.i64.wrap ((BitVec.ofInt 64 (-1) ^^^ BitVec.ofInt 64 x).toNat : Int)) = _
    rw [ofInt_wrapS, ofInt_toNat]
    have h1 : BitVec.ofInt 64 (-1) = BitVec.allOnes 64 := by decide
    rw [h1, BitVec.allOnes_xor]
  rw [validB_run, validB_run, hx, ofInt_wrap64, hm, ofInt_toNat]
  exact hn
end Go.Proofs.YtlafajpbgiohaacDoor
