/-
  THE PLAIN PART OF FnValue: a table of pieces as a list of bytes ('tab'), what a place has ('atF'), whether pieces are right ('right'), and the arithmetic by which the reader of debug/gosym takes a number and a step. No program in sight.
-/
import Derived.WalkKit
namespace Go.Proofs.Ytlafajpbgiohaad
open Go Go.RowKit

/-- a number in groups of 7 bits -/
def uv (n : Nat) : List Nat := if n < 128 then [n] else (n % 128 + 128) :: uv (n / 128)
  termination_by n
  decreasing_by omega

theorem uv_small {n : Nat} (h : n < 128) : uv n = [n] := by rw [uv, if_pos h]
theorem uv_large {n : Nat} (h : ¬ n < 128) : uv n = (n % 128 + 128) :: uv (n / 128) := by rw [uv, if_neg h]

/-- a difference with its sign in the lowest bit -/
def zz (d : Int) : Nat := if d < 0 then (-(d + 1)).toNat * 2 + 1 else d.toNat * 2
theorem zz_lt {d : Int} (h0 : -2147483648 ≤ d) (h1 : d ≤ 2147483647) : zz d < 4294967296 := by
  unfold zz; split <;> omega
theorem zz_zero {d : Int} (h : zz d = 0) : d = 0 := by
  unfold zz at h; split at h <;> omega

/-- a piece: a value, and for how many quanta it stands -/
abbrev Piece := Int × Nat
/-- the table of pieces behind a value -/
def tab : Int → List Piece → List Nat
  | _, [] => [0]
  | v, p :: r => uv (zz (wrap32 (p.1 - v))) ++ (uv p.2 ++ tab p.1 r)
/-- the value of pieces at a place, and whether there is one -/
def atF : List Piece → Nat → Int × Bool
  | [], _ => (-1, false)
  | p :: r, q => if q < p.2 then (p.1, true) else atF r (q - p.2)
/-- whether pieces are right, behind a piece of value 'prev' and so many places -/
def right (sc : Nat) : Option Int → Nat → List Piece → Bool
  | _, _, [] => true
  | prev, s, p :: r => if p.2 = 0 ∨ prev = some p.1 then false else if s + p.2 * sc ≥ 4294967296 then false else right sc (some p.1) (s + p.2 * sc) r

theorem uv_length_le : ∀ (k n : Nat), n < 128 ^ (k + 1) → (uv n).length ≤ k + 1 := by
  intro k
  induction k with
  | zero => intro n h; rw [uv_small (by omega)]; simp
  | succ k ih =>
    intro n h
    by_cases hn : n < 128
    · rw [uv_small hn]; simp
    · rw [uv_large hn]
      have := ih (n / 128) (by rw [Nat.div_lt_iff_lt_mul (by omega)]; rw [Nat.pow_succ] at h; exact h)
      simp only [List.length_cons]
      omega
theorem uv_length {n : Nat} (h : n < 4294967296) : (uv n).length ≤ 5 := uv_length_le 4 n (by omega)
theorem uv_pos (n : Nat) : 0 < (uv n).length := by rw [uv]; split <;> simp
theorem uv_bytes (k : Nat) : ∀ n, n ≤ k → ∀ b ∈ uv n, b < 256 := by
  induction k with
  | zero => intro n h b hb; rw [uv_small (by omega)] at hb; simp at hb; omega
  | succ k ih =>
    intro n h b hb
    by_cases hn : n < 128
    · rw [uv_small hn] at hb; simp at hb; omega
    · rw [uv_large hn] at hb
      simp only [List.mem_cons] at hb
      rcases hb with rfl | hb
      · omega
      · exact ih (n / 128) (by omega) b hb

theorem wrap32_range (n : Int) : -2147483648 ≤ wrap32 n ∧ wrap32 n ≤ 2147483647 := by unfold wrap32; omega
theorem tab_length (v : Int) (ps : List Piece) (h : ∀ p ∈ ps, p.2 < 4294967296) : (tab v ps).length ≤ 10 * ps.length + 1 := by
  induction ps generalizing v with
  | nil => simp [tab]
  | cons p r ih =>
    have h1 := uv_length (zz_lt (wrap32_range (p.1 - v)).1 (wrap32_range (p.1 - v)).2)
    have h2 := uv_length (h p (by simp))
    have h3 := ih p.1 (fun q hq => h q (by simp [hq]))
    simp only [tab, List.length_append, List.length_cons]
    omega
theorem tab_pos (v : Int) (ps : List Piece) : 0 < (tab v ps).length := by
  cases ps with
  | nil => simp [tab]
  | cons p r => have := uv_pos (zz (wrap32 (p.1 - v))); simp only [tab, List.length_append]; omega

/-- a step back from a difference -/
theorem wrap32_back (x v : Int) (h0 : -2147483648 ≤ x) (h1 : x ≤ 2147483647) : wrap32 (v + wrap32 (x - v)) = x := by
  unfold wrap32; omega
theorem wrap32_zero {x v : Int} (h : wrap32 (x - v) = 0) (h0 : -2147483648 ≤ x) (h1 : x ≤ 2147483647) (h2 : -2147483648 ≤ v) (h3 : v ≤ 2147483647) : x = v := by
  unfold wrap32 at h; omega
end Go.Proofs.Ytlafajpbgiohaad
