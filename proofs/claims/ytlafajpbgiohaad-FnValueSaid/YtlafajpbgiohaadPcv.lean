/-
  THE WALKS of the reader of debug/gosym, for FnValue: readvarint (function 14), step (13), pcvalue (12).
-/
import Derived.Test.YtlafajpbgiohaadSpec
import Derived.Test.YtlafajpbgiohaadBits
import Derived.Test.YtlafajpbgiohaadStep
import Derived.Deep.RegionWith
import Derived.Deep.RegionHeld3
namespace Go.Proofs.Ytlafajpbgiohaad
open Go.RowKit
/-- the loop of pcvalue at its head: Sq quanta are behind, the pieces r are to come -/
def PvRest (T rest : List Nat) (g N C bp bv bc q entry Q : Nat) (x : Int) (r : List Piece) (w wr : World) : Prop :=
  ∃ (Sq o : Nat) (v : Int) (prev : Option Int), T.drop o = tab v r ++ rest ∧ Hid (Whole wr bp 22 #[.slice (some ⟨g, o, none⟩) (N - o) (C - o)]) ∧ Hid (Whole wr bv 21 #[.int .i32 v]) ∧ Hid (Whole wr bc 25 #[.int .u64 ((entry + Sq * q : Nat) : Int)]) ∧
    right q prev (Sq * q) r = true ∧ ((prev = none ∧ Sq = 0) ∨ prev = some v) ∧ Sq ≤ Q ∧ atF r (Q - Sq) = (x, true) ∧ -2147483648 ≤ v ∧ v ≤ 2147483647 ∧ Below w.heap.size w wr
def PvPost (x : Int) (w : World) (e : Ending) (w' : World) : Prop := e = .returned (.int .i32 x) ∧ Below w.heap.size w w'

theorem blk_three (w : World) (a b c : Value) : Whole (((w.alloc (.cells #[a] 22)).alloc (.cells #[b] 21)).alloc (.cells #[c] 25)) w.heap.size 22 #[a] ∧ Whole (((w.alloc (.cells #[a] 22)).alloc (.cells #[b] 21)).alloc (.cells #[c] 25)) (w.heap.size + 1) 21 #[b] ∧ Whole (((w.alloc (.cells #[a] 22)).alloc (.cells #[b] 21)).alloc (.cells #[c] 25)) (w.heap.size + 1 + 1) 25 #[c] := by
  have h1 := Whole.fresh w 22 #[a]
  have h2 := Whole.fresh (w.alloc (.cells #[a] 22)) 21 #[b]
  have h3 := Whole.fresh ((w.alloc (.cells #[a] 22)).alloc (.cells #[b] 21)) 25 #[c]
  have e1 : (w.alloc (.cells #[a] 22)).heap.size = w.heap.size + 1 := by simp
  have e2 : ((w.alloc (.cells #[a] 22)).alloc (.cells #[b] 21)).heap.size = w.heap.size + 1 + 1 := by simp
  rw [e1] at h2
  rw [e2] at h3
  exact ⟨(h1.alloc _).alloc _, h2.alloc _, h3⟩
theorem below_three (w : World) (a b c : Value) : Below w.heap.size w (((w.alloc (.cells #[a] 22)).alloc (.cells #[b] 21)).alloc (.cells #[c] 25)) :=
  (((Below.refl _ _).alloc (Nat.le_refl _) _).alloc (by simp) _).alloc (by simp; omega) _

set_option maxHeartbeats 1600000 in
theorem pcvalue12 (T rest : List Nat) (ps : List Piece) (g C bt q o entry place : Nat) (x : Int) (w : World) (hT : TReads w g T) (hd : T.drop o = tab (-1) ps ++ rest) (hc : T.length ≤ C) (hcm : C ≤ 9223372036854775807)
    (hps : ∀ p ∈ ps, -2147483648 ≤ p.1 ∧ p.1 ≤ 2147483647 ∧ p.2 < 4294967296) (hrt : right q none 0 ps = true) (hat : atF ps (place / q) = (x, true)) (hq0 : 0 < q) (hq1 : q < 4294967296) (hen : entry < 4611686018427387904) (hpl : place < 4294967296)
    (ht0 : w.cell? ⟨bt, 0, none⟩ = some (.int .u32 (q : Int))) (ht1 : w.cell? ⟨bt, 1, none⟩ = some (.slice (some ⟨g, 0, none⟩) T.length C)) (hg : g < w.heap.size) :
    Calls Try.prog 12 #[.pointer (some ⟨bt, 0, none⟩), .int .u32 (o : Int), .int .u64 (entry : Int), .int .u64 ((entry + place : Nat) : Int)] w (PvPost x w) := by
  have hol : o < T.length := by
    have := congrArg List.length hd
    have h1 := tab_pos (-1) ps
    simp only [List.length_drop, List.length_append] at this
    omega
  have hbt : bt < w.heap.size := World.block_lt_of_cell? w _ ht0
  obtain ⟨O, hO⟩ : ∃ O : Int, (o : Int) = O := ⟨_, rfl⟩
  obtain ⟨E, hE⟩ : ∃ E : Int, (entry : Int) = E := ⟨_, rfl⟩
  obtain ⟨Tg, hTg⟩ : ∃ Tg : Int, ((entry + place : Nat) : Int) = Tg := ⟨_, rfl⟩
  rw [hO, hE, hTg]
  have hO0 : 0 ≤ O := by omega
  have hO1 : O < (T.length : Int) := by omega
  have hO2 : O.toNat = o := by omega
  have hCo : ¬ C = o := by omega
  have HT := Lib.hid hT
  have HD := Lib.hid hd
  have HPS := Lib.hid hps
  have HRT := Lib.hid hrt
  have HAT := Lib.hid hat
  have HEN := Lib.hid hen
  have HPL := Lib.hid hpl
  have HE := Lib.hid hE
  have HO := Lib.hid hO
  have HTG := Lib.hid hTg
  clear hT hd hps hrt hat hen hpl hE hTg hO
  go_enter Try.func12, Try.ntmps12
  go_wp2_with fail
  go_loopg [] ps.length (fun gk wr => ∃ r : List Piece, r.length = gk ∧ (∀ p ∈ r, -2147483648 ≤ p.1 ∧ p.1 ≤ 2147483647 ∧ p.2 < 4294967296) ∧ PvRest T rest g T.length C w.heap.size (w.heap.size + 1) (w.heap.size + 1 + 1) q entry (place / q) x r w wr)
  case atStart =>
    obtain ⟨b1, b2, b3⟩ := blk_three w (.slice (some ⟨g, o, none⟩) (T.length - o) (C - o)) (.int .i32 (-1)) (.int .u64 E)
    have e0 : ((entry + 0 * q : Nat) : Int) = E := by rw [Nat.zero_mul]; exact HE.out
    exact ⟨ps, rfl, HPS.out, 0, o, -1, none, HD.out, b1, b2, (by rw [e0]; exact b3), (by rw [Nat.zero_mul]; exact HRT.out), .inl ⟨rfl, rfl⟩, Nat.zero_le _, HAT.out, by omega, by omega, below_three _ _ _ _⟩
  case round =>
    obtain ⟨r, hgk, hr, Sq, o', v, prev, hd, HP, HV, HC, hrt, hprev, hSq, hat, hv0, hv1, hb⟩ := hrel
    cases r with
    | nil => simp [atF] at hat
    | cons p r =>
      obtain ⟨hp0, hp1, hp2⟩ := hr p (by simp)
      have hr' : ∀ p ∈ r, -2147483648 ≤ p.1 ∧ p.1 ≤ 2147483647 ∧ p.2 < 4294967296 := fun p hp => hr p (by simp [hp])
      rw [right] at hrt
      have h1 : ¬ (p.2 = 0 ∨ prev = some p.1) := fun h => by rw [if_pos h] at hrt; cases hrt
      rw [if_neg h1] at hrt
      have h2 : ¬ (Sq * q + p.2 * q ≥ 4294967296) := fun h => by rw [if_pos h] at hrt; cases hrt
      rw [if_neg h2] at hrt
      have hpos : 0 < p.2 := by omega
      have hprv : prev ≠ some p.1 := fun h => h1 (.inr h)
      rw [tab, List.append_assoc, List.append_assoc] at hd
      have hSm : (Sq + p.2) * q = Sq * q + p.2 * q := Nat.add_mul _ _ _
      -- whether this is the first step
      obtain ⟨F, hF⟩ : ∃ F : Bool, (((entry + Sq * q : Nat) : Int) == E) = F := ⟨_, rfl⟩
      have hz : zz (wrap32 (p.1 - v)) = 0 → F = true := fun hz => by
        have := wrap32_zero (zz_zero hz) hp0 hp1 hv0 hv1
        rcases hprev with ⟨_, hs⟩ | hs
        · rw [← hF, hs, Nat.zero_mul, Nat.add_zero, HE.out]; simp
        · exact absurd (by rw [hs, this]) hprv
      obtain ⟨PC, hPC⟩ : ∃ PC : Int, ((entry + Sq * q : Nat) : Int) = PC := ⟨_, rfl⟩
      rw [hPC] at HC hF
      have hPC0 : 0 ≤ PC := by omega
      have hPC1 : PC < 9223372036854775808 := by have := HEN.out; omega
      have hback := wrap32_back p.1 v hp0 hp1
      have ht0' := (hb.cell (p := ⟨bt, 0, none⟩) hbt).trans ht0
      have cpc := HC.out.cell 0
      have cfz := HC.out.frozen 0
      have HT' : Hid (TReads wr g T) := fun j b hj => ⟨(hb.cell (p := ⟨g, j, none⟩) hg).trans (HT.out j b hj).1, (HT.out j b hj).2⟩
      have hol2 : o' < T.length := by
        have := congrArg List.length hd
        have h3 := uv_pos p.2
        simp only [List.length_drop, List.length_append] at this
        omega
      have hmq : ((p.2 : Nat) : Int) * (q : Int) = ((p.2 * q : Nat) : Int) := by rw [Int.natCast_mul]
      have hstep := step13 T (tab p.1 r ++ rest) g o' (T.length - o') (C - o') w.heap.size (w.heap.size + 1 + 1) (w.heap.size + 1) bt p.2 (wrap32 (p.1 - v)) q PC v F wr w.heap.size hp2 (wrap32_range _).1 (wrap32_range _).2 HT'.out hd
        (by have := tab_pos p.1 r; simp only [List.length_append]; omega) (by omega) (by omega) (by omega) hz HP.out HC.out HV.out ht0' hbt hg (Nat.le_refl _) (by omega) (by omega) hb.size (by omega) (by rw [hmq]; omega) hPC0 hPC1
      rw [hback] at hstep
      have HST := Lib.hid hstep
      obtain ⟨P2, hP2⟩ : ∃ P2 : Int, PC + ((p.2 : Nat) : Int) * (q : Int) = P2 := ⟨_, rfl⟩
      rw [hP2] at HST
      have hP3 : P2 = ((entry + (Sq + p.2) * q : Nat) : Int) := by rw [hSm]; omega
      have hdlt : place / q < Sq + p.2 ↔ place < (Sq + p.2) * q := Nat.div_lt_iff_lt_mul hq0
      rw [atF] at hat
      by_cases hlt : place / q - Sq < p.2
      · rw [if_pos hlt] at hat
        obtain rfl : p.1 = x := by injection hat
        have hTP : Tg < P2 := by have := HTG.out; have := hdlt.1 (by omega); omega
        have HBB := Lib.hid hb
        clear hstep hP2 hP3 hdlt hat hlt hd hrt hprev hz h1 h2 hprv hSm hmq hPC hr hr' HP HC HV hback hp2 hpos hSq hol2 hb
        go_wp2_with fail
        refine HST.out.mono ?_
        rintro e w2 ⟨rfl, HP2, HC2, HV2, HB2⟩
        have c1 := HC2.out.cell 0
        have c2 := HV2.out.cell 0
        go_wp2_with fail
        go_ret
        exact ⟨rfl, HBB.out.trans HB2⟩
      · rw [if_neg hlt] at hat
        have hTP : ¬ Tg < P2 := by have := HTG.out; have := mt hdlt.2 (by omega); omega
        have HBB := Lib.hid hb
        have HR := Lib.hid hr'
        have HAT2 : Hid (atF r (place / q - (Sq + p.2)) = (x, true)) := by rw [Nat.sub_sub] at hat; exact hat
        have HRT2 : Hid (right q (some p.1) ((Sq + p.2) * q) r = true) := by rw [hSm]; exact hrt
        have HSQ : Hid (Sq + p.2 ≤ place / q) := by show Sq + p.2 ≤ place / q; omega
        have HD2 : Hid (T.drop (o' + (uv (zz (wrap32 (p.1 - v)))).length + (uv p.2).length) = tab p.1 r ++ rest) := by
          show T.drop _ = _
          rw [Nat.add_assoc, ← List.drop_drop, hd, ← List.append_assoc, ← List.length_append, List.drop_left]
        have HP3 := Lib.hid hP3
        have hgk2 : r.length < gk := by rw [← hgk]; simp
        have HGK := Lib.hid hgk2
        clear hstep hP2 hP3 hdlt hat hlt hd hrt hprev hz h1 h2 hprv hSm hmq hPC hr hr' HP HC HV hback hp2 hpos hSq hol2 hb hgk2 hgk
        go_wp2_with fail
        refine HST.out.mono ?_
        rintro e w2 ⟨rfl, HP2, HC2, HV2, HB2⟩
        have c1 := HC2.out.cell 0
        have c2 := HV2.out.cell 0
        go_wp2_with fail
        go_roundg r.length
        case measure => exact HGK.out
        case rel => exact ⟨r, rfl, HR.out, Sq + p.2, o' + (uv (zz (wrap32 (p.1 - v)))).length + (uv p.2).length, p.1, some p.1, HD2.out, by rw [← Nat.sub_sub, ← Nat.sub_sub, ← Nat.sub_sub, ← Nat.sub_sub]; exact HP2, HV2, by rw [← HP3.out]; exact HC2, HRT2.out, .inr rfl, HSQ.out, HAT2.out, hp0, hp1, HBB.out.trans HB2⟩
end Go.Proofs.Ytlafajpbgiohaad
