/-
  FnValue IS PROVED, the full statement: for every front, list, tail, scale, entry and place the call returns true and each argument reads as it did: where the pieces are right for the scale and there is one at the place, the reader of debug/gosym (pcvalue) finds its value by the table that begins behind front, for a function that begins at entry (below 2^62).
  CONDITIONS: none of this session's. The frame is the shell that the kit writes for a law over slices of bytes and integers, turned by hand to a slice of structs.
-/
import Derived.Test.YtlafajpbgiohaadRows
import Derived.Test.YtlafajpbgiohaadLaw
import Derived.WalkKit
import Derived.ProofKit
import Derived.OpenShut
import Derived.ChangeOld
import Derived.Below
import Derived.Deep.Slices
import Derived.Deep.Fields
import Derived.ChangeSame
namespace Go.Proofs.Ytlafajpbgiohaad.fnValue
open Go.ChangeShapes Go.WideShapes Go.ChangeAt Go.RowKit Go.Deep
set_option linter.unusedVariables false

theorem own : ownKnob Try.prog.godebug = none := by kernel_rfl
theorem laidOut : laidOutB Try.prog = true := by kernel_rfl
theorem cells33 : Try.prog.cellsOf 33 = 2 := by kernel_rfl

theorem add_plain (b off k : Nat) : (⟨b, off, none⟩ : Addr).add k = ⟨b, off + k, none⟩ := by unfold Addr.add; split <;> simp_all

/-- a list out of what is known of each place -/
theorem list_of {P : Nat → Piece → Prop} : ∀ n, (∀ i, i < n → ∃ p, P i p) → ∃ ps : List Piece, ps.length = n ∧ ∀ i p, ps[i]? = some p → P i p := by
  intro n
  induction n with
  | zero => intro _; exact ⟨[], rfl, fun i p h => by simp at h⟩
  | succ n ih =>
    intro h
    obtain ⟨ps, hl, hp⟩ := ih fun i hi => h i (by omega)
    obtain ⟨p, hn⟩ := h n (by omega)
    refine ⟨ps ++ [p], by simp [hl], fun i q hq => ?_⟩
    by_cases hi : i < n
    · rw [List.getElem?_append_left (by omega)] at hq
      exact hp i q hq
    · have hlt := (List.getElem?_eq_some_iff.1 hq).1
      simp only [List.length_append, List.length_singleton] at hlt
      obtain rfl : i = n := by omega
      rw [List.getElem?_append_right (by omega), hl, Nat.sub_self] at hq
      simp at hq
      subst hq
      exact hn

/-- what came in as bytes -/
def IsBytes (w : World) (A : Option Addr) (n c : Nat) : Prop := ∃ fs : List Nat, fs.length = n ∧ Came w w.heap.size A c fs ∧ ∀ b ∈ fs, b < 256
theorem bytes_of {w : World} {a : Addr} {len : Nat} (c : Nat) {zs : List Int} (hl : len ≤ zs.length) (hcell : ∀ i, i < zs.length → w.cell? (a.add i) = some (.int .u8 (zs.getD i 0))) (hwf : ∀ n ∈ zs, (Lit.int .u8 n).wf = true) : IsBytes w (some a) len c := by
  have hb : ∀ z ∈ zs, 0 ≤ z ∧ z ≤ 255 := fun z hz => bounds_u8 (hwf z hz)
  refine ⟨(zs.take len).map Int.toNat, by simp; omega, .inr ⟨a, rfl, fun hn => ?_, fun j b hj => ?_⟩, ?_⟩
  · simp only [List.length_map, List.length_take] at hn
    have := World.block_lt_of_cell? w _ (hcell 0 (by omega))
    rwa [add_same_block] at this
  · simp only [List.getElem?_map, Option.map_eq_some_iff] at hj
    obtain ⟨z, hz1, rfl⟩ := hj
    have hlt := (List.getElem?_eq_some_iff.1 hz1).1
    simp only [List.length_take] at hlt
    rw [List.getElem?_take_of_lt (by omega)] at hz1
    rw [hcell j (by omega), List.getD_eq_getElem?_getD, hz1]
    have := hb z (List.mem_of_getElem? hz1)
    simp only [Option.getD_some, Option.some.injEq, Value.int.injEq, true_and]
    omega
  · intro b hbm
    simp only [List.mem_map] at hbm
    obtain ⟨z, hz1, rfl⟩ := hbm
    have := hb z (List.mem_of_mem_take hz1)
    omega
/-- what came in as pieces -/
def IsPieces (w : World) (A : Option Addr) (n : Nat) : Prop := ∃ ps : List Piece, ps.length = n ∧ PReads w w.heap.size A ps
theorem pieces_of {H : Type} {enc : TypeId × Value → H} {w : World} {base : Nat} {spare : Nat → Bool} {held : Bool} {fuel : Nat} {A : Option Addr} {len cap : Nat} {x : DataW H × List MemPlace}
    (h : DataW.trod enc Try.prog w base spare held fuel 23 [.slice A len cap] = some x) : IsPieces w A len := by
  rcases open_slice Try.underlying23 h with ⟨hcs, _⟩ | ⟨a, l, c, m, n, D, Pl, hcs, _, hl, hm, hmm, _, hi⟩
  · simp at hcs
    obtain ⟨rfl, rfl, rfl⟩ := hcs
    exact ⟨[], rfl, fun hp => absurd hp (by simp)⟩
  · simp at hcs
    obtain ⟨rfl, rfl, rfl⟩ := hcs
    have hlm : len ≤ m := by rw [hmm]; split <;> omega
    have each : ∀ i, i < len → ∃ p : Piece, w.cell? (a.add (i * 2)) = some (.int .i32 p.1) ∧ w.cell? ((a.add (i * 2)).add 1) = some (.int .u32 (p.2 : Int)) ∧ -2147483648 ≤ p.1 ∧ p.1 ≤ 2147483647 ∧ p.2 < 4294967296 := by
      intro i hil
      obtain ⟨cs', hc, ht⟩ := hi i (by omega)
      rw [cells33] at hc
      obtain ⟨_, hcl, hat⟩ := World.cells?_some hc
      match cs', hcl with
      | [u0, u1], _ =>
        obtain ⟨y0, y1, m', _, _, h0, h1⟩ := trod_struct2 Try.underlying33 ht
        have h0' : DataW.trod enc Try.prog w base spare held m' 21 [u0] = some y0 := h0
        have h1' : DataW.trod enc Try.prog w base spare held m' 24 [u1] = some y1 := h1
        obtain ⟨z0, e0, _, w0⟩ := DataW.trod_int Try.underlying21 h0'
        obtain ⟨z1, e1, _, w1⟩ := DataW.trod_int Try.underlying24 h1'
        have b0 := bounds_i32 w0
        have b1 := bounds_u32 w1
        injection e0 with e0 _
        injection e1 with e1 _
        subst e0
        subst e1
        have c0 := hat 0 (by omega)
        have c1 := hat 1 (by omega)
        have ha : (a.add (i * 2)).add 0 = a.add (i * 2) := by simp [Addr.add]
        rw [ha] at c0
        refine ⟨(z0, z1.toNat), c0, ?_, b0.1, b0.2, by simp only; omega⟩
        rw [show ((z1.toNat : Nat) : Int) = z1 by omega]
        exact c1
    obtain ⟨ps, hpl, hp⟩ := list_of len each
    refine ⟨ps, hpl, fun hpos => ?_⟩
    obtain ⟨p0, hp0⟩ : ∃ p, ps[0]? = some p := ⟨ps[0], List.getElem?_eq_getElem hpos⟩
    obtain ⟨d0, _⟩ := hp 0 p0 hp0
    rw [Nat.zero_mul] at d0
    have hspot := World.cell?_spot d0
    have hblk := World.block_lt_of_cell? w _ d0
    rw [add_same_block] at hblk
    obtain ⟨b, off, spot⟩ := a
    have hs : spot = none := by simpa [Addr.add] using hspot
    subst hs
    refine ⟨b, off, rfl, hblk, fun j p hj => ?_⟩
    obtain ⟨d1, d2, d3⟩ := hp j p hj
    rw [add_plain] at d1 d2
    rw [add_plain] at d2
    exact ⟨d1, d2, d3⟩

theorem walk (A0 A1 A2 : Option Addr) (n0 n1 n2 c0 c1 c2 : Nat) (a3 a4 a5 : Int) (w : World) (h0 : IsBytes w A0 n0 c0) (h1 : IsPieces w A1 n1) (h2 : IsBytes w A2 n2 c2) (w3 : (Lit.int .u32 a3).wf = true) (w4 : (Lit.int .u64 a4).wf = true) (w5 : (Lit.int .u64 a5).wf = true) :
    Calls Try.prog 3 #[.slice A0 n0 c0, .slice A1 n1 c1, .slice A2 n2 c2, .int .u32 a3, .int .u64 a4, .int .u64 a5] w fun e w' => e = .returned (.bool true) ∧ Below w.heap.size w w' := by
  by_cases hn : (n0 : Int) ≤ 2147483647 ∧ (n1 : Int) ≤ 2147483647 ∧ (n2 : Int) ≤ 2147483647
  · obtain ⟨fs, rfl, hf, hf8⟩ := h0
    obtain ⟨ps, rfl, hp⟩ := h1
    obtain ⟨ts, rfl, ht, ht8⟩ := h2
    have b3 := bounds_u32 w3
    have b4 := bounds_u64 w4
    have b5 := bounds_u64 w5
    exact inside3 w A0 A1 A2 c0 c1 c2 fs ts ps a3 a4 a5 ⟨hf, ht, hp, hf8, ht8⟩ hn.1 hn.2.1 hn.2.2 b3.1 (by omega) b4.1 (by omega) b5.1 (by omega)
  · exact outside3 w A0 A1 A2 c0 c1 c2 n0 n1 n2 a3 a4 a5 hn

/-! ### THE ROW's STEP -/
theorem open_bytes {H : Type} {enc : TypeId × Value → H} {W : World} {base : Nat} {spare : Nat → Bool} {held : Bool} {A : Option Addr} {len cap : Nat} {d : DataW H} {p : List MemPlace} (h : DataW.Trod enc Try.prog W base spare held 22 (.slice A len cap) d p) : IsBytes W A len cap := by
  obtain ⟨fuel, hf⟩ := h
  rcases open_ints Try.underlying22 Try.underlying5 (by kernel_rfl) hf with ⟨hcs, _⟩ | ⟨x, l, c, zs, hcs, _, hl, hm, hz, _, hcell, hwz⟩
  · simp [Value.cells] at hcs
    obtain ⟨rfl, rfl, rfl⟩ := hcs
    exact ⟨[], rfl, .inl ⟨rfl, rfl, rfl⟩, fun b hb => by simp at hb⟩
  · simp [Value.cells] at hcs
    obtain ⟨rfl, rfl, rfl⟩ := hcs
    exact bytes_of _ (by rw [hz]; split <;> omega) hcell hwz

set_option maxRecDepth 100000 in
theorem lifted (os : Os) (started : os.Started) (H : Type) (enc : TypeId × Value → H) :
    ReturnsInHanded {} Try.checked os 3 .any (Rows.fnValueSpec.pre6 enc Try.prog Try.f3 Rows.fnValueRow.domain false) (Rows.fnValueSpec.post enc Try.prog Try.f3 false true false false) := by
  refine returnsInHanded_of_change (C := Try.checked) own started (by kernel_rfl) Try.func3
    (ChangeSpec.witness6 (enc := enc) (C := Try.checked) false ⟨#[], #[.slice none 0 0, .slice none 0 0, .slice none 0 0, .int .u32 0, .int .u64 0, .int .u64 0], []⟩ 8 (by kernel_rfl) (by kernel_rfl) (by kernel_rfl) (by kernel_rfl)) ?_
  intro W base args ds gs before hval0 hW hcnd _
  have hval : ∀ (j : Nat) t v, Try.f3.params[j]? = some t → args[j]? = some v → Value.okWide Try.prog W .any base t v := hval0
  have hW' := hW
  obtain ⟨p, q, hA0, hV, rfl, hfz, hnd⟩ := hW
  have hA : DataW.TrodAll enc Try.prog W 0 (fun _ => true) true Try.f3.params.toList args.toList ds p := hA0
  rw [Try.params3] at hA hval
  obtain ⟨v0, vs0, d0, ds0, p0, q0, hargs, rfl, rfl, h0, r0⟩ := trodAll_cons hA
  obtain ⟨v1, vs1, d1, ds1, p1, q1, rfl, rfl, rfl, h1, r1⟩ := trodAll_cons r0
  obtain ⟨v2, vs2, d2, ds2, p2, q2, rfl, rfl, rfl, h2, r2⟩ := trodAll_cons r1
  obtain ⟨v3, vs3, d3, ds3, p3, q3, rfl, rfl, rfl, h3, r3⟩ := trodAll_cons r2
  obtain ⟨v4, vs4, d4, ds4, p4, q4, rfl, rfl, rfl, h4, r4⟩ := trodAll_cons r3
  obtain ⟨v5, vs5, d5, ds5, p5, q5, rfl, rfl, rfl, h5, r5⟩ := trodAll_cons r4
  obtain ⟨rfl, rfl, rfl⟩ := trodAll_nil r5
  obtain rfl : args = #[v0, v1, v2, v3, v4, v5] := by cases args; simp_all
  obtain ⟨rfl, rfl⟩ := trodVars_none hV
  obtain ⟨a0, len0, cap0, rfl⟩ := okWide_slice Try.underlying22 (hval 0 22 v0 rfl rfl)
  obtain ⟨a1, len1, cap1, rfl⟩ := okWide_slice Try.underlying23 (hval 1 23 v1 rfl rfl)
  obtain ⟨a2, len2, cap2, rfl⟩ := okWide_slice Try.underlying22 (hval 2 22 v2 rfl rfl)
  have lt0 : ∀ x ∈ p0, x.block < W.heap.size := by obtain ⟨m, hm⟩ := h0; exact DataW.trod_lt m _ _ _ hm
  have lt1 : ∀ x ∈ p1, x.block < W.heap.size := by obtain ⟨m, hm⟩ := h1; exact DataW.trod_lt m _ _ _ hm
  have lt2 : ∀ x ∈ p2, x.block < W.heap.size := by obtain ⟨m, hm⟩ := h2; exact DataW.trod_lt m _ _ _ hm
  have b0 := open_bytes h0
  have b2 := open_bytes h2
  have b1 : IsPieces W a1 len1 := by obtain ⟨m, hm⟩ := h1; exact pieces_of hm
  obtain ⟨a3, rfl, rfl, rfl, w3⟩ := open_int Try.underlying24 (hval 3 24 v3 rfl rfl) h3
  obtain ⟨a4, rfl, rfl, rfl, w4⟩ := open_int Try.underlying25 (hval 4 25 v4 rfl rfl) h4
  obtain ⟨a5, rfl, rfl, rfl, w5⟩ := open_int Try.underlying25 (hval 5 25 v5 rfl rfl) h5
  clear hA0 hval0
  refine (walk a0 a1 a2 len0 len1 len2 cap0 cap1 cap2 a3 a4 a5 W b0 b1 b2 w3 w4 w5).mono fun e W' ⟨he, bel⟩ => ?_
  subst he
  exact ⟨_, rfl, _, _, _, [], _, [], hW', trodAll_mk1 (shut_bool Try.underlying4 _),
    (trodAll_cons_mk (Below.trod laidOut (by kernel_rfl) (of_decide_eq_true (by kernel_rfl)) h0 bel lt0) (trodAll_cons_mk (Below.trod laidOut (by kernel_rfl) (of_decide_eq_true (by kernel_rfl)) h1 bel lt1) (trodAll_cons_mk (Below.trod laidOut (by kernel_rfl) (of_decide_eq_true (by kernel_rfl)) h2 bel lt2)
      (trodAll_cons_mk (shut_int Try.underlying24 w3) (trodAll_cons_mk (shut_int Try.underlying25 w4) (trodAll_cons_mk (shut_int Try.underlying25 w5) trodAll_mk0)))))), rfl, bel.frame _, fun h => by cases h⟩

theorem over : Rows.fnValueRow.holds Try.pinned (OpenSpec.ofChange Rows.fnValueSpec) :=
  OpenClaim.holds_of_wide 3 Try.f3 rfl rfl rfl rfl rfl rfl rfl ⟨rfl, rfl, rfl, rfl, rfl⟩ rfl rfl rfl rfl rfl (by kernel_rfl) Try.func3 (by kernel_rfl)
    (of_decide_eq_true (by kernel_rfl)) (by unfold Func.isWrapper; first | (rw [if_pos (by decide +kernel)]; kernel_rfl) | (rw [if_neg (by decide +kernel)]; exact ⟨rfl, rfl⟩))
    (fun os started H enc _ => lifted os started H enc)

/-- ████ THE STATEMENT ████ -/
theorem proved : Rows.FnValueSaid := over
#print axioms proved
end Go.Proofs.Ytlafajpbgiohaad.fnValue
