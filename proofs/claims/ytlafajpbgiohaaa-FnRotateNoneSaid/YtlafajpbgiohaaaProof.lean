/-
  FnRotateNone IS PROVED: for every a and b, the call returns true: a mask with two single ones that are not beside each other, and this mask inverted, are no rotate masks, and 1 is one (where a or b lies outside 0..63, or they are too near, the statement asks nothing).
  CONDITIONS: none. The frame is the shell that proof-skeleton.mjs writes; the walks and the plain law (YtlafajpbgiohaaaPlain) are this session's.
-/
import Derived.Test.YtlafajpbgiohaaaRows
import Derived.Test.YtlafajpbgiohaaaPlain
import Derived.WalkKit
import Derived.WalkSpells
import Derived.WalkLawsBesides
import Derived.Deep.QuietTactic
import Derived.BigQuiet
import Derived.Lib.Hide
import Derived.ProofKit
import Derived.OpenShut
namespace Go.Proofs.Ytlafajpbgiohaaa.fnRotateNone
open Go.ChangeShapes Go.WideShapes Go.ChangeAt Go.RowKit
set_option linter.unusedVariables false      -- a walk need not use every 'w<i>' (that an integer argument fits its kind)

theorem own : ownKnob Try.prog.godebug = none := by kernel_rfl

/-! ### THE WALKS -/
theorem boolq {x y : Bool} (h : x = y) : Ending.returned (.bool x) = Ending.returned (.bool y) := by rw [h]
set_option maxHeartbeats 400000 in
/-- isPPC64DoublewordRotateMask computes 'rotB' -/
theorem rot6 (v : Int) (w : World) :
    Calls Try.prog 6 #[.int .i64 v] w fun e w' => e = .returned (.bool (rotB v)) ∧ w = w' := by
  go_enter Try.func6, Try.ntmps6
  go_wp2
  all_goals
    go_ret
    refine ⟨boolq ?_, rfl⟩
    simp_all [rotB, rotQ, rotP]
theorem rot5 (v : Int) (w : World) :
    Calls Try.prog 5 #[.int .i64 v] w fun e w' => e = .returned (.bool (rotB v)) ∧ w = w' := by
  go_enter Try.func5, Try.ntmps5
  go_wp2_with (go_at_call 6; refine (rot6 v _).mono ?_; rintro e w' ⟨rfl, rfl⟩)
  go_ret
  exact ⟨rfl, rfl⟩
theorem rot4 (v : Int) (w : World) :
    Calls Try.prog 4 #[.int .i64 v] w fun e w' => e = .returned (.bool (rotB v)) ∧ w = w' := by
  go_enter Try.func4, Try.ntmps4
  go_wp2_with (go_at_call 5; refine (rot5 v _).mono ?_; rintro e w' ⟨rfl, rfl⟩)
  go_ret
  exact ⟨rfl, rfl⟩
/- the law, inside its guard; the callee's answer is any function R (else the kernel unfolds it) -/
set_option maxHeartbeats 400000 in
theorem inside (R : Int → Bool) (hR : ∀ v w, Calls Try.prog 4 #[.int .i64 v] w fun e w' => e = .returned (.bool (R v)) ∧ w = w')
    (a b : Int) (w : World) (h1 : 0 ≤ a) (h2 : a ≤ 63) (h3 : 0 ≤ b) (h4 : b ≤ 63) (h5 : 2 ≤ b - a) (h6 : b - a ≤ 62)
    (f1 : R (wrap64 (bits BinOp.or IntKind.u64 (IntKind.u64.wrap (2 ^ a.toNat)) (IntKind.u64.wrap (2 ^ b.toNat)))) = false)
    (f2 : R (bits BinOp.xor IntKind.i64 (-1) (wrap64 (bits BinOp.or IntKind.u64 (IntKind.u64.wrap (2 ^ a.toNat)) (IntKind.u64.wrap (2 ^ b.toNat))))) = false)
    (f3 : R 1 = true) :
    Calls Try.prog 3 #[.int .i64 a, .int .i64 b] w fun e w' => e = .returned (.bool true) ∧ Grown w w' := by
  have H := Lib.hid hR
  clear hR
  have hs : IntKind.i64.signed = true := rfl
  go_enter Try.func3, Try.ntmps3
  go_wp2_with fail
  go_quiet (fail)
  generalize wrap64 (bits BinOp.or IntKind.u64 (IntKind.u64.wrap (2 ^ a.toNat)) (IntKind.u64.wrap (2 ^ b.toNat))) = x at *
  go_wp2_with (go_at_call 4; refine (H.out _ _).mono ?_; rintro e w' ⟨rfl, rfl⟩)
  go_ret
  exact ⟨rfl, show Grown w (w.drewN _) from Grown.refl w⟩
set_option maxHeartbeats 400000 in
theorem outside (a b : Int) (w : World) (h : ¬ (0 ≤ a ∧ a ≤ 63 ∧ 0 ≤ b ∧ b ≤ 63 ∧ 2 ≤ b - a ∧ b - a ≤ 62)) (w0 : (Lit.int .i64 a).wf = true) (w1 : (Lit.int .i64 b).wf = true) :
    Calls Try.prog 3 #[.int .i64 a, .int .i64 b] w fun e w' => e = .returned (.bool true) ∧ Grown w w' := by
  go_enter Try.func3, Try.ntmps3
  go_wp2_with fail
  all_goals
    go_ret
    exact ⟨rfl, Grown.refl _⟩
theorem walk (a0 : Int) (a1 : Int) (w0 : (Lit.int .i64 a0).wf = true) (w1 : (Lit.int .i64 a1).wf = true) (w : World) :
    Calls Try.prog 3 #[.int .i64 a0, .int .i64 a1] w fun e w' => e = .returned (.bool true) ∧ Grown w w' := by
  by_cases h : 0 ≤ a0 ∧ a0 ≤ 63 ∧ 0 ≤ a1 ∧ a1 ≤ 63 ∧ 2 ≤ a1 - a0 ∧ a1 - a0 ≤ 62
  · obtain ⟨h1, h2, h3, h4, h5, h6⟩ := h
    obtain ⟨f1, f2⟩ := none_of a0 a1 h1 h2 h3 h4 h5 h6
    exact inside rotB rot4 a0 a1 w h1 h2 h3 h4 h5 h6 f1 f2 one_is
  · exact outside a0 a1 w h w0 w1

/-! ### THE ROW's STEP: WRITTEN OUT: LEAVE IT -/
set_option maxRecDepth 100000 in
theorem lifted (os : Os) (started : os.Started) (H : Type) (enc : TypeId × Value → H) :
    ReturnsInHanded {} Try.checked os 3 .any (Rows.fnRotateNoneSpec.pre6 enc Try.prog Try.f3 Rows.fnRotateNoneRow.domain false) (Rows.fnRotateNoneSpec.post enc Try.prog Try.f3 false true false false) := by
  refine returnsInHanded_of_change (C := Try.checked) own started (by kernel_rfl) Try.func3
    (ChangeSpec.witness6 (enc := enc) (C := Try.checked) false ⟨#[], #[.int .i64 0, .int .i64 0], []⟩ 8 (by kernel_rfl) (by kernel_rfl) (by kernel_rfl) (by kernel_rfl)) ?_
  intro W base args ds gs before hval0 hW hcnd _
  have hval : ∀ (j : Nat) t v, Try.f3.params[j]? = some t → args[j]? = some v → Value.okWide Try.prog W .any base t v := hval0
  have hW' := hW
  obtain ⟨p, q, hA0, hV, rfl, hfz, hnd⟩ := hW
  have hA : DataW.TrodAll enc Try.prog W 0 (fun _ => true) true Try.f3.params.toList args.toList ds p := hA0
  rw [Try.params3] at hA hval
  obtain ⟨v0, vs0, d0, ds0, p0, q0, hargs, rfl, rfl, h0, r0⟩ := trodAll_cons hA
  obtain ⟨v1, vs1, d1, ds1, p1, q1, rfl, rfl, rfl, h1, r1⟩ := trodAll_cons r0
  obtain ⟨rfl, rfl, rfl⟩ := trodAll_nil r1
  obtain rfl : args = #[v0, v1] := by cases args; simp_all
  obtain ⟨rfl, rfl⟩ := trodVars_none hV
  obtain ⟨a0, rfl, rfl, rfl, w0⟩ := open_int Try.underlying3 (hval 0 3 v0 rfl rfl) h0
  obtain ⟨a1, rfl, rfl, rfl, w1⟩ := open_int Try.underlying3 (hval 1 3 v1 rfl rfl) h1
  clear hA0 hval0
  simp only [List.append_nil] at hW'
  refine (walk a0 a1 w0 w1 W).mono fun e W' ⟨he, hg⟩ => ?_
  subst he
  exact ⟨_, rfl, post_of_same (pa := []) (pv := []) hW' (fun _ _ _ => (trodAll_cons_mk (shut_bool Try.underlying4 _) trodAll_mk0)) (fun sp _ => (trodAll_cons_mk (shut_int Try.underlying3 w0) (trodAll_cons_mk (shut_int Try.underlying3 w1) trodAll_mk0))) (fun _ _ => rfl) rfl
    (hg.frame _) hg.2.1 (ok_one (by kernel_rfl) rfl (okWide_bool_mk Try.underlying4 _))⟩

theorem over : Rows.fnRotateNoneRow.holds Try.pinned (OpenSpec.ofChange Rows.fnRotateNoneSpec) :=
  OpenClaim.holds_of_wide 3 Try.f3 rfl rfl rfl rfl rfl rfl rfl ⟨rfl, rfl, rfl, rfl, rfl⟩ rfl rfl rfl rfl rfl (by kernel_rfl) Try.func3 (by kernel_rfl)
    (of_decide_eq_true (by kernel_rfl)) (by unfold Func.isWrapper; first | (rw [if_pos (by decide +kernel)]; kernel_rfl) | (rw [if_neg (by decide +kernel)]; exact ⟨rfl, rfl⟩))
    (fun os started H enc _ => lifted os started H enc)

/-- ████ THE STATEMENT ████ -/
theorem proved : Rows.FnRotateNoneSaid :=
  over
#print axioms proved
end Go.Proofs.Ytlafajpbgiohaaa.fnRotateNone
