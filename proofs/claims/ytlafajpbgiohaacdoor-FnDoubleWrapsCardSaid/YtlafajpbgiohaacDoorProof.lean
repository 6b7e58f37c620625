/-
  FnDoubleWraps IS PROVED, AS ITS TIED CARD: for every first and last, the call returns true: a mask of 64 bits that goes on from the lowest bit to the highest one (first > last + 1, both in 0..63) is not valid for decodeMask64, and this mask inverted is (elsewhere the statement asks nothing).
  CONDITIONS: none of this session's; the card ties math/bits.deBruijn64tab to the program's text (the tie is given; it is over the pruned copy of the project, see the seat's page). The walk of TrailingZeros64 uses of the table only that its 64 cells are there. The frame of the row and of the card is a worked text of the kit (UptoLaidToy) turned to this claim; the walks and the plain law (YtlafajpbgiohaacDoorPlain) are this session's; bits.LeadingZeros64 is met by the shelf's contract (YtlafajpbgiohaacDoorShelf, written by the shelf's tools).
-/
import Derived.Test.YtlafajpbgiohaacDoorCards
import Derived.Test.YtlafajpbgiohaacDoorTie
import Derived.Test.YtlafajpbgiohaacDoorShelf
import Derived.Test.YtlafajpbgiohaacDoorPlain
import Derived.WalkKit
import Derived.WalkSpells
import Derived.WalkLawsBesides
import Derived.Deep.QuietTactic
import Derived.BigQuiet
import Derived.Lib.Hide
import Derived.LoopTactic
import Derived.ProofKit
import Derived.OpenShut
import Derived.Deep.DeepHandedRow
import Derived.Lib.LaidTab
namespace Go.Proofs.YtlafajpbgiohaacDoor.fnDoubleWraps
open Go.ChangeShapes Go.WideShapes Go.ChangeAt Go.RowKit

theorem own : ownKnob Tryd.prog.godebug = none := by kernel_rfl
theorem gTab : Tryd.prog.globalNamed "math/bits.deBruijn64tab" = some 0 := by kernel_rfl
theorem gTabType : (Tryd.prog.globals[0]?).map (·.type) = some 29 := by kernel_rfl
theorem cells29 : Tryd.prog.cellsOf 29 = 64 := by kernel_rfl
theorem cells5 : Tryd.prog.cellsOf 5 = 1 := by kernel_rfl

/-- what the row's list gives: the table's cells hold its numbers -/
theorem table {W : World} (h : laidMetH Tryd.prog Rows.fnDoubleWrapsRow.laid W) : Lib.TabIs Tryd.prog W "math/bits.deBruijn64tab" .u8 [0, 1, 56, 2, 57, 49, 28, 3, 61, 58, 42, 50, 38, 29, 17, 4, 62, 47, 59, 36, 45, 43, 51, 22, 53, 39, 33, 30, 24, 18, 12, 5, 63, 55, 48, 27, 60, 41, 37, 16, 46, 35, 44, 21, 52, 32, 23, 11, 54, 26, 40, 15, 34, 20, 31, 10, 25, 14, 19, 9, 13, 8, 7, 6] :=
  Lib.tabIs_of_head (rest := []) gTab gTabType Tryd.underlying29 Tryd.underlying5 cells5 cells29 h

/-! ### THE WALKS -/
def SomeInt (w : World) (e : Ending) (w' : World) : Prop := ∃ n : Int, e = .returned (.int .i64 n) ∧ w = w'
set_option maxHeartbeats 400000 in
theorem tz_core (x k : Int) (w : World) (hx0 : (x == 0) = false)
    (h0 : 0 ≤ IntKind.u64.wrap (bits BinOp.and IntKind.u64 x (IntKind.u64.wrap (-x)) * 285870213051353865) / 288230376151711744)
    (h1 : IntKind.u64.wrap (bits BinOp.and IntKind.u64 x (IntKind.u64.wrap (-x)) * 285870213051353865) / 288230376151711744 < 64)
    (hcell : w.cell? ⟨0, (IntKind.u64.wrap (bits BinOp.and IntKind.u64 x (IntKind.u64.wrap (-x)) * 285870213051353865) / 288230376151711744).toNat, none⟩ = some (.int .u8 k)) :
    Calls Tryd.prog 9 #[.int .u64 x] w (SomeInt w) := by
  go_enter Tryd.func9, Tryd.ntmps9
  go_wp2
  go_ret
  exact ⟨_, rfl, rfl⟩
set_option maxHeartbeats 400000 in
theorem tz_zero (w : World) :
    Calls Tryd.prog 9 #[.int .u64 0] w (SomeInt w) := by
  go_enter Tryd.func9, Tryd.ntmps9
  go_wp2
  go_ret
  exact ⟨_, rfl, rfl⟩
/-- every cell of the table is there -/
def Tab (w : World) : Prop := ∀ j : Nat, j < 64 → ∃ k : Int, w.cell? ⟨0, j, none⟩ = some (.int .u8 k)
theorem wrap_range (n : Int) : 0 ≤ IntKind.u64.wrap n ∧ IntKind.u64.wrap n < 18446744073709551616 := by
  rw [wrap_toNat]
  have := (BitVec.ofInt 64 n).isLt
  omega
theorem tz64 (x : Int) (w : World) (hT : Tab w) : Calls Tryd.prog 9 #[.int .u64 x] w (SomeInt w) := by
  by_cases h : x = 0
  · subst h; exact tz_zero w
  · have hr := wrap_range (bits BinOp.and IntKind.u64 x (IntKind.u64.wrap (-x)) * 285870213051353865)
    obtain ⟨k, hk⟩ := hT (IntKind.u64.wrap (bits BinOp.and IntKind.u64 x (IntKind.u64.wrap (-x)) * 285870213051353865) / 288230376151711744).toNat (by omega)
    exact tz_core x k w (by simpa using h) (by omega) (by omega) hk
theorem lz64 (x : Int) (w : World) (h0 : 0 ≤ x) (h1 : x < 18446744073709551616) : Calls Tryd.prog 8 #[.int .u64 x] w (SomeInt w) :=
  (Tryd.bits_LeadingZeros64 x w h0 (by omega)).mono fun _ _ ⟨he, hw⟩ => ⟨_, he, hw.symm⟩
def SomeOk (b : Bool) (w : World) (e : Ending) (w' : World) : Prop := ∃ m n : Int, e = .returned (.tuple #[.int .u32 m, .int .u32 n, .bool b]) ∧ w = w'
theorem tripleq {m n : Int} {x y : Bool} (h : x = y) : Ending.returned (.tuple #[.int .u32 m, .int .u32 n, .bool x]) = Ending.returned (.tuple #[.int .u32 m, .int .u32 n, .bool y]) := by rw [h]
set_option maxHeartbeats 400000 in
theorem dec7 (v : Int) (w : World) (hT : Tab w) :
    Calls Tryd.prog 7 #[.int .i64 v] w (SomeOk (validB v) w) := by
  have H := Lib.hid hT
  clear hT
  go_enter Tryd.func7, Tryd.ntmps7
  go_wp2_with (first | (go_at_call 8; refine (lz64 _ _ (wrap_range _).1 (wrap_range _).2).mono ?_; rintro e w' ⟨n, rfl, rfl⟩) | (go_at_call 9; refine (tz64 _ _ H.out).mono ?_; rintro e w' ⟨n, rfl, rfl⟩))
  all_goals
    go_ret3
    refine ⟨_, _, tripleq ?_, rfl⟩
    simp_all [validB, validQ]
theorem dec6 (v : Int) (w : World) (hT : Tab w) :
    Calls Tryd.prog 6 #[.int .i64 v] w (SomeOk (validB v) w) := by
  have H := Lib.hid hT
  clear hT
  go_enter Tryd.func6, Tryd.ntmps6
  go_wp2_with (go_at_call 7; refine (dec7 _ _ H.out).mono ?_; rintro e w' ⟨m, n, rfl, rfl⟩)
  go_ret3
  exact ⟨_, _, rfl, rfl⟩
theorem dec4 (v : Int) (w : World) (hT : Tab w) :
    Calls Tryd.prog 4 #[.int .i64 v] w (SomeOk (validB v) w) := by
  have H := Lib.hid hT
  clear hT
  go_enter Tryd.func4, Tryd.ntmps4
  go_wp2_with (go_at_call 6; refine (dec6 _ _ H.out).mono ?_; rintro e w' ⟨m, n, rfl, rfl⟩)
  go_ret3
  exact ⟨_, _, rfl, rfl⟩
theorem ret_int {k : IntKind} {a b : Int} (h : a = b) : Ending.returned (.int k a) = .returned (.int k b) := by rw [h]
/-- the loop of Mask64 at its head: from place i, with x made so far, d rounds more make T -/
def Rest (l T i x : Int) : Prop := ∃ d : Nat, d ≤ 63 ∧ (i + d) % 64 = l ∧ maskI d i x = T
theorem rest_step {l T i x : Int} (h : Rest l T i x) (hne : i ≠ l) (_h0 : 0 ≤ i) (_h1 : i ≤ 63) : Rest l T ((i + 1) % 64) (setI x i) := by
  obtain ⟨d, hd, he, hm⟩ := h
  cases d with
  | zero => exfalso; omega
  | succ d => exact ⟨d, by omega, by omega, hm⟩
theorem rest_done {l T i x : Int} (h : Rest l T i x) (he : i = l) (_h0 : 0 ≤ i) (_h1 : i ≤ 63) : setI x i = T := by
  obtain ⟨d, hd, hm, hT⟩ := h
  obtain rfl : d = 0 := by omega
  exact hT
theorem rest_start (f l : Int) (_h0 : 0 ≤ f) (_h1 : f ≤ 63) (_h2 : 0 ≤ l) (_h3 : l ≤ 63) : Rest l (maskOf f l) f 0 :=
  ⟨((l - f) % 64).toNat, by omega, by omega, rfl⟩
set_option maxHeartbeats 400000 in
theorem mask5 (f l : Int) (w : World) (h0 : 0 ≤ f) (h1 : f ≤ 63) (h2 : 0 ≤ l) (h3 : l ≤ 63) :
    Calls Tryd.prog 5 #[.int .i64 f, .int .i64 l] w fun e w' => e = .returned (.int .u64 (maskOf f l)) ∧ w = w' := by
  have hst := rest_start f l h0 h1 h2 h3
  generalize maskOf f l = T at *
  go_enter Tryd.func5, Tryd.ntmps5
  go_wp2_with fail
  go_loop [5, 6] (fun x i => ∃ x0 i0 : Int, x = .int .u64 x0 ∧ i = .int .i64 i0 ∧ 0 ≤ i0 ∧ i0 ≤ 63 ∧ Rest l T i0 x0) (fun _ i => ((l - intOf i) % 64).toNat)
  case atStart => exact ⟨0, f, rfl, rfl, h0, h1, hst⟩
  case round =>
    obtain ⟨x0, i0, rfl, rfl, hi0, hi1, hr⟩ := hrel
    by_cases he : i0 = l
    · have hd := Lib.hid (rest_done hr he hi0 hi1)
      have ht : (i0 == l) = true := by simpa using he
      have He := Lib.hid he
      clear hr hst he
      go_wp2_with fail
      go_ret
      exact ⟨ret_int hd.out, rfl⟩
    · have hd := rest_step hr he hi0 hi1
      have ht : (i0 == l) = false := by simpa using he
      clear hr hst
      have He := Lib.hid he
      clear he
      go_wp2_with fail
      go_round
      case rel => exact ⟨_, _, rfl, rfl, by omega, by omega, hd⟩
      case measure => simp [intOf]; have := He.out; omega
set_option maxHeartbeats 400000 in
theorem inside (R : Int → Bool) (x : Int) (w0 : World) (hR : ∀ v w, Tab w → Calls Tryd.prog 4 #[.int .i64 v] w (SomeOk (R v) w))
    (f l : Int) (hM : ∀ w, Calls Tryd.prog 5 #[.int .i64 f, .int .i64 l] w fun e w' => e = .returned (.int .u64 x) ∧ w = w')
    (hT : Tab w0) (h1 : 0 ≤ f) (h2 : f ≤ 63) (h3 : 0 ≤ l) (h4 : l ≤ 63) (h5 : l + 1 < f)
    (f1 : R (wrap64 x) = false)
    (f2 : R (bits BinOp.xor IntKind.i64 (-1) (wrap64 x)) = true) :
    Calls Tryd.prog 3 #[.int .i64 f, .int .i64 l] w0 fun e w' => e = .returned (.bool true) ∧ Grown w0 w' := by
  have H := Lib.hid hR
  have HM := Lib.hid hM
  have HT := Lib.hid hT
  clear hR hM hT
  have hs : IntKind.i64.signed = true := rfl
  go_enter Tryd.func3, Tryd.ntmps3
  go_wp2_with fail
  refine (HM.out _).mono ?_
  rintro e w' ⟨rfl, rfl⟩
  go_wp2_with fail
  refine (H.out _ _ HT.out).mono ?_
  rintro e w' ⟨m1, n1, rfl, rfl⟩
  go_wp2_with fail
  refine (HM.out _).mono ?_
  rintro e w' ⟨rfl, rfl⟩
  go_wp2_with fail
  refine (H.out _ _ HT.out).mono ?_
  rintro e w' ⟨m2, n2, rfl, rfl⟩
  go_wp2_with fail
  go_ret
  exact ⟨rfl, Grown.refl _⟩
set_option maxHeartbeats 400000 in
theorem outside (f l : Int) (w : World) (h : ¬ (0 ≤ f ∧ f ≤ 63 ∧ 0 ≤ l ∧ l ≤ 63 ∧ l + 1 < f)) (_w0 : (Lit.int .i64 f).wf = true) (_w1 : (Lit.int .i64 l).wf = true) :
    Calls Tryd.prog 3 #[.int .i64 f, .int .i64 l] w fun e w' => e = .returned (.bool true) ∧ Grown w w' := by
  go_enter Tryd.func3, Tryd.ntmps3
  go_wp2_with fail
  all_goals
    go_ret
    exact ⟨rfl, Grown.refl _⟩
theorem walk (a0 : Int) (a1 : Int) (w0 : (Lit.int .i64 a0).wf = true) (w1 : (Lit.int .i64 a1).wf = true) (w : World) (hT : Tab w) :
    Calls Tryd.prog 3 #[.int .i64 a0, .int .i64 a1] w fun e w' => e = .returned (.bool true) ∧ Grown w w' := by
  by_cases h : 0 ≤ a0 ∧ a0 ≤ 63 ∧ 0 ≤ a1 ∧ a1 ≤ 63 ∧ a1 + 1 < a0
  · obtain ⟨h1, h2, h3, h4, h5⟩ := h
    obtain ⟨f1, f2⟩ := wraps_of a0 a1 h1 h2 h3 h4 h5
    exact inside validB (maskOf a0 a1) w dec4 a0 a1 (fun w => mask5 a0 a1 w h1 h2 h3 h4) hT h1 h2 h3 h4 h5 f1 f2
  · exact outside a0 a1 w h w0 w1

/-! ### THE ROW -/
/-- what the walks give, for every argument and every world that holds the table -/
theorem contract (H : Type) (enc : TypeId × Value → H) (W : World) (base : Nat) (args : Array Value) (ds gs : List (DataW H)) (before : List MemPlace)
    (hval : ∀ (j : Nat) t v, Tryd.f3.params[j]? = some t → args[j]? = some v → Value.okWide Tryd.prog W .any base t v)
    (hW : DataW.Whole enc Tryd.prog Tryd.f3.params.toList Rows.fnDoubleWrapsSpec.vars false W args.toList ds gs before) (hL : laidMetH Tryd.prog Rows.fnDoubleWrapsRow.laid W) :
    Calls Tryd.prog 3 args W fun e W' => ∃ v, e = .returned v ∧ Rows.fnDoubleWrapsSpec.post enc Tryd.prog Tryd.f3 false true false false W args v W' := by
  have hW' := hW
  obtain ⟨p, q, hA0, hV, rfl, hfz, hnd⟩ := hW
  have hA : DataW.TrodAll enc Tryd.prog W 0 (fun _ => true) true Tryd.f3.params.toList args.toList ds p := hA0
  rw [Tryd.params3] at hA hval
  obtain ⟨v0, vs0, d0, ds0, p0, q0, hargs, rfl, rfl, h0, r0⟩ := trodAll_cons hA
  obtain ⟨v1, vs1, d1, ds1, p1, q1, rfl, rfl, rfl, h1, r1⟩ := trodAll_cons r0
  obtain ⟨rfl, rfl, rfl⟩ := trodAll_nil r1
  obtain rfl : args = #[v0, v1] := by cases args; simp_all
  obtain ⟨rfl, rfl⟩ := trodVars_none hV
  obtain ⟨a0, rfl, rfl, rfl, w0⟩ := open_int Tryd.underlying3 (hval 0 3 v0 rfl rfl) h0
  obtain ⟨a1, rfl, rfl, rfl, w1⟩ := open_int Tryd.underlying3 (hval 1 3 v1 rfl rfl) h1
  clear hA0
  simp only [List.append_nil] at hW'
  have hT : Tab W := fun j hj => ⟨_, (table hL).cell gTab j hj⟩
  refine (walk a0 a1 w0 w1 W hT).mono fun e W' ⟨he, hg⟩ => ?_
  subst he
  exact ⟨_, rfl, post_of_same (pa := []) (pv := []) hW' (fun _ _ _ => trodAll_cons_mk (shut_bool Tryd.underlying4 _) trodAll_mk0) (fun _ _ => trodAll_cons_mk (shut_int Tryd.underlying3 w0) (trodAll_cons_mk (shut_int Tryd.underlying3 w1) trodAll_mk0)) (fun _ _ => rfl) rfl
    (hg.frame _) hg.2.1 (ok_one (by kernel_rfl) rfl (okWide_bool_mk Tryd.underlying4 _))⟩

/-- a world for the witness: the settled one, the table (block 0) holding what its initialiser lays -/
noncomputable def laidWorld (os : Os) : World :=
  { World.holding Tryd.prog os ⟨#[], #[], []⟩ with heap := (World.holding Tryd.prog os ⟨#[], #[], []⟩).heap.modify 0 fun
      | .cells _ t frozen => .cells #[.int .u8 0, .int .u8 1, .int .u8 56, .int .u8 2, .int .u8 57, .int .u8 49, .int .u8 28, .int .u8 3, .int .u8 61, .int .u8 58, .int .u8 42, .int .u8 50, .int .u8 38, .int .u8 29, .int .u8 17, .int .u8 4, .int .u8 62, .int .u8 47, .int .u8 59, .int .u8 36, .int .u8 45, .int .u8 43, .int .u8 51, .int .u8 22, .int .u8 53, .int .u8 39, .int .u8 33, .int .u8 30, .int .u8 24, .int .u8 18, .int .u8 12, .int .u8 5, .int .u8 63, .int .u8 55, .int .u8 48, .int .u8 27, .int .u8 60, .int .u8 41, .int .u8 37, .int .u8 16, .int .u8 46, .int .u8 35, .int .u8 44, .int .u8 21, .int .u8 52, .int .u8 32, .int .u8 23, .int .u8 11, .int .u8 54, .int .u8 26, .int .u8 40, .int .u8 15, .int .u8 34, .int .u8 20, .int .u8 31, .int .u8 10, .int .u8 25, .int .u8 14, .int .u8 19, .int .u8 9, .int .u8 13, .int .u8 8, .int .u8 7, .int .u8 6] t frozen
      | o => o }
theorem laid_met (os : Os) : laidMet Tryd.prog Rows.fnDoubleWrapsRow.laid ((laidWorld os).forCall (fun _ _ => 0) ⟨#[], #[.int .i64 0, .int .i64 0], []⟩).memory :=
  laidMet_of_run' 8 (by kernel_rfl) (by kernel_rfl)
theorem reads (os : Os) {H : Type} (enc : TypeId × Value → H) : ∃ places, DataW.whole enc Tryd.prog ((laidWorld os).forCall (fun _ _ => 0) ⟨#[], #[.int .i64 0, .int .i64 0], []⟩).memory Tryd.f3.params.toList Rows.fnDoubleWrapsSpec.vars false #[Value.int .i64 0, Value.int .i64 0].toList 8 = some ([.lit (.int .i64 0), .lit (.int .i64 0)], [], places) :=
  ⟨[], by kernel_rfl⟩

set_option maxRecDepth 100000 in
/-- the row's step -/
theorem lifted (os : Os) (started : os.Started) (H : Type) (enc : TypeId × Value → H) (F : Stop.Interp) :
    ReturnsInHanded {} Tryd.checked os 3 .any ((OpenSpec.ofChange Rows.fnDoubleWrapsSpec).preRow enc Tryd.prog Tryd.f3 Rows.fnDoubleWrapsRow.domain false Rows.fnDoubleWrapsRow.laid) (((OpenSpec.ofChange Rows.fnDoubleWrapsSpec).at F).post enc Tryd.prog Tryd.f3 false true false false) := by
  obtain ⟨places, hx⟩ := reads os enc
  refine returnsInHanded_of_row (C := Tryd.checked) (s := OpenSpec.ofChange Rows.fnDoubleWrapsSpec) own started (by kernel_rfl) Tryd.func3
    (witness_row_at (enc := enc) (C := Tryd.checked) false (laidWorld os) #[.int .i64 0, .int .i64 0] rfl (by kernel_rfl) (by kernel_rfl) (by kernel_rfl)
      (OpenSpec.preRow_of_cond 8 hx (by kernel_rfl) (fun k hk => by cases hk) (by kernel_rfl) (laid_met os))) ?_
  intro W base args ds gs before hval hW _ _ _ hL _ _
  exact contract H enc W base args ds gs before hval hW hL

theorem said : Rows.FnDoubleWrapsSaid :=
  OpenClaim.holds_of_cond 3 Tryd.f3 rfl rfl rfl rfl rfl rfl rfl ⟨rfl, rfl, rfl, rfl, rfl⟩ rfl rfl rfl rfl rfl (by kernel_rfl) Tryd.func3 (by kernel_rfl)
    (of_decide_eq_true (by kernel_rfl)) (by unfold Func.isWrapper; first | (rw [if_pos (by decide +kernel)]; kernel_rfl) | (rw [if_neg (by decide +kernel)]; exact ⟨rfl, rfl⟩))
    (fun os started H enc _ F => by rw [OpenClaim.pre_eq_preRow]; exact lifted os started H enc F)

/-- no parameter wants a stand-in; the program's own looks are off: what the card asks -/
theorem plain (f : FuncId) (fn : Func) (hf : Tryd.pinned.checked.prog.funcNamed "loop.example/pub-g01458/laws.FnDoubleWraps" = some f) (hfn : Tryd.pinned.checked.prog.funcs[f]? = some fn) :
    false = Tryd.pinned.checked.prog.looks [] ∧ ∀ (j : Nat) t, fn.params[j]? = some t → Tryd.pinned.checked.prog.wantsStandIn t = false := by
  obtain rfl : f = 3 := Option.some.inj ((show Tryd.prog.funcNamed "loop.example/pub-g01458/laws.FnDoubleWraps" = some 3 by kernel_rfl).symm.trans hf) |>.symm
  obtain rfl : fn = Tryd.f3 := (Option.some.inj (Tryd.func3.symm.trans hfn)).symm
  refine ⟨by kernel_rfl, fun j t ht => ?_⟩
  rw [Tryd.params3] at ht
  obtain rfl : t = 3 := by simpa using Array.mem_of_getElem? ht
  exact (show Tryd.prog.wantsStandIn 3 = false by kernel_rfl)

/-- ████ THE CARD ████ -/
theorem card : Rows.FnDoubleWrapsCardSaid :=
  Claim7.holds_tied_plain_at .later [] _ _ _ _ said (fun _ h => by cases h) (by kernel_rfl) (fun _ h => by cases h) fnDoubleWraps_row_tie rfl ⟨rfl, rfl⟩ (by kernel_rfl) rfl plain (by kernel_rfl)
#print axioms card
end Go.Proofs.YtlafajpbgiohaacDoor.fnDoubleWraps
