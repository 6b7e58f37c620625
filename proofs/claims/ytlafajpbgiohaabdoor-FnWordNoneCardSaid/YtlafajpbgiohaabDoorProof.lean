/-
  FnWordNone IS PROVED, AS ITS TIED CARD: for every a and b, the call returns true: a mask of 32 bits with two single ones that are not beside each other, and this mask inverted, are not valid for decodeMask32, and 1 is valid (where a or b lies outside 0..31, or they are too near, the statement asks nothing).
  CONDITIONS: none of this session's; the card ties math/bits.deBruijn32tab to the program's text (the tie is given; it is over the pruned copy of the project, see the seat's page). The walk of TrailingZeros32 uses of the table only that its 32 cells are there. The frame of the row and of the card is a worked text of the kit (UptoLaidToy) turned to this claim; the walks and the plain law (YtlafajpbgiohaabDoorPlain) are this session's; bits.LeadingZeros32 is met by the shelf's contract (YtlafajpbgiohaabDoorShelf, written by the shelf's tools).
-/
import Derived.Test.YtlafajpbgiohaabDoorCards
import Derived.Test.YtlafajpbgiohaabDoorTie
import Derived.Test.YtlafajpbgiohaabDoorShelf
import Derived.Test.YtlafajpbgiohaabDoorPlain
import Derived.WalkKit
import Derived.WalkSpells
import Derived.WalkLawsBesides
import Derived.Deep.QuietTactic
import Derived.BigQuiet
import Derived.Lib.Hide
import Derived.Laws.DeepBits32
import Derived.ProofKit
import Derived.OpenShut
import Derived.Deep.DeepHandedRow
import Derived.Lib.LaidTab
namespace Go.Proofs.YtlafajpbgiohaabDoor.fnWordNone
open Go.ChangeShapes Go.WideShapes Go.ChangeAt Go.RowKit

theorem own : ownKnob Tryd.prog.godebug = none := by kernel_rfl
theorem gTab : Tryd.prog.globalNamed "math/bits.deBruijn32tab" = some 0 := by kernel_rfl
theorem gTabType : (Tryd.prog.globals[0]?).map (·.type) = some 27 := by kernel_rfl
theorem cells27 : Tryd.prog.cellsOf 27 = 32 := by kernel_rfl
theorem cells5 : Tryd.prog.cellsOf 5 = 1 := by kernel_rfl

/-- what the row's list gives: the table's cells hold its numbers -/
theorem table {W : World} (h : laidMetH Tryd.prog Rows.fnWordNoneRow.laid W) : Lib.TabIs Tryd.prog W "math/bits.deBruijn32tab" .u8 [0, 1, 28, 2, 29, 14, 24, 3, 30, 22, 20, 15, 25, 17, 4, 8, 31, 27, 13, 23, 21, 19, 16, 7, 26, 12, 18, 6, 11, 5, 10, 9] :=
  Lib.tabIs_of_head (rest := []) gTab gTabType Tryd.underlying27 Tryd.underlying5 cells5 cells27 h

/-! ### THE WALKS -/
def SomeInt (w : World) (e : Ending) (w' : World) : Prop := ∃ n : Int, e = .returned (.int .i64 n) ∧ w = w'
set_option maxHeartbeats 400000 in
theorem tz_core (x k : Int) (w : World) (hx0 : (x == 0) = false)
    (hcell : w.cell? ⟨0, (bits BinOp.and IntKind.u32 x (-x % 4294967296) * 125613361 % 4294967296 / 134217728).toNat, none⟩ = some (.int .u8 k)) :
    Calls Tryd.prog 8 #[.int .u32 x] w (SomeInt w) := by
  go_enter Tryd.func8, Tryd.ntmps8
  go_wp2
  go_ret
  exact ⟨_, rfl, rfl⟩
set_option maxHeartbeats 400000 in
theorem tz_zero (w : World) :
    Calls Tryd.prog 8 #[.int .u32 0] w (SomeInt w) := by
  go_enter Tryd.func8, Tryd.ntmps8
  go_wp2
  go_ret
  exact ⟨_, rfl, rfl⟩
/-- every cell of the table is there -/
def Tab (w : World) : Prop := ∀ j : Nat, j < 32 → ∃ k : Int, w.cell? ⟨0, j, none⟩ = some (.int .u8 k)
theorem tz32 (x : Int) (w : World) (hT : Tab w) : Calls Tryd.prog 8 #[.int .u32 x] w (SomeInt w) := by
  by_cases h : x = 0
  · subst h; exact tz_zero w
  · obtain ⟨k, hk⟩ := hT (bits BinOp.and IntKind.u32 x (-x % 4294967296) * 125613361 % 4294967296 / 134217728).toNat (by omega)
    exact tz_core x k w (by simpa using h) hk
theorem lz32 (x : Int) (w : World) (h0 : 0 ≤ x) (h1 : x < 4294967296) : Calls Tryd.prog 7 #[.int .u32 x] w (SomeInt w) :=
  (Tryd.bits_LeadingZeros32 x w h0 (by omega)).mono fun _ _ ⟨he, hw⟩ => ⟨_, he, hw.symm⟩
def SomeOk (b : Bool) (w : World) (e : Ending) (w' : World) : Prop := ∃ m n : Int, e = .returned (.tuple #[.int .u32 m, .int .u32 n, .bool b]) ∧ w = w'
theorem bits_range (op : BinOp) (x y : Int) : 0 ≤ bits op .u32 x y ∧ bits op .u32 x y < 4294967296 := by
  unfold bits
  simp only [IntKind.wrap_u32]
  omega
theorem tripleq {m n : Int} {x y : Bool} (h : x = y) : Ending.returned (.tuple #[.int .u32 m, .int .u32 n, .bool x]) = Ending.returned (.tuple #[.int .u32 m, .int .u32 n, .bool y]) := by rw [h]
set_option maxHeartbeats 400000 in
theorem dec6 (v : Int) (w : World) (h0 : 0 ≤ v) (h1 : v < 4294967296) (hT : Tab w) :
    Calls Tryd.prog 6 #[.int .u32 v] w (SomeOk (wordB v) w) := by
  have H := Lib.hid hT
  clear hT
  go_enter Tryd.func6, Tryd.ntmps6
  go_wp2_with (first | (go_at_call 7; refine (lz32 _ _ ?_ ?_).mono ?_; rotate_left; rotate_left; rintro e w' ⟨n, rfl, rfl⟩) | (go_at_call 8; refine (tz32 _ _ H.out).mono ?_; rintro e w' ⟨n, rfl, rfl⟩))
  all_goals first
    | (go_ret3
       refine ⟨_, _, tripleq ?_, rfl⟩
       simp_all [wordB, wordP])
    | (with_reducible exact h0)
    | (with_reducible exact h1)
    | (with_reducible exact (bits_range _ _ _).1)
    | (with_reducible exact (bits_range _ _ _).2)
theorem dec5 (v : Int) (w : World) (h0 : 0 ≤ v) (h1 : v < 4294967296) (hT : Tab w) :
    Calls Tryd.prog 5 #[.int .u32 v] w (SomeOk (wordB v) w) := by
  have H := Lib.hid hT
  clear hT
  go_enter Tryd.func5, Tryd.ntmps5
  go_wp2_with (go_at_call 6; refine (dec6 _ _ h0 h1 H.out).mono ?_; rintro e w' ⟨m, n, rfl, rfl⟩)
  go_ret3
  exact ⟨_, _, rfl, rfl⟩
theorem dec4 (v : Int) (w : World) (h0 : 0 ≤ v) (h1 : v < 4294967296) (hT : Tab w) :
    Calls Tryd.prog 4 #[.int .u32 v] w (SomeOk (wordB v) w) := by
  have H := Lib.hid hT
  clear hT
  go_enter Tryd.func4, Tryd.ntmps4
  go_wp2_with (go_at_call 5; refine (dec5 _ _ h0 h1 H.out).mono ?_; rintro e w' ⟨m, n, rfl, rfl⟩)
  go_ret3
  exact ⟨_, _, rfl, rfl⟩
set_option maxHeartbeats 400000 in
theorem inside (R : Int → Bool) (w0 : World) (hR : ∀ v n, 0 ≤ v → v < 4294967296 → Calls Tryd.prog 4 #[.int .u32 v] (w0.drewN n) (SomeOk (R v) (w0.drewN n)))
    (a b : Int) (h1 : 0 ≤ a) (h2 : a ≤ 31) (h3 : 0 ≤ b) (h4 : b ≤ 31) (h5 : 2 ≤ b - a) (h6 : b - a ≤ 30)
    (f1 : R (bits BinOp.or IntKind.u32 (2 ^ a.toNat % 4294967296) (2 ^ b.toNat % 4294967296)) = false)
    (f2 : R (bits BinOp.xor IntKind.u32 IntKind.u32.max (bits BinOp.or IntKind.u32 (2 ^ a.toNat % 4294967296) (2 ^ b.toNat % 4294967296))) = false)
    (f3 : R 1 = true) :
    Calls Tryd.prog 3 #[.int .i64 a, .int .i64 b] w0 fun e w' => e = .returned (.bool true) ∧ Grown w0 w' := by
  have H := Lib.hid hR
  clear hR
  have hs : IntKind.u32.signed = false := rfl
  go_enter Tryd.func3, Tryd.ntmps3
  go_wp2_with fail
  go_quiet (fail)
  have g1 := bits_range BinOp.or (2 ^ a.toNat % 4294967296) (2 ^ b.toNat % 4294967296)
  generalize bits BinOp.or IntKind.u32 (2 ^ a.toNat % 4294967296) (2 ^ b.toNat % 4294967296) = x at *
  have g2 := bits_range BinOp.xor IntKind.u32.max x
  obtain ⟨g3, g4⟩ := g1
  obtain ⟨g5, g6⟩ := g2
  go_wp2_with fail
  refine (H.out _ _ g3 g4).mono ?_
  rintro e w' ⟨m1, n1, rfl, rfl⟩
  go_wp2_with fail
  refine (H.out _ _ g5 g6).mono ?_
  rintro e w' ⟨m2, n2, rfl, rfl⟩
  go_wp2_with fail
  refine (H.out _ _ (by omega) (by omega)).mono ?_
  rintro e w' ⟨m3, n3, rfl, rfl⟩
  go_wp2_with fail
  go_ret
  exact ⟨rfl, show Grown w0 (w0.drewN _) from Grown.refl w0⟩
set_option maxHeartbeats 400000 in
theorem outside (a b : Int) (w : World) (h : ¬ (0 ≤ a ∧ a ≤ 31 ∧ 0 ≤ b ∧ b ≤ 31 ∧ 2 ≤ b - a ∧ b - a ≤ 30)) :
    Calls Tryd.prog 3 #[.int .i64 a, .int .i64 b] w fun e w' => e = .returned (.bool true) ∧ Grown w w' := by
  go_enter Tryd.func3, Tryd.ntmps3
  go_wp2_with fail
  all_goals
    go_ret
    exact ⟨rfl, Grown.refl _⟩
theorem tab_drewN {w : World} (h : Tab w) (n : Nat) : Tab (w.drewN n) := h
theorem walk (a0 : Int) (a1 : Int) (w : World) (hT : Tab w) :
    Calls Tryd.prog 3 #[.int .i64 a0, .int .i64 a1] w fun e w' => e = .returned (.bool true) ∧ Grown w w' := by
  by_cases h : 0 ≤ a0 ∧ a0 ≤ 31 ∧ 0 ≤ a1 ∧ a1 ≤ 31 ∧ 2 ≤ a1 - a0 ∧ a1 - a0 ≤ 30
  · obtain ⟨h1, h2, h3, h4, h5, h6⟩ := h
    obtain ⟨f1, f2⟩ := none_of a0 a1 h1 h2 h3 h4 h5 h6
    exact inside wordB w (fun v n k0 k1 => dec4 v (w.drewN n) k0 k1 (tab_drewN hT n)) a0 a1 h1 h2 h3 h4 h5 h6 f1 f2 one_is
  · exact outside a0 a1 w h

/-! ### THE ROW -/
/-- what the walks give, for every argument and every world that holds the table -/
theorem contract (H : Type) (enc : TypeId × Value → H) (W : World) (base : Nat) (args : Array Value) (ds gs : List (DataW H)) (before : List MemPlace)
    (hval : ∀ (j : Nat) t v, Tryd.f3.params[j]? = some t → args[j]? = some v → Value.okWide Tryd.prog W .any base t v)
    (hW : DataW.Whole enc Tryd.prog Tryd.f3.params.toList Rows.fnWordNoneSpec.vars false W args.toList ds gs before) (hL : laidMetH Tryd.prog Rows.fnWordNoneRow.laid W) :
    Calls Tryd.prog 3 args W fun e W' => ∃ v, e = .returned v ∧ Rows.fnWordNoneSpec.post enc Tryd.prog Tryd.f3 false true false false W args v W' := by
  have hW' := hW
  obtain ⟨p, q, hA0, hV, rfl, hfz, hnd⟩ := hW
  have hA : DataW.TrodAll enc Tryd.prog W 0 (fun _ => true) true Tryd.f3.params.toList args.toList ds p := hA0
  rw [Tryd.params3] at hA hval
  obtain ⟨v0, vs0, d0, ds0, p0, q0, hargs, rfl, rfl, h0, r0⟩ := trodAll_cons hA
  obtain ⟨v1, vs1, d1, ds1, p1, q1, rfl, rfl, rfl, h1, r1⟩ := trodAll_cons r0
  obtain ⟨rfl, rfl, rfl⟩ := trodAll_nil r1
  obtain rfl : args = #[v0, v1] := by cases args; simp_all
  obtain ⟨rfl, rfl⟩ := trodVars_none hV
  obtain ⟨a0, rfl, rfl, rfl, w0⟩ := open_int Tryd.underlying3 (hval 0 3 v0 rfl rfl) h0
  obtain ⟨a1, rfl, rfl, rfl, w1⟩ := open_int Tryd.underlying3 (hval 1 3 v1 rfl rfl) h1
  clear hA0
  simp only [List.append_nil] at hW'
  have hT : Tab W := fun j hj => ⟨_, (table hL).cell gTab j hj⟩
  refine (walk a0 a1 W hT).mono fun e W' ⟨he, hg⟩ => ?_
  subst he
  exact ⟨_, rfl, post_of_same (pa := []) (pv := []) hW' (fun _ _ _ => trodAll_cons_mk (shut_bool Tryd.underlying4 _) trodAll_mk0) (fun _ _ => trodAll_cons_mk (shut_int Tryd.underlying3 w0) (trodAll_cons_mk (shut_int Tryd.underlying3 w1) trodAll_mk0)) (fun _ _ => rfl) rfl
    (hg.frame _) hg.2.1 (ok_one (by kernel_rfl) rfl (okWide_bool_mk Tryd.underlying4 _))⟩

/-- a world for the witness: the settled one, the table (block 0) holding what its initialiser lays -/
noncomputable def laidWorld (os : Os) : World :=
  { World.holding Tryd.prog os ⟨#[], #[], []⟩ with heap := (World.holding Tryd.prog os ⟨#[], #[], []⟩).heap.modify 0 fun
      | .cells _ t frozen => .cells #[.int .u8 0, .int .u8 1, .int .u8 28, .int .u8 2, .int .u8 29, .int .u8 14, .int .u8 24, .int .u8 3, .int .u8 30, .int .u8 22, .int .u8 20, .int .u8 15, .int .u8 25, .int .u8 17, .int .u8 4, .int .u8 8, .int .u8 31, .int .u8 27, .int .u8 13, .int .u8 23, .int .u8 21, .int .u8 19, .int .u8 16, .int .u8 7, .int .u8 26, .int .u8 12, .int .u8 18, .int .u8 6, .int .u8 11, .int .u8 5, .int .u8 10, .int .u8 9] t frozen
      | o => o }
theorem laid_met (os : Os) : laidMet Tryd.prog Rows.fnWordNoneRow.laid ((laidWorld os).forCall (fun _ _ => 0) ⟨#[], #[.int .i64 0, .int .i64 0], []⟩).memory :=
  laidMet_of_run' 8 (by kernel_rfl) (by kernel_rfl)
theorem reads (os : Os) {H : Type} (enc : TypeId × Value → H) : ∃ places, DataW.whole enc Tryd.prog ((laidWorld os).forCall (fun _ _ => 0) ⟨#[], #[.int .i64 0, .int .i64 0], []⟩).memory Tryd.f3.params.toList Rows.fnWordNoneSpec.vars false #[Value.int .i64 0, Value.int .i64 0].toList 8 = some ([.lit (.int .i64 0), .lit (.int .i64 0)], [], places) :=
  ⟨[], by kernel_rfl⟩

set_option maxRecDepth 100000 in
/-- the row's step -/
theorem lifted (os : Os) (started : os.Started) (H : Type) (enc : TypeId × Value → H) (F : Stop.Interp) :
    ReturnsInHanded {} Tryd.checked os 3 .any ((OpenSpec.ofChange Rows.fnWordNoneSpec).preRow enc Tryd.prog Tryd.f3 Rows.fnWordNoneRow.domain false Rows.fnWordNoneRow.laid) (((OpenSpec.ofChange Rows.fnWordNoneSpec).at F).post enc Tryd.prog Tryd.f3 false true false false) := by
  obtain ⟨places, hx⟩ := reads os enc
  refine returnsInHanded_of_row (C := Tryd.checked) (s := OpenSpec.ofChange Rows.fnWordNoneSpec) own started (by kernel_rfl) Tryd.func3
    (witness_row_at (enc := enc) (C := Tryd.checked) false (laidWorld os) #[.int .i64 0, .int .i64 0] rfl (by kernel_rfl) (by kernel_rfl) (by kernel_rfl)
      (OpenSpec.preRow_of_cond 8 hx (by kernel_rfl) (fun k hk => by cases hk) (by kernel_rfl) (laid_met os))) ?_
  intro W base args ds gs before hval hW _ _ _ hL _ _
  exact contract H enc W base args ds gs before hval hW hL

theorem said : Rows.FnWordNoneSaid :=
  OpenClaim.holds_of_cond 3 Tryd.f3 rfl rfl rfl rfl rfl rfl rfl ⟨rfl, rfl, rfl, rfl, rfl⟩ rfl rfl rfl rfl rfl (by kernel_rfl) Tryd.func3 (by kernel_rfl)
    (of_decide_eq_true (by kernel_rfl)) (by unfold Func.isWrapper; first | (rw [if_pos (by decide +kernel)]; kernel_rfl) | (rw [if_neg (by decide +kernel)]; exact ⟨rfl, rfl⟩))
    (fun os started H enc _ F => by rw [OpenClaim.pre_eq_preRow]; exact lifted os started H enc F)

/-- no parameter wants a stand-in; the program's own looks are off: what the card asks -/
theorem plain (f : FuncId) (fn : Func) (hf : Tryd.pinned.checked.prog.funcNamed "loop.example/pub-g01458/laws.FnWordNone" = some f) (hfn : Tryd.pinned.checked.prog.funcs[f]? = some fn) :
    false = Tryd.pinned.checked.prog.looks [] ∧ ∀ (j : Nat) t, fn.params[j]? = some t → Tryd.pinned.checked.prog.wantsStandIn t = false := by
  obtain rfl : f = 3 := Option.some.inj ((show Tryd.prog.funcNamed "loop.example/pub-g01458/laws.FnWordNone" = some 3 by kernel_rfl).symm.trans hf) |>.symm
  obtain rfl : fn = Tryd.f3 := (Option.some.inj (Tryd.func3.symm.trans hfn)).symm
  refine ⟨by kernel_rfl, fun j t ht => ?_⟩
  rw [Tryd.params3] at ht
  obtain rfl : t = 3 := by simpa using Array.mem_of_getElem? ht
  exact (show Tryd.prog.wantsStandIn 3 = false by kernel_rfl)

/-- ████ THE CARD ████ -/
theorem card : Rows.FnWordNoneCardSaid :=
  Claim7.holds_tied_plain_at .later [] _ _ _ _ said (fun _ h => by cases h) (by kernel_rfl) (fun _ h => by cases h) fnWordNone_row_tie rfl ⟨rfl, rfl⟩ (by kernel_rfl) rfl plain (by kernel_rfl)
#print axioms card
end Go.Proofs.YtlafajpbgiohaabDoor.fnWordNone
