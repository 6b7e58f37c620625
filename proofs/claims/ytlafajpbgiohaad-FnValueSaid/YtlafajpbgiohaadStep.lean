/-
  THE WALKS of the reader of debug/gosym, for FnValue: readvarint (function 14), step (13), pcvalue (12).
-/
import Derived.Test.YtlafajpbgiohaadSpec
import Derived.Test.YtlafajpbgiohaadBits
import Derived.Test.YtlafajpbgiohaadRead
import Derived.Deep.RegionWith
import Derived.Deep.RegionHeld3
namespace Go.Proofs.Ytlafajpbgiohaad
open Go.RowKit
theorem grown_set {w : World} (bp : Nat) (v : Value) : w.grownBy (w.setCell ⟨bp, 0, none⟩ v) (some bp) := by
  refine ⟨rfl, rfl, rfl, by simp [World.setCell], fun i _ hne => ?_⟩
  exact Below.heap_setCell w ⟨bp, 0, none⟩ v i (fun e => hne (by rw [e]))
/-- readvarint, said of blocks -/
def RvPost (m bp g o n c : Nat) (w : World) (e : Ending) (w' : World) : Prop :=
  e = .returned (.int .u32 (m : Int)) ∧ Hid (Whole w' bp 22 #[.slice (some ⟨g, o + (uv m).length, none⟩) (n - (uv m).length) (c - (uv m).length)]) ∧ w.grownBy w' (some bp)
theorem readvarintB (T rest : List Nat) (g o n c m bp : Nat) (w : World) (hm : m < 4294967296) (hT : TReads w g T) (hd : T.drop o = uv m ++ rest) (hr : 0 < rest.length) (hn : o + n = T.length) (hc : n ≤ c) (hcm : c ≤ 9223372036854775807)
    (hp : Whole w bp 22 #[.slice (some ⟨g, o, none⟩) n c]) (ot : Option Addr) :
    Calls Try.prog 14 #[.pointer ot, .pointer (some ⟨bp, 0, none⟩)] w (RvPost m bp g o n c w) :=
  (readvarint T rest g o n c m bp w hm hT hd hr hn hc hcm hp ot).mono fun _ _ ⟨he, hw⟩ => ⟨he, by subst hw; exact hp.put _, by subst hw; exact grown_set bp _⟩
theorem treads_keep {w w' : World} {g : Nat} {T : List Nat} (h : TReads w g T) (hk : ∀ j, w'.cell? ⟨g, j, none⟩ = w.cell? ⟨g, j, none⟩) : TReads w' g T := fun j b hb => ⟨(hk j).trans (h j b hb).1, (h j b hb).2⟩
theorem grown_cell {w w' : World} {b : Nat} (h : w.grownBy w' (some b)) {g : Nat} (hne : g ≠ b) {j : Nat} {v : Value} (hv : w.cell? ⟨g, j, none⟩ = some v) : w'.cell? ⟨g, j, none⟩ = some v :=
  (World.cell?_of_block (h.block g (World.block_lt_of_cell? w _ hv) (fun e => hne (by injection e)))).trans hv
theorem treads_grown {w w' : World} {b g : Nat} {T : List Nat} (h : TReads w g T) (hg : w.grownBy w' (some b)) (hne : g ≠ b) : TReads w' g T := fun j x hx => ⟨grown_cell hg hne (h j x hx).1, (h j x hx).2⟩
theorem ret_bool {x y : Bool} (h : x = y) : Ending.returned (.bool x) = .returned (.bool y) := by rw [h]
/-- what a step leaves -/
def StPost (bp bc bv g o n c B : Nat) (pcv val : Int) (w : World) (e : Ending) (w' : World) : Prop :=
  e = .returned (.bool true) ∧ Hid (Whole w' bp 22 #[.slice (some ⟨g, o, none⟩) n c]) ∧ Hid (Whole w' bc 25 #[.int .u64 pcv]) ∧ Hid (Whole w' bv 21 #[.int .i32 val]) ∧ Below B w w'

set_option maxHeartbeats 1600000 in
theorem step13 (T rest : List Nat) (g o n c bp bc bv bt L : Nat) (d : Int) (q pcv val : Int) (first : Bool) (w : World) (B : Nat) (hL : L < 4294967296) (hd0 : -2147483648 ≤ d) (hd1 : d ≤ 2147483647) (hT : TReads w g T)
    (hd : T.drop o = uv (zz d) ++ (uv L ++ rest)) (hr : 0 < rest.length) (hn : o + n = T.length) (hc : n ≤ c) (hcm : c ≤ 9223372036854775807) (hz : zz d = 0 → first = true)
    (hp : Whole w bp 22 #[.slice (some ⟨g, o, none⟩) n c]) (hpc : Whole w bc 25 #[.int .u64 pcv]) (hv : Whole w bv 21 #[.int .i32 val]) (htq : w.cell? ⟨bt, 0, none⟩ = some (.int .u32 q))
    (hbt : bt < B) (hg : g < B) (hbp : B ≤ bp) (hbc : B ≤ bc) (hbv : B ≤ bv) (hBw : B ≤ w.heap.size) (hq0 : 0 ≤ q) (hpq : (L : Int) * q < 4294967296) (hpc0 : 0 ≤ pcv) (hpc1 : pcv < 9223372036854775808) :
    Calls Try.prog 13 #[.pointer (some ⟨bt, 0, none⟩), .pointer (some ⟨bp, 0, none⟩), .pointer (some ⟨bc, 0, none⟩), .pointer (some ⟨bv, 0, none⟩), .bool first] w
      (StPost bp bc bv g (o + (uv (zz d)).length + (uv L).length) (n - (uv (zz d)).length - (uv L).length) (c - (uv (zz d)).length - (uv L).length) B (pcv + (L : Int) * q) (wrap32 (val + d)) w) := by
  have hlz := zz_lt hd0 hd1
  have hno : n = (uv (zz d)).length + (uv L).length + rest.length := by
    have := congrArg List.length hd
    simp only [List.length_drop, List.length_append] at this
    omega
  have hd2 : T.drop (o + (uv (zz d)).length) = uv L ++ rest := by
    rw [← List.drop_drop, hd, List.drop_left]
  have HNO := Lib.hid hno
  have HD := Lib.hid hd
  have HD2 := Lib.hid hd2
  have HT := Lib.hid hT
  have HP := Lib.hid hp
  have HPC := Lib.hid hpc
  have HV := Lib.hid hv
  have HN := Lib.hid hn
  have HL := Lib.hid hL
  have HLZ := Lib.hid hlz
  have hne1 := Lib.hid (HPC.out.apart HP.out (by decide))
  have hne2 := Lib.hid (HV.out.apart HP.out (by decide))
  have hne3 := Lib.hid (HV.out.apart HPC.out (by decide))
  clear hd hT hp hpc hv hno hn hL hlz hd2
  go_enter Try.func13, Try.ntmps13
  go_wp2_with fail
  refine (readvarintB T (uv L ++ rest) g o n c (zz d) bp w HLZ.out HT.out HD.out (by have := uv_pos L; simp only [List.length_append]; omega) HN.out hc hcm HP.out _).mono ?_
  rintro e w1 ⟨rfl, HP1, hg1⟩
  have HT1 := Lib.hid (treads_grown HT.out hg1 (by omega))
  have HPC1 := Lib.hid (HPC.out.grown hg1 (fun e => hne1.out (by injection e)))
  have HV1 := Lib.hid (HV.out.grown hg1 (fun e => hne2.out (by injection e)))
  have htq1 := grown_cell hg1 (show bt ≠ bp by omega) htq
  have HB1 := Lib.hid ((Below.refl B w).grown hg1 hBw (fun k hk => by injection hk with hk; omega))
  clear htq hg1 HP HPC HV HT
  obtain ⟨Pq, hP⟩ : ∃ Pq : Int, (L : Int) * q = Pq := ⟨_, rfl⟩
  have hPq0 : 0 ≤ Pq := by rw [← hP]; exact Int.mul_nonneg (by omega) hq0
  rw [hP] at hpq
  -- the difference, by its sign
  obtain ⟨Z, hZ⟩ : ∃ Z : Int, ((zz d : Nat) : Int) = Z := ⟨_, rfl⟩
  have hZ0 : 0 ≤ Z := by omega
  have hZ1 : Z < 4294967296 := by have := HLZ.out; omega
  rw [hZ]
  by_cases hneg : d < 0
  rotate_left
  by_cases hzero : d = 0
  · obtain ⟨z1, z2⟩ := zz_even hneg
    have hZe : Z = 0 := by subst hzero; rw [← hZ]; rfl
    have hz1 : zz d = 0 := by omega
    obtain rfl : first = true := hz hz1
    have hz0' : (Z == 0) = true := by simpa using hZe
    have hb1 := low_bit (zz d) HLZ.out
    rw [z1, hZ] at hb1
    have hx : Z / 2 = d := by omega
    clear hz z1 z2 hZ hZe hz1 hzero
    go_wp2_with fail
    go_region_held3 (fun w' => w'.cell? ⟨bt, 0, none⟩ = some (.int .u32 q)) (first | exact htq1 | exact htq2 | go_keep)
      ((go_at_call 14; refine (readvarintB T rest g (o + (uv (zz d)).length) (n - (uv (zz d)).length) (c - (uv (zz d)).length) L bp w1.drew HL.out (show TReads w1.drew g T from HT1.out) HD2.out hr (by have := HN.out; have := HNO.out; omega) (by omega) (by omega) (Whole.drawn HP1.out) _).mono ?_; rintro e w2 ⟨rfl, HP2, hg2⟩; have htq2 := grown_cell hg2 (show bt ≠ bp by omega) (show w1.drew.cell? ⟨bt, 0, none⟩ = some (.int .u32 q) from htq1)))
    have HPC2 := Lib.hid ((Whole.drawn HPC1.out).grown hg2 (fun e => hne1.out (by injection e)))
    have HV2 := Lib.hid ((Whole.drawn HV1.out).grown hg2 (fun e => hne2.out (by injection e)))
    have HB2 := Lib.hid (HB1.out.drew.grown hg2 (Nat.le_trans hBw HB1.out.size) (fun k hk => by injection hk with hk; omega))
    have c1 := HPC2.out.cell 0
    have c2 := HPC2.out.frozen 0
    have HPC3 := Lib.hid (HPC2.out.put (.int .u64 (pcv + Pq)))
    have HV3 := Lib.hid (HV2.out.aside (p := ⟨bc, 0, none⟩) hne3.out (.int .u64 (pcv + Pq)))
    have HP3 := Lib.hid (HP2.out.aside (p := ⟨bc, 0, none⟩) (fun e => hne1.out e.symm) (.int .u64 (pcv + Pq)))
    have c3 := HV3.out.cell 0
    have c4 := HV3.out.frozen 0
    clear hg2
    go_wp2_with fail
    go_ret
    refine ⟨rfl, ?_, ?_, ?_, ?_⟩
    · exact HP3.out.aside (p := ⟨bv, 0, none⟩) (fun e => hne2.out e.symm) _
    · rw [hP]; exact HPC3.out.aside (p := ⟨bv, 0, none⟩) (fun e => hne3.out e.symm) _
    · exact HV3.out.put _
    · exact (HB2.out.setCell (p := ⟨bc, 0, none⟩) hbc _).setCell (p := ⟨bv, 0, none⟩) hbv _
  · obtain ⟨z1, z2⟩ := zz_even hneg
    have hz0' : (Z == 0) = false := by simp; omega
    have hb1 := low_bit (zz d) HLZ.out
    rw [z1, hZ] at hb1
    have hx : Z / 2 = d := by omega
    clear hz z1 z2 hZ hzero
    go_wp2_with fail
    go_region_held3 (fun w' => w'.cell? ⟨bt, 0, none⟩ = some (.int .u32 q)) (first | exact htq1 | exact htq2 | go_keep)
      ((go_at_call 14; refine (readvarintB T rest g (o + (uv (zz d)).length) (n - (uv (zz d)).length) (c - (uv (zz d)).length) L bp w1.drew HL.out (show TReads w1.drew g T from HT1.out) HD2.out hr (by have := HN.out; have := HNO.out; omega) (by omega) (by omega) (Whole.drawn HP1.out) _).mono ?_; rintro e w2 ⟨rfl, HP2, hg2⟩; have htq2 := grown_cell hg2 (show bt ≠ bp by omega) (show w1.drew.cell? ⟨bt, 0, none⟩ = some (.int .u32 q) from htq1)))
    have HPC2 := Lib.hid ((Whole.drawn HPC1.out).grown hg2 (fun e => hne1.out (by injection e)))
    have HV2 := Lib.hid ((Whole.drawn HV1.out).grown hg2 (fun e => hne2.out (by injection e)))
    have HB2 := Lib.hid (HB1.out.drew.grown hg2 (Nat.le_trans hBw HB1.out.size) (fun k hk => by injection hk with hk; omega))
    have c1 := HPC2.out.cell 0
    have c2 := HPC2.out.frozen 0
    have HPC3 := Lib.hid (HPC2.out.put (.int .u64 (pcv + Pq)))
    have HV3 := Lib.hid (HV2.out.aside (p := ⟨bc, 0, none⟩) hne3.out (.int .u64 (pcv + Pq)))
    have HP3 := Lib.hid (HP2.out.aside (p := ⟨bc, 0, none⟩) (fun e => hne1.out e.symm) (.int .u64 (pcv + Pq)))
    have c3 := HV3.out.cell 0
    have c4 := HV3.out.frozen 0
    clear hg2
    go_wp2_with fail
    go_ret
    refine ⟨rfl, ?_, ?_, ?_, ?_⟩
    · exact HP3.out.aside (p := ⟨bv, 0, none⟩) (fun e => hne2.out e.symm) _
    · rw [hP]; exact HPC3.out.aside (p := ⟨bv, 0, none⟩) (fun e => hne3.out e.symm) _
    · exact HV3.out.put _
    · exact (HB2.out.setCell (p := ⟨bc, 0, none⟩) hbc _).setCell (p := ⟨bv, 0, none⟩) hbv _
  · obtain ⟨z1, z2⟩ := zz_odd hneg
    have hz0' : (Z == 0) = false := by simp; omega
    have hb1 := low_bit (zz d) HLZ.out
    rw [z1, hZ] at hb1
    have hx : wrap32 (bits BinOp.xor .u32 IntKind.u32.max (Z / 2)) = d := by
      have := not_u32 (zz d / 2) (by have := HLZ.out; omega)
      rw [show ((zz d / 2 : Nat) : Int) = Z / 2 by omega] at this
      rw [this]
      unfold wrap32
      omega
    clear hz z1 z2 hZ
    go_wp2_with fail
    go_region_held3 (fun w' => w'.cell? ⟨bt, 0, none⟩ = some (.int .u32 q)) (first | exact htq1 | exact htq2 | go_keep)
      ((go_at_call 14; refine (readvarintB T rest g (o + (uv (zz d)).length) (n - (uv (zz d)).length) (c - (uv (zz d)).length) L bp w1.drew HL.out (show TReads w1.drew g T from HT1.out) HD2.out hr (by have := HN.out; have := HNO.out; omega) (by omega) (by omega) (Whole.drawn HP1.out) _).mono ?_; rintro e w2 ⟨rfl, HP2, hg2⟩; have htq2 := grown_cell hg2 (show bt ≠ bp by omega) (show w1.drew.cell? ⟨bt, 0, none⟩ = some (.int .u32 q) from htq1)))
    have HPC2 := Lib.hid ((Whole.drawn HPC1.out).grown hg2 (fun e => hne1.out (by injection e)))
    have HV2 := Lib.hid ((Whole.drawn HV1.out).grown hg2 (fun e => hne2.out (by injection e)))
    have HB2 := Lib.hid (HB1.out.drew.grown hg2 (Nat.le_trans hBw HB1.out.size) (fun k hk => by injection hk with hk; omega))
    have c1 := HPC2.out.cell 0
    have c2 := HPC2.out.frozen 0
    have HPC3 := Lib.hid (HPC2.out.put (.int .u64 (pcv + Pq)))
    have HV3 := Lib.hid (HV2.out.aside (p := ⟨bc, 0, none⟩) hne3.out (.int .u64 (pcv + Pq)))
    have HP3 := Lib.hid (HP2.out.aside (p := ⟨bc, 0, none⟩) (fun e => hne1.out e.symm) (.int .u64 (pcv + Pq)))
    have c3 := HV3.out.cell 0
    have c4 := HV3.out.frozen 0
    clear hg2
    go_wp2_with fail
    go_ret
    refine ⟨rfl, ?_, ?_, ?_, ?_⟩
    · exact HP3.out.aside (p := ⟨bv, 0, none⟩) (fun e => hne2.out e.symm) _
    · rw [hP]; exact HPC3.out.aside (p := ⟨bv, 0, none⟩) (fun e => hne3.out e.symm) _
    · exact HV3.out.put _
    · exact (HB2.out.setCell (p := ⟨bc, 0, none⟩) hbc _).setCell (p := ⟨bv, 0, none⟩) hbv _
end Go.Proofs.Ytlafajpbgiohaad
