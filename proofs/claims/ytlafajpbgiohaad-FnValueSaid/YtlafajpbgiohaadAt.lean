/-
  THE WALKS of the reader of debug/gosym, for FnValue: readvarint (function 14), step (13), pcvalue (12).
-/
import Derived.Test.YtlafajpbgiohaadSpec
import Derived.Test.YtlafajpbgiohaadTab
import Derived.Test.YtlafajpbgiohaadPcv
import Derived.Deep.RegionWith
import Derived.Deep.RegionHeld3
namespace Go.Proofs.Ytlafajpbgiohaad
open Go.RowKit
theorem treads_own {w : World} {base n : Nat} {T : List Nat} {g c : Nat} (h : w.ownsRow base 5 1 (.slice (some ⟨g, 0, none⟩) n c) n (cells8 T)) (hT : ∀ b ∈ T, b < 256) : TReads w g T := fun j b hj => by
  refine ⟨?_, hT b (List.mem_of_getElem? hj)⟩
  have := h.cells (g := g) rfl j (.int .u8 (b : Int)) (by simp [cells8, hj])
  rwa [show (⟨g, 0, none⟩ : Addr).add j = ⟨g, j, none⟩ by unfold Addr.add; split <;> simp_all] at this
/-- '[]byte{}': an empty row of the call's own -/
theorem own_empty (w : World) : Hid ((w.alloc (.cells #[] 5)).ownsRow w.heap.size 5 1 (.slice (some ⟨w.heap.size, 0, none⟩) 0 0) ([] : List Nat).length (cells8 [])) :=
  World.ownsRow_lit (base := w.heap.size) (e := 5) (size := 1) w #[] 0 (Nat.le_refl _) (by simp [maxLen]) (by simp)

set_option maxHeartbeats 400000 in
theorem clone11 (T : List Nat) (g c B : Nat) (w : World) (ho : w.ownsRow B 5 1 (.slice (some ⟨g, 0, none⟩) T.length c) T.length (cells8 T)) (hl : T.length ≤ 70368744177664) :
    Calls Try.prog 11 #[.slice (some ⟨g, 0, none⟩) T.length c] w (SomeRow T w) := by
  have hnil := Lib.run_eql_slice_nil (P := Try.prog)
  have HO := Lib.hid ho
  clear ho
  go_enter Try.func11, Try.ntmps11
  go_wp2_with (at_builtin; refine append_row (w0 := w) rfl (.tmp 5) (.tmp 6) rfl _ [] T _ _ B rfl rfl (own_empty w) ((Below.refl _ _).alloc (Nat.le_refl _) _) (HO.out.alloc _) (by simp; omega) ?_; intro v1 w1 ho1 hb1 _)
  go_ret
  exact ⟨_, rfl, ho1, hb1⟩
set_option maxHeartbeats 400000 in
theorem zzvalue10 (T rest : List Nat) (ps : List Piece) (g C q o entry place : Nat) (x : Int) (w : World) (hT : TReads w g T) (hd : T.drop o = tab (-1) ps ++ rest) (hc : T.length ≤ C) (hcm : C ≤ 9223372036854775807)
    (hps : ∀ p ∈ ps, -2147483648 ≤ p.1 ∧ p.1 ≤ 2147483647 ∧ p.2 < 4294967296) (hrt : right q none 0 ps = true) (hat : atF ps (place / q) = (x, true)) (hq0 : 0 < q) (hq1 : q < 4294967296) (hen : entry < 4611686018427387904) (hpl : place < 4294967296) (hg : g < w.heap.size)
    (O Q E Tg : Int) (hO : (o : Int) = O) (hQ : (q : Int) = Q) (hE : (entry : Int) = E) (hTg : ((entry + place : Nat) : Int) = Tg) :
    Calls Try.prog 10 #[.slice (some ⟨g, 0, none⟩) T.length C, .int .u32 Q, .int .u32 O, .int .u64 E, .int .u64 Tg] w (PvPost x w) := by
  have hb1 := Whole.fresh w 39 #[.int .u32 Q, .slice (some ⟨g, 0, none⟩) T.length C]
  have hc0 : (w.alloc (.cells #[.int .u32 Q, .slice (some ⟨g, 0, none⟩) T.length C] 39)).cell? ⟨w.heap.size, 0, none⟩ = some (.int .u32 (q : Int)) := by rw [hQ]; exact hb1.cell 0
  have hc1 := hb1.cell 1
  have hT1 : TReads (w.alloc (.cells #[.int .u32 Q, .slice (some ⟨g, 0, none⟩) T.length C] 39)) g T := fun j b hj => ⟨(World.cell?_alloc_lt w _ ⟨g, j, none⟩ hg).trans (hT j b hj).1, (hT j b hj).2⟩
  have h := pcvalue12 T rest ps g C w.heap.size q o entry place x _ hT1 hd hc hcm hps hrt hat hq0 hq1 hen hpl hc0 hc1 (by simp; omega)
  rw [hO, hE, hTg] at h
  have H := Lib.hid h
  clear h hT1 hc0 hc1 hb1 hO hQ hE hTg hT hd hps hrt hat
  go_enter Try.func10, Try.ntmps10
  go_wp2_with fail
  refine H.out.mono ?_
  rintro e w1 ⟨rfl, hb⟩
  go_wp2_with fail
  go_ret
  exact ⟨rfl, below_then5 ((Below.refl _ _).alloc (Nat.le_refl _) _) (by simp) hb⟩
/-- the answer of the reader, at a table of the call's own -/
theorem valueat7 (T rest : List Nat) (ps : List Piece) (g c B q o entry place : Nat) (x : Int) (w : World) (ho : w.ownsRow B 5 1 (.slice (some ⟨g, 0, none⟩) T.length c) T.length (cells8 T)) (hT8 : ∀ b ∈ T, b < 256) (hTl : T.length ≤ 70368744177664) (hd : T.drop o = tab (-1) ps ++ rest)
    (hps : ∀ p ∈ ps, -2147483648 ≤ p.1 ∧ p.1 ≤ 2147483647 ∧ p.2 < 4294967296) (hrt : right q none 0 ps = true) (hat : atF ps (place / q) = (x, true)) (hq0 : 0 < q) (hq1 : q < 4294967296) (hen : entry < 4611686018427387904) (hpl : place < 4294967296)
    (O Q E Tg : Int) (hO : (o : Int) = O) (hQ : (q : Int) = Q) (hE : (entry : Int) = E) (hTg : ((entry + place : Nat) : Int) = Tg) :
    Calls Try.prog 7 #[.slice (some ⟨g, 0, none⟩) T.length c, .int .u32 Q, .int .u32 O, .int .u64 E, .int .u64 Tg] w (PvPost x w) := by
  have hTp : 0 < T.length := by
    have := congrArg List.length hd
    have h1 := tab_pos (-1) ps
    simp only [List.length_drop, List.length_append] at this
    omega
  have HK := Lib.hid (clone11 T g c B w ho hTl)
  have HZ : Hid (∀ (w1 : World) (g1 c1 : Nat), w1.ownsRow w.heap.size 5 1 (.slice (some ⟨g1, 0, none⟩) T.length c1) T.length (cells8 T) → g1 < w1.heap.size → Calls Try.prog 10 #[.slice (some ⟨g1, 0, none⟩) T.length c1, .int .u32 Q, .int .u32 O, .int .u64 E, .int .u64 Tg] w1 (PvPost x w1)) := by
    intro w1 g1 c1 ho1 hg1
    rcases ho1.2 with ⟨h3, _⟩ | ⟨g2, cap, cur, h3, _, _, h4, h5, _⟩
    · cases h3
    · obtain ⟨rfl, rfl⟩ : g1 = g2 ∧ c1 = cap := by injection h3 with h3 _ h6; injection h3 with h3; injection h3 with h3; exact ⟨h3, h6⟩
      exact zzvalue10 T rest ps g1 c1 q o entry place x w1 (treads_own ho1 hT8) hd h4 (by simpa [maxLen] using h5) hps hrt hat hq0 hq1 hen hpl hg1 O Q E Tg hO hQ hE hTg
  clear ho hT8 hd hps hrt hat hO hQ hE hTg hTl
  go_enter Try.func7, Try.ntmps7
  go_wp2_with fail
  refine HK.out.mono ?_
  rintro e w1 ⟨v1, rfl, ho1, hb1⟩
  obtain ⟨g1, c1, rfl, _, hlt⟩ := ho1.out.form hTp
  go_wp2_with fail
  refine (HZ.out w1 g1 c1 ho1.out hlt).mono ?_
  rintro e w2 ⟨rfl, hb2⟩
  go_wp2_with fail
  go_ret
  exact ⟨rfl, below_then5 hb1 hb1.size hb2⟩
end Go.Proofs.Ytlafajpbgiohaad
