/-
  THE WALKS of the reader of debug/gosym, for FnValue: readvarint (function 14), step (13), pcvalue (12).
-/
import Derived.Test.YtlafajpbgiohaadSpec
import Derived.Test.YtlafajpbgiohaadBits
import Derived.Deep.RegionWith
import Derived.Deep.RegionHeld3
namespace Go.Proofs.Ytlafajpbgiohaad
open Go.RowKit
theorem ret_u32' {a b : Int} (h : a = b) : Ending.returned (.int .u32 a) = .returned (.int .u32 b) := by rw [h]
/-- a round that ends the number -/
theorem rv_last {m u k : Nat} {V s U : Int} (hm : m < 4294967296) (hu : u < 128) (hU : (u : Int) = U) (hV0 : 0 ≤ V) (hV : V.toNat < 2 ^ (7 * k)) (hVm : V.toNat + u * 2 ^ (7 * k) = m) (hs : s = ((7 * k : Nat) : Int)) : orV V U s = (m : Int) := by
  subst hU
  subst hs
  have := orV_eq V.toNat u k hV (by omega) (by rw [Nat.mod_eq_of_lt hu, hVm]; exact hm)
  rw [Int.toNat_of_nonneg hV0, Nat.mod_eq_of_lt hu, hVm] at this
  exact this
/-- a round behind which more follow -/
theorem rv_more {m u k : Nat} {V s U : Int} (hm : m < 4294967296) (hU : ((u % 128 + 128 : Nat) : Int) = U) (hV0 : 0 ≤ V) (hV : V.toNat < 2 ^ (7 * k)) (hVm : V.toNat + u * 2 ^ (7 * k) = m) (hs : s = ((7 * k : Nat) : Int)) :
    0 ≤ orV V U s ∧ (orV V U s).toNat < 2 ^ (7 * (k + 1)) ∧ (orV V U s).toNat + u / 128 * 2 ^ (7 * (k + 1)) = m := by
  subst hU
  subst hs
  have e1 : (u % 128 + 128) % 128 = u % 128 := by omega
  have e2 : 2 ^ (7 * (k + 1)) = 128 * 2 ^ (7 * k) := by rw [Nat.mul_add, Nat.pow_add]; omega
  have e3 : u * 2 ^ (7 * k) = u % 128 * 2 ^ (7 * k) + u / 128 * (128 * 2 ^ (7 * k)) := by
    rw [← Nat.mul_assoc, ← Nat.add_mul]
    congr 1
    omega
  have := orV_eq V.toNat (u % 128 + 128) k hV (by omega) (by rw [e1]; have := Nat.zero_le (u / 128 * (128 * 2 ^ (7 * k))); omega)
  rw [Int.toNat_of_nonneg hV0, e1] at this
  rw [this, Int.toNat_natCast, e2]
  refine ⟨by omega, ?_, by omega⟩
  have h7 : u % 128 * 2 ^ (7 * k) ≤ 127 * 2 ^ (7 * k) := Nat.mul_le_mul_right _ (by omega)
  omega
theorem rv_k {m u k : Nat} (hm : m < 4294967296) (hu : ¬ u < 128) (hk : k ≤ 4) (V : Nat) (hVm : V + u * 2 ^ (7 * k) = m) : k + 1 ≤ 4 := by
  rcases Nat.lt_or_ge k 4 with h | h
  · omega
  · obtain rfl : k = 4 := by omega
    omega
theorem set_slice {w : World} {a : Addr} {g o o' n n' c c' : Nat} (h1 : o = o') (h2 : n = n') (h3 : c = c') : w.setCell a (.slice (some ⟨g, o, none⟩) n c) = w.setCell a (.slice (some ⟨g, o', none⟩) n' c') := by
  subst h1; subst h2; subst h3; rfl
/-- the bytes of all tables, at the head of block g -/
def TReads (w : World) (g : Nat) (T : List Nat) : Prop := ∀ (j b : Nat), T[j]? = some b → w.cell? ⟨g, j, none⟩ = some (.int .u8 (b : Int)) ∧ b < 256
/-- what is left from place o on -/
def sliceAt (g o n c : Nat) : Value := .slice (some ⟨g, o, none⟩) n c
/-- the loop of readvarint at its head: k groups are read, u is what they are of -/
def RvRest (T rest : List Nat) (g o n c m : Nat) (vv vs vp : Value) : Prop :=
  ∃ (k u : Nat) (V s : Int), vv = .int .u32 V ∧ vs = .int .u32 s ∧ vp = .slice (some ⟨g, o + k, none⟩) (n - k) (c - k) ∧ s = ((7 * k : Nat) : Int) ∧ k ≤ 4 ∧ 0 ≤ V ∧ V.toNat < 2 ^ (7 * k) ∧ V.toNat + u * 2 ^ (7 * k) = m ∧ T.drop (o + k) = uv u ++ rest ∧ (uv u).length + k = (uv m).length

set_option maxHeartbeats 800000 in
theorem readvarint (T rest : List Nat) (g o n c m bp : Nat) (w : World) (hm : m < 4294967296) (hT : TReads w g T) (hd : T.drop o = uv m ++ rest) (hr : 0 < rest.length) (hn : o + n = T.length) (hc : n ≤ c) (hcm : c ≤ 9223372036854775807)
    (hp : Whole w bp 22 #[.slice (some ⟨g, o, none⟩) n c]) (ot : Option Addr) :
    Calls Try.prog 14 #[.pointer ot, .pointer (some ⟨bp, 0, none⟩)] w fun e w' => e = .returned (.int .u32 (m : Int)) ∧ w.setCell ⟨bp, 0, none⟩ (.slice (some ⟨g, o + (uv m).length, none⟩) (n - (uv m).length) (c - (uv m).length)) = w' := by
  have hlen := uv_length hm
  have hp0 := hp.cell 0
  have hpf := hp.frozen 0
  have HT := Lib.hid hT
  have HD := Lib.hid hd
  have HM := Lib.hid hm
  have hno : n = (uv m).length + rest.length := by
    have := congrArg List.length hd
    simp only [List.length_drop, List.length_append] at this
    omega
  have HN := Lib.hid hno
  have HN2 := Lib.hid hn
  clear hT hd hp hm hno hn
  go_enter Try.func14, Try.ntmps14
  go_wp2_with fail
  go_loop [5, 6, 7] (fun vv vs vp => RvRest T rest g o n c m vv vs vp) (fun _ vs _ => (35 - intOf vs).toNat)
  case atStart => exact ⟨0, m, 0, 0, rfl, rfl, rfl, rfl, by omega, by omega, by simp, by simp, HD.out, by simp⟩
  case round =>
    obtain ⟨k, u, V, s, rfl, rfl, rfl, hs, hk, hV0, hV, hVm, hTk, hlk⟩ := hrel
    obtain ⟨nn, hnn⟩ : ∃ nn, nn = n - k := ⟨_, rfl⟩
    obtain ⟨cc, hcc⟩ : ∃ cc, cc = c - k := ⟨_, rfl⟩
    have hs0 : 0 ≤ s := by omega
    have hs1 : s ≤ 28 := by omega
    have hup := uv_pos u
    have hnn2 : 2 ≤ nn := by have := HN.out; omega
    have hcc2 : nn ≤ cc := by omega
    have hccm : cc ≤ 9223372036854775807 := by omega
    rw [← hnn, ← hcc]
    by_cases hu : u < 128
    · have hb : T[o + k]? = some u := by
        have := congrArg (fun l : List Nat => l[0]?) hTk
        simp only [List.getElem?_drop, uv_small hu] at this
        simpa using this
      obtain ⟨hcell, hb8⟩ := HT.out _ _ hb
      have htop : (bits BinOp.and .u8 (u : Int) 128 == 0) = true := by rw [top_lo hu]; rfl
      obtain ⟨U, hU⟩ : ∃ U : Int, (u : Int) = U := ⟨_, rfl⟩
      rw [hU] at hcell htop
      have hU0 : 0 ≤ U := by omega
      have hU1 : U < 128 := by omega
      have HV := Lib.hid hV
      have HVM := Lib.hid hVm
      have HTK := Lib.hid hTk
      have HLK := Lib.hid hlk
      have HS := Lib.hid hs
      have HU := Lib.hid hU
      have HNN := Lib.hid hnn
      have HCC := Lib.hid hcc
      clear hV hVm hTk hlk hs hU hnn hcc hb
      go_wp2_with fail
      go_ret
      refine ⟨ret_u32' ?_, ?_⟩
      · exact rv_last HM.out hu HU.out hV0 HV.out HVM.out HS.out
      · have h1 := HLK.out
        rw [uv_small hu] at h1
        simp only [List.length_singleton] at h1
        have h2 := HNN.out
        have h3 := HCC.out
        exact set_slice (by omega) (by omega) (by omega)
    · have hb : T[o + k]? = some (u % 128 + 128) := by
        have := congrArg (fun l : List Nat => l[0]?) hTk
        simp only [List.getElem?_drop, uv_large hu] at this
        simpa using this
      have hT1 : T.drop (o + (k + 1)) = uv (u / 128) ++ rest := by
        have := congrArg (fun l : List Nat => l.drop 1) hTk
        simp only [List.drop_drop, uv_large hu] at this
        rw [Nat.add_assoc] at this
        simpa using this
      obtain ⟨hcell, hb8⟩ := HT.out _ _ hb
      have htop : (bits BinOp.and .u8 ((u % 128 + 128 : Nat) : Int) 128 == 0) = false := by rw [top_hi (by omega) (by omega)]; rfl
      obtain ⟨U, hU⟩ : ∃ U : Int, ((u % 128 + 128 : Nat) : Int) = U := ⟨_, rfl⟩
      rw [hU] at hcell htop
      have hU0 : 0 ≤ U := by omega
      have hU1 : U < 256 := by omega
      have hk1 := rv_k HM.out hu hk V.toNat hVm
      have hlk1 : (uv (u / 128)).length + (k + 1) = (uv m).length := by rw [uv_large hu] at hlk; simp only [List.length_cons] at hlk; omega
      have HV := Lib.hid hV
      have HVM := Lib.hid hVm
      have HLK := Lib.hid hlk1
      have HS := Lib.hid hs
      have HU := Lib.hid hU
      have HNN := Lib.hid hnn
      have HCC := Lib.hid hcc
      have HT1 := Lib.hid hT1
      clear hV hVm hTk hlk hlk1 hs hU hnn hcc hb hT1 hb8
      go_wp2_with fail
      go_round
      case rel =>
        obtain ⟨g1, g2, g3⟩ := rv_more HM.out HU.out hV0 HV.out HVM.out HS.out
        have h2 := HNN.out
        have h3 := HCC.out
        have h4 := HS.out
        exact ⟨k + 1, u / 128, _, _, rfl, rfl, by rw [Nat.add_assoc, show nn - 1 = n - (k + 1) by omega, show cc - 1 = c - (k + 1) by omega], by omega, hk1, g1, g2, g3, HT1.out, HLK.out⟩
      case measure => simp [intOf]; omega
end Go.Proofs.Ytlafajpbgiohaad
