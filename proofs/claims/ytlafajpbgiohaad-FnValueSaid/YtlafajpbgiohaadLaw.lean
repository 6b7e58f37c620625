/-
  THE WALK of the law FnValue (function 3): it returns true whatever came in, and writes nothing that was there.
-/
import Derived.Test.YtlafajpbgiohaadAt
namespace Go.Proofs.Ytlafajpbgiohaad
open Go.RowKit
theorem own_mono5 {w : World} {base base' n : Nat} {e : TypeId} {size : Nat} {v : Value} {xs : List Value} (h : w.ownsRow base e size v n xs) (hb : base' ≤ base) : w.ownsRow base' e size v n xs := by
  rcases h.2 with h2 | ⟨g, cap, cur, h3, h4, h5⟩
  · exact ⟨h.1, .inl h2⟩
  · exact ⟨h.1, .inr ⟨g, cap, cur, h3, Nat.le_trans hb h4, h5⟩⟩
theorem PReads.more {w : World} {B B' : Nat} {A : Option Addr} {ps : List Piece} (h : PReads w B A ps) (hB : B ≤ B') : PReads w B' A ps := fun hp => by
  obtain ⟨b, off, h1, h2, h3⟩ := h hp
  exact ⟨b, off, h1, Nat.lt_of_lt_of_le h2 hB, h3⟩
/-- append(out, came...): what is appended came in -/
theorem append_src {ops : Array Oper} {rest : List Oper} {o : Oper} {a : Act} {Q : Exit → Act → World → Prop} {w0 W : World} (hgd : o.guard = none) (s x : Operand)
    (ho : o.op = .call { callee := .builtin .append, args := #[s, x], argTypes := #[22, 22] })
    (v : Value) (bs cs : List Nat) (A2 : Option Addr) (c2 : Nat) (hs : a.eval s = v) (hx : a.eval x = .slice A2 cs.length c2)
    (HO : Hid (W.ownsRow w0.heap.size 5 1 v bs.length (cells8 bs))) (HB : Below w0.heap.size w0 W)
    (HR : Hid (Came w0 w0.heap.size A2 c2 cs)) (hl : bs.length + cs.length ≤ 70368744177664)
    (h : ∀ v1 w1, Hid (w1.ownsRow w0.heap.size 5 1 v1 (bs ++ cs).length (cells8 (bs ++ cs))) → Below w0.heap.size w0 w1 → wpList Try.prog ops Q rest (a.put o.dst v1) w1) :
    wpList Try.prog ops Q (o :: rest) a W :=
  append_came hgd s x ho v bs cs A2 c2 w0.heap.size hs hx HO HB (HR.out.below HB) hl fun v1 w1 h1 h2 _ => h v1 w1 h1 h2
theorem tab_bytes (v : Int) (ps : List Piece) : ∀ b ∈ tab v ps, b < 256 := by
  induction ps generalizing v with
  | nil => intro b hb; simp [tab] at hb; omega
  | cons p r ih =>
    intro b hb
    simp only [tab, List.mem_append] at hb
    rcases hb with hb | hb | hb
    · exact uv_bytes _ _ (Nat.le_refl _) b hb
    · exact uv_bytes _ _ (Nat.le_refl _) b hb
    · exact ih _ b hb
theorem place_lt (q : Nat) (ps : List Piece) : ∀ (prev : Option Int) (s Q : Nat) (x : Int), right q prev s ps = true → atF ps Q = (x, true) → s + (Q + 1) * q < 4294967296 := by
  induction ps with
  | nil => intro prev s Q x _ h; simp [atF] at h
  | cons p r ih =>
    intro prev s Q x h1 h2
    rw [right] at h1
    split at h1
    · cases h1
    · split at h1
      · cases h1
      · rw [atF] at h2
        split at h2
        · have := Nat.mul_le_mul_right q (show Q + 1 ≤ p.2 by omega)
          omega
        · rename_i h3
          have h4 := ih _ _ _ _ h1 h2
          have h5 : (Q + 1) * q = p.2 * q + (Q - p.2 + 1) * q := by rw [← Nat.add_mul]; congr 1; omega
          omega
theorem tab_one : tab (-1) [((1 : Int), (1 : Nat))] = [4, 1, 0] := by
  have h : zz (wrap32 (1 - -1)) = 4 := by decide +kernel
  simp only [tab, h]
  rw [uv_small (by omega), uv_small (by omega)]
  rfl
/-- the anchor: the table 4, 1, 0 has 1 at place 0 -/
theorem anchor7 (w : World) (g B : Nat) (ho : w.ownsRow B 5 1 (.slice (some ⟨g, 0, none⟩) 3 3) 3 (cells8 [4, 1, 0])) :
    Calls Try.prog 7 #[.slice (some ⟨g, 0, none⟩) 3 3, .int .u32 1, .int .u32 0, .int .u64 0, .int .u64 0] w (PvPost 1 w) :=
  valueat7 [4, 1, 0] [] [(1, 1)] g 3 B 1 0 0 0 1 w ho (by simp) (by simp) (by rw [tab_one]; rfl) (by simp) (by simp [right]) (by simp [atF]) (by omega) (by omega) (by omega) (by omega) 0 1 0 0 rfl rfl rfl rfl
theorem toNat_div (p s : Int) (h0 : 0 ≤ p) (h1 : 0 ≤ s) : (p / s).toNat = p.toNat / s.toNat := by
  obtain ⟨a, rfl⟩ := Int.eq_ofNat_of_zero_le h0
  obtain ⟨b, rfl⟩ := Int.eq_ofNat_of_zero_le h1
  rw [← Int.natCast_ediv, Int.toNat_natCast, Int.toNat_natCast, Int.toNat_natCast]
def TrueBelow (w : World) (e : Ending) (w' : World) : Prop := e = .returned (.bool true) ∧ Below w.heap.size w w'
/-- what the walk is told of the arguments -/
structure Given (w : World) (A0 A1 A2 : Option Addr) (c0 c2 : Nat) (fs ts : List Nat) (ps : List Piece) : Prop where
  hf : Came w w.heap.size A0 c0 fs
  ht : Came w w.heap.size A2 c2 ts
  hp : PReads w w.heap.size A1 ps
  hf8 : ∀ b ∈ fs, b < 256
  ht8 : ∀ b ∈ ts, b < 256

set_option maxHeartbeats 1600000 in
theorem outside3 (w : World) (A0 A1 A2 : Option Addr) (c0 c1 c2 n0 n1 n2 : Nat) (sc en pl : Int) (hn : ¬ ((n0 : Int) ≤ 2147483647 ∧ (n1 : Int) ≤ 2147483647 ∧ (n2 : Int) ≤ 2147483647)) :
    Calls Try.prog 3 #[.slice A0 n0 c0, .slice A1 n1 c1, .slice A2 n2 c2, .int .u32 sc, .int .u64 en, .int .u64 pl] w (TrueBelow w) := by
  by_cases h0 : (n0 : Int) ≤ 2147483647
  · by_cases h1 : (n1 : Int) ≤ 2147483647
    · have h2 : 2147483647 < (n2 : Int) := by omega
      clear hn
      go_enter Try.func3, Try.ntmps3
      go_wp2_with fail
      go_ret
      exact ⟨rfl, Below.refl _ _⟩
    · have h2 : 2147483647 < (n1 : Int) := by omega
      clear hn h1
      go_enter Try.func3, Try.ntmps3
      go_wp2_with fail
      go_ret
      exact ⟨rfl, Below.refl _ _⟩
  · have h2 : 2147483647 < (n0 : Int) := by omega
    clear hn h0
    go_enter Try.func3, Try.ntmps3
    go_wp2_with fail
    go_ret
    exact ⟨rfl, Below.refl _ _⟩
set_option maxHeartbeats 1600000 in
theorem inside3 (w : World) (A0 A1 A2 : Option Addr) (c0 c1 c2 : Nat) (fs ts : List Nat) (ps : List Piece) (sc en pl : Int) (G : Given w A0 A1 A2 c0 c2 fs ts ps)
    (hn0 : (fs.length : Int) ≤ 2147483647) (hn1 : (ps.length : Int) ≤ 2147483647) (hn2 : (ts.length : Int) ≤ 2147483647) (hs0 : 0 ≤ sc) (hs1 : sc < 4294967296) (he0 : 0 ≤ en) (he1 : en < 18446744073709551616) (hp0 : 0 ≤ pl) (hp1 : pl < 18446744073709551616) :
    Calls Try.prog 3 #[.slice A0 fs.length c0, .slice A1 ps.length c1, .slice A2 ts.length c2, .int .u32 sc, .int .u64 en, .int .u64 pl] w (TrueBelow w) := by
  have HG := Lib.hid G
  clear G
  go_enter Try.func3, Try.ntmps3
  go_wp2_with fail
  refine (right4 ps A1 c1 sc _ HG.out.hp (by omega) hs0 hs1).mono ?_
  rintro e w1 ⟨rfl, hb1⟩
  obtain ⟨R, hR⟩ : ∃ R : Bool, (right sc.toNat none 0 ps && decide (0 < ps.length) && decide (0 < sc)) = R := ⟨_, rfl⟩
  rw [hR]
  cases R with
  | false =>
    clear hR
    go_wp2_with fail
    go_ret
    exact ⟨rfl, hb1⟩
  | true =>
    have HR := Lib.hid hR
    have hsc : (sc == 0) = false := by simp only [Bool.and_eq_true, decide_eq_true_eq] at hR; simp; omega
    have hsp : 0 < sc := by simp only [Bool.and_eq_true, decide_eq_true_eq] at hR; omega
    clear hR
    by_cases hen : 4611686018427387904 ≤ en
    · go_wp2_with fail
      go_ret
      exact ⟨rfl, hb1⟩
    · have hen' : en < 4611686018427387904 := by omega
      clear hen
      go_wp2_with fail
      have hq0 : 0 ≤ pl / sc := Int.ediv_nonneg hp0 hs0
      have hq1 : pl / sc ≤ pl := Int.ediv_le_self _ hp0
      have hqn := toNat_div pl sc hp0 hs0
      refine (at5 ps A1 c1 (pl / sc) _ ((HG.out.hp.below hb1).more hb1.size) (by omega) hq0 (by omega)).mono ?_
      rintro e w2 ⟨rfl, hb2'⟩
      have hb2 := below_then5 hb1 hb1.size hb2'
      obtain ⟨x, ok, hxo⟩ : ∃ x ok, atF ps (pl / sc).toNat = (x, ok) := ⟨_, _, rfl⟩
      rw [hxo]
      rw [hqn] at hxo
      dsimp only
      have HX := Lib.hid hxo
      have HE := Lib.hid (own_mono5 (own_empty w2).out hb2.size)
      have hbE := hb2.alloc hb2.size (.cells #[] 5)
      have HF := Lib.hid HG.out.hf
      have HTL := Lib.hid HG.out.ht
      have hfl : fs.length ≤ 2147483647 := by omega
      have htl : ts.length ≤ 2147483647 := by omega
      clear hxo hqn hq0 hq1 hb1 hb2' hb2
      have hps : ∀ p ∈ ps, -2147483648 ≤ p.1 ∧ p.1 ≤ 2147483647 ∧ p.2 < 4294967296 := by
        intro p hp
        obtain ⟨j, hj⟩ := List.getElem?_of_mem hp
        obtain ⟨b, off, _, _, h⟩ := HG.out.hp (List.length_pos_of_mem hp)
        exact (h j p hj).2.2
      have htb : (tab (-1) ps).length ≤ 21474836471 := by
        have := tab_length (-1) ps (fun p hp => (hps p hp).2.2)
        omega
      have HPS := Lib.hid hps
      have HTB := Lib.hid htb
      have HL1 : Hid (fs.length + (tab (-1) ps).length ≤ 70368744177664) := by show _ ≤ _; omega
      have HL2 : Hid ((fs ++ tab (-1) ps).length + ts.length ≤ 70368744177664) := by show _ ≤ _; rw [List.length_append]; omega
      clear hps htb
      cases ok with
      | false =>
        go_wp2_with (at_builtin; refine append_src (w0 := w) rfl (.tmp 51) (.tmp 52) rfl _ [] fs A0 c0 rfl rfl HE hbE HF (by simp; omega) ?_; intro v3 w3 ho3 hb3)
        simp only [List.nil_append] at ho3
        refine (table6 ps A1 c1 w3 ((HG.out.hp.below hb3).more hb3.size) (by omega) HTB.out).mono ?_
        rintro e w4 ⟨v4, rfl, ho4, hb4⟩
        obtain ⟨A4, cc4, rfl⟩ := own_shape5 ho4.out
        have HO4 := Lib.hid (own_below5 ho3.out hb4)
        have hbw4 := below_then5 hb3 hb3.size hb4
        clear hb4 ho3 hb3 HE hbE
        go_wp2_with (first | (at_builtin; refine append_row (w0 := w) rfl (.tmp 53) (.tmp 55) rfl _ fs (tab (-1) ps) A4 cc4 _ rfl rfl HO4 hbw4 ho4 HL1.out ?_; intro v5 w5 ho5 hb5 _) | (at_builtin; refine append_src (w0 := w) rfl (.tmp 56) (.tmp 57) rfl _ (fs ++ tab (-1) ps) ts A2 c2 rfl rfl ho5 hb5 HTL HL2.out ?_; intro v6 w6 ho6 hb6))
        go_ret
        exact ⟨rfl, hb6⟩
      | true =>
        obtain ⟨q, hq⟩ : ∃ q : Nat, sc.toNat = q := ⟨_, rfl⟩
        have hrt : right q none 0 ps = true := by have := HR.out; simp only [Bool.and_eq_true] at this; rw [← hq]; exact this.1.1
        have hat : atF ps (pl.toNat / q) = (x, true) := by rw [← hq]; exact HX.out
        have hpl : pl < 4294967296 := by
          have h1 := place_lt q ps none 0 _ x hrt hat
          have h2 := Nat.lt_div_mul_add (a := pl.toNat) (b := q) (by omega)
          have h3 : (pl.toNat / q + 1) * q = pl.toNat / q * q + q := Nat.succ_mul _ _
          omega
        have HVA : Hid (∀ (W : World) (g c : Nat), W.ownsRow w.heap.size 5 1 (.slice (some ⟨g, 0, none⟩) (fs ++ tab (-1) ps ++ ts).length c) (fs ++ tab (-1) ps ++ ts).length (cells8 (fs ++ tab (-1) ps ++ ts)) →
            Calls Try.prog 7 #[.slice (some ⟨g, 0, none⟩) (fs ++ tab (-1) ps ++ ts).length c, .int .u32 sc, .int .u32 (fs.length : Int), .int .u64 en, .int .u64 (en + pl)] W (PvPost x W)) := by
          intro W g c hW
          refine valueat7 (fs ++ tab (-1) ps ++ ts) ts ps g c w.heap.size q fs.length en.toNat pl.toNat x W hW ?_ (by have := HL2.out; simpa [Nat.add_assoc] using this) (by rw [List.append_assoc, List.drop_left]) HPS.out hrt hat (by omega) (by omega) (by omega) (by omega) _ _ _ _ rfl (by omega) (by omega) (by omega)
          intro b hb
          simp only [List.mem_append] at hb
          rcases hb with (hb | hb) | hb
          · exact HG.out.hf8 b hb
          · exact tab_bytes _ _ b hb
          · exact HG.out.ht8 b hb
        have HTP : Hid (0 < (fs ++ tab (-1) ps ++ ts).length) := by show 0 < _; have := tab_pos (-1) ps; simp only [List.length_append]; omega
        clear hrt hat hq
        go_wp2_with (at_builtin; refine append_src (w0 := w) rfl (.tmp 51) (.tmp 52) rfl _ [] fs A0 c0 rfl rfl HE hbE HF (by simp; omega) ?_; intro v3 w3 ho3 hb3)
        simp only [List.nil_append] at ho3
        refine (table6 ps A1 c1 w3 ((HG.out.hp.below hb3).more hb3.size) (by omega) HTB.out).mono ?_
        rintro e w4 ⟨v4, rfl, ho4, hb4⟩
        obtain ⟨A4, cc4, rfl⟩ := own_shape5 ho4.out
        have HO4 := Lib.hid (own_below5 ho3.out hb4)
        have hbw4 := below_then5 hb3 hb3.size hb4
        clear hb4 ho3 hb3 HE hbE
        go_wp2_with (first | (at_builtin; refine append_row (w0 := w) rfl (.tmp 53) (.tmp 55) rfl _ fs (tab (-1) ps) A4 cc4 _ rfl rfl HO4 hbw4 ho4 HL1.out ?_; intro v5 w5 ho5 hb5 _) | (at_builtin; refine append_src (w0 := w) rfl (.tmp 56) (.tmp 57) rfl _ (fs ++ tab (-1) ps) ts A2 c2 rfl rfl ho5 hb5 HTL HL2.out ?_; intro v6 w6 ho6 hb6))
        obtain ⟨g6, c6, rfl, _, _⟩ := ho6.out.form HTP.out
        refine (HVA.out w6 g6 c6 ho6.out).mono ?_
        rintro e w7 ⟨rfl, hb7⟩
        have hb67 := below_then5 hb6 hb6.size hb7
        go_wp2_with fail
        refine (anchor7 _ w7.heap.size w7.heap.size (World.ownsRow_lit (base := w7.heap.size) (e := 5) (size := 1) w7 #[.int .u8 4, .int .u8 1, .int .u8 0] 3 (Nat.le_refl _) (by simp [maxLen]) rfl)).mono ?_
        rintro e w8 ⟨rfl, hb8⟩
        go_wp2_with fail
        go_ret
        exact ⟨rfl, below_then5 (hb67.alloc hb67.size _) (by have := hb67.size; simp; omega) hb8⟩
end Go.Proofs.Ytlafajpbgiohaad
