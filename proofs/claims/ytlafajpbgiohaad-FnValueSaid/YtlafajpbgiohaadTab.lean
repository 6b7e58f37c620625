/-
  THE WALK of the reference's spec.Table (function 6), for FnValue: the table of pieces is 'tab (-1)' of them.
-/
import Derived.Test.YtlafajpbgiohaadSpec
namespace Go.Proofs.Ytlafajpbgiohaad
open Go.RowKit
theorem grown_of_below5 {w w1 : World} (h : Below w.heap.size w w1) (row : Option Nat) : w.grownBy w1 row := ⟨h.os, h.tape, h.output, h.size, fun i hi _ => h.block i hi⟩
theorem own_below5 {w w1 : World} {base : Nat} {e : TypeId} {size n : Nat} {v : Value} {xs : List Value} (h : w.ownsRow base e size v n xs) (hb : Below w.heap.size w w1) : w1.ownsRow base e size v n xs :=
  h.kept (grown_of_below5 hb none) (by cases v.ownBlock <;> simp)
theorem below_then5 {B : Nat} {w w1 w2 : World} (h : Below B w w1) (hB : B ≤ w1.heap.size) (k : Below w1.heap.size w1 w2) : Below B w w2 := h.trans (k.mono hB)
theorem own_shape5 {w : World} {base n : Nat} {e : TypeId} {size : Nat} {v : Value} {xs : List Value} (h : w.ownsRow base e size v n xs) : ∃ A c, v = .slice A n c := by
  rcases h.2 with ⟨rfl, rfl⟩ | ⟨g, cap, cur, rfl, _⟩
  · exact ⟨none, 0, rfl⟩
  · exact ⟨_, cap, rfl⟩
theorem add_same_block (a : Addr) (k : Nat) : (a.add k).block = a.block := by unfold Addr.add; split <;> rfl
/-- bytes that lie at an address below block B, or nil -/
def Came (w : World) (B : Nat) (A : Option Addr) (c : Nat) (bs : List Nat) : Prop :=
  (A = none ∧ c = 0 ∧ bs = []) ∨ ∃ ad, A = some ad ∧ (0 < bs.length → ad.block < B) ∧ ∀ (j b : Nat), bs[j]? = some b → w.cell? (ad.add j) = some (.int .u8 (b : Int))
theorem Came.below {w w' : World} {B : Nat} {A : Option Addr} {c : Nat} {bs : List Nat} (h : Came w B A c bs) (hb : Below B w w') : Came w' B A c bs := by
  rcases h with h | ⟨ad, rfl, hB, hc⟩
  · exact .inl h
  · refine .inr ⟨ad, rfl, hB, fun j b hj => ?_⟩
    have hlt := (List.getElem?_eq_some_iff.1 hj).1
    exact (hb.cell (p := ad.add j) (by rw [add_same_block]; exact hB (by omega))).trans (hc j b hj)
/-- a row of the call's own is such a source -/
theorem Came.of_row {w : World} {B : Nat} {A : Option Addr} {c : Nat} {bs : List Nat} (h : w.ownsRow B 5 1 (.slice A bs.length c) bs.length (cells8 bs)) : Came w w.heap.size A c bs := by
  rcases h.2 with ⟨h1, h2⟩ | ⟨g, cap, cur, h1, _, hg, _⟩
  · injection h1 with h3 _ h4
    exact .inl ⟨h3, h4, List.eq_nil_of_length_eq_zero h2⟩
  · injection h1 with h3 _ h4
    subst h3
    exact .inr ⟨_, rfl, fun _ => lt_of_block hg, fun j b hj => h.cells (g := g) rfl j _ (by simp [cells8, hj])⟩
/-- append(out, more...), out the call's own, whatever is appended -/
theorem append_came {ops : Array Oper} {rest : List Oper} {o : Oper} {a : Act} {Q : Exit → Act → World → Prop} {w0 W : World} (hgd : o.guard = none) (s x : Operand)
    (ho : o.op = .call { callee := .builtin .append, args := #[s, x], argTypes := #[22, 22] })
    (v : Value) (bs cs : List Nat) (A2 : Option Addr) (c2 B2 : Nat) (hs : a.eval s = v) (hx : a.eval x = .slice A2 cs.length c2)
    (HO : Hid (W.ownsRow w0.heap.size 5 1 v bs.length (cells8 bs))) (HB : Below w0.heap.size w0 W)
    (hc : Came W B2 A2 c2 cs) (hl : bs.length + cs.length ≤ 70368744177664)
    (h : ∀ v1 w1, Hid (w1.ownsRow w0.heap.size 5 1 v1 (bs ++ cs).length (cells8 (bs ++ cs))) → Below w0.heap.size w0 w1 → W.grownBy w1 v.ownBlock → wpList Try.prog ops Q rest (a.put o.dst v1) w1) :
    wpList Try.prog ops Q (o :: rest) a W := by
  obtain ⟨i0, hi0, hz0, hz1, hz2⟩ := info_parts info5
  rcases hc with ⟨rfl, rfl, rfl⟩ | ⟨ad, rfl, _, hcell⟩
  · exact wpList_append_own_none hgd s x 22 ho w0.heap.size 5 i0 1 Try.underlying22 hi0 v bs.length (cells8 bs) hs HO.out hx (h v W (by rw [List.append_nil]; exact HO) HB (World.grownBy.refl W _))
  · refine wpList_append_own_at W hgd s x 22 ho w0.heap.size 5 i0 (.int .u8 0) 1 1 Try.underlying22 hi0 hz0 hz1 hz2 rfl (by omega) v bs.length (cells8 bs) hs HO.out ad cs.length c2 (cells8 cs) hx (by simp [cells8]) ?_ (cells8_one cs)
      (by simp only [maxLen]; omega) (by omega) HB.size ?_
    · intro j u hu
      simp only [cells8, List.getElem?_map, Option.map_eq_some_iff] at hu
      obtain ⟨b, hb, rfl⟩ := hu
      exact hcell j b hb
    · intro v1 w1 hown hg _ _
      refine h v1 w1 (Lib.hid (by rw [List.length_append, cells8_append]; exact hown)) ?_ hg
      exact HB.grown hg HB.size (own_base5 HO.out)
/-- append(out, more...), both the call's own -/
theorem append_row {ops : Array Oper} {rest : List Oper} {o : Oper} {a : Act} {Q : Exit → Act → World → Prop} {w0 W : World} (hgd : o.guard = none) (s x : Operand)
    (ho : o.op = .call { callee := .builtin .append, args := #[s, x], argTypes := #[22, 22] })
    (v : Value) (bs cs : List Nat) (A2 : Option Addr) (c2 B2 : Nat) (hs : a.eval s = v) (hx : a.eval x = .slice A2 cs.length c2)
    (HO : Hid (W.ownsRow w0.heap.size 5 1 v bs.length (cells8 bs))) (HB : Below w0.heap.size w0 W)
    (HO2 : Hid (W.ownsRow B2 5 1 (.slice A2 cs.length c2) cs.length (cells8 cs))) (hl : bs.length + cs.length ≤ 70368744177664)
    (h : ∀ v1 w1, Hid (w1.ownsRow w0.heap.size 5 1 v1 (bs ++ cs).length (cells8 (bs ++ cs))) → Below w0.heap.size w0 w1 → W.grownBy w1 v.ownBlock → wpList Try.prog ops Q rest (a.put o.dst v1) w1) :
    wpList Try.prog ops Q (o :: rest) a W :=
  append_came hgd s x ho v bs cs A2 c2 W.heap.size hs hx HO HB (Came.of_row HO2.out) hl h

/-- the loop of Table at its head -/
def TabRest (ps : List Piece) (w : World) (vo vv vi : Value) (wr : World) : Prop :=
  ∃ (k : Nat) (bs : List Nat) (x : Int), vi = .int .i64 k ∧ vv = .int .i32 x ∧ -2147483648 ≤ x ∧ x ≤ 2147483647 ∧ k ≤ ps.length ∧ bs ++ tab x (ps.drop k) = tab (-1) ps ∧ Hid (wr.ownsRow w.heap.size 5 1 vo bs.length (cells8 bs)) ∧ Below w.heap.size w wr

set_option maxHeartbeats 800000 in
theorem table6 (ps : List Piece) (A : Option Addr) (c : Nat) (w : World) (hr : PReads w w.heap.size A ps) (hlen : ps.length ≤ 2147483647) (htl : (tab (-1) ps).length ≤ 21474836471) :
    Calls Try.prog 6 #[.slice A ps.length c] w (SomeRow (tab (-1) ps) w) := by
  have HR := Lib.hid hr
  have HT := Lib.hid htl
  clear hr htl
  go_enter Try.func6, Try.ntmps6
  go_wp2_with fail
  go_loopw [3, 4, 9] (fun vo vv vi wr => TabRest ps w vo vv vi wr) (fun _ _ vi _ => ps.length - (intOf vi).toNat)
  case atStart => exact ⟨0, [], -1, rfl, rfl, by omega, by omega, Nat.zero_le _, rfl, own_nil5 w, Below.refl _ _⟩
  case round =>
    obtain ⟨k, bs, x, rfl, rfl, hv0, hv1, hk, he, HO, hb⟩ := hrel
    by_cases hlt : k < ps.length
    · obtain ⟨p, hp⟩ : ∃ p, ps[k]? = some p := ⟨ps[k], List.getElem?_eq_getElem hlt⟩
      obtain ⟨b, off, rfl, hB, hc⟩ := (HR.out.below hb) (by omega)
      obtain ⟨c1, c2, hx0, hx1, hl⟩ := hc k p hp
      rw [drop_some hp, tab] at he
      have hbl : bs.length + (uv (zz (wrap32 (p.1 - x)))).length + (uv p.2).length ≤ 21474836471 := by
        have := HT.out
        rw [← he] at this
        simp only [List.length_append] at this
        omega
      obtain ⟨L, hL⟩ : ∃ L : Int, (p.2 : Int) = L := ⟨_, rfl⟩
      have hl0 : 0 ≤ L := by omega
      have hl1 : L < 4294967296 := by omega
      rw [hL] at c2
      have hL2 : p.2 = L.toNat := by omega
      rw [hL2] at he hbl
      have hz := zz_lt (wrap32_range (p.1 - x)).1 (wrap32_range (p.1 - x)).2
      have HE := Lib.hid he
      have HBL := Lib.hid hbl
      have HZ := Lib.hid hz
      have HP := Lib.hid hp
      clear he hbl hz hp hL hL2 hc hl HR
      go_wp2_with (go_at_call 9; refine (zigzag _ _ (wrap32_range _).1 (wrap32_range _).2).mono ?_; rintro e w' ⟨rfl, rfl⟩)
      generalize zz (wrap32 (p.1 - x)) = Z at *
      refine (uvarint (Z : Int) _ (by omega) (by have := HZ.out; omega)).mono ?_
      rintro e w2 ⟨v2, rfl, ho2, hb2⟩
      rw [Int.toNat_natCast] at ho2
      obtain ⟨A2, cc2, rfl⟩ := own_shape5 ho2.out
      have HO2 := Lib.hid (own_below5 (HO.out.alloc _) hb2)
      have hbw2 := below_then5 (hb.alloc hb.size _) (by have := hb.size; simp; omega) hb2
      have BK2 := Lib.hid ((Whole.fresh wr 33 #[.int .i32 p.1, .int .u32 L]).below hb2 (by simp))
      have hl2 : bs.length + (uv Z).length ≤ 70368744177664 := by have := HBL.out; omega
      clear hb2 HZ
      go_wp2_with (at_builtin; refine append_row rfl (.tmp 13) (.tmp 19) rfl _ bs (uv Z) A2 cc2 _ rfl rfl HO2 hbw2 ho2 hl2 ?_; intro v3 w3 ho3 hb3 hg3; have BK3 := Lib.hid (BK2.out.grown hg3 (fun e => row_apart HO2.out BK2.out (by decide) e.symm)); have hc3 := BK3.out.cell 0; have hc4 := BK3.out.cell 1; clear hg3)
      refine (uvarint L _ hl0 hl1).mono ?_
      rintro e w4 ⟨v4, rfl, ho4, hb4⟩
      obtain ⟨A4, cc4, rfl⟩ := own_shape5 ho4.out
      have HO4 := Lib.hid (own_below5 ho3.out hb4)
      have hbw4 := below_then5 hb3 hb3.size hb4
      have BK4 := Lib.hid (BK3.out.below hb4 BK3.out.lt)
      have hl4 : (bs ++ uv Z).length + (uv L.toNat).length ≤ 70368744177664 := by have := HBL.out; simp only [List.length_append]; omega
      have HL4 := Lib.hid hl4
      clear hb4 hc3 hc4 hl4 ho3 hb3 BK3
      go_wp2_with (at_builtin; refine append_row rfl (.tmp 21) (.tmp 24) rfl _ (bs ++ uv Z) (uv L.toNat) A4 cc4 _ rfl rfl HO4 hbw4 ho4 HL4.out ?_; intro v5 w5 ho5 hb5 hg5; have BK5 := Lib.hid (BK4.out.grown hg5 (fun e => row_apart HO4.out BK4.out (by decide) e.symm)); have hc5 := BK5.out.cell 0; have hc6 := BK5.out.cell 1; clear hg5)
      go_roundw
      case rel => exact ⟨k + 1, bs ++ uv Z ++ uv L.toNat, p.1, by go_num, rfl, hx0, hx1, by omega, by rw [← HE.out, List.append_assoc, List.append_assoc], ho5, hb5⟩
      case measure => simp [intOf]; omega
    · have hd : bs ++ [0] = tab (-1) ps := by rw [← he, List.drop_of_length_le (by omega), tab]
      have hbl : bs.length ≤ 70368744177664 := by have := HT.out; rw [← hd] at this; simp at this; omega
      have HD := Lib.hid hd
      have HBL := Lib.hid hbl
      clear he hd hbl HR
      go_wp2_with (at_builtin; refine append_byte rfl (.tmp 29) (.tmp 30) rfl _ bs _ 0 rfl rfl rfl HO hb HBL.out ?_; intro v1 w1 hown1 hb1)
      go_ret
      exact ⟨_, rfl, by rw [← HD.out]; exact hown1, hb1⟩
end Go.Proofs.Ytlafajpbgiohaad
