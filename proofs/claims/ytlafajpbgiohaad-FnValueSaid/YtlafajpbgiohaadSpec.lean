/-
  THE WALKS of the reference, for FnValue: spec.Uvarint (function 8), spec.At (5), spec.Zigzag (9), spec.Right (4), each as a plain function of YtlafajpbgiohaadPlain; and the words for bytes and pieces in memory.
-/
import Derived.Test.YtlafajpbgiohaadRows
import Derived.Test.YtlafajpbgiohaadPlain
import Derived.Test.YtlafajpbgiohaadMem
import Derived.Maps.AppendAt
import Derived.Deep.AppendLies
import Derived.Laws.AppendOwnNone
import Derived.WalkKit
import Derived.WalkSpells
import Derived.WalkLawsBesides
import Derived.Deep.QuietTactic
import Derived.BigQuiet
import Derived.Lib.Hide
import Derived.LoopTactic
import Derived.Deep.LoopGhost
namespace Go.Proofs.Ytlafajpbgiohaad
open Go.RowKit

/-- bytes as cells -/
def cells8 (bs : List Nat) : List Value := bs.map fun (b : Nat) => .int .u8 (b : Int)
theorem cells8_length (bs : List Nat) : (cells8 bs).length = bs.length := by simp [cells8]
theorem cells8_append (bs cs : List Nat) : cells8 (bs ++ cs) = cells8 bs ++ cells8 cs := by simp [cells8]
theorem cells8_one (bs : List Nat) : ∀ u ∈ cells8 bs, u.oneCell' = true := by
  intro u hu; simp only [cells8, List.mem_map] at hu; obtain ⟨b, _, rfl⟩ := hu; rfl
theorem info5 : (Try.prog.info? 5).map (fun i => (i.zero, i.size, i.bytes)) = some (some (.int .u8 0), 1, 1) := by kernel_rfl

theorem pw_below_drewN2 {B : Nat} {w W : World} (h : Below B w W) (n : Nat) : Below B w (W.drewN n) := ⟨h.os, h.tape, h.output, h.size, h.block⟩
theorem own_base5 {w : World} {base n : Nat} {e : TypeId} {v : Value} {xs : List Value} (h : w.ownsRow base e 1 v n xs) (k : Nat) (hk : v.ownBlock = some k) : base ≤ k := by
  rcases h.2 with ⟨rfl, _⟩ | ⟨g, cap, cur, rfl, hb, _⟩
  · simp [Value.ownBlock] at hk
  · have : g = k := by simpa [Value.ownBlock] using hk
    omega
/-- append(out, b): behind the box of the one byte -/
theorem append_byte {ops : Array Oper} {rest : List Oper} {o : Oper} {a : Act} {Q : Exit → Act → World → Prop} {w0 W : World} (hgd : o.guard = none) (s x : Operand)
    (ho : o.op = .call { callee := .builtin .append, args := #[s, x], argTypes := #[22, 22] })
    (v : Value) (bs : List Nat) (z : Int) (b : Nat) (hz : z = (b : Int)) (hs : a.eval s = v) (hx : a.eval x = .slice (some ⟨W.heap.size, 0, none⟩) 1 1)
    (HO : Hid (W.ownsRow w0.heap.size 5 1 v bs.length (cells8 bs))) (HB : Below w0.heap.size w0 W) (hl : bs.length ≤ 70368744177664)
    (h : ∀ v1 w1, Hid (w1.ownsRow w0.heap.size 5 1 v1 (bs ++ [b]).length (cells8 (bs ++ [b]))) → Below w0.heap.size w0 w1 → wpList Try.prog ops Q rest (a.put o.dst v1) w1) :
    wpList Try.prog ops Q (o :: rest) a (W.alloc (.cells #[.int .u8 z] 5)) := by
  subst hz
  obtain ⟨i0, hi0, hz0, hz1, hz2⟩ := info_parts info5
  refine wpList_append_own_at (W.alloc (.cells #[.int .u8 (b : Int)] 5)) hgd s x 22 ho w0.heap.size 5 i0 (.int .u8 0) 1 1 Try.underlying22 hi0 hz0 hz1 hz2 rfl (by omega) v bs.length (cells8 bs) hs (HO.out.alloc _) ⟨W.heap.size, 0, none⟩ 1 1 [.int .u8 (b : Int)] hx rfl
    (World.news_of_block (cs := #[.int .u8 (b : Int)]) (t := 5) (fr := (0, 0)) (heap_alloc_new W _)) (by intro u hu; simp at hu; subst hu; rfl) (by simp only [maxLen]; omega) (by omega) (by have := HB.size; simp; omega) ?_
  intro v1 w1 hown hg _ _
  refine h v1 w1 (Lib.hid (by rw [List.length_append, cells8_append]; exact hown)) ?_
  exact (HB.alloc HB.size _).grown hg (by have := HB.size; simp; omega) (own_base5 HO.out)
def SomeRow (bs : List Nat) (w : World) (e : Ending) (w' : World) : Prop :=
  ∃ v, e = .returned v ∧ Hid (w'.ownsRow w.heap.size 5 1 v bs.length (cells8 bs)) ∧ Below w.heap.size w w'
theorem own_nil5 (w : World) : Hid (w.ownsRow w.heap.size 5 1 (.slice none 0 0) ([] : List Nat).length (cells8 [])) := World.ownsRow_nil _ _ _ _
/-- the loop of Uvarint at its head -/
def UvRest (n : Int) (w : World) (vn vo : Value) (wr : World) : Prop :=
  ∃ (m : Int) (bs : List Nat), vn = .int .u32 m ∧ 0 ≤ m ∧ m ≤ n ∧ bs ++ uv m.toNat = uv n.toNat ∧ Hid (wr.ownsRow w.heap.size 5 1 vo bs.length (cells8 bs)) ∧ Below w.heap.size w wr

set_option maxHeartbeats 400000 in
theorem uvarint (n : Int) (w : World) (hn0 : 0 ≤ n) (hn : n < 4294967296) :
    Calls Try.prog 8 #[.int .u32 n] w (SomeRow (uv n.toNat) w) := by
  have hlen := uv_length (n := n.toNat) (by omega)
  go_enter Try.func8, Try.ntmps8
  go_wp2_with fail
  go_loopw [0, 3] (fun vn vo wr => UvRest n w vn vo wr) (fun vn _ _ => (intOf vn).toNat)
  case atStart => exact ⟨n, [], rfl, hn0, Int.le_refl _, rfl, own_nil5 w, Below.refl _ _⟩
  case round =>
    obtain ⟨m, bs, rfl, hm0, hm, hbs, HO, hb⟩ := hrel
    have hl : bs.length ≤ 5 := by rw [← hbs] at hlen; simp at hlen; omega
    have HB := Lib.hid hbs
    have hm1 : m < 4294967296 := by omega
    clear hbs hlen hn hn0
    by_cases h : m < 128
    · go_wp2_with (at_builtin; refine append_byte rfl (.tmp 15) (.tmp 18) rfl _ bs _ m.toNat (by omega) rfl rfl HO hb (by omega) ?_; intro v1 w1 hown1 hb1)
      go_ret
      refine ⟨_, rfl, ?_, hb1⟩
      rw [← HB.out, uv_small (by omega)]
      exact hown1
    · go_wp2_with (at_builtin; refine append_byte rfl (.tmp 6) (.tmp 11) rfl _ bs _ (m.toNat % 128 + 128) (by omega) rfl rfl HO hb (by omega) ?_; intro v1 w1 hown1 hb1)
      go_roundw
      case rel => exact ⟨m / 128, bs ++ [m.toNat % 128 + 128], rfl, by omega, by omega, by rw [← HB.out, uv_large (n := m.toNat) (by omega), show (m / 128).toNat = m.toNat / 128 by omega]; simp, hown1, hb1⟩
      case measure => simp [intOf]; omega
/-- a slice of pieces that came in -/
def PReads (w : World) (B : Nat) (A : Option Addr) (ps : List Piece) : Prop :=
  0 < ps.length → ∃ b off, A = some ⟨b, off, none⟩ ∧ b < B ∧ ∀ j (p : Piece), ps[j]? = some p → w.cell? ⟨b, off + j * 2, none⟩ = some (.int .i32 p.1) ∧ w.cell? ⟨b, off + j * 2 + 1, none⟩ = some (.int .u32 (p.2 : Int)) ∧ -2147483648 ≤ p.1 ∧ p.1 ≤ 2147483647 ∧ p.2 < 4294967296
theorem PReads.below {w w' : World} {B : Nat} {A : Option Addr} {ps : List Piece} (h : PReads w B A ps) (hb : Below B w w') : PReads w' B A ps := fun hp => by
  obtain ⟨b, off, rfl, hB, hc⟩ := h hp
  exact ⟨b, off, rfl, hB, fun j p hj => by
    obtain ⟨h1, h2, h3⟩ := hc j p hj
    exact ⟨(hb.cell (p := ⟨b, off + j * 2, none⟩) hB).trans h1, (hb.cell (p := ⟨b, off + j * 2 + 1, none⟩) hB).trans h2, h3⟩⟩
def AtRest (ps : List Piece) (q : Nat) (w : World) (vp vi : Value) (wr : World) : Prop :=
  ∃ (k : Nat) (m : Int), vi = .int .i64 k ∧ vp = .int .u64 m ∧ 0 ≤ m ∧ m < 18446744073709551616 ∧ k ≤ ps.length ∧ atF (ps.drop k) m.toNat = atF ps q ∧ Below w.heap.size w wr
def AtPost (r : Int × Bool) (w : World) (e : Ending) (w' : World) : Prop := e = .returned (.tuple #[.int .i32 r.1, .bool r.2]) ∧ Below w.heap.size w w'
theorem drop_some {α : Type} {l : List α} {k : Nat} {p : α} (h : l[k]? = some p) : l.drop k = p :: l.drop (k + 1) := by
  obtain ⟨hk, rfl⟩ := List.getElem?_eq_some_iff.1 h
  exact List.drop_eq_getElem_cons hk

set_option maxHeartbeats 400000 in
theorem at5 (ps : List Piece) (A : Option Addr) (c : Nat) (q : Int) (w : World) (hr : PReads w w.heap.size A ps) (hlen : ps.length ≤ 2147483647) (hq0 : 0 ≤ q) (hq : q < 18446744073709551616) :
    Calls Try.prog 5 #[.slice A ps.length c, .int .u64 q] w (AtPost (atF ps q.toNat) w) := by
  have HR := Lib.hid hr
  clear hr
  go_enter Try.func5, Try.ntmps5
  go_wp2_with fail
  go_loopw [1, 10] (fun vp vi wr => AtRest ps q.toNat w vp vi wr) (fun _ vi _ => ps.length - (intOf vi).toNat)
  case atStart => exact ⟨0, q, rfl, rfl, hq0, hq, Nat.zero_le _, rfl, Below.refl _ _⟩
  case round =>
    obtain ⟨k, m, rfl, rfl, hm0, hm1, hk, he, hb⟩ := hrel
    have HE := Lib.hid he
    clear he hq0 hq
    by_cases hlt : k < ps.length
    · obtain ⟨p, hp⟩ : ∃ p, ps[k]? = some p := ⟨ps[k], List.getElem?_eq_getElem hlt⟩
      obtain ⟨b, off, rfl, hB, hc⟩ := (HR.out.below hb) (by omega)
      obtain ⟨c1, c2, hx0, hx1, hl⟩ := hc k p hp
      have HP := Lib.hid hp
      clear hp hc HR
      by_cases hq : m < (p.2 : Int)
      · have hd : atF ps q.toNat = (p.1, true) := by rw [← HE.out, drop_some HP.out, atF, if_pos (by omega)]
        have HD := Lib.hid hd
        clear hd HE
        go_wp2_with fail
        go_ret2
        exact ⟨by rw [HD.out]; rfl, hb.alloc hb.size _⟩
      · have hd : atF (ps.drop (k + 1)) (m - (p.2 : Int)).toNat = atF ps q.toNat := by rw [← HE.out, drop_some HP.out, atF, if_neg (by omega), show (m - (p.2 : Int)).toNat = m.toNat - p.2 by omega]
        have HD := Lib.hid hd
        clear hd HE
        go_wp2_with fail
        go_roundw
        case rel => exact ⟨k + 1, m - (p.2 : Int), by go_num, rfl, by omega, by omega, by omega, HD.out, hb.alloc hb.size _⟩
        case measure => simp [intOf]; omega
    · have hd : atF ps q.toNat = (-1, false) := by rw [← HE.out, List.drop_of_length_le (by omega), atF]
      have HD := Lib.hid hd
      clear hd HE
      go_wp2_with fail
      go_ret2
      exact ⟨by rw [HD.out]; rfl, hb⟩
theorem ret_u32 {a b : Int} (h : a = b) : Ending.returned (.int .u32 a) = .returned (.int .u32 b) := by rw [h]
set_option maxHeartbeats 400000 in
theorem zigzag (d : Int) (w : World) (h0 : -2147483648 ≤ d) (h1 : d ≤ 2147483647) :
    Calls Try.prog 9 #[.int .i32 d] w fun e w' => e = .returned (.int .u32 (zz d : Int)) ∧ w = w' := by
  by_cases h : d < 0
  · have hz : ((zz d : Nat) : Int) = -(d + 1) * 2 + 1 := by unfold zz; rw [if_pos h]; omega
    go_enter Try.func9, Try.ntmps9
    go_wp2_with fail
    go_ret
    refine ⟨ret_u32 ?_, rfl⟩
    omega
  · have hz : ((zz d : Nat) : Int) = d * 2 := by unfold zz; rw [if_neg h]; omega
    go_enter Try.func9, Try.ntmps9
    go_wp2_with fail
    go_ret
    refine ⟨ret_u32 ?_, rfl⟩
    omega
/-- the value of the piece ahead of place k -/
def prevOf (ps : List Piece) (k : Nat) : Option Int := if k = 0 then none else (ps[k - 1]?).map (·.1)
theorem prevOf_succ {ps : List Piece} {k : Nat} {p : Piece} (h : ps[k]? = some p) : prevOf ps (k + 1) = some p.1 := by
  simp [prevOf, h]
def RightRest (sc : Int) (ps : List Piece) (w : World) (vs vi : Value) (wr : World) : Prop :=
  ∃ (k : Nat) (s : Int), vi = .int .i64 k ∧ vs = .int .u64 s ∧ 0 ≤ s ∧ s < 4294967296 ∧ k ≤ ps.length ∧ right sc.toNat (prevOf ps k) s.toNat (ps.drop k) = right sc.toNat none 0 ps ∧ Below w.heap.size w wr
def BoolPost (r : Bool) (w : World) (e : Ending) (w' : World) : Prop := e = .returned (.bool r) ∧ Below w.heap.size w w'
theorem boolp {x y : Bool} {w w' : World} (h : x = y) (hb : Below w.heap.size w w') : BoolPost y w (.returned (.bool x)) w' := ⟨by rw [h], hb⟩
theorem mul_bd (l sc : Int) (h0 : 0 ≤ l) (h1 : l < 4294967296) (h2 : 0 ≤ sc) (h3 : sc < 4294967296) : 0 ≤ l * sc ∧ l * sc ≤ 18446744065119617025 := by
  have := Int.mul_le_mul (show l ≤ 4294967295 by omega) (show sc ≤ 4294967295 by omega) h2 (by omega)
  exact ⟨Int.mul_nonneg h0 h2, by omega⟩

set_option maxHeartbeats 800000 in
theorem right4 (ps : List Piece) (A : Option Addr) (c : Nat) (sc : Int) (w : World) (hr : PReads w w.heap.size A ps) (hlen : ps.length ≤ 2147483647) (hsc0 : 0 ≤ sc) (hsc : sc < 4294967296) :
    Calls Try.prog 4 #[.slice A ps.length c, .int .u32 sc] w (BoolPost (right sc.toNat none 0 ps && decide (0 < ps.length) && decide (0 < sc)) w) := by
  have HR := Lib.hid hr
  clear hr
  go_enter Try.func4, Try.ntmps4
  go_wp2_with fail
  go_loopw [5, 10] (fun vs vi wr => RightRest sc ps w vs vi wr) (fun _ vi _ => ps.length - (intOf vi).toNat)
  case atStart => exact ⟨0, 0, rfl, rfl, by omega, by omega, Nat.zero_le _, rfl, Below.refl _ _⟩
  case round =>
    obtain ⟨k, s, rfl, rfl, hs0, hs, hk, he, hb⟩ := hrel
    by_cases hlt : k < ps.length
    · obtain ⟨p, hp⟩ : ∃ p, ps[k]? = some p := ⟨ps[k], List.getElem?_eq_getElem hlt⟩
      obtain ⟨b, off, rfl, hB, hc⟩ := (HR.out.below hb) (by omega)
      obtain ⟨c1, c2, hx0, hx1, hl⟩ := hc k p hp
      rw [drop_some hp] at he
      obtain ⟨L, hL⟩ : ∃ L : Int, (p.2 : Int) = L := ⟨_, rfl⟩
      have hl0 : 0 ≤ L := by omega
      have hl1 : L < 4294967296 := by omega
      rw [hL] at c2
      have hL2 : p.2 = L.toNat := by omega
      clear hl hL
      by_cases hz : L = 0
      · have hd : right sc.toNat none 0 ps = false := by rw [← he, right, if_pos (.inl (by omega))]
        have HD := Lib.hid hd
        have hz' : (L == 0) = true := by simpa using hz
        clear hz hd he hp hc HR hL2
        go_wp2_with fail
        go_quiet (fail)
        go_wp2_with fail
        go_ret
        exact boolp (by rw [HD.out]; rfl) (pw_below_drewN2 (hb.alloc hb.size _) _)
      · have hz' : (L == 0) = false := by simpa using hz
        obtain ⟨hm0, hm1⟩ := mul_bd L sc hl0 hl1 hsc0 hsc
        have hmt : (s + L * sc).toNat = s.toNat + p.2 * sc.toNat := by
          rw [Int.toNat_add hs0 hm0, Int.toNat_mul hl0 hsc0, hL2]
        by_cases hk0 : k = 0
        · have hk' : decide (0 < k) = false := by simp; omega
          have hp0 : prevOf ps k = none := by rw [prevOf, if_pos hk0]
          rw [right, if_neg (by rw [hp0]; simp; omega), ← hmt] at he
          by_cases hov : s + L * sc < 4294967296
          · rw [if_neg (by omega), ← prevOf_succ hp] at he
            have HE := Lib.hid he
            clear hz he hp hc HR hmt hp0 hk0 hL2
            go_wp2_with fail
            go_quiet (fail)
            go_wp2_with fail
            go_roundw
            case rel => exact ⟨k + 1, s + L * sc, by go_num, rfl, by omega, hov, by omega, HE.out, pw_below_drewN2 (hb.alloc hb.size _) _⟩
            case measure => simp [intOf]; omega
          · rw [if_pos (by omega)] at he
            have HE := Lib.hid he
            clear hz he hp hc HR hmt hp0 hk0 hL2
            go_wp2_with fail
            go_quiet (fail)
            go_wp2_with fail
            go_ret
            exact boolp (by rw [← HE.out]; rfl) (pw_below_drewN2 (hb.alloc hb.size _) _)
        · have hk' : decide (0 < k) = true := by simp; omega
          obtain ⟨p', hp'⟩ : ∃ p', ps[k - 1]? = some p' := ⟨ps[k - 1], List.getElem?_eq_getElem (by omega)⟩
          obtain ⟨d1, d2, _⟩ := hc (k - 1) p' hp'
          have d3 : (wr.alloc (.cells #[.int .i32 p.1, .int .u32 L] 33)).cell? ⟨b, off + (k - 1) * 2, none⟩ = some (.int .i32 p'.1) := (World.cell?_alloc_lt wr _ ⟨b, off + (k - 1) * 2, none⟩ (Nat.lt_of_lt_of_le hB hb.size)).trans d1
          have hp0 : prevOf ps k = some p'.1 := by rw [prevOf, if_neg hk0, hp']; rfl
          have hkm0 : 0 ≤ (k : Int) - 1 := by omega
          have hkm2 : 1 ≤ (k : Int) := by omega
          have hkm3 : 1 ≤ k := by omega
          have hkm4 : (k : Int) < (ps.length : Int) + 1 := by omega
          have hkm1 : (k : Int) - 1 < (ps.length : Int) := by omega
          have hkt : ((k : Int) - 1).toNat = k - 1 := by omega
          have hkw : IntKind.i64.wrap ((k : Int) - 1) = (k : Int) - 1 := IntWalk.i64_in _ (by omega)
          by_cases hsame : p.1 = p'.1
          · have hd : right sc.toNat none 0 ps = false := by rw [← he, right, if_pos (.inr (by rw [hp0, hsame]))]
            have HD := Lib.hid hd
            have hs' : (p.1 == p'.1) = true := by simpa using hsame
            clear hz he hp hc HR hmt hp0 hk0 hsame hd hp' hL2
            go_wp2_with fail
            go_quiet (fail)
            go_wp2_with fail
            go_ret
            exact boolp (by rw [HD.out]; rfl) (pw_below_drewN2 (hb.alloc hb.size _) _)
          · have hs' : (p.1 == p'.1) = false := by simpa using hsame
            rw [right, if_neg (by rw [hp0]; simp; exact ⟨by omega, fun h => hsame h.symm⟩), ← hmt] at he
            by_cases hov : s + L * sc < 4294967296
            · rw [if_neg (by omega), ← prevOf_succ hp] at he
              have HE := Lib.hid he
              clear hz he hp hc HR hmt hp0 hk0 hsame hp' hL2
              go_wp2_with fail
              go_quiet (fail)
              go_wp2_with fail
              go_roundw
              case rel => exact ⟨k + 1, s + L * sc, by go_num, rfl, by omega, hov, by omega, HE.out, pw_below_drewN2 (hb.alloc hb.size _) _⟩
              case measure => simp [intOf]; omega
            · rw [if_pos (by omega)] at he
              have HE := Lib.hid he
              clear hz he hp hc HR hmt hp0 hk0 hsame hp' hL2
              go_wp2_with fail
              go_quiet (fail)
              go_wp2_with fail
              go_ret
              exact boolp (by rw [← HE.out]; rfl) (pw_below_drewN2 (hb.alloc hb.size _) _)
    · have hk' : k = ps.length := by omega
      subst hk'
      have hd : right sc.toNat none 0 ps = true := by rw [← he, List.drop_length, right]
      have HD := Lib.hid hd
      clear he hd
      by_cases hl0 : 0 < ps.length
      · have hl1 : (0 : Int) < (ps.length : Int) := by omega
        go_wp2_with fail
        go_ret
        exact boolp (by rw [HD.out]; simp [hl0]) hb
      · have hl1 : decide ((0 : Int) < (ps.length : Int)) = false := decide_eq_false (by omega)
        have hl2 : decide (0 < ps.length) = false := decide_eq_false (by omega)
        have HL := Lib.hid hl2
        clear hl2
        go_wp2_with fail
        go_ret
        exact boolp (by rw [HD.out, HL.out]; simp) hb
end Go.Proofs.Ytlafajpbgiohaad
