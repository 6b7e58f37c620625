/-
  WORDS FOR MEMORY, for FnValue: a block that is known whole ('Whole'), and what keeps it so: a draw, a new block, a store into another block, whatever leaves it as it was.
  No condition, no program in sight.
-/
import Derived.Below
import Derived.OneCell
import Derived.Laws.OwnMore
import Derived.Deep.Draws
import Derived.Laws.Rows
namespace Go.Proofs.Ytlafajpbgiohaad
open Go Go.RowKit

/-- block g holds just these cells of type t, and each may be written -/
def Whole (w : World) (g : Nat) (t : TypeId) (cs : Array Value) : Prop := w.heap[g]? = some (.cells cs t (0, 0))

namespace Whole
theorem lt {w : World} {g : Nat} {t : TypeId} {cs : Array Value} (h : Whole w g t cs) : g < w.heap.size := lt_of_block h
theorem cell {w : World} {g : Nat} {t : TypeId} {cs : Array Value} (h : Whole w g t cs) (i : Nat) : w.cell? ⟨g, i, none⟩ = cs[i]? := by
  have := cell_of_row w g i cs t (0, 0) h
  exact this
theorem frozen {w : World} {g : Nat} {t : TypeId} {cs : Array Value} (h : Whole w g t cs) (i : Nat) : w.frozen? ⟨g, i, none⟩ = false := by
  have e : w.heap[g]? = some (.cells cs t (0, 0)) := h
  simp only [World.frozen?, e]
  simp
/-- what leaves the block as it was leaves it whole -/
theorem same {w w' : World} {g : Nat} {t : TypeId} {cs : Array Value} (h : Whole w g t cs) (e : w'.heap[g]? = w.heap[g]?) : Whole w' g t cs := Eq.trans e h
theorem drawn {w : World} {g : Nat} {t : TypeId} {cs : Array Value} (h : Whole w g t cs) : Whole w.drew g t cs := h.same rfl
theorem alloc {w : World} {g : Nat} {t : TypeId} {cs : Array Value} (h : Whole w g t cs) (o : Obj) : Whole (w.alloc o) g t cs := h.same (Below.heap_alloc w o g h.lt)
theorem aside {w : World} {g : Nat} {t : TypeId} {cs : Array Value} (h : Whole w g t cs) {p : Addr} (hp : g ≠ p.block) (u : Value) : Whole (w.setCell p u) g t cs := h.same (Below.heap_setCell w p u g hp)
theorem below {w w' : World} {B g : Nat} {t : TypeId} {cs : Array Value} (h : Whole w g t cs) (hb : Below B w w') (hg : g < B) : Whole w' g t cs := h.same (hb.block g hg)
theorem grown {w w' : World} {g : Nat} {t : TypeId} {cs : Array Value} {row : Option Nat} (h : Whole w g t cs) (hg : w.grownBy w' row) (hne : some g ≠ row) : Whole w' g t cs := h.same (hg.block g h.lt hne)
theorem fresh (w : World) (t : TypeId) (cs : Array Value) : Whole (w.alloc (.cells cs t)) w.heap.size t cs := heap_alloc_new w _
/-- a store into the one cell of a block -/
theorem put {w : World} {g : Nat} {t : TypeId} {v : Value} (h : Whole w g t #[v]) (u : Value) : Whole (w.setCell ⟨g, 0, none⟩ u) g t #[u] := one_setCell h
/-- blocks of different types are different blocks -/
theorem apart {w : World} {g g' : Nat} {t t' : TypeId} {cs cs' : Array Value} (h : Whole w g t cs) (h' : Whole w g' t' cs') (hne : t ≠ t') : g ≠ g' := fun e => by
  subst e
  have e2 : some (Obj.cells cs t (0, 0)) = some (Obj.cells cs' t' (0, 0)) := Eq.trans (Eq.symm h) h'
  simp only [Option.some.injEq, Obj.cells.injEq] at e2
  exact hne e2.2.1
end Whole

/-- a row of the call's own of another element type lies in another block -/
theorem row_apart {w : World} {g base n size : Nat} {t e : TypeId} {cs : Array Value} {v : Value} {xs : List Value} (ho : w.ownsRow base e size v n xs) (h : Whole w g t cs) (hne : e ≠ t) : v.ownBlock ≠ some g := by
  obtain ⟨_, ⟨hv, _⟩ | ⟨k, cap, cur, hv, _, hk, _⟩⟩ := ho
  · rw [hv]; exact fun e => by cases e
  · rw [hv]
    intro e
    have hkg : k = g := Option.some.inj e
    subst hkg
    exact Whole.apart (w := w) hk h hne rfl
end Go.Proofs.Ytlafajpbgiohaad
