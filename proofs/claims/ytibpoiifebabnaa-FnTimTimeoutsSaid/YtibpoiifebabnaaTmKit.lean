/- Small laws for the walk: a whole struct stored into the block made last, a whole struct loaded, a struct built, each as one step. -/
import Derived.Test.YtibpoiifebabnaaProg
import Derived.WalkKit
import Derived.Laws.Tables
import Derived.Laws.Rows
import Derived.Deep.WholeRow
import Derived.Below
namespace Go.Proofs.Ytibpoiifebabnaa
open Go Go.RowKit

theorem kit_store_last {P : Program} {ops : Array Oper} {rest : List Oper} {o : Oper} {a : Act} {w : World} {Q : Exit → Act → World → Prop} (hgd : o.guard = none) (ty : TypeId) (x y : Operand) (ho : o.op = .store ty x y)
    (hd : o.dst = none) (g : Nat) (cells old : Array Value) (hx : a.eval x = .pointer (some ⟨g, 0, none⟩)) (hy : a.eval y = .agg cells) (hg : g = w.heap.size)
    (hi : (P.info? ty).map (·.size) = some cells.size) (hold : old.size = cells.size) (h1 : cells.all (·.oneCell') = true)
    (h : wpList P ops Q rest a (w.alloc (.cells cells ty))) : wpList P ops Q (o :: rest) a (w.alloc (.cells old ty)) := by
  subst hg
  refine wpList_store_row hgd ty x y ho w.heap.size cells hx hy ty old (heap_alloc_last w _) hi hold h1 ?_
  rw [hd, World.setRow_alloc_new]
  exact h

theorem kit_load {P : Program} {ops : Array Oper} {rest : List Oper} {o : Oper} {a : Act} {w : World} {Q : Exit → Act → World → Prop} (hgd : o.guard = none) (ty : TypeId) (x : Operand) (ho : o.op = .load ty x)
    (dst : Option Tmp) (hd : o.dst = dst) (g : Nat) (hx : a.eval x = .pointer (some ⟨g, 0, none⟩)) (cs : Array Value) (hg : w.heap[g]? = some (.cells cs ty (0, 0)))
    (d : TypeDesc) (hu : P.underlying ty = some d) (hk : (match d with | .struct _ | .array _ _ => true | _ => false) = true) (hi : (P.info? ty).map (·.size) = some cs.size)
    (h : wpList P ops Q rest (a.put dst (.agg cs)) w) : wpList P ops Q (o :: rest) a w := by
  subst hd
  exact wpList_load_row hgd ty x ho g hx ty cs (0, 0) d hg hu hk hi h

theorem kit_build {P : Program} {ops : Array Oper} {rest : List Oper} {o : Oper} {a : Act} {w : World} {Q : Exit → Act → World → Prop} (hg : o.guard = none) (t : TypeId) (parts : Array (Nat × Operand)) (ho : o.op = .build t parts)
    (d : Option Tmp) (hd : o.dst = d) (cells : Array Value) (hf : P.built t (parts.map fun (i, x) => (i, a.eval x)).toList = some cells)
    (h : wpList P ops Q rest (a.put d (.agg cells)) w) : wpList P ops Q (o :: rest) a w := by
  subst hd
  refine wpList_build hg t parts ho (by rw [hf]; rfl) ?_
  rw [hf]
  exact h

/-- A block that is there stays where only new blocks come. -/
theorem heap_below {W w1 : World} {g : Nat} {o : Obj} (h : W.heap[g]? = some o) (hb : Below W.heap.size W w1) : w1.heap[g]? = some o := by
  have hlt : g < W.heap.size := (Array.getElem?_eq_some_iff.1 h).1
  exact (hb.block g hlt).trans h

/-- A block that is there stays where one more comes. -/
theorem heap_old {W : World} {g : Nat} {o : Obj} (h : W.heap[g]? = some o) (x : Obj) : (W.alloc x).heap[g]? = some o := by
  have hlt : g < W.heap.size := (Array.getElem?_eq_some_iff.1 h).1
  exact (Below.heap_alloc W x g hlt).trans h

end Go.Proofs.Ytibpoiifebabnaa
