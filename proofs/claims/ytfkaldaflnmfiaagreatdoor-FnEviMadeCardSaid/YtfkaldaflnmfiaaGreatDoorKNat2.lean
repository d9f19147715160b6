/- Words for memory: a block known whole, what a call may have changed, one-step laws for whole structs. -/
import Derived.Test.YtfkaldaflnmfiaaGreatDoorProg
import Derived.WalkKit
import Derived.WalkSpells
import Derived.Laws.Tables
import Derived.Laws.Rows
import Derived.Deep.WholeRow
import Derived.Deep.Draws
import Derived.Below
import Derived.OwnWalk
import Derived.Laws.AppendOwnNone
import Derived.Laws.BytesArg
import Derived.Deep.AppendLies
import Derived.WalkLawsBesides
import Derived.Handy
import Derived.Lib.Hide
import Derived.IntWalk
import Derived.LoopTactic
import Derived.Deep.QuietTactic
import Derived.BigQuiet
namespace Go.Proofs.YtfkaldaflnmfiaaGreatDoor
set_option linter.unusedSimpArgs false
set_option linter.unusedVariables false
open Go Go.RowKit

/-- Block b of w holds just these cells, of element type t, none of them frozen. -/
def Blk (w : World) (b : Nat) (cs : Array Value) (t : TypeId) : Prop := w.heap[b]? = some (.cells cs t (0, 0))

section
variable {w w' : World} {b : Nat} {cs : Array Value} {t : TypeId}
theorem Blk.lt (h : Blk w b cs t) : b < w.heap.size := (Array.getElem?_eq_some_iff.1 h).1
theorem Blk.cell (h : Blk w b cs t) {j : Nat} {v : Value} (hv : cs[j]? = some v) : w.cell? ⟨b, j, none⟩ = some v := (cell_of_row w b j cs t (0, 0) h).trans hv
theorem Blk.free (h : Blk w b cs t) (j : Nat) : w.frozen? ⟨b, j, none⟩ = false := by
  unfold Blk at h
  simp [World.frozen?, h]
theorem Blk.drew (h : Blk w b cs t) : Blk w.drew b cs t := h
theorem Blk.drewN (h : Blk w b cs t) (n : Nat) : Blk (w.drewN n) b cs t := h
theorem Blk.alloc (h : Blk w b cs t) (o : Obj) : Blk (w.alloc o) b cs t := (Below.heap_alloc w o b h.lt).trans h
theorem Blk.new (w : World) (cs : Array Value) (t : TypeId) : Blk (w.alloc (.cells cs t)) w.heap.size cs t := heap_alloc_last w _
theorem Blk.set (h : Blk w b cs t) (j : Nat) (v : Value) : Blk (w.setCell ⟨b, j, none⟩ v) b (cs.setIfInBounds j v) t := by
  unfold Blk at *
  rw [setCell_eq_setRow w b j cs t (0, 0) v h]
  exact setRow_heap w b cs _ t (0, 0) h
theorem Blk.other (h : Blk w b cs t) {p : Addr} (hne : b ≠ p.block) (v : Value) : Blk (w.setCell p v) b cs t := (Below.heap_setCell w p v b hne).trans h
theorem Blk.same (h : Blk w b cs t) (e : w'.heap[b]? = w.heap[b]?) : Blk w' b cs t := e.trans h
theorem Blk.below {B : Nat} (h : Blk w b cs t) (hb : Below B w w') (hB : b < B) : Blk w' b cs t := h.same (hb.block b hB)
theorem Blk.uniq {cs' : Array Value} {t' : TypeId} (h : Blk w b cs t) (h' : Blk w b cs' t') : cs = cs' ∧ t = t' := by
  unfold Blk at h h'
  rw [h] at h'
  injection h' with h'
  injection h' with h1 h2 h3
  exact ⟨h1, h2⟩
end

/-- w' is w, but for new blocks, draws and the blocks of S. -/
structure Kp (S : List Nat) (w w' : World) : Prop where
  os : w'.os = w.os
  tape : w'.tape = w.tape
  output : w'.output = w.output
  size : w.heap.size ≤ w'.heap.size
  block : ∀ k, k < w.heap.size → k ∉ S → w'.heap[k]? = w.heap[k]?

section
variable {S S' : List Nat} {w w1 w2 : World}
theorem Kp.refl (S : List Nat) (w : World) : Kp S w w := ⟨rfl, rfl, rfl, Nat.le_refl _, fun _ _ _ => rfl⟩
theorem Kp.trans (h : Kp S w w1) (k : Kp S w1 w2) : Kp S w w2 :=
  ⟨k.os.trans h.os, k.tape.trans h.tape, k.output.trans h.output, Nat.le_trans h.size k.size, fun i hi hS => (k.block i (Nat.lt_of_lt_of_le hi h.size) hS).trans (h.block i hi hS)⟩
theorem Kp.mono (h : Kp S w w1) (hS : ∀ k, k < w.heap.size → k ∈ S → k ∈ S') : Kp S' w w1 := ⟨h.os, h.tape, h.output, h.size, fun k hk hn => h.block k hk (fun hm => hn (hS k hk hm))⟩
/-- A later step that changes blocks of S' or blocks that are new since the start. -/
theorem Kp.then (h : Kp S w w1) (k : Kp S' w1 w2) (hS : ∀ i, i < w.heap.size → i ∈ S' → i ∈ S) : Kp S w w2 :=
  ⟨k.os.trans h.os, k.tape.trans h.tape, k.output.trans h.output, Nat.le_trans h.size k.size, fun i hi hn => (k.block i (Nat.lt_of_lt_of_le hi h.size) (fun hm => hn (hS i hi hm))).trans (h.block i hi hn)⟩
theorem Kp.drew (h : Kp S w w1) : Kp S w w1.drew := h.trans ⟨rfl, rfl, rfl, Nat.le_refl _, fun _ _ _ => rfl⟩
theorem Kp.drewN (h : Kp S w w1) (n : Nat) : Kp S w (w1.drewN n) := h.trans ⟨rfl, rfl, rfl, Nat.le_refl _, fun _ _ _ => rfl⟩
theorem Kp.alloc (h : Kp S w w1) (o : Obj) : Kp S w (w1.alloc o) := h.trans ⟨rfl, rfl, rfl, by simp, fun k hk _ => Below.heap_alloc _ _ _ hk⟩
theorem Kp.set (h : Kp S w w1) {p : Addr} (hp : p.block ∈ S ∨ w.heap.size ≤ p.block) (v : Value) : Kp S w (w1.setCell p v) :=
  ⟨h.os, h.tape, h.output, by simpa [World.setCell] using h.size, fun k hk hn => (Below.heap_setCell _ _ _ _ (fun e => by
    rcases hp with hp | hp
    · exact hn (e ▸ hp)
    · omega)).trans (h.block k hk hn)⟩
theorem Kp.of_below {B : Nat} (h : Below B w w1) (hB : w.heap.size ≤ B) : Kp S w w1 := ⟨h.os, h.tape, h.output, h.size, fun k hk _ => h.block k (Nat.lt_of_lt_of_le hk hB)⟩
theorem Kp.below (h : Kp [] w w1) : Below w.heap.size w w1 := ⟨h.os, h.tape, h.output, h.size, fun k hk => h.block k hk (by simp)⟩
theorem Kp.belowB {B : Nat} (h : Kp S w w1) (hB : B ≤ w.heap.size) (hS : ∀ k, k < B → k ∉ S) : Below B w w1 := ⟨h.os, h.tape, h.output, h.size, fun k hk => h.block k (by omega) (hS k hk)⟩
theorem Kp.cell (h : Kp S w w1) {p : Addr} (hp : p.block < w.heap.size) (hS : p.block ∉ S) : w1.cell? p = w.cell? p := World.cell?_of_block (w := w) (h.block p.block hp hS)
theorem Kp.frozen (h : Kp S w w1) {p : Addr} (hp : p.block < w.heap.size) (hS : p.block ∉ S) : w1.frozen? p = w.frozen? p := World.frozen?_of_block (w := w) (h.block p.block hp hS)
theorem Kp.blk {b : Nat} {cs : Array Value} {t : TypeId} (h : Kp S w w1) (hb : Blk w b cs t) (hS : b ∉ S) : Blk w1 b cs t := hb.same (h.block b hb.lt hS)
end

section
variable {P : Program} {ops : Array Oper} {rest : List Oper} {o : Oper} {a : Act} {w : World} {Q : Exit → Act → World → Prop}
/-- A whole struct into the block that was made last. -/
theorem kit_store_last (hgd : o.guard = none) (ty : TypeId) (x y : Operand) (ho : o.op = .store ty x y)
    (hd : o.dst = none) (g : Nat) (cells old : Array Value) (hx : a.eval x = .pointer (some ⟨g, 0, none⟩)) (hy : a.eval y = .agg cells) (hg : g = w.heap.size)
    (hi : (P.info? ty).map (·.size) = some cells.size) (hold : old.size = cells.size) (h1 : cells.all (·.oneCell') = true)
    (h : wpList P ops Q rest a (w.alloc (.cells cells ty))) : wpList P ops Q (o :: rest) a (w.alloc (.cells old ty)) := by
  subst hg
  refine wpList_store_row hgd ty x y ho w.heap.size cells hx hy ty old (heap_alloc_last w _) hi hold h1 ?_
  rw [hd, World.setRow_alloc_new]
  exact h
/-- A whole struct or array out of a block. -/
theorem kit_load (hgd : o.guard = none) (ty : TypeId) (x : Operand) (ho : o.op = .load ty x)
    (dst : Option Tmp) (hd : o.dst = dst) (g : Nat) (hx : a.eval x = .pointer (some ⟨g, 0, none⟩)) (cs : Array Value) (t : TypeId) (hg : Blk w g cs t)
    (d : TypeDesc) (hu : P.underlying ty = some d) (hk : (match d with | .struct _ | .array _ _ => true | _ => false) = true) (hi : (P.info? ty).map (·.size) = some cs.size)
    (h : wpList P ops Q rest (a.put dst (.agg cs)) w) : wpList P ops Q (o :: rest) a w := by
  subst hd
  exact wpList_load_row hgd ty x ho g hx t cs (0, 0) d hg hu hk hi h
/-- A struct or an array made of parts. -/
theorem kit_build (hg : o.guard = none) (t : TypeId) (parts : Array (Nat × Operand)) (ho : o.op = .build t parts)
    (d : Option Tmp) (hd : o.dst = d) (cells : Array Value) (hf : P.built t (parts.map fun (i, x) => (i, a.eval x)).toList = some cells)
    (h : wpList P ops Q rest (a.put d (.agg cells)) w) : wpList P ops Q (o :: rest) a w := by
  subst hd
  refine wpList_build hg t parts ho (by rw [hf]; rfl) ?_
  rw [hf]
  exact h
end

end Go.Proofs.YtfkaldaflnmfiaaGreatDoor
/- Words for slices of bytes: what a slice reads as; a slice that the call itself made. -/
namespace Go.Proofs.YtfkaldaflnmfiaaGreatDoor
set_option linter.unusedSimpArgs false
set_option linter.unusedVariables false
open Go Go.RowKit

def u8s (l : List Int) : List Value := l.map (Value.int .u8)
def Bs (l : List Int) : Prop := ∀ x ∈ l, 0 ≤ x ∧ x ≤ 255
/-- The slice of bytes v reads as l. -/
def Byt (w : World) (v : Value) (l : List Int) : Prop :=
  (v = .slice none 0 0 ∧ l = []) ∨ ∃ b o c, v = .slice (some ⟨b, o, none⟩) l.length c ∧ l.length ≤ c ∧ b < w.heap.size ∧ ∀ j, j < l.length → w.cell? ⟨b, o + j, none⟩ = some (.int .u8 (l.getD j 0))
/-- The slice of bytes v reads as l, in a block from B on that nothing else holds. -/
def Own (w : World) (B : Nat) (v : Value) (l : List Int) : Prop := w.ownsRow B 5 1 v l.length (u8s l)

theorem Bs.nil : Bs [] := by intro x h; cases h
theorem Bs.append {a b : List Int} (ha : Bs a) (hb : Bs b) : Bs (a ++ b) := by
  intro x hx
  rcases List.mem_append.1 hx with h | h
  · exact ha x h
  · exact hb x h
theorem Bs.take {a : List Int} (ha : Bs a) (n : Nat) : Bs (a.take n) := fun x hx => ha x (List.mem_of_mem_take hx)
theorem Bs.at {a : List Int} (ha : Bs a) (j : Nat) : 0 ≤ a.getD j 0 ∧ a.getD j 0 ≤ 255 := by
  rw [List.getD_eq_getElem?_getD]
  rcases h : a[j]? with _ | x
  · simp
  · exact ha x (List.mem_of_getElem? h)
theorem u8s_length (l : List Int) : (u8s l).length = l.length := by simp [u8s]
theorem u8s_append (a b : List Int) : u8s (a ++ b) = u8s a ++ u8s b := by simp [u8s]
theorem u8s_one (l : List Int) : ∀ u ∈ u8s l, u.oneCell' = true := by
  intro u hu
  simp only [u8s, List.mem_map] at hu
  obtain ⟨y, _, rfl⟩ := hu
  rfl
theorem u8s_at {l : List Int} {j : Nat} {u : Value} (h : (u8s l)[j]? = some u) : j < l.length ∧ u = .int .u8 (l.getD j 0) := by
  simp only [u8s, List.getElem?_map, Option.map_eq_some_iff] at h
  obtain ⟨y, hy, rfl⟩ := h
  exact ⟨(List.getElem?_eq_some_iff.1 hy).1, by rw [List.getD_eq_getElem?_getD, hy]; rfl⟩
theorem add_plain (b o j : Nat) : (⟨b, o, none⟩ : Addr).add j = ⟨b, o + j, none⟩ := by unfold Addr.add; split <;> simp_all

section
variable {w w' : World} {B : Nat} {v : Value} {l : List Int} {S : List Nat}
theorem Byt.nil (w : World) : Byt w (.slice none 0 0) [] := .inl ⟨rfl, rfl⟩
theorem Byt.of_cells {b o c : Nat} (hc : l.length ≤ c) (hb : b < w.heap.size) (h : ∀ j, j < l.length → w.cell? ⟨b, o + j, none⟩ = some (.int .u8 (l.getD j 0))) : Byt w (.slice (some ⟨b, o, none⟩) l.length c) l :=
  .inr ⟨b, o, c, rfl, hc, hb, h⟩
/-- The block in which a slice lies. -/
def inBlock (v : Value) (S : List Nat) : Prop := ∀ a n c, v = .slice (some a) n c → a.block ∈ S
theorem Byt.kpS (h : Byt w v l) (hk : Kp S w w') (hS : ∀ b, v.ownBlock = some b → b ∉ S) : Byt w' v l := by
  rcases h with h | ⟨b, o, c, rfl, h1, h2, h3⟩
  · exact .inl h
  · exact .inr ⟨b, o, c, rfl, h1, Nat.lt_of_lt_of_le h2 hk.size, fun j hj => (hk.cell (p := ⟨b, o + j, none⟩) h2 (hS b rfl)).trans (h3 j hj)⟩
theorem Byt.kp (h : Byt w v l) (hk : Kp [] w w') : Byt w' v l := h.kpS hk (by simp)
theorem Byt.alloc (h : Byt w v l) (o : Obj) : Byt (w.alloc o) v l := h.kp ((Kp.refl [] w).alloc o)
theorem Byt.drew (h : Byt w v l) : Byt w.drew v l := h.kp (Kp.refl [] w).drew
theorem Byt.drewN (h : Byt w v l) (n : Nat) : Byt (w.drewN n) v l := h.kp ((Kp.refl [] w).drewN n)
theorem Byt.below (h : Byt w v l) (hk : Below B w w') (hB : ∀ b, v.ownBlock = some b → b < B) : Byt w' v l := by
  rcases h with h | ⟨b, o, c, rfl, h1, h2, h3⟩
  · exact .inl h
  · exact .inr ⟨b, o, c, rfl, h1, Nat.lt_of_lt_of_le h2 hk.size, fun j hj => (hk.cell (p := ⟨b, o + j, none⟩) (hB b rfl)).trans (h3 j hj)⟩
theorem Byt.lt (h : Byt w v l) : ∀ b, v.ownBlock = some b → b < w.heap.size := by
  intro k hk
  rcases h with ⟨rfl, _⟩ | ⟨b, o, c, rfl, _, h2, _⟩
  · simp [Value.ownBlock] at hk
  · simp [Value.ownBlock] at hk
    omega

theorem Own.nil (w : World) (B : Nat) : Own w B (.slice none 0 0) [] := World.ownsRow_nil w B 5 1
theorem Own.byt (h : Own w B v l) : Byt w v l := by
  obtain ⟨h1, h2 | ⟨g, cap, cur, rfl, h2, h3, h4, h5, h6, h7⟩⟩ := h
  · left
    exact ⟨h2.1, List.eq_nil_of_length_eq_zero h2.2⟩
  · refine .inr ⟨g, 0, cap, rfl, h4, (Array.getElem?_eq_some_iff.1 h3).1, fun j hj => ?_⟩
    rw [cell_of_row w g (0 + j) cur 5 (0, 0) h3, Nat.zero_add]
    have hx : (u8s l)[j]? = some (.int .u8 (l.getD j 0)) := by simp [u8s, hj]
    rw [← h7, List.getElem?_take] at hx
    split at hx
    · simpa using hx
    · cases hx
theorem Own.kpS (h : Own w B v l) (hk : Kp S w w') (hS : ∀ b, v.ownBlock = some b → b ∉ S) : Own w' B v l := by
  obtain ⟨h1, h2 | ⟨g, cap, cur, rfl, h2, h3, h4⟩⟩ := h
  · exact ⟨h1, .inl h2⟩
  · exact ⟨h1, .inr ⟨g, cap, cur, rfl, h2, (hk.block g (Array.getElem?_eq_some_iff.1 h3).1 (hS g rfl)).trans h3, h4⟩⟩
theorem Own.kp (h : Own w B v l) (hk : Kp [] w w') : Own w' B v l := h.kpS hk (by simp)
theorem Own.alloc (h : Own w B v l) (o : Obj) : Own (w.alloc o) B v l := h.kp ((Kp.refl [] w).alloc o)
theorem Own.mono {B' : Nat} (h : Own w B v l) (hB : B' ≤ B) : Own w B' v l := by
  obtain ⟨h1, h2 | ⟨g, cap, cur, rfl, h2, h3⟩⟩ := h
  · exact ⟨h1, .inl h2⟩
  · exact ⟨h1, .inr ⟨g, cap, cur, rfl, Nat.le_trans hB h2, h3⟩⟩
theorem Own.ge (h : Own w B v l) : ∀ b, v.ownBlock = some b → B ≤ b := fun b hb => (World.ownsRow.lt h b hb).1
/-- A block made just now. -/
theorem Own.of_blk {b cap : Nat} {cs : Array Value} (hb : Blk w b cs 5) (hB : B ≤ b) (hn : l.length ≤ cap) (hc : cs.size = cap) (hm : cap ≤ maxLen) (ht : cs.toList.take l.length = u8s l) : Own w B (.slice (some ⟨b, 0, none⟩) l.length cap) l :=
  ⟨by rw [u8s_length, Nat.mul_one], .inr ⟨b, cap, cs, rfl, hB, hb, hn, hm, by rw [hc, Nat.mul_one], by rw [Nat.mul_one, ht]⟩⟩
end

theorem Kp.of_grown {w w' : World} {row : Option Nat} {S : List Nat} (hg : w.grownBy w' row) (hr : ∀ k, row = some k → k ∈ S) : Kp S w w' :=
  ⟨hg.os, hg.tape, hg.output, hg.size, fun k hk hn => hg.block k hk (fun e => hn (hr k e.symm))⟩
theorem Kp.nilB {w w' : World} (h : Below w.heap.size w w') : Kp [] w w' := Kp.of_below h (Nat.le_refl _)
theorem Below.kp {B : Nat} {a w w' : World} (h : Below B a w) (k : Kp [] w w') (hB : B ≤ w.heap.size) : Below B a w' := h.trans (k.below.mono hB)

theorem Kp.thenB {B : Nat} {w W W' : World} {S : List Nat} (k : Kp S w W) (hb : Below B W W') (hB : w.heap.size ≤ B) : Kp S w W' :=
  ⟨hb.os.trans k.os, hb.tape.trans k.tape, hb.output.trans k.output, Nat.le_trans k.size hb.size, fun i hi hn => (hb.block i (Nat.lt_of_lt_of_le hi hB)).trans (k.block i hi hn)⟩
/-- A cell that stays as it is. -/
theorem Blk.all {w : World} {b : Nat} {cs : Array Value} {t : TypeId} (h : Blk w b cs t) (j : Nat) {v : Value} (hj : cs[j]? = some v) : ∀ W, Kp [] w W → W.cell? ⟨b, j, none⟩ = some v := fun W k => (k.blk h (by simp)).cell hj
theorem Byt.all {w : World} {v : Value} {l : List Int} (h : Byt w v l) : ∀ W, Kp [] w W → Byt W v l := fun W k => h.kp k

@[go_sem] theorem Kp.refl_sem (S : List Nat) (w : World) : Kp S w w ↔ True := iff_true_intro (Kp.refl S w)
@[go_sem] theorem Kp.alloc_sem {S : List Nat} {w w1 : World} (o : Obj) (h : Kp S w w1) : Kp S w (w1.alloc o) ↔ True := iff_true_intro (h.alloc o)
@[go_sem] theorem Kp.drew_sem {S : List Nat} {w w1 : World} (h : Kp S w w1) : Kp S w w1.drew ↔ True := iff_true_intro h.drew
@[go_sem] theorem Kp.drewN_sem {S : List Nat} {w w1 : World} (n : Nat) (h : Kp S w w1) : Kp S w (w1.drewN n) ↔ True := iff_true_intro (h.drewN n)
@[go_sem] theorem Kp.set_sem {S : List Nat} {w w1 : World} {p : Addr} (v : Value) (h : Kp S w w1) (hp : w.heap.size ≤ p.block) : Kp S w (w1.setCell p v) ↔ True := iff_true_intro (h.set (.inr hp) v)

/-- One byte row's type. -/
theorem info5 : (Tryz.prog.info? 5).map (fun i => (i.zero, i.size, i.bytes)) = some (some (.int .u8 0), 1, 1) := by kernel_rfl

/-- The block of a slice, as a list. -/
def ownL (v : Value) : List Nat := match v.ownBlock with | some b => [b] | none => []
theorem mem_ownL {v : Value} {b : Nat} : b ∈ ownL v ↔ v.ownBlock = some b := by
  unfold ownL
  cases h : v.ownBlock <;> simp [eq_comm]
/-- v has become v' by appends: only v's own block may have been written, v' lies there or in a new block. -/
structure Apd (w : World) (v v' : Value) (w' : World) : Prop where
  kp : Kp (ownL v) w w'
  at_ : ∀ b, v'.ownBlock = some b → v.ownBlock = some b ∨ w.heap.size ≤ b
theorem Apd.refl (w : World) (v : Value) : Apd w v v w := ⟨Kp.refl _ _, fun b hb => .inl hb⟩
theorem Apd.trans {w w1 w2 : World} {v v1 v2 : Value} (h : Apd w v v1 w1) (k : Apd w1 v1 v2 w2) : Apd w v v2 w2 := by
  refine ⟨h.kp.then k.kp ?_, ?_⟩
  · intro i hi hm
    rw [mem_ownL] at hm ⊢
    rcases h.at_ i hm with h1 | h1
    · exact h1
    · omega
  · intro b hb
    rcases k.at_ b hb with h1 | h1
    · exact h.at_ b h1
    · exact .inr (Nat.le_trans h.kp.size h1)
theorem Apd.below {w w' : World} {v v' : Value} {B : Nat} {l : List Int} (h : Apd w v v' w') (ho : Own w B v l) (hB : B ≤ w.heap.size) : Below B w w' :=
  h.kp.belowB hB (fun k hk hm => by have := ho.ge k (mem_ownL.1 hm); omega)
theorem Apd.nil {w w' : World} {v' : Value} (h : Apd w (.slice none 0 0) v' w') : Kp [] w w' := h.kp
/-- The slice to which is appended is the call's own. -/
theorem Apd.own {w0 w w' : World} {v v' : Value} {B : Nat} {l : List Int} {S : List Nat} (h : Apd w v v' w') (k : Kp S w0 w) (ho : Own w B v l) (hB : w0.heap.size ≤ B) : Kp S w0 w' :=
  k.then h.kp (fun i hi hm => by have := ho.ge i (mem_ownL.1 hm); omega)
/-- What is appended to before (by a step that keeps the rest). -/
theorem Apd.pre {w0 w w' : World} {v v' : Value} (k : Kp [] w0 w) (h : Apd w v v' w') : Apd w0 v v' w' := by
  refine ⟨?_, fun b hb => ?_⟩
  · exact ⟨h.kp.os.trans k.os, h.kp.tape.trans k.tape, h.kp.output.trans k.output, Nat.le_trans k.size h.kp.size, fun i hi hn => (h.kp.block i (Nat.lt_of_lt_of_le hi k.size) hn).trans (k.block i hi (by simp))⟩
  · rcases h.at_ b hb with h1 | h1
    · exact .inl h1
    · exact .inr (Nat.le_trans k.size h1)

section
variable {ops : Array Oper} {rest : List Oper} {o : Oper} {a : Act} {w : World} {Q : Exit → Act → World → Prop} {K : Act → World → Prop}
theorem wp_kit_append (s x : Operand) (t : TypeId) (ht : Tryz.prog.underlying t = some (.slice 5)) (ho : o.op = .call { callee := .builtin .append, args := #[s, x], argTypes := #[t, t] })
    {B : Nat} {v vx : Value} {l m : List Int} (hs : a.eval s = v) (hown : Own w B v l) (hx : a.eval x = vx) (hm : Byt w vx m) (hlen : l.length + m.length ≤ 1000000000) (hB : B ≤ w.heap.size)
    (h : ∀ v' w', Own w' B v' (l ++ m) → Apd w v v' w' → K (a.put o.dst v') w') : o.wp Tryz.prog a w K Q := by
  obtain ⟨i0, hi, hz0, hz1, hz2⟩ := info_parts info5
  have hnone : ∀ (hrun : (Builtin.append_ #[t, t] o.type #[v, vx]).run Tryz.prog w = .ok v w), m = [] → o.wp Tryz.prog a w K Q := by
    intro hrun hm0
    subst hm0
    unfold Oper.wp
    simp [execOp, ho, resolve, invoke, builtin, hs, hx, hrun, Result.andThen]
    exact h v w (by simpa using hown) ⟨Kp.refl _ _, fun b hb => .inl hb⟩
  rcases hm with ⟨rfl, rfl⟩ | ⟨b, oo, c, rfl, h1, h2, h3⟩
  · exact hnone (run_append_owned_none (P := Tryz.prog) (w := w) B t o.type 5 i0 1 ht hi v l.length (u8s l) hown) rfl
  · have hnews : ∀ j u, (u8s m)[j]? = some u → w.cell? ((⟨b, oo, none⟩ : Addr).add j) = some u := by
      intro j u hu
      obtain ⟨hj, rfl⟩ := u8s_at hu
      rw [add_plain]
      exact h3 j hj
    rcases Nat.eq_zero_or_pos m.length with hm0 | hm0
    · have hm1 : m = [] := List.eq_nil_of_length_eq_zero hm0
      subst hm1
      rcases hown.2 with ⟨rfl, hl⟩ | ⟨g, cap, cur, rfl, hbg, hg, hnc, hcm, hcs, htake⟩
      · refine hnone ?_ rfl
        simp [Builtin.append_, run_underlying ht, sizeOf, typeInfo, hi, Builtin.lenOf, Builtin.firstCells, loadCells, loadCellsFrom]
      · have hr := run_append_room (P := Tryz.prog) w t o.type 5 i0 ht hi g l.length cap cur hg ⟨b, oo, none⟩ 0 c [] (by simp) (by simp) (by simp) hnc (by simp [hz1, hcs]; omega)
        unfold Oper.wp
        simp only [List.length_nil] at hx
        simp [execOp, ho, resolve, invoke, builtin, hs, hx, hr, Result.andThen]
        refine h _ _ ?_ ⟨⟨rfl, rfl, rfl, by simp [World.setRow], fun k _ hn => setRow_other w g k _ (by simpa [ownL, Value.ownBlock] using hn)⟩, fun b hb => .inl hb⟩
        rw [List.append_nil]
        exact ⟨by rw [u8s_length, Nat.mul_one], .inr ⟨g, cap, cur.toList.toArray, rfl, hbg, by simpa using setRow_heap w g cur cur.toList.toArray 5 (0, 0) hg, hnc, hcm, by simpa using hcs, by simpa using htake⟩⟩
    · refine wp_append_lies w s x t ho B 5 i0 (.int .u8 0) 1 1 ht hi hz0 hz1 hz2 rfl (by decide) v l.length (u8s l) hs hown ⟨b, oo, none⟩ m.length c (u8s m) hx (by rw [u8s_length, Nat.mul_one]) hnews (u8s_one m) hm0 ?_ ?_ hB w.heap.size rfl ?_
      · unfold maxLen; omega
      · omega
      · intro g cap w' h4 h5 h6 _
        refine h _ w' ?_ ⟨Kp.of_grown h5 (fun k hk => mem_ownL.2 hk), fun b hb => ?_⟩
        · unfold Own
          rw [List.length_append, u8s_append]
          exact h4
        · simp [Value.ownBlock] at hb
          subst hb
          rcases h6 with h6 | h6
          · exact .inl h6
          · exact .inr (by omega)
/-- 'append(out, x...)', out the call's own. -/
theorem kit_append (hgd : o.guard = none) (s x : Operand) (t : TypeId) (ht : Tryz.prog.underlying t = some (.slice 5)) (ho : o.op = .call { callee := .builtin .append, args := #[s, x], argTypes := #[t, t] })
    {B : Nat} {v vx : Value} {l m : List Int} (hs : a.eval s = v) (hown : Own w B v l) (hx : a.eval x = vx) (hm : Byt w vx m) (hlen : l.length + m.length ≤ 1000000000) (hB : B ≤ w.heap.size)
    (h : ∀ v' w', Own w' B v' (l ++ m) → Apd w v v' w' → wpList Tryz.prog ops Q rest (a.put o.dst v') w') : wpList Tryz.prog ops Q (o :: rest) a w :=
  wpList_plain hgd fun _ hK => wp_kit_append s x t ht ho hs hown hx hm hlen hB fun v' w' h1 h2 => hK _ _ (h v' w' h1 h2)
/-- The same in a region that draws its order. -/
theorem step_kit_append {E : Prop} (hgd : o.guard = none) (s x : Operand) (t : TypeId) (ht : Tryz.prog.underlying t = some (.slice 5)) (ho : o.op = .call { callee := .builtin .append, args := #[s, x], argTypes := #[t, t] })
    {B : Nat} {v vx : Value} {l m : List Int} (hs : a.eval s = v) (hown : Own w B v l) (hx : a.eval x = vx) (hm : Byt w vx m) (hlen : l.length + m.length ≤ 1000000000) (hB : B ≤ w.heap.size)
    (h : ∀ v' w', Own w' B v' (l ++ m) → Apd w v v' w' → K (a.put o.dst v') w') :
    if Region.wanted o (yielded ops a.tmps) = true then Oper.wp Tryz.prog o a w K Q else E := by
  have hw : Region.wanted o (yielded ops a.tmps) = true := by simp [Region.wanted, hgd]
  rw [if_pos hw]
  exact wp_kit_append s x t ht ho hs hown hx hm hlen hB h
end

theorem eq_of_Bs : ∀ {a b : List Int}, Bs a → Bs b → (a.map fun n => UInt8.ofNat n.toNat) = (b.map fun n => UInt8.ofNat n.toNat) → a = b
  | [], [], _, _, _ => rfl
  | [], _ :: _, _, _, h => by simp at h
  | _ :: _, [], _, _, h => by simp at h
  | x :: a, y :: b, ha, hb, h => by
    simp only [List.map_cons, List.cons.injEq] at h
    have hx := ha x (by simp)
    have hy := hb y (by simp)
    have e : x.toNat = y.toNat := by
      have := congrArg UInt8.toNat h.1
      simp at this
      omega
    rw [show x = y by omega, eq_of_Bs (fun z hz => ha z (by simp [hz])) (fun z hz => hb z (by simp [hz])) h.2]
theorem str_inj {a b : List Int} (ha : Bs a) (hb : Bs b) : strOfNums a = strOfNums b ↔ a = b := by
  constructor
  · intro h
    refine eq_of_Bs ha hb ?_
    rw [← strOfNums_data, ← strOfNums_data, h]
  · rintro rfl
    rfl

/-- 'string(v)' of a slice that reads as l. -/
theorem run_string (w : World) {v : Value} {l : List Int} (h : Byt w v l) (src : TypeId) (hs : Tryz.prog.underlying src = some (.slice 5)) : (convert src 9 v).run Tryz.prog w = .ok (.string (strOfNums l)) w := by
  rcases h with ⟨rfl, rfl⟩ | ⟨b, o, c, rfl, h1, h2, h3⟩
  · rw [run_convert_bytes_nil w src 5 hs Tryz.underlying5 0 0 9 Tryz.underlying9]
    rfl
  · exact run_convert_bytes_arg w src 5 hs Tryz.underlying5 b o l.length c l rfl h3 9 Tryz.underlying9

end Go.Proofs.YtfkaldaflnmfiaaGreatDoor
/- Contracts of the great numbers' digits, where there is at most one. -/
namespace Go.Proofs.YtfkaldaflnmfiaaGreatDoor
set_option linter.unusedSimpArgs false
set_option linter.unusedVariables false
open Go Go.RowKit

/-- The digits v are those of x, at most one. -/
def Nt (w : World) (v : Value) (x : Int) : Prop :=
  (x = 0 ∧ ∃ a c, v = .slice a 0 c) ∨ (0 < x ∧ x ≤ 2000000000 ∧ ∃ b o c, v = .slice (some ⟨b, o, none⟩) 1 c ∧ 1 ≤ c ∧ w.cell? ⟨b, o, none⟩ = some (.int .u32 x))
theorem Nt.kp {w w' : World} {v : Value} {x : Int} (h : Nt w v x) (k : Kp [] w w') : Nt w' v x := by
  rcases h with h | ⟨h1, h2, b, o, c, h3, h4, h5⟩
  · exact .inl h
  · exact .inr ⟨h1, h2, b, o, c, h3, h4, (k.cell (p := ⟨b, o, none⟩) (World.block_lt_of_cell? w _ h5) (by simp)).trans h5⟩
def NtRes (w : World) (x : Int) (e : Ending) (w' : World) : Prop := ∃ v, e = .returned v ∧ Nt w' v x ∧ Kp [] w w'

theorem nt_zero (w : World) (a : Option Addr) (c : Nat) : Nt w (.slice a 0 c) 0 := .inl ⟨rfl, a, c, rfl⟩
theorem nt_one {w : World} {b o c : Nat} {x : Int} (h0 : 0 < x) (h1 : x ≤ 2000000000) (hc : 1 ≤ c) (h : w.cell? ⟨b, o, none⟩ = some (.int .u32 x)) : Nt w (.slice (some ⟨b, o, none⟩) 1 c) x := .inr ⟨h0, h1, b, o, c, rfl, hc, h⟩

set_option maxRecDepth 100000 in
theorem norm2_any (b : Nat) (x : Int) (w : World) (h0 : w.cell? ⟨b, 0, none⟩ = some (.int .u32 x)) (h1 : w.cell? ⟨b, 1, none⟩ = some (.int .u32 0)) (hx : 0 ≤ x ∧ x ≤ 2000000000) :
    Calls Tryz.prog 130 #[.slice (some ⟨b, 0, none⟩) 2 2] w fun e w' => (∃ v, e = .returned v ∧ Nt w v x) ∧ w = w' := by
  obtain ⟨x0, x1⟩ := hx
  rcases hx : (x == 0) with _ | _
  · go_enter Tryz.func130, Tryz.ntmps130
    go_wp2
    refine wp_loop_rounds 2 ?_
    rw [rounds_succ]
    go_wp2
    rw [rounds_succ]
    go_wp2
    go_ret
    have hx1 := ne_of_beq_false hx
    exact ⟨⟨_, rfl, nt_one (by omega) x1 (by omega) h0⟩, rfl⟩
  · go_enter Tryz.func130, Tryz.ntmps130
    go_wp2
    refine wp_loop_rounds 3 ?_
    rw [rounds_succ]
    go_wp2
    rw [rounds_succ]
    go_wp2
    rw [rounds_succ]
    go_wp2
    go_ret
    have hx1 := eq_of_beq hx
    subst hx1
    exact ⟨⟨_, rfl, nt_zero _ _ _⟩, rfl⟩

set_option maxRecDepth 100000 in
theorem norm1_any (b : Nat) (x : Int) (w : World) (h0 : w.cell? ⟨b, 0, none⟩ = some (.int .u32 x)) (hx : 0 ≤ x ∧ x ≤ 2000000000) :
    Calls Tryz.prog 130 #[.slice (some ⟨b, 0, none⟩) 1 1] w fun e w' => (∃ v, e = .returned v ∧ Nt w v x) ∧ w = w' := by
  obtain ⟨x0, x1⟩ := hx
  rcases hx : (x == 0) with _ | _
  · go_enter Tryz.func130, Tryz.ntmps130
    go_wp2
    refine wp_loop_rounds 1 ?_
    rw [rounds_succ]
    go_wp2
    go_ret
    have hx1 := ne_of_beq_false hx
    exact ⟨⟨_, rfl, nt_one (by omega) x1 (by omega) h0⟩, rfl⟩
  · go_enter Tryz.func130, Tryz.ntmps130
    go_wp2
    refine wp_loop_rounds 2 ?_
    rw [rounds_succ]
    go_wp2
    rw [rounds_succ]
    go_wp2
    go_ret
    have hx1 := eq_of_beq hx
    subst hx1
    exact ⟨⟨_, rfl, nt_zero _ _ _⟩, rfl⟩

set_option maxRecDepth 100000 in
theorem natOf_any (x : Int) (w : World) (hx : 0 ≤ x ∧ x ≤ 2000000000) : Calls Tryz.prog 123 #[.int .u64 x] w (NtRes w x) := by
  obtain ⟨x0, x1⟩ := hx
  have hq : x / 4294967296 = 0 := by omega
  go_enter Tryz.func123, Tryz.ntmps123
  go_wp2_with fail
  have hb := Blk.new w #[.int .u32 x, .int .u32 0] 47
  have k1 := (Kp.refl [] w).alloc (.cells #[.int .u32 x, .int .u32 0] 47)
  generalize w.alloc (.cells #[.int .u32 x, .int .u32 0] 47) = w1 at *
  have HK := Lib.hid k1
  refine (norm2_any w.heap.size x w1 (hb.cell rfl) (hb.cell rfl) ⟨x0, x1⟩).mono ?_
  rintro e w2 ⟨⟨v, rfl, hv⟩, rfl⟩
  have HV := Lib.hid hv
  clear hv hb k1
  go_wp2
  go_ret
  exact ⟨v, rfl, HV.out, HK.out⟩

/-- Nothing against nothing. -/
theorem cmp_00 (a a' : Option Addr) (c c' : Nat) (w : World) : Calls Tryz.prog 124 #[.slice a 0 c, .slice a' 0 c'] w fun e w' => e = .returned (.int .i64 0) ∧ w = w' := by
  go_enter Tryz.func124, Tryz.ntmps124
  go_wp2
  refine wp_loop_rounds 1 ?_
  rw [rounds_succ]
  go_wp2
  go_ret
  exact ⟨rfl, rfl⟩
theorem cmp_01 (a a' : Option Addr) (c c' : Nat) (w : World) : Calls Tryz.prog 124 #[.slice a 0 c, .slice a' 1 c'] w fun e w' => e = .returned (.int .i64 (-1)) ∧ w = w' := by
  go_enter Tryz.func124, Tryz.ntmps124
  go_wp2
  go_ret
  exact ⟨rfl, rfl⟩

set_option maxRecDepth 100000 in
theorem cmp_11 (b o c b' o' c' : Nat) (x y : Int) (w : World) (hx : w.cell? ⟨b, o, none⟩ = some (.int .u32 x)) (hy : w.cell? ⟨b', o', none⟩ = some (.int .u32 y)) (hxy : y ≤ x) :
    Calls Tryz.prog 124 #[.slice (some ⟨b, o, none⟩) 1 c, .slice (some ⟨b', o', none⟩) 1 c'] w fun e w' => (∃ z : Int, e = .returned (.int .i64 z) ∧ 0 ≤ z) ∧ Kp [] w w' := by
  rcases hq : (x == y) with _ | _
  · have hne : (x != y) = true := by simp [bne, hq]
    have hlt : ¬ x < y := by omega
    go_enter Tryz.func124, Tryz.ntmps124
    go_wp2
    refine wp_loop_rounds 1 ?_
    rw [rounds_succ]
    go_wp2_with fail
    go_quiet (fail)
    go_wp2_with fail
    have hx' : (w.drewN nq).cell? ⟨b, o, none⟩ = some (.int .u32 x) := hx
    have hy' : (w.drewN nq).cell? ⟨b', o', none⟩ = some (.int .u32 y) := hy
    have kq := Lib.hid ((Kp.refl [] w).drewN nq)
    generalize w.drewN nq = w1 at *
    clear hx hy
    go_quiet (fail)
    go_wp2
    go_ret
    exact ⟨⟨1, rfl, by omega⟩, kq.out.drewN _⟩
  · have hne : (x != y) = false := by simp [bne, hq]
    go_enter Tryz.func124, Tryz.ntmps124
    go_wp2
    refine wp_loop_rounds 2 ?_
    rw [rounds_succ]
    go_wp2_with fail
    go_quiet (fail)
    go_wp2_with fail
    rw [rounds_succ]
    go_wp2
    go_ret
    exact ⟨⟨0, rfl, by omega⟩, (Kp.refl [] w).drewN _⟩
end Go.Proofs.YtfkaldaflnmfiaaGreatDoor
/- Contracts of the great numbers' digits: sums, differences and quotients, where there is at most one. -/
namespace Go.Proofs.YtfkaldaflnmfiaaGreatDoor
set_option linter.unusedSimpArgs false
set_option linter.unusedVariables false
open Go Go.RowKit


theorem mk1 (W : World) : (Instr.makeSlice 185 (.int .i64 1) (.int .i64 1)).run Tryz.prog W = .ok (.slice (some ⟨W.heap.size, 0, none⟩) 1 1) (W.alloc (.cells #[.int .u32 0] 47)) := by kernel_rfl
theorem mk2 (W : World) : (Instr.makeSlice 185 (.int .i64 2) (.int .i64 2)).run Tryz.prog W = .ok (.slice (some ⟨W.heap.size, 0, none⟩) 2 2) (W.alloc (.cells #[.int .u32 0, .int .u32 0] 47)) := by kernel_rfl

set_option maxRecDepth 100000 in
theorem add_00 (a a' : Option Addr) (c c' : Nat) (w : World) : Calls Tryz.prog 125 #[.slice a 0 c, .slice a' 0 c'] w (NtRes w 0) := by
  have hm := mk1
  go_enter Tryz.func125, Tryz.ntmps125
  go_wp2
  refine wp_loop_rounds 1 ?_
  rw [rounds_succ]
  go_wp2_with fail
  have hb := Blk.new w #[.int .u32 0] 47
  have k1 := (Kp.refl [] w).alloc (.cells #[.int .u32 0] 47)
  generalize w.alloc (.cells #[.int .u32 0] 47) = w1 at *
  have HK := Lib.hid k1
  refine (norm1_any w.heap.size 0 w1 (hb.cell rfl) ⟨by omega, by omega⟩).mono ?_
  rintro e w2 ⟨⟨v, rfl, hv⟩, rfl⟩
  have HV := Lib.hid hv
  clear hv hb k1 hm
  go_wp2
  go_ret
  exact ⟨v, rfl, HV.out, HK.out⟩

set_option maxRecDepth 100000 in
theorem add_11 (b o c b' o' c' : Nat) (x y : Int) (w : World) (hx : w.cell? ⟨b, o, none⟩ = some (.int .u32 x)) (hy : w.cell? ⟨b', o', none⟩ = some (.int .u32 y)) (hx0 : 0 < x) (hy0 : 0 < y) (hxy : x + y ≤ 2000000000) :
    Calls Tryz.prog 125 #[.slice (some ⟨b, o, none⟩) 1 c, .slice (some ⟨b', o', none⟩) 1 c'] w (NtRes w (x + y)) := by
  have hm := mk2
  have lb := World.block_lt_of_cell? w _ hx
  have lb' := World.block_lt_of_cell? w _ hy
  simp only at lb lb'
  have hq : (x + y) / 4294967296 = 0 := by omega
  go_enter Tryz.func125, Tryz.ntmps125
  go_wp2
  refine wp_loop_rounds 2 ?_
  rw [rounds_succ]
  go_wp2_with fail
  rw [rounds_succ]
  go_wp2_with fail
  have hb := Blk.new w #[.int .u32 (x + y), .int .u32 0] 47
  have k1 := (Kp.refl [] w).alloc (.cells #[.int .u32 (x + y), .int .u32 0] 47)
  generalize w.alloc (.cells #[.int .u32 (x + y), .int .u32 0] 47) = w1 at *
  have HK := Lib.hid k1
  refine (norm2_any w.heap.size (x + y) w1 (hb.cell rfl) (hb.cell rfl) ⟨by omega, by omega⟩).mono ?_
  rintro e w2 ⟨⟨v, rfl, hv⟩, rfl⟩
  have HV := Lib.hid hv
  clear hv hb k1 hm
  go_wp2
  go_ret
  exact ⟨v, rfl, HV.out, HK.out⟩

set_option maxRecDepth 100000 in
theorem sub_10 (b o c : Nat) (a' : Option Addr) (c' : Nat) (x : Int) (w : World) (hx : w.cell? ⟨b, o, none⟩ = some (.int .u32 x)) (hx0 : 0 < x) (hx1 : x ≤ 2000000000) :
    Calls Tryz.prog 126 #[.slice (some ⟨b, o, none⟩) 1 c, .slice a' 0 c'] w (NtRes w x) := by
  have hm := mk1
  have lb := World.block_lt_of_cell? w _ hx
  simp only at lb
  go_enter Tryz.func126, Tryz.ntmps126
  go_wp2
  refine wp_loop_rounds 2 ?_
  rw [rounds_succ]
  go_wp2_with fail
  rw [rounds_succ]
  go_wp2_with fail
  have hb := Blk.new w #[.int .u32 x] 47
  have k1 := (Kp.refl [] w).alloc (.cells #[.int .u32 x] 47)
  generalize w.alloc (.cells #[.int .u32 x] 47) = w1 at *
  have HK := Lib.hid k1
  refine (norm1_any w.heap.size x w1 (hb.cell rfl) ⟨by omega, by omega⟩).mono ?_
  rintro e w2 ⟨⟨v, rfl, hv⟩, rfl⟩
  have HV := Lib.hid hv
  clear hv hb k1 hm
  go_wp2
  go_ret
  exact ⟨v, rfl, HV.out, HK.out⟩

theorem or_zero_u64 (x : Int) (h0 : 0 ≤ x) (h1 : x ≤ 2000000000) : bits .or .u64 0 x = x := by
  simp [bits]
  simp [IntKind.wrap, IntKind.signed, IntKind.bits]
  omega
set_option maxRecDepth 100000 in
theorem divW_1 (b o c : Nat) (x y : Int) (w : World) (hx : w.cell? ⟨b, o, none⟩ = some (.int .u32 x)) (hx0 : 0 < x) (hx1 : x ≤ 2000000000) (hy0 : 0 < y) (hy1 : y ≤ 1000000) :
    Calls Tryz.prog 132 #[.slice (some ⟨b, o, none⟩) 1 c, .int .u32 y] w fun e w' => ∃ v, e = .returned (.tuple #[v, .int .u32 (x % y)]) ∧ Nt w' v (x / y) ∧ Kp [] w w' := by
  have hm := mk1
  have lb := World.block_lt_of_cell? w _ hx
  simp only at lb
  have hor := or_zero_u64 x (by omega) (by omega)
  have h0 : 0 ≤ x / y := Int.ediv_nonneg (by omega) (by omega)
  have h2 : x / y ≤ 2000000000 := Int.le_trans (Int.ediv_le_self _ (by omega)) hx1
  have hd : IntKind.u64.wrap (x.tdiv y) % 4294967296 = x / y := by
    rw [Int.tdiv_eq_ediv_of_nonneg (by omega)]
    simp [IntKind.wrap, IntKind.signed, IntKind.bits]
    omega
  have hr : x.tmod y = x % y := Int.tmod_eq_emod_of_nonneg (by omega)
  have hr0 := Int.emod_nonneg x (b := y) (by omega)
  have hr1 := Int.emod_lt_of_pos x hy0
  have hr2 : x % y % 4294967296 = x % y := by omega
  go_enter Tryz.func132, Tryz.ntmps132
  go_wp2
  refine wp_loop_rounds 2 ?_
  rw [rounds_succ]
  go_wp2_with fail
  rw [rounds_succ]
  go_wp2_with fail
  have hb := Blk.new w #[.int .u32 (x / y)] 47
  have k1 := (Kp.refl [] w).alloc (.cells #[.int .u32 (x / y)] 47)
  generalize w.alloc (.cells #[.int .u32 (x / y)] 47) = w1 at *
  have HK := Lib.hid k1
  refine (norm1_any w.heap.size (x / y) w1 (hb.cell rfl) ⟨h0, h2⟩).mono ?_
  rintro e w2 ⟨⟨v, rfl, hv⟩, rfl⟩
  have HV := Lib.hid hv
  clear hv hb k1 hm
  go_wp2
  go_ret2
  exact ⟨v, rfl, HV.out, HK.out⟩
end Go.Proofs.YtfkaldaflnmfiaaGreatDoor
