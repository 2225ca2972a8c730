/-
  What both laws begin with: the rows of names and offsets, and a message in which each of them is remembered in turn.
-/
import Derived.Test.YbulkcnfwFind
namespace Go.Proofs.Ybulkcnfw
open Go.RowKit Go.Maps Go.WideMaps

theorem fresh_at (b : Value) (N : Nat → ByteArray) (V : Nat → Int) : ∀ i, i < 36 → (fresh b)[i]? = some (msgF b N V 0 none i) := by
  intro i hi
  match i, hi with
  | 0, _ => rfl
  | 1, _ => rfl
  | 2, _ => rfl
  | 3, _ => rfl
  | 4, _ => rfl
  | 5, _ => rfl
  | 6, _ => rfl
  | 7, _ => rfl
  | 8, _ => rfl
  | 9, _ => rfl
  | 10, _ => rfl
  | 11, _ => rfl
  | 12, _ => rfl
  | 13, _ => rfl
  | 14, _ => rfl
  | 15, _ => rfl
  | 16, _ => rfl
  | 17, _ => rfl
  | 18, _ => rfl
  | 19, _ => rfl
  | 20, _ => rfl
  | 21, _ => rfl
  | 22, _ => rfl
  | 23, _ => rfl
  | 24, _ => rfl
  | 25, _ => rfl
  | 26, _ => rfl
  | 27, _ => rfl
  | 28, _ => rfl
  | 29, _ => rfl
  | 30, _ => rfl
  | 31, _ => rfl
  | 32, _ => rfl
  | 33, _ => rfl
  | 34, _ => rfl
  | 35, _ => rfl
  | j + 36, hj => exact absurd hj (by omega)

/-- A message just made. -/
theorem St.start (w : World) (b : Value) (N : Nat → ByteArray) (V : Nat → Int) (c : Array Value) : St w.heap.size w.heap.size b N V 0 ((w.alloc (.cells c 35)).setRow w.heap.size (fresh b)) :=
  ⟨Nat.le_refl _, none, ⟨fresh b, setRow_heap _ _ c _ 35 (0, 0) (heap_alloc_new w _), rfl, fresh_at b N V⟩, fun _ => rfl, fun h => by omega⟩
theorem below_made (w : World) (c c' : Array Value) : Below w.heap.size w ((w.alloc (.cells c 35)).setRow w.heap.size c') := below_row ((Below.refl _ w).alloc (Nat.le_refl _) _) (Nat.le_refl _) _

/-- The world gets a name; what is known of it stays. -/
theorem named {P : Program} {c : Code} {Q : Exit → Act → World → Prop} {a : Act} {w : World} (C : World → Prop) (h : C w) (k : ∀ W, C W → Code.wp P c Q a W) : Code.wp P c Q a w := k w h

/-- Behind i rounds: the rows as they were, i names remembered. h: the heap's size when the law was called. -/
structure Run (h k B mb : Nat) (b : Value) (N : Nat → ByteArray) (V : Nat → Int) (w : World) (i : Nat) (wr : World) : Prop where
  rows : Rws k h N V wr
  st : St B mb b N V i wr
  old : Below h w wr
  hB : h + 1 < B
  size : B ≤ wr.heap.size

theorem Run.next {h k B mb : Nat} {b : Value} {N : Nat → ByteArray} {V : Nat → Int} {w : World} {i : Nat} {wr w' : World} (r : Run h k B mb b N V w i wr) (hs : St B mb b N V (i + 1) w') (hb : Below B wr w') : Run h k B mb b N V w (i + 1) w' :=
  ⟨r.rows.below r.hB hb, hs, r.old.trans (hb.mono (by have := r.hB; omega)), r.hB, Nat.le_trans r.size hb.size⟩
end Go.Proofs.Ybulkcnfw
