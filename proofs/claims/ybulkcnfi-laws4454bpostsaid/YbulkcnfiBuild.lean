/-
  What the law's first loop lays: the links, and a session for each link that is up; where each lies.
-/
import Derived.Test.YbulkcnfiSlices
namespace Go.Proofs.Ybulkcnfi
open Go.RowKit

/-- Where link q lies: behind the earlier links and their sessions. -/
def pos (up : Nat → Bool) (b : Nat) : Nat → Nat
  | 0 => b
  | q + 1 => pos up b q + 1 + (if up q then 1 else 0)
/-- Where session q lies, if link q is up. -/
def sx (up : Nat → Bool) (b q : Nat) : Option Nat := if up q then some (pos up b q + 1) else none

theorem pos_le (up : Nat → Bool) (b : Nat) {r q : Nat} (h : r ≤ q) : pos up b r ≤ pos up b q := by
  induction q with
  | zero => obtain rfl : r = 0 := by omega
            exact Nat.le_refl _
  | succ q ih =>
    rcases Nat.lt_or_ge r (q + 1) with h' | h'
    · have := ih (by omega)
      simp only [pos]
      omega
    · obtain rfl : r = q + 1 := by omega
      exact Nat.le_refl _
theorem pos_lt (up : Nat → Bool) (b : Nat) {r q : Nat} (h : r < q) : pos up b r + 1 + (if up r then 1 else 0) ≤ pos up b q := pos_le up b (show r + 1 ≤ q from h)
theorem pos_base (up : Nat → Bool) (b q : Nat) : b ≤ pos up b q := pos_le up b (Nat.zero_le q)
theorem pos_inj (up : Nat → Bool) (b : Nat) {r q : Nat} (h : pos up b r = pos up b q) : r = q := by
  rcases Nat.lt_trichotomy r q with h1 | h1 | h1
  · have := pos_lt up b h1; omega
  · exact h1
  · have := pos_lt up b h1; omega
theorem sx_up {up : Nat → Bool} {b q : Nat} (h : up q = true) : sx up b q = some (pos up b q + 1) := by simp [sx, h]
theorem sx_down {up : Nat → Bool} {b q : Nat} (h : up q = false) : sx up b q = none := by simp [sx, h]
theorem sx_some {up : Nat → Bool} {b q s : Nat} (h : sx up b q = some s) : up q = true ∧ s = pos up b q + 1 := by
  unfold sx at h
  split at h
  · rename_i hu
    simp only [Option.some.injEq] at h
    exact ⟨hu, h.symm⟩
  · cases h

structure Built (k h : Nat) (up lo : Nat → Bool) (w : World) (q : Nat) (wr : World) : Prop where
  links : wr.rowIs h 27 k (fun r => if r < q then .pointer (some ⟨pos up (h + 2) r, 0, none⟩) else .pointer none)
  sess : wr.rowIs (h + 1) 28 k (fun r => if r < q then adr (sx up (h + 2) r) else .pointer none)
  link : ∀ r, r < q → wr.heap[pos up (h + 2) r]? = some (linkObj r (sx up (h + 2) r))
  ses : ∀ r, r < q → up r = true → wr.heap[pos up (h + 2) r + 1]? = some (sessObj 0 (.slice none 0 0) (lo r))
  size : wr.heap.size = pos up (h + 2) q
  below : Below h w wr

/-- A new row of n nil pointers. -/
def nils (n : Nat) : Array Value := madeCells #[.pointer none] n

theorem Built.start (k : Nat) (up lo : Nat → Bool) (w : World) : Built k w.heap.size up lo w 0 ((w.alloc (.cells (nils k) 27)).alloc (.cells (nils k) 28)) where
  links := ((World.rowIs_made w (.pointer none) k 27).alloc _).congr (fun _ _ => by simp)
  sess := by
    have := World.rowIs_made (w.alloc (.cells (nils k) 27)) (.pointer none) k 28
    rw [World.size_alloc] at this
    exact this.congr (fun _ _ => by simp)
  link := fun r hr => absurd hr (Nat.not_lt_zero _)
  ses := fun r hr => absurd hr (Nat.not_lt_zero _)
  size := by simp [pos]
  below := ((Below.refl _ w).alloc (Nat.le_refl _) _).alloc (by simp) _

theorem Built.down {k h q : Nat} {up lo : Nat → Bool} {w wr : World} (b : Built k h up lo w q wr) (hu : up q = false) :
    Built k h up lo w (q + 1) ((wr.setCell ⟨h, q, none⟩ (.pointer (some ⟨wr.heap.size, 0, none⟩))).alloc (.cells #[.int .i64 q, .string ⟨#[]⟩, .pointer none] 30)) where
  links := ((b.links.set q _).alloc _).congr fun r hr => by
    by_cases e : r = q
    · subst e
      simp [b.size]
    · rw [if_neg e]
      by_cases e2 : r < q
      · rw [if_pos e2, if_pos (by omega)]
      · rw [if_neg e2, if_neg (by omega)]
  sess := ((b.sess.setOther (a := ⟨h, q, none⟩) (by simp) _).alloc _).congr fun r hr => by
    by_cases e2 : r < q
    · rw [if_pos e2, if_pos (by omega)]
    · rw [if_neg e2]
      by_cases e : r = q
      · subst e
        rw [if_pos (by omega), sx_down hu]
        rfl
      · rw [if_neg (by omega)]
  link := fun r hr => by
    by_cases e : r = q
    · subst e
      have := heap_alloc_new (wr.setCell ⟨h, r, none⟩ (.pointer (some ⟨wr.heap.size, 0, none⟩))) (.cells #[.int .i64 r, .string ⟨#[]⟩, .pointer none] 30)
      rw [World.size_setCell, b.size] at this
      rw [sx_down hu, b.size]
      exact this
    · have hr' : r < q := by omega
      have hb := pos_base up (h + 2) r
      have hl := lt_of_block (b.link r hr')
      rw [Below.heap_alloc _ _ _ (by simpa using hl), Below.heap_setCell _ _ _ _ (by simp; omega)]
      exact b.link r hr'
  ses := fun r hr hur => by
    have hr' : r < q := by
      rcases Nat.lt_or_ge r q with h' | h'
      · exact h'
      · obtain rfl : r = q := by omega
        rw [hu] at hur
        cases hur
    have hb := pos_base up (h + 2) r
    have hl := lt_of_block (b.ses r hr' hur)
    rw [Below.heap_alloc _ _ _ (by simpa using hl), Below.heap_setCell _ _ _ _ (by simp; omega)]
    exact b.ses r hr' hur
  size := by simp [pos, b.size, hu]
  below := (b.below.setCell (p := ⟨h, q, none⟩) (Nat.le_refl _) _).alloc (by have := pos_base up (h + 2) q; simp [b.size]; omega) _

theorem Built.up {k h q : Nat} {up lo : Nat → Bool} {w wr : World} (b : Built k h up lo w q wr) (hu : up q = true) {l : Bool} (hl : lo q = l) :
    Built k h up lo w (q + 1) ((((wr.setCell ⟨h + 1, q, none⟩ (.pointer (some ⟨wr.heap.size + 1, 0, none⟩))).setCell ⟨h, q, none⟩ (.pointer (some ⟨wr.heap.size, 0, none⟩))).alloc
      (.cells #[.int .i64 q, .string ⟨#[]⟩, .pointer (some ⟨wr.heap.size + 1, 0, none⟩)] 30)).alloc (.cells (sessCells 0 (.slice none 0 0) l) 45)) where
  links := ((((b.links.setOther (a := ⟨h + 1, q, none⟩) (by simp) _).set q _).alloc _).alloc _).congr fun r hr => by
    by_cases e : r = q
    · subst e
      simp [b.size]
    · rw [if_neg e]
      by_cases e2 : r < q
      · rw [if_pos e2, if_pos (by omega)]
      · rw [if_neg e2, if_neg (by omega)]
  sess := ((((b.sess.set q _).setOther (a := ⟨h, q, none⟩) (by simp) _).alloc _).alloc _).congr fun r hr => by
    by_cases e : r = q
    · subst e
      rw [if_pos rfl, if_pos (by omega), sx_up hu, b.size]
      rfl
    · rw [if_neg e]
      by_cases e2 : r < q
      · rw [if_pos e2, if_pos (by omega)]
      · rw [if_neg e2, if_neg (by omega)]
  link := fun r hr => by
    by_cases e : r = q
    · subst e
      rw [Below.heap_alloc _ _ _ (by simp [b.size])]
      have := heap_alloc_new ((wr.setCell ⟨h + 1, r, none⟩ (.pointer (some ⟨wr.heap.size + 1, 0, none⟩))).setCell ⟨h, r, none⟩ (.pointer (some ⟨wr.heap.size, 0, none⟩))) (.cells #[.int .i64 r, .string ⟨#[]⟩, .pointer (some ⟨wr.heap.size + 1, 0, none⟩)] 30)
      rw [World.size_setCell, World.size_setCell, b.size] at this
      rw [sx_up hu, b.size]
      exact this
    · have hr' : r < q := by omega
      have hb := pos_base up (h + 2) r
      have hl := lt_of_block (b.link r hr')
      rw [Below.heap_alloc _ _ _ (by simp; omega), Below.heap_alloc _ _ _ (by simpa using hl), Below.heap_setCell _ _ _ _ (by simp; omega), Below.heap_setCell _ _ _ _ (by simp; omega)]
      exact b.link r hr'
  ses := fun r hr hur => by
    by_cases e : r = q
    · subst e
      have := heap_alloc_new ((((wr.setCell ⟨h + 1, r, none⟩ (.pointer (some ⟨wr.heap.size + 1, 0, none⟩))).setCell ⟨h, r, none⟩ (.pointer (some ⟨wr.heap.size, 0, none⟩))).alloc
        (.cells #[.int .i64 r, .string ⟨#[]⟩, .pointer (some ⟨wr.heap.size + 1, 0, none⟩)] 30))) (.cells (sessCells 0 (.slice none 0 0) l) 45)
      rw [World.size_alloc, World.size_setCell, World.size_setCell, b.size] at this
      rw [hl, b.size]
      exact this
    · have hr' : r < q := by omega
      have hb := pos_base up (h + 2) r
      have hl := lt_of_block (b.ses r hr' hur)
      rw [Below.heap_alloc _ _ _ (by simp; omega), Below.heap_alloc _ _ _ (by simpa using hl), Below.heap_setCell _ _ _ _ (by simp; omega), Below.heap_setCell _ _ _ _ (by simp; omega)]
      exact b.ses r hr' hur
  size := by simp [pos, b.size, hu]
  below := by
    have := pos_base up (h + 2) q
    exact (((b.below.setCell (p := ⟨h + 1, q, none⟩) (by simp) _).setCell (p := ⟨h, q, none⟩) (Nat.le_refl _) _).alloc (by simp [b.size]; omega) _).alloc (by simp [b.size]; omega) _
end Go.Proofs.Ybulkcnfi
