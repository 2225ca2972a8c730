/-
  The sessions of a node in memory, with the messages that lie queued on each; what a send does to them.
-/
import Derived.Test.YbulkcnfiSend
import Derived.Deep.OwnRows
namespace Go.Proofs.Ybulkcnfi
open Go.RowKit

structure Msg where
  kd : Int
  fr : Int
  to : Int
  tm : Int
  pd : Int

/-- A message's cells. -/
def Msg.cells (m : Msg) : List Value := [.int .u8 m.kd, .int .i64 m.fr, .int .i64 m.to, .int .u64 m.tm, .int .u64 m.pd]
/-- The cells of a row of messages. -/
def flat (ms : List Msg) : List Value := ms.flatMap Msg.cells

theorem cells_length (m : Msg) : m.cells.length = 5 := rfl
theorem cells_eq (m : Msg) : (msgCells m.kd m.fr m.to m.tm m.pd).toList = m.cells := rfl
theorem flat_length (ms : List Msg) : (flat ms).length = ms.length * 5 := by
  induction ms with
  | nil => rfl
  | cons m ms ih => simp only [flat, List.flatMap_cons, List.length_append, cells_length, List.length_cons] at ih ⊢; omega
theorem flat_snoc (ms : List Msg) (m : Msg) : flat (ms ++ [m]) = flat ms ++ m.cells := by simp [flat]
theorem flat_get (ms : List Msg) (i j : Nat) (hi : i < ms.length) (hj : j < 5) : (flat ms)[i * 5 + j]? = ms[i].cells[j]? := by
  induction ms generalizing i with
  | nil => simp at hi
  | cons m ms ih =>
    simp only [flat, List.flatMap_cons] at ih ⊢
    cases i with
    | zero => rw [List.getElem?_append_left (by simp [cells_length]; omega)]; simp
    | succ i =>
      rw [List.getElem?_append_right (by simp [cells_length]; omega), cells_length]
      have h := ih i (by simpa using hi)
      rw [show (i + 1) * 5 + j - 5 = i * 5 + j from by omega]
      simpa using h

/-- The row of messages ms lies from the head of block b on. -/
def Rd (w : World) (b : Nat) (ms : List Msg) : Prop := ∀ j u, (flat ms)[j]? = some u → w.cell? ⟨b, j, none⟩ = some u
theorem Rd.at {w : World} {b : Nat} {ms : List Msg} (h : Rd w b ms) {i : Nat} (hi : i < ms.length) :
    w.cell? ⟨b, i * 5, none⟩ = some (.int .u8 ms[i].kd) ∧ w.cell? ⟨b, i * 5 + 1, none⟩ = some (.int .i64 ms[i].fr) ∧ w.cell? ⟨b, i * 5 + 2, none⟩ = some (.int .i64 ms[i].to) ∧
      w.cell? ⟨b, i * 5 + 3, none⟩ = some (.int .u64 ms[i].tm) ∧ w.cell? ⟨b, i * 5 + 4, none⟩ = some (.int .u64 ms[i].pd) :=
  ⟨h _ _ (by rw [show i * 5 = i * 5 + 0 from rfl, flat_get ms i 0 hi (by omega)]; rfl), h _ _ (by rw [flat_get ms i 1 hi (by omega)]; rfl), h _ _ (by rw [flat_get ms i 2 hi (by omega)]; rfl),
    h _ _ (by rw [flat_get ms i 3 hi (by omega)]; rfl), h _ _ (by rw [flat_get ms i 4 hi (by omega)]; rfl)⟩
theorem Rd.of_block {w w' : World} {b : Nat} {ms : List Msg} (h : Rd w b ms) (e : w'.heap[b]? = w.heap[b]?) : Rd w' b ms := fun j u hu => (World.cell?_of_block (a := ⟨b, j, none⟩) e).trans (h j u hu)
theorem Rd.of_own {w : World} {base b cap : Nat} {ms : List Msg} (h : w.ownsRow base 50 5 (.slice (some ⟨b, 0, none⟩) ms.length cap) ms.length (flat ms)) : Rd w b ms := by
  intro j u hu
  have := h.cells (g := b) rfl j u hu
  have hadd : (⟨b, 0, none⟩ : Addr).add j = ⟨b, j, none⟩ := by unfold Addr.add; split <;> simp_all
  rwa [hadd] at this

/-- The sessions: S q: session q's block, if its link is up; O q: its queue's slice; X q: the messages on it. B: where the queues' rows begin. -/
structure Net (B k : Nat) (S : Nat → Option Nat) (lost : Nat → Bool) (O : Nat → Value) (X : Nat → List Msg) (w : World) : Prop where
  sess : ∀ q s, q < k → S q = some s → w.heap[s]? = some (sessObj 0 (O q) (lost q))
  own : ∀ q s, q < k → S q = some s → w.ownsRow B 50 5 (O q) (X q).length (flat (X q))
  apart : ∀ q q' s s', q < k → q' < k → S q = some s → S q' = some s' → q ≠ q' → ∀ g, (O q).ownBlock = some g → (O q').ownBlock ≠ some g
  base : B ≤ w.heap.size

/-- Nothing old has turned. -/
theorem Net.below {B k : Nat} {S : Nat → Option Nat} {lost : Nat → Bool} {O : Nat → Value} {X : Nat → List Msg} {w w' : World} (h : Net B k S lost O X w) (hb : Below w.heap.size w w') : Net B k S lost O X w' where
  sess := fun q s hq hs => (hb.block s (lt_of_block (h.sess q s hq hs))).trans (h.sess q s hq hs)
  own := fun q s hq hs => (h.own q s hq hs).kept (row := none) ⟨hb.os, hb.tape, hb.output, hb.size, fun k hk _ => hb.block k hk⟩ (by cases (O q).ownBlock <;> simp)
  apart := h.apart
  base := Nat.le_trans h.base hb.size

/-- A store into a block below B that is no session's. -/
theorem Net.setCell {B k : Nat} {S : Nat → Option Nat} {lost : Nat → Bool} {O : Nat → Value} {X : Nat → List Msg} {w : World} (h : Net B k S lost O X w) {a : Addr} (ha : a.block < B) (hns : ∀ q s, q < k → S q = some s → s ≠ a.block) (v : Value) : Net B k S lost O X (w.setCell a v) where
  sess := fun q s hq hs => (Below.heap_setCell _ _ _ _ (hns q s hq hs)).trans (h.sess q s hq hs)
  own := fun q s hq hs => ownsRow_setCell_below (h.own q s hq hs) ha v
  apart := h.apart
  base := by simpa using h.base

/-- A message queued on session q. -/
theorem Net.send {B k : Nat} {S : Nat → Option Nat} {lost : Nat → Bool} {O : Nat → Value} {X : Nat → List Msg} {w w' : World} (h : Net B k S lost O X w) (inj : ∀ q q' s, q < k → q' < k → S q = some s → S q' = some s → q = q')
    {q s g cap : Nat} {m : Msg} (hq : q < k) (hs : S q = some s) (hlow : s < B) (hlows : ∀ r t, r < k → S r = some t → t < B) (hl : lost q = false)
    (hs' : w'.heap[s]? = some (sessObj 0 (.slice (some ⟨g, 0, none⟩) ((X q).length + 1) cap) false)) (hown' : w'.ownsRow B 50 5 (.slice (some ⟨g, 0, none⟩) ((X q).length + 1) cap) ((X q).length + 1) (flat (X q) ++ m.cells))
    (hw : (O q).ownBlock = some g ∨ w.heap.size ≤ g) (hk : Kept s (O q) w w') :
    Net B k S lost (fun r => if r = q then .slice (some ⟨g, 0, none⟩) ((X q).length + 1) cap else O r) (fun r => if r = q then X q ++ [m] else X r) w' where
  sess := fun r t hr ht => by
    by_cases e : r = q
    · subst e
      rw [hs] at ht
      cases ht
      simp only [if_true, hl]
      exact hs'
    · simp only [if_neg e]
      have hne : t ≠ s := fun e' => e (inj r q s hr hq (by rw [ht, e']) hs)
      have hto : some t ≠ (O q).ownBlock := fun e' => by
        have := ((h.own q s hq hs).lt t e'.symm).1
        have := hlows r t hr ht
        omega
      exact (hk.block t (lt_of_block (h.sess r t hr ht)) hne hto).trans (h.sess r t hr ht)
  own := fun r t hr ht => by
    by_cases e : r = q
    · subst e
      simp only [if_true, List.length_append, List.length_cons, List.length_nil, Nat.zero_add, flat_snoc]
      exact hown'
    · simp only [if_neg e]
      have ho := h.own r t hr ht
      refine ⟨ho.1, ?_⟩
      rcases ho.2 with hn | ⟨g', cap', cur, hv, hb, hg, rest⟩
      · exact Or.inl hn
      · refine Or.inr ⟨g', cap', cur, hv, hb, ?_, rest⟩
        have hne : g' ≠ s := by omega
        have hto : some g' ≠ (O q).ownBlock := fun e' => h.apart q r s t hq hr hs ht (fun x => e x.symm) g' e'.symm (by rw [hv]; rfl)
        rw [hk.block g' (lt_of_block hg) hne hto]
        exact hg
  apart := fun r r' t t' hr hr' ht ht' hne g' hg' => by
    by_cases e : r = q
    · subst e
      simp only [if_true, Value.ownBlock, Option.some.injEq] at hg'
      subst hg'
      rw [if_neg (fun x => hne x.symm)]
      intro e'
      rcases hw with hw | hw
      · exact h.apart r r' s t' hr hr' hs ht' hne g hw e'
      · have := ((h.own r' t' hr' ht').lt g e').2
        omega
    · simp only [if_neg e] at hg'
      by_cases e2 : r' = q
      · subst e2
        simp only [if_true, Value.ownBlock, ne_eq, Option.some.injEq]
        intro e'
        subst e'
        rcases hw with hw | hw
        · exact h.apart r r' t s hr hr' ht hs hne g hg' hw
        · have := ((h.own r t hr ht).lt g hg').2
          omega
      · rw [if_neg e2]
        exact h.apart r r' t t' hr hr' ht ht' hne g' hg'
  base := Nat.le_trans h.base hk.size
end Go.Proofs.Ybulkcnfi
