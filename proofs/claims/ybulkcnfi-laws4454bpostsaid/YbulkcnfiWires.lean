/-
  (*node.Node).post: every message to a member whose link is up goes onto that link's session; one is counted for each.
-/
import Derived.Test.YbulkcnfiNet
import Derived.Test.YbulkcnfiAtomic
namespace Go.Proofs.Ybulkcnfi
open Go.RowKit

/-- A session's address, or nil. -/
def adr (s : Option Nat) : Value := .pointer (s.map fun b => ⟨b, 0, none⟩)
/-- A link's block. -/
abbrev linkObj (q : Nat) (s : Option Nat) : Obj := .cells #[.int .i64 q, .string ⟨#[]⟩, adr s] 30 (0, 0)
/-- The node's block: its links, and how many messages it has sent. -/
abbrev nodeObj (bl k : Nat) (x : Int) : Obj := .cells #[.int .i64 0, .pointer none, .nilIface, .nilIface, .slice (some ⟨bl, 0, none⟩) k k, .nilIface, .nilFunc, .chan none, .chan none, .int .u64 0, .int .u32 0, .int .u64 x, .pointer none, .pointer none, .slice none 0 0, .slice none 0 0] 71 (0, 0)

/-- How many of the messages go to a link that is up. -/
def upTo (S : Nat → Option Nat) (ms : List Msg) : Nat := (ms.filter fun m => (S m.to.toNat).isSome).length
/-- What lies on session q. -/
def outOf (lost : Nat → Bool) (q : Nat) (ms : List Msg) : List Msg := if lost q then [] else ms.filter fun m => m.to == (q : Int)

theorem upTo_snoc (S : Nat → Option Nat) (ms : List Msg) (m : Msg) : upTo S (ms ++ [m]) = upTo S ms + if (S m.to.toNat).isSome then 1 else 0 := by
  unfold upTo
  rw [List.filter_append, List.length_append]
  cases h : S m.to.toNat <;> simp [h]
theorem upTo_le (S : Nat → Option Nat) (ms : List Msg) : upTo S ms ≤ ms.length := List.length_filter_le _ _
theorem outOf_le (lost : Nat → Bool) (q : Nat) (ms : List Msg) : (outOf lost q ms).length ≤ ms.length := by
  unfold outOf
  split
  · simp
  · exact List.length_filter_le _ _
theorem outOf_lost {lost : Nat → Bool} {q : Nat} (h : lost q = true) (ms : List Msg) : outOf lost q ms = [] := by simp [outOf, h]
theorem outOf_hit {lost : Nat → Bool} {q : Nat} (h : lost q = false) (ms : List Msg) {m : Msg} (hm : m.to = q) : outOf lost q (ms ++ [m]) = outOf lost q ms ++ [m] := by simp [outOf, h, hm]
theorem outOf_miss (lost : Nat → Bool) {q : Nat} (ms : List Msg) {m : Msg} (hm : m.to ≠ q) : outOf lost q (ms ++ [m]) = outOf lost q ms := by
  unfold outOf
  split
  · rfl
  · simp [List.filter_append, hm]

theorem Net.congr {B k : Nat} {S : Nat → Option Nat} {lost : Nat → Bool} {O : Nat → Value} {X X' : Nat → List Msg} {w : World} (h : Net B k S lost O X w) (e : ∀ q s, q < k → S q = some s → X q = X' q) : Net B k S lost O X' w where
  sess := h.sess
  own := fun q s hq hs => by rw [← e q s hq hs]; exact h.own q s hq hs
  apart := h.apart
  base := h.base

/-- What post leaves as it was: every block below B but the node's and the sessions'. -/
structure Fr (B k : Nat) (S : Nat → Option Nat) (nb : Nat) (w w' : World) : Prop where
  os : w'.os = w.os
  tape : w'.tape = w.tape
  output : w'.output = w.output
  size : w.heap.size ≤ w'.heap.size
  block : ∀ b, b < B → b ≠ nb → (∀ q s, q < k → S q = some s → s ≠ b) → w'.heap[b]? = w.heap[b]?

theorem Fr.refl (B k : Nat) (S : Nat → Option Nat) (nb : Nat) (w : World) : Fr B k S nb w w := ⟨rfl, rfl, rfl, Nat.le_refl _, fun _ _ _ _ => rfl⟩
theorem Fr.below {B k : Nat} {S : Nat → Option Nat} {nb : Nat} {w w1 w2 : World} (h : Fr B k S nb w w1) (hB : B ≤ w1.heap.size) (hb : Below w1.heap.size w1 w2) : Fr B k S nb w w2 :=
  ⟨hb.os.trans h.os, hb.tape.trans h.tape, hb.output.trans h.output, Nat.le_trans h.size hb.size, fun b h1 h2 h3 => (hb.block b (by omega)).trans (h.block b h1 h2 h3)⟩
theorem Fr.setCell {B k : Nat} {S : Nat → Option Nat} {nb : Nat} {w w1 : World} (h : Fr B k S nb w w1) (j : Nat) (v : Value) : Fr B k S nb w (w1.setCell ⟨nb, j, none⟩ v) :=
  ⟨h.os, h.tape, h.output, by simpa using h.size, fun b h1 h2 h3 => (Below.heap_setCell _ _ _ _ h2).trans (h.block b h1 h2 h3)⟩
theorem Fr.kept {B k : Nat} {S : Nat → Option Nat} {nb : Nat} {w w1 w2 : World} {q s n : Nat} {o : Value} {xs : List Value} (h : Fr B k S nb w w1) (hB : B ≤ w1.heap.size) (hq : q < k) (hs : S q = some s) (ho : w1.ownsRow B 50 5 o n xs) (hk : Kept s o w1 w2) : Fr B k S nb w w2 :=
  ⟨hk.os.trans h.os, hk.tape.trans h.tape, hk.output.trans h.output, Nat.le_trans h.size hk.size, fun b h1 h2 h3 =>
    (hk.block b (by omega) (fun e => h3 q s hq hs e.symm) (fun e => by have := (ho.lt b e.symm).1; omega)).trans (h.block b h1 h2 h3)⟩

/-- What post reads: the links and the messages, none of it the node's block or a session's. -/
structure Wires (B k nb bl bs : Nat) (S : Nat → Option Nat) (L : Nat → Nat) (ms : List Msg) (w : World) : Prop where
  links : w.rowIs bl 27 k (fun q => .pointer (some ⟨L q, 0, none⟩))
  link : ∀ q, q < k → w.heap[L q]? = some (linkObj q (S q))
  send : Rd w bs ms
  nbB : nb < B
  blB : bl < B
  LB : ∀ q, q < k → L q < B
  bsB : bs < B
  SB : ∀ q s, q < k → S q = some s → s < B
  bln : bl ≠ nb
  Ln : ∀ q, q < k → L q ≠ nb
  bsn : bs ≠ nb
  Sn : ∀ q s, q < k → S q = some s → s ≠ nb
  blS : ∀ q s, q < k → S q = some s → s ≠ bl
  LS : ∀ q s r, q < k → S q = some s → r < k → s ≠ L r
  bsS : ∀ q s, q < k → S q = some s → s ≠ bs
  inj : ∀ q q' s, q < k → q' < k → S q = some s → S q' = some s → q = q'

theorem Wires.kept {B k nb bl bs : Nat} {S : Nat → Option Nat} {L : Nat → Nat} {ms : List Msg} {w w' : World} (h : Wires B k nb bl bs S L ms w) (f : Fr B k S nb w w') : Wires B k nb bl bs S L ms w' :=
  { h with
    links := h.links.of_block (f.block bl h.blB h.bln h.blS)
    link := fun q hq => (f.block (L q) (h.LB q hq) (h.Ln q hq) (fun r s hr hs => h.LS r s q hr hs hq)).trans (h.link q hq)
    send := h.send.of_block (f.block bs h.bsB h.bsn h.bsS) }

theorem wrap_step (x : Int) : IntKind.u64.wrap (IntKind.u64.wrap x + 1) = IntKind.u64.wrap (x + 1) := by
  simp only [IntKind.wrap_u64]
  omega

theorem node_set {w : World} {nb bl k : Nat} {x y : Int} (h : w.heap[nb]? = some (nodeObj bl k x)) : (w.setCell ⟨nb, 11, none⟩ (.int .u64 y)).heap[nb]? = some (nodeObj bl k y) := by
  rw [blk_set h 11]
  rfl

/-- The state behind the first j messages. -/
def PostSt (B k nb bl : Nat) (S : Nat → Option Nat) (lost : Nat → Bool) (ms : List Msg) (s0 : Int) (w0 : World) (j : Nat) (w : World) : Prop :=
  ∃ O, Net B k S lost O (fun q => outOf lost q (ms.take j)) w ∧ w.heap[nb]? = some (nodeObj bl k (IntKind.u64.wrap (s0 + upTo S (ms.take j)))) ∧ Fr B k S nb w0 w

theorem PostSt.below {B k nb bl : Nat} {S : Nat → Option Nat} {lost : Nat → Bool} {ms : List Msg} {s0 : Int} {w0 w w' : World} {j : Nat} (h : PostSt B k nb bl S lost ms s0 w0 j w) (hb : Below w.heap.size w w') : PostSt B k nb bl S lost ms s0 w0 j w' :=
  let ⟨O, h1, h2, h3⟩ := h
  ⟨O, h1.below hb, (hb.block nb (lt_of_block h2)).trans h2, h3.below h1.base hb⟩

theorem take_snoc {ms : List Msg} {j : Nat} (hj : j < ms.length) : ms.take (j + 1) = ms.take j ++ [ms[j]] := List.take_succ_eq_append_getElem hj

/-- The link is down: nothing happens. -/
theorem PostSt.down {B k nb bl : Nat} {S : Nat → Option Nat} {lost : Nat → Bool} {ms : List Msg} {s0 : Int} {w0 w : World} {j : Nat} (h : PostSt B k nb bl S lost ms s0 w0 j w) (hj : j < ms.length) (hs : S ms[j].to.toNat = none) : PostSt B k nb bl S lost ms s0 w0 (j + 1) w := by
  obtain ⟨O, h1, h2, h3⟩ := h
  refine ⟨O, h1.congr fun r t hr ht => ?_, ?_, h3⟩
  · rw [take_snoc hj, outOf_miss]
    intro e
    rw [e] at hs
    simp only [Int.toNat_natCast] at hs
    rw [hs] at ht
    cases ht
  · rw [take_snoc hj, upTo_snoc, hs]
    simpa using h2

/-- The session is lost: the message is dropped, and counted. -/
theorem PostSt.lost {B k nb bl bs q s : Nat} {S : Nat → Option Nat} {L : Nat → Nat} {lost : Nat → Bool} {ms : List Msg} {s0 : Int} {w0 w w' : World} {j : Nat} (h : PostSt B k nb bl S lost ms s0 w0 j w) (hw : Wires B k nb bl bs S L ms w0) (hj : j < ms.length) (hq : q < k) (hto : ms[j].to = q) (hs : S q = some s) (hl : lost q = true)
    (hb : Below w.heap.size w w') : PostSt B k nb bl S lost ms s0 w0 (j + 1) (w'.setCell ⟨nb, 11, none⟩ (.int .u64 (IntKind.u64.wrap (IntKind.u64.wrap (s0 + upTo S (ms.take j)) + 1)))) := by
  obtain ⟨O, h1, h2, h3⟩ := h.below hb
  refine ⟨O, ((h1.setCell (a := ⟨nb, 11, none⟩) hw.nbB hw.Sn _).congr fun r t hr ht => ?_), ?_, h3.setCell _ _⟩
  · rw [take_snoc hj]
    by_cases e : r = q
    · subst e
      rw [outOf_lost hl, outOf_lost hl]
    · rw [outOf_miss]
      omega
  · rw [node_set h2, wrap_step, take_snoc hj, upTo_snoc, hto]
    simp only [Int.toNat_natCast, hs, Option.isSome_some, if_true]
    rw [show (s0 + upTo S (List.take j ms) + 1 : Int) = s0 + ((upTo S (List.take j ms) + 1 : Nat) : Int) from by omega]

/-- The session takes the message. -/
theorem PostSt.live {B k nb bl bs q s g cap : Nat} {S : Nat → Option Nat} {L : Nat → Nat} {lost : Nat → Bool} {ms : List Msg} {s0 : Int} {w0 w w' : World} {j : Nat} {O : Nat → Value} (h1 : Net B k S lost O (fun q => outOf lost q (ms.take j)) w)
    (h2 : w.heap[nb]? = some (nodeObj bl k (IntKind.u64.wrap (s0 + upTo S (ms.take j))))) (h3 : Fr B k S nb w0 w) (hw : Wires B k nb bl bs S L ms w0) (hj : j < ms.length) (hq : q < k) (hto : ms[j].to = q) (hs : S q = some s) (hl : lost q = false)
    (hs' : w'.heap[s]? = some (sessObj 0 (.slice (some ⟨g, 0, none⟩) ((outOf lost q (ms.take j)).length + 1) cap) false))
    (hown' : w'.ownsRow B 50 5 (.slice (some ⟨g, 0, none⟩) ((outOf lost q (ms.take j)).length + 1) cap) ((outOf lost q (ms.take j)).length + 1) (flat (outOf lost q (ms.take j)) ++ ms[j].cells))
    (hwh : (O q).ownBlock = some g ∨ w.heap.size ≤ g) (hk : Kept s (O q) w w') :
    PostSt B k nb bl S lost ms s0 w0 (j + 1) (w'.setCell ⟨nb, 11, none⟩ (.int .u64 (IntKind.u64.wrap (IntKind.u64.wrap (s0 + upTo S (ms.take j)) + 1)))) := by
  have n := Net.send h1 hw.inj hq hs (hw.SB q s hq hs) hw.SB hl hs' hown' hwh hk
  refine ⟨_, ((n.setCell (a := ⟨nb, 11, none⟩) hw.nbB hw.Sn _).congr fun r t hr ht => ?_), ?_, (h3.kept h1.base hq hs (h1.own q s hq hs) hk).setCell _ _⟩
  · rw [take_snoc hj]
    by_cases e : r = q
    · subst e
      rw [if_pos rfl, outOf_hit hl _ hto]
    · rw [if_neg e, outOf_miss]
      omega
  · have hn : nb < w.heap.size := lt_of_block h2
    have e : w'.heap[nb]? = w.heap[nb]? := hk.block nb hn (fun e => hw.Sn q s hq hs e.symm) (fun e => by have := ((h1.own q s hq hs).lt nb e.symm).1; have := hw.nbB; omega)
    rw [node_set (e.trans h2), wrap_step, take_snoc hj, upTo_snoc, hto]
    simp only [Int.toNat_natCast, hs, Option.isSome_some, if_true]
    rw [show (s0 + upTo S (List.take j ms) + 1 : Int) = s0 + ((upTo S (List.take j ms) + 1 : Nat) : Int) from by omega]

theorem node_live {B k nb bl bs q s : Nat} {S : Nat → Option Nat} {L : Nat → Nat} {ms : List Msg} {w0 w w' : World} {x : Int} {o : Value} {n : Nat} {xs : List Value} (hw : Wires B k nb bl bs S L ms w0) (hq : q < k) (hs : S q = some s) (ho : w.ownsRow B 50 5 o n xs)
    (h2 : w.heap[nb]? = some (nodeObj bl k x)) (hk : Kept s o w w') : w'.heap[nb]? = some (nodeObj bl k x) :=
  (hk.block nb (lt_of_block h2) (fun e => hw.Sn q s hq hs e.symm) (fun e => by have := (ho.lt nb e.symm).1; have := hw.nbB; omega)).trans h2
end Go.Proofs.Ybulkcnfi
