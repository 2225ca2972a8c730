/-
  The law's other stages: the messages laid in a row; what lies where when post is called and behind it; the counts.
-/
import Derived.Test.YbulkcnfiBuild
namespace Go.Proofs.Ybulkcnfi
open Go.RowKit

/-! ### the row of messages -/
/-- A message as the law lays it: its receiver reduced. -/
def tgt (k : Nat) (m : Msg) : Msg := { m with to := m.to % k }
def msgs (k ml : Nat) (src : Nat → Msg) : List Msg := (List.range ml).map fun i => tgt k (src i)
theorem msgs_length (k ml : Nat) (src : Nat → Msg) : (msgs k ml src).length = ml := by simp [msgs]
theorem msgs_get (k ml : Nat) (src : Nat → Msg) (i : Nat) (h : i < (msgs k ml src).length) : (msgs k ml src)[i] = tgt k (src i) := by simp [msgs]
theorem msgs_to (k ml : Nat) (src : Nat → Msg) (hk : 0 < k) : ∀ i (h : i < (msgs k ml src).length), 0 ≤ (msgs k ml src)[i].to ∧ (msgs k ml src)[i].to < k := by
  intro i h
  rw [msgs_get]
  have hk' : (0 : Int) < k := by omega
  exact ⟨Int.emod_nonneg _ (by omega), Int.emod_lt_of_pos _ hk'⟩

/-- A new row of n zero messages. -/
def zeros (n : Nat) : Array Value := madeCells #[.int .u8 0, .int .i64 0, .int .i64 0, .int .u64 0, .int .u64 0] (n * 5)
theorem zeros_size (n : Nat) : (zeros n).size = n * 5 := size_madeCells _ _

theorem set1 (c : Array Value) (p : Nat) (h : p < c.size) (v : Value) : (c.setIfInBounds p v).toList.take (p + 1) = c.toList.take p ++ [v] := by
  rw [Array.toList_setIfInBounds, List.take_succ_eq_append_getElem (by simpa using h), List.take_set_of_le (by omega)]
  simp
theorem set5 (c : Array Value) (p : Nat) (h : p + 5 ≤ c.size) (v0 v1 v2 v3 v4 : Value) :
    (((((c.setIfInBounds p v0).setIfInBounds (p + 1) v1).setIfInBounds (p + 2) v2).setIfInBounds (p + 3) v3).setIfInBounds (p + 4) v4).toList.take (p + 5) = c.toList.take p ++ [v0, v1, v2, v3, v4] := by
  rw [show p + 5 = p + 4 + 1 from rfl, set1 _ _ (by simp; omega), show p + 4 = p + 3 + 1 from rfl, set1 _ _ (by simp; omega), show p + 3 = p + 2 + 1 from rfl, set1 _ _ (by simp; omega),
    show p + 2 = p + 1 + 1 from rfl, set1 _ _ (by simp; omega), set1 _ _ (by omega)]
  simp

structure Filled (h ml : Nat) (ms : List Msg) (W : World) (j : Nat) (wr : World) : Prop where
  row : ∃ c : Array Value, wr.heap[h]? = some (.cells c 50 (0, 0)) ∧ c.size = ml * 5 ∧ c.toList.take (j * 5) = flat (ms.take j)
  below : Below h W wr

theorem Filled.lt {h ml j : Nat} {ms : List Msg} {W wr : World} (f : Filled h ml ms W j wr) : h < wr.heap.size := let ⟨_, hc, _⟩ := f.row; lt_of_block hc
theorem Filled.cell {h ml j : Nat} {ms : List Msg} {W wr : World} (f : Filled h ml ms W j wr) {p : Nat} (hp : p < ml * 5) : ∃ x, wr.cell? ⟨h, p, none⟩ = some x := by
  obtain ⟨c, hc, hs, _⟩ := f.row
  exact ⟨c[p]'(by omega), by rw [blk_cell hc, Array.getElem?_eq_getElem]⟩
theorem Filled.free {h ml j : Nat} {ms : List Msg} {W wr : World} (f : Filled h ml ms W j wr) (p : Nat) : wr.frozen? ⟨h, p, none⟩ = false := let ⟨_, hc, _⟩ := f.row; blk_free hc p

theorem Filled.start (W : World) (ml : Nat) (ms : List Msg) : Filled W.heap.size ml ms (W.alloc (.cells (zeros ml) 50)) 0 (W.alloc (.cells (zeros ml) 50)) where
  row := ⟨zeros ml, heap_alloc_new W _, zeros_size ml, by simp [flat]⟩
  below := Below.refl _ _

theorem Filled.step {h ml j : Nat} {ms : List Msg} {W wr : World} (f : Filled h ml ms W j wr) (hj : j < ml) (hjm : j < ms.length) {m : Msg} (hm : ms[j] = m) (o : Obj) :
    Filled h ml ms W (j + 1) (((((((wr.setCell ⟨h, j * 5, none⟩ (.int .u8 m.kd)).setCell ⟨h, j * 5 + 1, none⟩ (.int .i64 m.fr)).setCell ⟨h, j * 5 + 2, none⟩ (.int .i64 m.to)).setCell ⟨h, j * 5 + 3, none⟩ (.int .u64 m.tm)).setCell ⟨h, j * 5 + 4, none⟩ (.int .u64 m.pd)).alloc o).drew) where
  row := by
    obtain ⟨c, hc, hs, ht⟩ := f.row
    have hl := lt_of_block hc
    refine ⟨_, (Below.heap_alloc _ _ _ (by simpa using hl)).trans (blk_set (blk_set (blk_set (blk_set (blk_set hc _ _) _ _) _ _) _ _) _ _), by simpa using hs, ?_⟩
    rw [show (j + 1) * 5 = j * 5 + 5 from by omega, set5 _ _ (by omega), ht, take_snoc hjm, flat_snoc, hm]
    rfl
  below := by
    have hl := f.lt
    exact ((((((f.below.setCell (p := ⟨h, j * 5, none⟩) (Nat.le_refl _) _).setCell (p := ⟨h, j * 5 + 1, none⟩) (Nat.le_refl _) _).setCell (p := ⟨h, j * 5 + 2, none⟩) (Nat.le_refl _) _).setCell (p := ⟨h, j * 5 + 3, none⟩) (Nat.le_refl _) _).setCell (p := ⟨h, j * 5 + 4, none⟩) (Nat.le_refl _) _).alloc (by simp; omega) _).drew

theorem Filled.own {h ml : Nat} {ms : List Msg} {W wr : World} (f : Filled h ml ms W ml wr) (hms : ms.length = ml) (hm : ml ≤ 1024) : wr.ownsRow h 50 5 (.slice (some ⟨h, 0, none⟩) ml ml) ml (flat ms) := by
  obtain ⟨c, hc, hs, ht⟩ := f.row
  rw [← hms, List.take_length] at ht
  exact ⟨by rw [flat_length, hms], Or.inr ⟨h, ml, c, rfl, Nat.le_refl _, hc, Nat.le_refl _, by unfold maxLen; omega, hs, by rw [← hms]; exact ht⟩⟩

/-! ### what lies where -/
/-- All that the law reads behind post. -/
structure Ready (h B nb k ml bs g cap : Nat) (S : Nat → Option Nat) (L : Nat → Nat) (lo : Nat → Bool) (ms : List Msg) (x : Int) (w : World) : Prop where
  links : w.rowIs h 27 k (fun q => .pointer (some ⟨L q, 0, none⟩))
  sess : w.rowIs (h + 1) 28 k (fun q => adr (S q))
  link : ∀ q, q < k → w.heap[L q]? = some (linkObj q (S q))
  node : w.heap[nb]? = some (nodeObj h k x)
  send : w.ownsRow bs 50 5 (.slice (some ⟨bs, 0, none⟩) ml ml) ml (flat ms)
  orig : w.ownsRow bs 50 5 (.slice (some ⟨g, 0, none⟩) ml cap) ml (flat ms)
  net : ∃ O, Net B k S lo O (fun q => outOf lo q ms) w

theorem own_below {w w' : World} {b e n s : Nat} {v : Value} {xs : List Value} (h : w.ownsRow b e s v n xs) (hb : Below w.heap.size w w') : w'.ownsRow b e s v n xs :=
  h.kept (row := none) ⟨hb.os, hb.tape, hb.output, hb.size, fun k hk _ => hb.block k hk⟩ (by cases v.ownBlock <;> simp)
theorem Ready.below {h B nb k ml bs g cap : Nat} {S : Nat → Option Nat} {L : Nat → Nat} {lo : Nat → Bool} {ms : List Msg} {x : Int} {w w' : World} (r : Ready h B nb k ml bs g cap S L lo ms x w) (hb : Below w.heap.size w w') : Ready h B nb k ml bs g cap S L lo ms x w' where
  links := r.links.of_block (hb.block _ r.links.lt)
  sess := r.sess.of_block (hb.block _ r.sess.lt)
  link := fun q hq => (hb.block _ (lt_of_block (r.link q hq))).trans (r.link q hq)
  node := (hb.block _ (lt_of_block r.node)).trans r.node
  send := own_below r.send hb
  orig := own_below r.orig hb
  net := let ⟨O, n⟩ := r.net; ⟨O, n.below hb⟩

/-! ### the counts -/
/-- How many messages go to q. -/
def cntTo (q : Nat) (ms : List Msg) : Nat := (ms.filter fun m => m.to == (q : Int)).length
/-- .. to the links below q that are up. -/
def csum (S : Nat → Option Nat) (ms : List Msg) : Nat → Nat
  | 0 => 0
  | q + 1 => csum S ms q + (if (S q).isSome then cntTo q ms else 0)
theorem cntTo_snoc (q : Nat) (ms : List Msg) (m : Msg) : cntTo q (ms ++ [m]) = cntTo q ms + if m.to = q then 1 else 0 := by
  unfold cntTo
  rw [List.filter_append, List.length_append]
  by_cases h : m.to = q <;> simp [h]
theorem csum_snoc (S : Nat → Option Nat) (ms : List Msg) (m : Msg) (q : Nat) (h0 : 0 ≤ m.to) : csum S (ms ++ [m]) q = csum S ms q + if m.to < q ∧ (S m.to.toNat).isSome then 1 else 0 := by
  induction q with
  | zero => simp [csum]; omega
  | succ q ih =>
    simp only [csum, ih, cntTo_snoc]
    by_cases e : m.to = q
    · have e' : m.to.toNat = q := by omega
      rw [e', if_neg (fun h => by omega : ¬ (m.to < (q : Int) ∧ (S q).isSome = true)), if_pos e]
      cases hs : (S q).isSome
      · simp
      · have h1 : m.to < ((q + 1 : Nat) : Int) := by omega
        simp only [h1, true_and, if_true]
        omega
    · have e2 : (m.to < ((q + 1 : Nat) : Int)) ↔ m.to < (q : Int) := by omega
      simp only [e2, if_neg e]
      cases hs : (S q).isSome <;> simp <;> omega
theorem csum_all (S : Nat → Option Nat) (k : Nat) (ms : List Msg) (hto : ∀ m ∈ ms, 0 ≤ m.to ∧ m.to < k) : csum S ms k = upTo S ms := by
  suffices h : ∀ n, n ≤ ms.length → csum S (ms.take n) k = upTo S (ms.take n) by
    have := h ms.length (Nat.le_refl _)
    rwa [List.take_length] at this
  intro n
  induction n with
  | zero =>
    intro _
    simp only [List.take_zero, upTo, List.filter_nil, List.length_nil]
    clear hto
    induction k with
    | zero => rfl
    | succ k ih => simp [csum, ih, cntTo]
  | succ n ih =>
    intro hn
    have hlt : n < ms.length := by omega
    obtain ⟨h0, h1⟩ := hto ms[n] (List.getElem_mem hlt)
    rw [take_snoc hlt, csum_snoc _ _ _ _ h0, upTo_snoc, ih (by omega)]
    simp [h1]
theorem cntTo_le (q : Nat) (ms : List Msg) : cntTo q ms ≤ ms.length := List.length_filter_le _ _
theorem csum_mono (S : Nat → Option Nat) (ms : List Msg) {a b : Nat} (h : a ≤ b) : csum S ms a ≤ csum S ms b := by
  induction b with
  | zero => obtain rfl : a = 0 := by omega
            exact Nat.le_refl _
  | succ b ih =>
    rcases Nat.lt_or_ge a (b + 1) with h' | h'
    · have := ih (by omega)
      simp only [csum]
      omega
    · obtain rfl : a = b + 1 := by omega
      exact Nat.le_refl _

/-! ### at the call of post, and behind it -/
/-- What lies where at the call of post. h: the heap's size when the law was called; wo: the world behind the first loop. -/
structure At5 (h nb k ml g cap : Nat) (up lo : Nat → Bool) (ms : List Msg) (x : Int) (w wo W : World) : Prop where
  built : Built k h up lo w k wo
  below : Below wo.heap.size wo W
  send : W.ownsRow wo.heap.size 50 5 (.slice (some ⟨wo.heap.size, 0, none⟩) ml ml) ml (flat ms)
  orig : W.ownsRow (wo.heap.size + 1) 50 5 (.slice (some ⟨g, 0, none⟩) ml cap) ml (flat ms)
  node : W.heap[nb]? = some (nodeObj h k x)
  last : nb + 1 = W.heap.size
  gnb : g < nb
  len : ms.length = ml

theorem At5.wires {h nb k ml g cap : Nat} {up lo : Nat → Bool} {ms : List Msg} {x : Int} {w wo W : World} (a : At5 h nb k ml g cap up lo ms x w wo W) : Wires (nb + 1) k nb h wo.heap.size (sx up (h + 2)) (pos up (h + 2)) ms W := by
  have hsz := a.built.size
  have hb0 := pos_base up (h + 2) k
  have hg := (a.orig.lt g rfl).1
  have hn := a.gnb
  have hsx : ∀ q s, q < k → sx up (h + 2) q = some s → s = pos up (h + 2) q + 1 ∧ s < wo.heap.size ∧ h + 2 ≤ pos up (h + 2) q := fun q s hq hs => by
    obtain ⟨hu, rfl⟩ := sx_some hs
    have := pos_lt up (h + 2) hq
    rw [hu] at this
    simp only [if_true] at this
    exact ⟨rfl, by omega, pos_base up (h + 2) q⟩
  have hL : ∀ q, q < k → pos up (h + 2) q < wo.heap.size ∧ h + 2 ≤ pos up (h + 2) q := fun q hq => by
    have := pos_lt up (h + 2) hq
    exact ⟨by omega, pos_base up (h + 2) q⟩
  have hlinks := a.built.links
  have hlt := hlinks.lt
  exact {
    links := (hlinks.of_block (a.below.block _ hlt)).congr (fun r hr => by rw [if_pos hr])
    link := fun q hq => (a.below.block _ (hL q hq).1).trans (a.built.link q hq)
    send := by
      have := a.send
      rw [← a.len] at this
      exact Rd.of_own this
    nbB := by omega
    blB := by omega
    LB := fun q hq => by have := hL q hq; omega
    bsB := by omega
    SB := fun q s hq hs => by have := hsx q s hq hs; omega
    bln := by omega
    Ln := fun q hq => by have := hL q hq; omega
    bsn := by omega
    Sn := fun q s hq hs => by have := hsx q s hq hs; omega
    blS := fun q s hq hs => by have := hsx q s hq hs; omega
    LS := fun q s r hq hs hr e => by
      have h1 := (hsx q s hq hs).1
      have h2 : pos up (h + 2) q + 1 = pos up (h + 2) r := by omega
      obtain ⟨hu, _⟩ := sx_some hs
      rcases Nat.lt_trichotomy q r with h3 | h3 | h3
      · have := pos_lt up (h + 2) h3
        rw [hu] at this
        simp only [if_true] at this
        omega
      · subst h3; omega
      · have := pos_lt up (h + 2) h3; omega
    bsS := fun q s hq hs => by have := hsx q s hq hs; omega
    inj := fun q q' s hq hq' hs hs' => by
      have h1 := (hsx q s hq hs).1
      have h2 := (hsx q' s hq' hs').1
      exact pos_inj up (h + 2) (by omega) }

theorem At5.start {h nb k ml g cap : Nat} {up lo : Nat → Bool} {ms : List Msg} {x : Int} {w wo W : World} (a : At5 h nb k ml g cap up lo ms x w wo W) (hx : IntKind.u64.wrap x = x) : PostSt (nb + 1) k nb h (sx up (h + 2)) lo ms x W 0 W := by
  have hsz := a.built.size
  refine ⟨fun _ => .slice none 0 0, ⟨fun q s hq hs => ?_, fun q s hq hs => ?_, fun q q' s s' _ _ _ _ _ g' hg' => ?_, by have := a.last; omega⟩, ?_, Fr.refl _ _ _ _ _⟩
  · obtain ⟨hu, rfl⟩ := sx_some hs
    have := pos_lt up (h + 2) hq
    rw [hu] at this
    simp only [if_true] at this
    exact (a.below.block _ (by omega)).trans (a.built.ses q hq hu)
  · simp only [List.take_zero]
    rw [show outOf lo q [] = [] from by simp [outOf]]
    exact World.ownsRow_nil W _ _ _
  · simp [Value.ownBlock] at hg'
  · simp only [List.take_zero, upTo, List.filter_nil, List.length_nil]
    rw [show x + ((0 : Nat) : Int) = x from by omega, hx]
    exact a.node

theorem At5.ready {h nb k ml g cap : Nat} {up lo : Nat → Bool} {ms : List Msg} {x : Int} {w wo W w' : World} (a : At5 h nb k ml g cap up lo ms x w wo W) (p : PostSt (nb + 1) k nb h (sx up (h + 2)) lo ms x W ms.length w') :
    Ready h (nb + 1) nb k ml wo.heap.size g cap (sx up (h + 2)) (pos up (h + 2)) lo ms (IntKind.u64.wrap (x + upTo (sx up (h + 2)) ms)) w' := by
  obtain ⟨O, n, hn, f⟩ := p
  rw [List.take_length] at n hn
  have W5 := a.wires
  have hsz := a.built.size
  have hb0 := pos_base up (h + 2) k
  have hg := (a.orig.lt g rfl).1
  have hgn := a.gnb
  have hsx : ∀ q s, q < k → sx up (h + 2) q = some s → s < wo.heap.size ∧ h + 2 < s := fun q s hq hs => by
    obtain ⟨hu, rfl⟩ := sx_some hs
    have h1 := pos_lt up (h + 2) hq
    have h2 := pos_base up (h + 2) q
    rw [hu] at h1
    simp only [if_true] at h1
    exact ⟨by omega, by omega⟩
  have own : ∀ {v : Value} {b c : Nat}, v = .slice (some ⟨b, 0, none⟩) ml c → wo.heap.size ≤ b → b < nb → W.ownsRow wo.heap.size 50 5 v ml (flat ms) → w'.ownsRow wo.heap.size 50 5 v ml (flat ms) := by
    rintro v b c rfl h1 h2 ⟨e1, e2⟩
    refine ⟨e1, ?_⟩
    rcases e2 with e2 | ⟨g', cap', cur, hv, hb, hg', rest⟩
    · exact Or.inl e2
    · simp only [Value.slice.injEq, Option.some.injEq, Addr.mk.injEq] at hv
      obtain ⟨⟨rfl, _⟩, _, rfl⟩ := hv
      refine Or.inr ⟨b, c, cur, rfl, hb, ?_, rest⟩
      rw [f.block b (by omega) (by omega) (fun q s hq hs => by have := hsx q s hq hs; omega)]
      exact hg'
  have K := W5.kept f
  exact {
    links := K.links
    sess := by
      have hs0 := a.built.sess
      have h1 := hs0.lt
      have h2 := (hs0.of_block (a.below.block _ h1)).congr (g := fun q => adr (sx up (h + 2) q)) (fun r hr => by rw [if_pos hr])
      exact h2.of_block (f.block _ (by omega) (by omega) (fun q s hq hs => by have := hsx q s hq hs; omega))
    link := K.link
    node := hn
    send := own rfl (Nat.le_refl _) (by omega) a.send
    orig := own rfl (by omega) hgn (a.orig.mono (by omega))
    net := ⟨O, n⟩ }

theorem At5.old {h nb k ml g cap : Nat} {up lo : Nat → Bool} {ms : List Msg} {x : Int} {w wo W w' : World} (a : At5 h nb k ml g cap up lo ms x w wo W) (p : PostSt (nb + 1) k nb h (sx up (h + 2)) lo ms x W ms.length w') : Below h w w' := by
  obtain ⟨O, n, hn, f⟩ := p
  have hsz := a.built.size
  have hb0 := pos_base up (h + 2) k
  have hg := (a.orig.lt g rfl).1
  have hgn := a.gnb
  have hW : Below h w W := a.built.below.trans (a.below.mono (by omega))
  refine hW.trans ⟨f.os, f.tape, f.output, f.size, fun b hb => f.block b (by omega) (by omega) (fun q s hq hs => ?_)⟩
  obtain ⟨hu, rfl⟩ := sx_some hs
  have h2 := pos_base up (h + 2) q
  omega

/-- Is link q up; is its session lost. -/
def flag (n : Nat) (F : Nat → Bool) (q : Nat) : Bool := decide (q < n) && F q
theorem flag_out {n q : Nat} {F : Nat → Bool} (h : ¬ q < n) : flag n F q = false := by simp [flag, h]
theorem flag_in {n q : Nat} {F : Nat → Bool} {b : Bool} (h : q < n) (hb : F q = b) : flag n F q = b := by simp [flag, h, hb]
end Go.Proofs.Ybulkcnfi
