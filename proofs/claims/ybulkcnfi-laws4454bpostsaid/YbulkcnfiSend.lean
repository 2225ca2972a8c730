/-
  (*node.session).send: on a lost session nothing old turns; on another one the message is appended to the session's own slice.
-/
import Derived.Test.YbulkcnfiRows
import Derived.Test.YbulkcnfiLocks
import Derived.Test.YbulkcnfiSignal
import Derived.Test.YbulkcnfiAppend
import Derived.Conc.MuLone
import Derived.WalkKit
import Derived.Deep.RegionHeld3
namespace Go.Proofs.Ybulkcnfi
open Go.MuLone Go.RowKit

theorem blk_cell {w : World} {b : Nat} {cs : Array Value} {t : TypeId} (h : w.heap[b]? = some (.cells cs t (0, 0))) (j : Nat) : w.cell? ⟨b, j, none⟩ = cs[j]? := by simp [World.cell?, h]
theorem blk_free {w : World} {b : Nat} {cs : Array Value} {t : TypeId} (h : w.heap[b]? = some (.cells cs t (0, 0))) (j : Nat) : w.frozen? ⟨b, j, none⟩ = false := by simp [World.frozen?, h]
theorem blk_set {w : World} {b : Nat} {cs : Array Value} {t : TypeId} (h : w.heap[b]? = some (.cells cs t (0, 0))) (j : Nat) (v : Value) : (w.setCell ⟨b, j, none⟩ v).heap[b]? = some (.cells (cs.setIfInBounds j v) t (0, 0)) := by
  simp [World.setCell, Array.getElem?_modify, h]

/-- A session's block: nothing but its mutex, its queue and its flag is ever set. -/
abbrev sessCells (m : Int) (o : Value) (l : Bool) : Array Value := #[.nilIface, .pointer none, .pointer none, .chan none, .int .i32 m, .int .u32 0, o, .bool l]
abbrev sessObj (m : Int) (o : Value) (l : Bool) : Obj := .cells (sessCells m o l) 45 (0, 0)
/-- A message's cells. -/
abbrev msgCells (kd fr to tm pd : Int) : Array Value := #[.int .u8 kd, .int .i64 fr, .int .i64 to, .int .u64 tm, .int .u64 pd]

/-- The mutex taken, a new block laid. -/
theorem taken {w : World} {s : Nat} {o : Value} {l : Bool} (hs : w.heap[s]? = some (sessObj 0 o l)) (ob : Obj) : ((w.setCell ⟨s, 4, none⟩ (.int .i32 1)).alloc ob).heap[s]? = some (sessObj 1 o l) := by
  rw [Below.heap_alloc _ _ _ (by simpa using lt_of_block hs), blk_set hs 4]
  rfl
theorem given {w : World} {s : Nat} {o : Value} {l : Bool} (hs : w.heap[s]? = some (sessObj 1 o l)) : (w.setCell ⟨s, 4, none⟩ (.int .i32 0)).heap[s]? = some (sessObj 0 o l) := by
  rw [blk_set hs 4]
  rfl

theorem send_lost (s : Nat) (o : Value) (kd fr to tm pd : Int) (w : World) (hs : w.heap[s]? = some (sessObj 0 o true)) :
    Calls Yba.prog 10 #[.pointer (some ⟨s, 0, none⟩), .agg (msgCells kd fr to tm pd)] w fun e w' => e = .returned (.tuple #[]) ∧ w'.heap[s]? = some (sessObj 0 o true) ∧ Below w.heap.size w w' := by
  have hlt : s < w.heap.size := lt_of_block hs
  have c4 : w.cell? ⟨s, 4, none⟩ = some (.int .i32 0) := blk_cell hs 4
  have c7 : w.cell? ⟨s, 7, none⟩ = some (.bool true) := blk_cell hs 7
  have f4 : w.frozen? ⟨s, 4, none⟩ = false := blk_free hs 4
  have HS : Hid (w.heap[s]? = some (sessObj 0 o true)) := hs
  clear hs
  go_enter_defers Yba.func10, Yba.ntmps10
  go_wp2_with (go_at_call 13; refine (lock_free Yba.muLib ⟨s, 4, none⟩ _ ((World.cell?_alloc_lt w _ _ hlt).trans c4) ((frozen?_alloc_cells w _ _ _).trans f4)).mono ?_; rintro e w' ⟨rfl, rfl⟩)
  have ht := taken HS.out (.cells (msgCells kd fr to tm pd) 50)
  refine leaves_cons (f := 14) (args := #[.pointer (some ⟨s, 4, none⟩)]) (by simp) (by simp [go_sem]) ?_
  refine (unlock_deferred Yba.muLib ⟨s, 4, none⟩ .returning _ (blk_cell ht 4) (blk_free ht 4)).mono ?_
  rintro e u' w'' ⟨rfl, rfl, rfl⟩
  refine ⟨_, results_none rfl _ _ _, rfl, given ht, ⟨rfl, rfl, rfl, by simp, fun k hk => ?_⟩⟩
  by_cases hks : k = s
  · subst hks
    rw [given ht, HS.out]
  · rw [Below.heap_setCell _ _ _ _ hks, Below.heap_alloc _ _ _ (by simpa using hk), Below.heap_setCell _ _ _ _ hks]

/-- The world gets a name; what is known of it stays. -/
theorem named {P : Program} {c : Code} {Q : Exit → Act → World → Prop} {a : Act} {w : World} (C : World → Prop) (h : C w) (k : ∀ W, C W → Code.wp P c Q a W) : Code.wp P c Q a w := k w h

/-- What send leaves as it was. -/
structure Kept (s : Nat) (o : Value) (w w' : World) : Prop where
  os : w'.os = w.os
  tape : w'.tape = w.tape
  output : w'.output = w.output
  size : w.heap.size ≤ w'.heap.size
  block : ∀ k, k < w.heap.size → k ≠ s → some k ≠ o.ownBlock → w'.heap[k]? = w.heap[k]?

theorem own_ne {w : World} {base n s m : Nat} {o o' : Value} {l : Bool} {xs : List Value} (hown : w.ownsRow base 50 5 o n xs) (hs : w.heap[s]? = some (sessObj m o' l)) : some s ≠ o.ownBlock := by
  intro e
  rcases hown.2 with ⟨rfl, _⟩ | ⟨g, cap, cur, rfl, _, hg, _⟩
  · simp [Value.ownBlock] at e
  · simp only [Value.ownBlock, Option.some.injEq] at e
    subst e
    rw [hs] at hg
    simp at hg

theorem news_new (W : World) (c : Array Value) (t : TypeId) : ∀ j u, c.toList[j]? = some u → (W.alloc (.cells c t)).cell? ((⟨W.heap.size, 0, none⟩ : Addr).add j) = some u := by
  intro j u hu
  have hadd : (⟨W.heap.size, 0, none⟩ : Addr).add j = ⟨W.heap.size, j, none⟩ := by unfold Addr.add; split <;> simp_all
  rw [hadd, blk_cell (heap_alloc_new W _)]
  simpa using hu
theorem msg_one (kd fr to tm pd : Int) : ∀ u ∈ (msgCells kd fr to tm pd).toList, u.oneCell' = true := by
  intro u hu
  simp at hu
  rcases hu with rfl | rfl | rfl | rfl | rfl <;> rfl
theorem le_alloc {W : World} {base : Nat} (h : base ≤ W.heap.size) (o : Obj) : base ≤ (W.alloc o).heap.size := by simp; omega

/-- Behind the append: the session's block as it was; what else is kept; where the row lies. -/
theorem appended {w W V w1 : World} {s base n g : Nat} {o : Value} {xs : List Value} {ob : Obj} (hg : V.grownBy w1 o.ownBlock) (hw : o.ownBlock = some g ∨ V.heap.size ≤ g) (hs : W.heap[s]? = some (sessObj 1 o false)) (hown : W.ownsRow base 50 5 o n xs) (hk : Kept s o w W)
    (hV : V.heap = W.heap.push ob) (hVo : V.os = W.os ∧ V.tape = W.tape ∧ V.output = W.output) :
    w1.heap[s]? = some (sessObj 1 o false) ∧ Kept s o w w1 ∧ (o.ownBlock = some g ∨ w.heap.size ≤ g) := by
  have hVs : V.heap.size = W.heap.size + 1 := by simp [hV]
  have hVk : ∀ k, k < W.heap.size → V.heap[k]? = W.heap[k]? := fun k hk => by rw [hV, Array.getElem?_push, if_neg (by omega)]
  have hlt : s < W.heap.size := lt_of_block hs
  have hsz := hk.size
  have hgs := hg.size
  refine ⟨?_, ⟨hg.os.trans (hVo.1.trans hk.os), hg.tape.trans (hVo.2.1.trans hk.tape), hg.output.trans (hVo.2.2.trans hk.output), by omega, fun k h1 h2 h3 => ?_⟩, hw.elim Or.inl (fun h => Or.inr (by omega))⟩
  · rw [hg.block s (by omega) (own_ne hown hs), hVk s hlt]
    exact hs
  · rw [hg.block k (by omega) h3, hVk k (by omega)]
    exact hk.block k h1 h2 h3

/-- The queue stored. -/
theorem queued {w : World} {s : Nat} {o v : Value} {l : Bool} (hs : w.heap[s]? = some (sessObj 1 o l)) : (w.setCell ⟨s, 6, none⟩ v).heap[s]? = some (sessObj 1 v l) := by
  rw [blk_set hs 6]
  rfl

theorem Yba.info50 : (Yba.prog.info? 50).map (fun i => (i.zero, i.size, i.bytes)) = some (some (.agg #[.int .u8 0, .int .i64 0, .int .i64 0, .int .u64 0, .int .u64 0]), 5, 40) := by kernel_rfl

set_option maxHeartbeats 400000 in
theorem send_live (s : Nat) (o : Value) (base n : Nat) (xs : List Value) (kd fr to tm pd : Int) (w : World) (hs : w.heap[s]? = some (sessObj 0 o false)) (hown : w.ownsRow base 50 5 o n xs) (hb : base ≤ w.heap.size) (hn : n ≤ 1024) :
    Calls Yba.prog 10 #[.pointer (some ⟨s, 0, none⟩), .agg (msgCells kd fr to tm pd)] w fun e w' => ∃ g cap, e = .returned (.tuple #[]) ∧ w'.heap[s]? = some (sessObj 0 (.slice (some ⟨g, 0, none⟩) (n + 1) cap) false) ∧
      w'.ownsRow base 50 5 (.slice (some ⟨g, 0, none⟩) (n + 1) cap) (n + 1) (xs ++ (msgCells kd fr to tm pd).toList) ∧ (o.ownBlock = some g ∨ w.heap.size ≤ g) ∧ Kept s o w w' := by
  have hlt : s < w.heap.size := lt_of_block hs
  have c4 : w.cell? ⟨s, 4, none⟩ = some (.int .i32 0) := blk_cell hs 4
  have c6 : w.cell? ⟨s, 6, none⟩ = some o := blk_cell hs 6
  have c7 : w.cell? ⟨s, 7, none⟩ = some (.bool false) := blk_cell hs 7
  have f4 : w.frozen? ⟨s, 4, none⟩ = false := blk_free hs 4
  have HS : Hid (w.heap[s]? = some (sessObj 0 o false)) := hs
  have HO : Hid (w.ownsRow base 50 5 o n xs) := hown
  clear hs hown
  go_enter_defers Yba.func10, Yba.ntmps10
  go_wp2_with (go_at_call 13; refine (lock_free Yba.muLib ⟨s, 4, none⟩ _ ((World.cell?_alloc_lt w _ _ hlt).trans c4) ((frozen?_alloc_cells w _ _ _).trans f4)).mono ?_; rintro e w' ⟨rfl, rfl⟩)
  clear c4 c6 c7 f4
  refine named (fun W => W.heap[s]? = some (sessObj 1 o false) ∧ W.ownsRow base 50 5 o n xs ∧ W.heap[w.heap.size]? = some (.cells (msgCells kd fr to tm pd) 50 (0, 0)) ∧ w.heap.size < W.heap.size ∧ Kept s o w W) ?_ ?_
  · refine ⟨taken HS.out _, (ownsRow_setCell_other HO.out (by simpa using (own_ne HO.out HS.out).symm) _).alloc _, ?_, by simp, ⟨rfl, rfl, rfl, by simp, fun k hk hks _ => ?_⟩⟩
    · have := heap_alloc_new (w.setCell ⟨s, 4, none⟩ (.int .i32 1)) (.cells (msgCells kd fr to tm pd) 50)
      simpa using this
    · rw [Below.heap_alloc _ _ _ (by simpa using hk), Below.heap_setCell _ _ _ _ hks]
  rintro W ⟨hs, hown, hm, hsz, hk⟩
  obtain ⟨i0, hi, hz0, hz1, hz2⟩ := info_parts Yba.info50
  have c6 : W.cell? ⟨s, 6, none⟩ = some o := blk_cell hs 6
  have m0 : W.cell? ⟨w.heap.size, 0, none⟩ = some (.int .u8 kd) := blk_cell hm 0
  have m1 : W.cell? ⟨w.heap.size, 0 + 1, none⟩ = some (.int .i64 fr) := blk_cell hm 1
  have m2 : W.cell? ⟨w.heap.size, 0 + 2, none⟩ = some (.int .i64 to) := blk_cell hm 2
  have m3 : W.cell? ⟨w.heap.size, 0 + 3, none⟩ = some (.int .u64 tm) := blk_cell hm 3
  have m4 : W.cell? ⟨w.heap.size, 0 + 4, none⟩ = some (.int .u64 pd) := blk_cell hm 4
  have hsW : s < W.heap.size := lt_of_block hs
  have h63 : n + 1 ≤ maxLen := by unfold maxLen; omega
  have hby : (n + 1) * 40 ≤ 140737488355328 := by omega
  have hbW : base ≤ W.heap.size := by omega
  have HS1 : Hid (W.heap[s]? = some (sessObj 1 o false)) := hs
  have HO1 : Hid (W.ownsRow base 50 5 o n xs) := hown
  have HK : Hid (Kept s o w W) := hk
  clear hs hown hm hk HS HO
  refine wp_region_noPanic ?_
  go_region_law (refine step_append_where rfl (.tmp 19) (.tmp 21) 43 rfl base 50 i0 _ 5 40 Yba.underlying43 hi hz0 hz1 hz2 rfl (by decide) o n xs (by simp [Act.eval]) (by exact HO1.out.alloc _) ⟨W.heap.size, 0, none⟩ 1 1 (msgCells kd fr to tm pd).toList (by simp [Act.eval]) rfl (by exact news_new W _ _) (msg_one kd fr to tm pd) h63 hby (by exact le_alloc hbW _) (by decide) ?_; intro g cap w1 hown1 hgrow1 hwhere; have A := appended hgrow1 hwhere HS1.out HO1.out HK.out rfl ⟨rfl, rfl, rfl⟩; have c6' := blk_cell A.1 6; have f6' := blk_free A.1 6; have HA := show Hid _ from A; have HO2 : Hid (World.ownsRow _ _ _ _ _ _ _) := hown1; clear A hown1 hgrow1 hwhere; simp only [List.getElem?_toArray, List.getElem?_cons_succ, List.getElem?_cons_zero] at c6')
  all_goals refine NoPanic.normal ?_
  all_goals
    have hq := queued (v := .slice (some ⟨g, 0, none⟩) (n + 1) cap) HA.out.1
    have HQ : Hid ((w1.setCell ⟨s, 6, none⟩ (.slice (some ⟨g, 0, none⟩) (n + 1) cap)).heap[s]? = some (sessObj 1 (.slice (some ⟨g, 0, none⟩) (n + 1) cap) false)) := hq
    have ho := ownsRow_setCell_other (a := ⟨s, 6, none⟩) HO2.out (own_ne HO2.out HA.out.1).symm (.slice (some ⟨g, 0, none⟩) (n + 1) cap)
    have HO3 : Hid (World.ownsRow _ _ _ _ _ _ _) := ho
    clear hq ho c6' f6' c6 m0 m1 m2 m3 m4 hi hz0 hz1 hz2
    go_wp2_with (go_at_call 15; refine (signal_any s _ (blk_cell HQ.out 3)).mono ?_; rintro e w' ⟨rfl, rfl⟩)
    refine leaves_cons (f := 14) (args := #[.pointer (some ⟨s, 4, none⟩)]) (by simp) (by simp [go_sem]) ?_
    refine (unlock_deferred Yba.muLib ⟨s, 4, none⟩ .returning _ (blk_cell HQ.out 4) (blk_free HQ.out 4)).mono ?_
    rintro e u' w'' ⟨rfl, rfl, rfl⟩
    refine ⟨_, results_none rfl _ _ _, g, cap, rfl, given HQ.out, ownsRow_setCell_other HO3.out (own_ne HO3.out HQ.out).symm _, HA.out.2.2, ?_⟩
    have hk := HA.out.2.1
    exact ⟨hk.os, hk.tape, hk.output, by simpa using hk.size, fun k h1 h2 h3 => by rw [Below.heap_setCell _ _ _ _ h2, Below.heap_setCell _ _ _ _ h2]; exact hk.block k h1 h2 h3⟩
end Go.Proofs.Ybulkcnfi
