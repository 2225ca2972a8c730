/-
  fuzz.LawS4456BInsert: the walk.
-/
import Derived.Test.YbulkcngkInsert
import Derived.Laws.Cover4
import Derived.Deep.RegionWith
import Derived.BigQuiet
import Derived.Deep.QuietTactic
import Derived.Deep.LoopGhost
namespace Go.Proofs.Ybulkcngk
open Go.ChangeShapes Go.WideShapes Go.ChangeAt Go.RowKit

/-- A slice of byte slices among the arguments. -/
def Ops (w : World) (a : Option Addr) (n : Nat) (X : Nat → Value) : Prop := 0 < n → ∃ b off, a = some ⟨b, off, none⟩ ∧ b < w.heap.size ∧ ∀ i, i < n → w.cell? ⟨b, off + i, none⟩ = some (X i) ∧ By w (X i)
theorem By.one {w : World} {v : Value} (h : By w v) : v.oneCell' = true := by
  obtain ⟨a, len, cap, rfl, _⟩ := h
  rfl

theorem Yba.infos24 : (Yba.prog.info? 24).map (fun i => (i.zero, i.size, i.bytes)) = some (some (.slice none 0 0), 1, 24) := by kernel_rfl
/-- A new row of n nils. -/
def noOps (n : Nat) : Array Value := madeCells #[.slice none 0 0] n
theorem make_ops (n : Nat) (hn : n ≤ 2000) (w : World) : (Instr.makeSlice 22 (.int .i64 (n : Int)) (.int .i64 (n : Int))).run Yba.prog w = .ok (.slice (some ⟨w.heap.size, 0, none⟩) n n) (w.alloc (.cells (noOps n) 24)) :=
  run_make_row' (P := Yba.prog) 22 24 (.slice none 0 0) 24 Yba.underlying22 Yba.infos24 rfl .i64 .i64 n (by omega) (by omega) w

/-- The operations copied into the new row. -/
theorem copy_in (w : World) (a : Option Addr) (n c : Nat) (X : Nat → Value) (h : Ops w a n X) :
    ∃ w2, (Builtin.copy_ #[22, 22] 3 #[.slice (some ⟨w.heap.size, 0, none⟩) n n, .slice a n c]).run Yba.prog (w.alloc (.cells (noOps n) 24)) = .ok (.int .i64 (n : Int)) w2 ∧ w2.rowIs w.heap.size 24 n X ∧ Below w.heap.size w w2 := by
  have hb : Below w.heap.size w (w.alloc (.cells (noOps n) 24)) := (Below.refl _ w).alloc (Nat.le_refl _) _
  by_cases h0 : n = 0
  · subst h0
    refine ⟨_, run_copy_none (P := Yba.prog) _ 22 22 3 24 _ a 0 0 0 c Yba.underlying22 Yba.size24 rfl, ?_, hb⟩
    exact ((World.rowIs_made w (.slice none 0 0) 0 24).congr fun j hj => absurd hj (Nat.not_lt_zero _))
  · obtain ⟨b, off, rfl, hlt, hc⟩ := h (by omega)
    have hm := World.rowIs_made w (.slice none 0 0) n 24
    have hh : (w.alloc (.cells (noOps n) 24)).heap[w.heap.size]? = some (.cells (noOps n) 24 (0, 0)) := heap_alloc_new w _
    have hsz : (noOps n).size = n := by
      obtain ⟨cc, h1, h2, _⟩ := hm
      have h3 : some (Obj.cells (noOps n) 24 (0, 0)) = some (Obj.cells cc 24 (0, 0)) := hh.symm.trans h1
      simp only [Option.some.injEq, Obj.cells.injEq] at h3
      rw [h3.1]
      exact h2
    have hrun := run_copy_row (P := Yba.prog) (w.alloc (.cells (noOps n) 24)) 22 22 3 24 w.heap.size 0 n n ⟨b, off, none⟩ n c (noOps n) 24 (firsts X n) Yba.underlying22 Yba.size24 hh
      (by rw [firsts_length]; exact (Nat.min_self n).symm)
      (fun j v hv => by
        obtain ⟨h1, rfl⟩ := firsts_get hv
        rw [add_at]
        exact (hb.cell (p := ⟨b, off + j, none⟩) hlt).trans (hc j h1).1)
      (by rw [firsts_length]; omega)
      (fun v hv => by
        obtain ⟨j, hj⟩ := List.getElem?_of_mem hv
        obtain ⟨h1, rfl⟩ := firsts_get hj
        exact (hc j h1).2.one)
    have e : (noOps n).toList.take 0 ++ firsts X n ++ (noOps n).toList.drop (0 + (firsts X n).length) = firsts X n := by
      rw [firsts_length, List.drop_eq_nil_of_le (by simp [hsz])]
      simp
    rw [e, firsts_length] at hrun
    refine ⟨_, hrun, ?_, below_setRow hb (Nat.le_refl _) _⟩
    have := row_list (setRow_heap _ w.heap.size _ (firsts X n).toArray 24 (0, 0) hh)
    rw [firsts_length] at this
    exact this.congr fun j hj => by simp [List.getD, firsts, hj]

set_option maxRecDepth 100000 in
set_option maxHeartbeats 2000000 in
theorem law_small (a : Option Addr) (n c i : Nat) (x : Int) (X : Nat → Value) (oa : Option Addr) (ol oc : Nat) (w : World) (h0 : 0 ≤ x) (h1 : x ≤ 18446744073709551615) (hi : x % ((n : Int) + 1) = (i : Int)) (hn : n ≤ 1024) (hs : Ops w a n X) (ho : By w (.slice oa ol oc)) :
    Calls Yba.prog 3 #[.slice a n c, .int .u64 x, .slice oa ol oc] w fun e w' => e = .returned (.bool true) ∧ Below w.heap.size w w' := by
  obtain ⟨w2, hcopy, hr2, hb2⟩ := copy_in w a n c X hs
  have HR2 : Hid (w2.rowIs w.heap.size 24 n X) := hr2
  have HB2 : Hid (Below w.heap.size w w2) := hb2
  have HS : Hid (Ops w a n X) := hs
  have HO : Hid (By w (.slice oa ol oc)) := ho
  have hmk := make_ops n (by omega)
  have hin : i ≤ n := by have := Int.emod_lt_of_pos x (show 0 < (n : Int) + 1 by omega); omega
  have hn1 : (n : Int) ≤ 1024 := by omega
  clear hr2 hb2 hs ho
  go_enter Yba.func3, Yba.ntmps3
  go_wp2_with fail
  refine (insert_any w.heap.size n i X oa ol oc w2 HR2.out hin hn (fun j hj => by obtain ⟨_, _, _, _, h⟩ := HS.out (by omega); exact (h j hj).2.one)).mono ?_
  rintro e w3 ⟨g, cap, rfl, hcells, hb3⟩
  have HC : Hid (∀ j, j < n + 1 → w3.cell? ⟨g, j, none⟩ = some (ins X i (.slice oa ol oc) j)) := hcells
  have HR3 : Hid (w3.rowIs w.heap.size 24 n X) := HR2.out.of_block (hb3.block _ HR2.out.lt)
  have HB3 : Hid (Below w.heap.size w w3) := HB2.out.trans (hb3.mono HB2.out.size)
  clear hcells hb3 HR2 HB2 hcopy hmk
  go_wp2_with fail
  go_loopg [11] (n + 1) (fun m u wr => ∃ q : Nat, q ≤ n + 1 ∧ m = n + 1 - q ∧ u = .int .i64 q ∧ wr = w3)
  case atStart => exact ⟨0, by omega, by omega, rfl, rfl⟩
  case round =>
    obtain ⟨q, hq, hm, rfl, rfl⟩ := hrel
    by_cases hlt : q < n + 1
    · have c1 := HC.out q hlt
      have hlt1 : (q : Int) < (n : Int) + 1 := by omega
      rcases Nat.lt_trichotomy q i with hqi | hqi | hqi
      · obtain ⟨b, off, rfl, hbl, hc⟩ := HS.out (by omega)
        obtain ⟨c2, c3⟩ := hc q (by omega)
        have c4 := (HB3.out.cell (p := ⟨b, off + q, none⟩) hbl).trans c2
        have HBy : Hid (By w (X q)) := c3
        clear hc c2 c3
        rw [ins, if_pos hqi] at c1
        have hqi1 : (q : Int) < i := by omega
        have hqn : (q : Int) < n := by omega
        go_wp2_with (go_at_call 7; refine (beq_same HBy.out HB3.out).mono ?_; rintro e w' ⟨rfl, rfl⟩)
        go_roundg (n + 1 - (q + 1))
        case measure => omega
        case rel => exact ⟨q + 1, by omega, rfl, by go_num, rfl⟩
      · subst hqi
        rw [ins, if_neg (Nat.lt_irrefl _), if_pos rfl] at c1
        go_wp2_with (go_at_call 7; refine (beq_same HO.out HB3.out).mono ?_; rintro e w' ⟨rfl, rfl⟩)
        go_roundg (n + 1 - (q + 1))
        case measure => omega
        case rel => exact ⟨q + 1, by omega, rfl, by go_num, rfl⟩
      · obtain ⟨b, off, rfl, hbl, hc⟩ := HS.out (by omega)
        obtain ⟨r, hr⟩ : ∃ r : Nat, (q : Int) - 1 = (r : Int) := ⟨q - 1, by omega⟩
        obtain ⟨c2, c3⟩ := hc r (by omega)
        have c4 := (HB3.out.cell (p := ⟨b, off + r, none⟩) hbl).trans c2
        have HBy : Hid (By w (X r)) := c3
        clear hc c2 c3
        rw [ins, if_neg (by omega), if_neg (by omega), show q - 1 = r from by omega] at c1
        have hr1 : (r : Int) < n := by omega
        have hqi1 : ¬ ((q : Int) < i) := by omega
        have hqi2 : ¬ ((q : Int) = i) := by omega
        go_wp2_with (go_at_call 7; refine (beq_same HBy.out HB3.out).mono ?_; rintro e w' ⟨rfl, rfl⟩)
        go_roundg (n + 1 - (q + 1))
        case measure => omega
        case rel => exact ⟨q + 1, by omega, rfl, by go_num, rfl⟩
    · obtain rfl : q = n + 1 := by omega
      have hge : ¬ ((n : Int) + 1 < (n : Int) + 1) := by omega
      go_wp2_with fail
      clear HC
      go_loopg [13] n (fun m u wr2 => ∃ q : Nat, q ≤ n ∧ m = n - q ∧ u = .int .i64 q ∧ wr2.rowIs w.heap.size 24 n X ∧ Below w.heap.size w wr2)
      case atStart => exact ⟨0, by omega, by omega, rfl, HR3.out, HB3.out⟩
      case round =>
        obtain ⟨q, hq, hm, rfl, hr4, hb4⟩ := hrel
        have HR4 : Hid (wr.rowIs w.heap.size 24 n X) := hr4
        have HB4 : Hid (Below w.heap.size w wr) := hb4
        clear hr4 hb4 HR3 HB3
        by_cases hlt : q < n
        · obtain ⟨b, off, rfl, hbl, hc⟩ := HS.out (by omega)
          obtain ⟨c2, c3⟩ := hc q hlt
          have c4 := (HB4.out.cell (p := ⟨b, off + q, none⟩) hbl).trans c2
          have c5 := HR4.out.cell hlt
          have HBy : Hid (By w (X q)) := c3
          clear hc c2 c3
          have hlt1 : (q : Int) < n := by omega
          go_wp2_with fail
          go_region_with (go_at_call 7; refine (beq_same HBy.out HB4.out.drew).mono ?_; rintro e w' ⟨rfl, rfl⟩)
          all_goals go_wp2_with fail
          all_goals go_roundg (n - (q + 1))
          all_goals first | omega | exact ⟨q + 1, by omega, rfl, by go_num, HR4.out, HB4.out.drew⟩
        · obtain rfl : q = n := by omega
          go_wp2_with fail
          go_ret
          exact ⟨rfl, HB4.out⟩

set_option maxRecDepth 100000 in
theorem law_big (a : Option Addr) (n c : Nat) (x : Int) (op : Value) (w : World) (hn : 1024 < n) :
    Calls Yba.prog 3 #[.slice a n c, .int .u64 x, op] w fun e w' => e = .returned (.bool true) ∧ Below w.heap.size w w' := by
  have hn1 : 1024 < (n : Int) := by omega
  go_enter Yba.func3, Yba.ntmps3
  go_wp2_with fail
  go_ret
  exact ⟨rfl, Below.refl _ w⟩

theorem law_any (a : Option Addr) (n c : Nat) (x : Int) (X : Nat → Value) (oa : Option Addr) (ol oc : Nat) (w : World) (h0 : 0 ≤ x) (h1 : x ≤ 18446744073709551615) (hs : Ops w a n X) (ho : By w (.slice oa ol oc)) :
    Calls Yba.prog 3 #[.slice a n c, .int .u64 x, .slice oa ol oc] w fun e w' => e = .returned (.bool true) ∧ Below w.heap.size w w' := by
  by_cases hn : 1024 < n
  · exact law_big a n c x _ w hn
  · exact law_small a n c (x % ((n : Int) + 1)).toNat x X oa ol oc w h0 h1 (Int.toNat_of_nonneg (Int.emod_nonneg _ (by omega))).symm (by omega) hs ho
end Go.Proofs.Ybulkcngk
