/-
  wire.NewMessage(nil): twelve bytes, nothing remembered.
-/
import Derived.Test.YbulkcnfwRows
import Derived.WalkKit
import Derived.BigQuiet
import Derived.Deep.QuietTactic
import Derived.Deep.LoopGhost
import Derived.Deep.OwnRows
namespace Go.Proofs.Ybulkcnfw
open Go.RowKit

/-- append(nil, make([]T, n)...) -/
theorem run_append_make {P : Program} (w : World) (t u ty e : TypeId) (q : IntKind) (i : TypeInfo) (z : Value) (ht : P.underlying t = some (.slice e)) (hu : P.underlying u = some (.int q)) (hi : P.info? e = some i) (hz : i.zero = some z)
    (n : Nat) (h0 : 0 < n) (hs : 0 < i.size) (hw : IntKind.i64.wrap (n : Int) = n) (hb : ¬ ((281474976710656 : Int) < (n : Int) * i.bytes)) (h63 : ¬ ((9223372036854775807 : Int) < n)) (h48 : ¬ (281474976710656 < Builtin.nextslicecap n 0 * i.bytes)) :
    (Builtin.append_ #[t, u] ty #[.slice none 0 0, .int q n]).run P w =
      .ok (.slice (some ⟨w.heap.size, 0, none⟩) n (grownCap w n 0 e)) (w.drew.alloc (.cells (Builtin.zeroCells z.cells n ++ Builtin.zeroCells z.cells (grownCap w n 0 e - n)) e)) := by
  have hn : n ≠ 0 := by omega
  have hn1 : ¬ ((n : Int) < 0) := by omega
  have hs1 : i.size ≠ 0 := by omega
  have hmx : max (n : Int) 0 = n := by omega
  simp [Builtin.append_, run_underlying ht, run_underlying hu, sizeOf, typeInfo, zeroValue, hi, hz, asInt, asIntOf, hw, hn, hn1, hb, h63, h48, Question.forced, Builtin.firstCells, newRow, grownCap, hmx]
  intro h
  exact absurd h (Nat.mul_ne_zero hn hs1)

theorem wpList_append_make {P : Program} {w : World} {ops : Array Oper} {rest : List Oper} {o : Oper} {a : Act} {Q : Exit → Act → World → Prop} (hgd : o.guard = none) (s x : Operand) (t u e : TypeId)
    (ho : o.op = .call { callee := .builtin .append, args := #[s, x], argTypes := #[t, u] }) (q : IntKind) (i : TypeInfo) (z : Value) (ht : P.underlying t = some (.slice e)) (hu : P.underlying u = some (.int q)) (hi : P.info? e = some i) (hz : i.zero = some z)
    (n : Nat) (hs : a.eval s = .slice none 0 0) (hx : a.eval x = .int q n) (h0 : 0 < n) (hsz : 0 < i.size) (hw : IntKind.i64.wrap (n : Int) = n) (hb : ¬ ((281474976710656 : Int) < (n : Int) * i.bytes)) (h63 : ¬ ((9223372036854775807 : Int) < n)) (h48 : ¬ (281474976710656 < Builtin.nextslicecap n 0 * i.bytes))
    (h : ∀ (cap : Nat) (X : Array Value), wpList P ops Q rest (a.put o.dst (.slice (some ⟨w.heap.size, 0, none⟩) n cap)) (w.alloc (.cells X e)).drew) : wpList P ops Q (o :: rest) a w := by
  refine wpList_plain hgd fun K hK => ?_
  have hr := run_append_make (P := P) w t u o.type e q i z ht hu hi hz n h0 hsz hw hb h63 h48
  unfold Oper.wp execOp
  simp only [ho, resolve, invoke, builtin, Sem.run_bind, Sem.run_pure, Result.andThen_ok, List.map_toArray, List.map_cons, List.map_nil, hs, hx, hr]
  exact hK _ _ (h _ _)

theorem Yba.info5 : (Yba.prog.info? 5).map (fun i => (i.zero, i.size, i.bytes)) = some (some (.int .u8 0), 1, 1) := by kernel_rfl
theorem wrap12 : IntKind.i64.wrap ((12 : Nat) : Int) = ((12 : Nat) : Int) := by rw [IntKind.wrap_i64]; omega
theorem next12 : Builtin.nextslicecap 12 0 = 12 := rfl

/-- A message's cells with nothing remembered. -/
abbrev fresh (b : Value) : Array Value := #[b, .int .i64 0, .string ⟨#[]⟩, .int .u16 0, .string ⟨#[]⟩, .int .u16 0, .string ⟨#[]⟩, .int .u16 0, .string ⟨#[]⟩, .int .u16 0, .string ⟨#[]⟩, .int .u16 0, .string ⟨#[]⟩, .int .u16 0, .string ⟨#[]⟩, .int .u16 0, .string ⟨#[]⟩, .int .u16 0, .string ⟨#[]⟩, .int .u16 0, .string ⟨#[]⟩, .int .u16 0, .string ⟨#[]⟩, .int .u16 0, .string ⟨#[]⟩, .int .u16 0, .string ⟨#[]⟩, .int .u16 0, .string ⟨#[]⟩, .int .u16 0, .string ⟨#[]⟩, .int .u16 0, .string ⟨#[]⟩, .int .u16 0, .int .i64 0, .map none]

theorem fresh_one (a : Option Addr) (n c : Nat) : (fresh (.slice a n c)).all (·.oneCell') = true := by
  simp [Value.oneCell']

theorem side12 {b : Nat} (h : b = 1) : ¬ ((281474976710656 : Int) < ((12 : Nat) : Int) * b) ∧ ¬ ((9223372036854775807 : Int) < ((12 : Nat) : Int)) ∧ ¬ (281474976710656 < Builtin.nextslicecap 12 0 * b) := by
  subst h
  rw [next12]
  omega

theorem results_cell {fn : Func} {p : Tmp} {ty : TypeId} {g : Nat} {v : Value} {P : Program} {w : World} {tmps : Array Value} (h : fn.results = #[.cell p ty]) (hp : tmps.getD p undef = .pointer (some ⟨g, 0, none⟩)) (hl : (loadVar ty ⟨g, 0, none⟩).run P w = .ok v w) :
    (results fn tmps).run P w = .ok v w := by
  simp only [results, h]
  simp only [Array.getD_eq_getD_getElem?] at hp
  simp [hp, hl, asAddr]

theorem size35 : (Yba.prog.info? 35).map (·.size) = some 36 := by kernel_rfl
theorem under35 : ∃ fs, Yba.prog.underlying 35 = some (.struct fs) := ⟨_, Yba.underlying35⟩

theorem below_row {B : Nat} {a w : World} (h : Below B a w) {g : Nat} (hg : B ≤ g) (c : Array Value) : Below B a (w.setRow g c) :=
  h.trans ⟨rfl, rfl, rfl, by simp [World.setRow], fun k hk => setRow_other w g k c (by omega)⟩
theorem blk_two (w : World) (o o' : Obj) : ((w.alloc o).alloc o').drew.heap[w.heap.size]? = some o := (Below.heap_alloc (w.alloc o) o' w.heap.size (by simp)).trans (heap_alloc_new w o)

set_option maxRecDepth 100000 in
theorem new_any (w : World) :
    Calls Yba.prog 6 #[.slice none 0 0] w fun e w' => ∃ g cap, e = .returned (.agg (fresh (.slice (some ⟨g, 0, none⟩) 12 cap))) ∧ Below w.heap.size w w' := by
  obtain ⟨i0, hi, hz0, hz1, hz2⟩ := info_parts Yba.info5
  obtain ⟨S1, S2, S3⟩ := side12 hz2
  have H1 : Hid _ := S1
  have H2 : Hid _ := S2
  have H3 : Hid _ := S3
  clear S1 S2 S3
  go_enter Yba.func6, Yba.ntmps6
  go_wp2_with (first
    | (at_builtin; refine wpList_append_make rfl (.tmp 3) (.const (.int .i64 12)) 27 3 5 rfl .i64 i0 _ Yba.underlying27 Yba.underlying3 hi hz0 12 rfl rfl (Nat.succ_pos _) (by rw [hz1]; exact Nat.one_pos) wrap12 H1.out H2.out H3.out ?_; intro cap X)
    | (refine wpList_store_row rfl 35 (.tmp 2) (.tmp 7) rfl w.heap.size (fresh (.slice (some ⟨w.heap.size + 1, 0, none⟩) 12 cap)) rfl rfl 35 (fresh (.slice none 0 0)) (blk_two w _ _) size35 rfl (fresh_one _ _ _) ?_))
  have hrow := setRow_heap _ w.heap.size _ (fresh (.slice (some ⟨w.heap.size + 1, 0, none⟩) 12 cap)) 35 (0, 0) (blk_two w (.cells (fresh (.slice none 0 0)) 35) (.cells X 5))
  exact bodyPost_ret (v := .agg (fresh (.slice (some ⟨w.heap.size + 1, 0, none⟩) 12 cap))) (results_cell Yba.results6 rfl (run_loadVar_row _ _ 35 35 _ (0, 0) _ hrow Yba.underlying35 rfl size35)) rfl ⟨_, _, rfl, below_row (((Below.refl _ w).alloc (Nat.le_refl _) _).alloc (by simp) _).drew (Nat.le_refl _) _⟩
end Go.Proofs.Ybulkcnfw
