/-
  The proof of 'Rows.LawS4459BMinMaxSaid': the walk; the row's step is the guide's template at this function's number and types.
-/
import Derived.Test.YbulkcniaRows
import Derived.Test.YbulkcniaParts
import Derived.Deep.RegionWith
import Derived.WalkKit
import Derived.ProofKit
import Derived.OpenShut
import Derived.ShutString
namespace Go.Proofs.Ybulkcnia.lawS4459BMinMax
open Go.ChangeShapes Go.WideShapes Go.ChangeAt Go.RowKit
open Go.ChangeMaps (open_string shut_string)
set_option linter.unusedVariables false      -- a walk need not use every 'w<i>' (that an integer argument fits its kind)

theorem own : ownKnob Yba.prog.godebug = none := by kernel_rfl

/-- The world gets a name; what is known of it stays. -/
theorem named {P : Program} {c : Code} {Q : Exit → Act → World → Prop} {a : Act} {w : World} (C : World → Prop) (h : C w) (k : ∀ W, C W → Code.wp P c Q a W) : Code.wp P c Q a w := k w h

set_option maxHeartbeats 1000000 in
theorem walk_gt (a0 : Int) (a1 : Int) (h : a1 < a0) (w : World) :
    Calls Yba.prog 4 #[.int .i64 a0, .int .i64 a1] w fun e w' => e = .returned (.bool true) ∧ Grown w w' := by
  have he := fun w => eqNilPtr 9997 w
  go_enter Yba.func4, Yba.ntmps4
  go_wp2_with (first
    | (go_at_call 5; refine (units_any _ _).mono ?_; rintro e w' ⟨rfl, rfl⟩)
    | (go_at_call 7; refine (min_b _ _ h _).mono ?_; rintro e w' ⟨rfl, rfl⟩)
    | (go_at_call 8; refine (max_a _ _ (by omega) _).mono ?_; rintro e w' ⟨rfl, rfl⟩))
  refine named (fun W => Grown w W ∧
    W.cell? ⟨w.heap.size + 1 + 1 + 1 + 1 + 1 + 1 + 1 + 1 + 1, 0, none⟩ = some (.int .i64 a1) ∧ W.cell? ⟨w.heap.size + 1 + 1 + 1 + 1 + 1 + 1 + 1 + 1 + 1, 0 + 1, none⟩ = some (.pointer none) ∧
    W.cell? ⟨w.heap.size + 1 + 1 + 1 + 1 + 1 + 1 + 1 + 1 + 1 + 1 + 1 + 1 + 1 + 1 + 1 + 1 + 1 + 1 + 1, 0, none⟩ = some (.int .i64 a0) ∧ W.cell? ⟨w.heap.size + 1 + 1 + 1 + 1 + 1 + 1 + 1 + 1 + 1 + 1 + 1 + 1 + 1 + 1 + 1 + 1 + 1 + 1 + 1, 0 + 1, none⟩ = some (.pointer none) ∧
    w.heap.size + 20 ≤ W.heap.size) ?_ ?_
  · exact ⟨by (iterate 20 refine Grown.alloc ?_ _ _); exact Grown.refl w, by go_simp, by go_simp, by go_simp, by go_simp, by simp⟩
  · rintro W ⟨hg, h1, h2, h3, h4, h5⟩
    have G : Hid (Grown w W) := hg
    have h1' := fun o => (World.cell?_alloc_lt W o _ (by simp; omega)).trans h1
    have h2' := fun o => (World.cell?_alloc_lt W o _ (by simp; omega)).trans h2
    have h3' := fun o => (World.cell?_alloc_lt W o _ (by simp; omega)).trans h3
    have h4' := fun o => (World.cell?_alloc_lt W o _ (by simp; omega)).trans h4
    have h1'' := fun o o' => (World.cell?_alloc_lt (W.alloc o) o' _ (by simp; omega)).trans (h1' o)
    have h2'' := fun o o' => (World.cell?_alloc_lt (W.alloc o) o' _ (by simp; omega)).trans (h2' o)
    have h3'' := fun o o' => (World.cell?_alloc_lt (W.alloc o) o' _ (by simp; omega)).trans (h3' o)
    have h4'' := fun o o' => (World.cell?_alloc_lt (W.alloc o) o' _ (by simp; omega)).trans (h4' o)
    clear hg h5
    go_region_with (go_at_call 5; refine (units_any _ _).mono ?_; rintro e w' ⟨rfl, rfl⟩)
    all_goals go_wp2
    all_goals go_ret
    all_goals exact ⟨rfl, by repeat (first | exact G.out | apply Grown.drew | apply Grown.alloc)⟩

set_option maxHeartbeats 1000000 in
theorem walk_lt (a0 : Int) (a1 : Int) (h : a0 < a1) (w : World) :
    Calls Yba.prog 4 #[.int .i64 a0, .int .i64 a1] w fun e w' => e = .returned (.bool true) ∧ Grown w w' := by
  have he := fun w => eqNilPtr 9997 w
  go_enter Yba.func4, Yba.ntmps4
  go_wp2_with (first
    | (go_at_call 5; refine (units_any _ _).mono ?_; rintro e w' ⟨rfl, rfl⟩)
    | (go_at_call 7; refine (min_a _ _ (by omega) _).mono ?_; rintro e w' ⟨rfl, rfl⟩)
    | (go_at_call 8; refine (max_b _ _ h _).mono ?_; rintro e w' ⟨rfl, rfl⟩))
  refine named (fun W => Grown w W ∧
    W.cell? ⟨w.heap.size + 1 + 1 + 1 + 1 + 1 + 1 + 1 + 1 + 1, 0, none⟩ = some (.int .i64 a0) ∧ W.cell? ⟨w.heap.size + 1 + 1 + 1 + 1 + 1 + 1 + 1 + 1 + 1, 0 + 1, none⟩ = some (.pointer none) ∧
    W.cell? ⟨w.heap.size + 1 + 1 + 1 + 1 + 1 + 1 + 1 + 1 + 1 + 1 + 1 + 1 + 1 + 1 + 1 + 1 + 1 + 1 + 1, 0, none⟩ = some (.int .i64 a1) ∧ W.cell? ⟨w.heap.size + 1 + 1 + 1 + 1 + 1 + 1 + 1 + 1 + 1 + 1 + 1 + 1 + 1 + 1 + 1 + 1 + 1 + 1 + 1, 0 + 1, none⟩ = some (.pointer none) ∧
    w.heap.size + 20 ≤ W.heap.size) ?_ ?_
  · exact ⟨by (iterate 20 refine Grown.alloc ?_ _ _); exact Grown.refl w, by go_simp, by go_simp, by go_simp, by go_simp, by simp⟩
  · rintro W ⟨hg, h1, h2, h3, h4, h5⟩
    have G : Hid (Grown w W) := hg
    have h1' := fun o => (World.cell?_alloc_lt W o _ (by simp; omega)).trans h1
    have h2' := fun o => (World.cell?_alloc_lt W o _ (by simp; omega)).trans h2
    have h3' := fun o => (World.cell?_alloc_lt W o _ (by simp; omega)).trans h3
    have h4' := fun o => (World.cell?_alloc_lt W o _ (by simp; omega)).trans h4
    have h1'' := fun o o' => (World.cell?_alloc_lt (W.alloc o) o' _ (by simp; omega)).trans (h1' o)
    have h2'' := fun o o' => (World.cell?_alloc_lt (W.alloc o) o' _ (by simp; omega)).trans (h2' o)
    have h3'' := fun o o' => (World.cell?_alloc_lt (W.alloc o) o' _ (by simp; omega)).trans (h3' o)
    have h4'' := fun o o' => (World.cell?_alloc_lt (W.alloc o) o' _ (by simp; omega)).trans (h4' o)
    clear hg h5
    go_region_with (go_at_call 5; refine (units_any _ _).mono ?_; rintro e w' ⟨rfl, rfl⟩)
    all_goals go_wp2
    all_goals go_ret
    all_goals exact ⟨rfl, by repeat (first | exact G.out | apply Grown.drew | apply Grown.alloc)⟩

set_option maxHeartbeats 1000000 in
theorem walk_eq (a0 : Int) (w : World) :
    Calls Yba.prog 4 #[.int .i64 a0, .int .i64 a0] w fun e w' => e = .returned (.bool true) ∧ Grown w w' := by
  have he := fun w => eqNilPtr 9997 w
  go_enter Yba.func4, Yba.ntmps4
  go_wp2_with (first
    | (go_at_call 5; refine (units_any _ _).mono ?_; rintro e w' ⟨rfl, rfl⟩)
    | (go_at_call 7; refine (min_a _ _ (by omega) _).mono ?_; rintro e w' ⟨rfl, rfl⟩)
    | (go_at_call 8; refine (max_a _ _ (by omega) _).mono ?_; rintro e w' ⟨rfl, rfl⟩))
  refine named (fun W => Grown w W ∧
    W.cell? ⟨w.heap.size + 1 + 1 + 1 + 1 + 1 + 1 + 1 + 1 + 1, 0, none⟩ = some (.int .i64 a0) ∧ W.cell? ⟨w.heap.size + 1 + 1 + 1 + 1 + 1 + 1 + 1 + 1 + 1, 0 + 1, none⟩ = some (.pointer none) ∧
    W.cell? ⟨w.heap.size + 1 + 1 + 1 + 1 + 1 + 1 + 1 + 1 + 1 + 1 + 1 + 1 + 1 + 1 + 1 + 1 + 1 + 1 + 1, 0, none⟩ = some (.int .i64 a0) ∧ W.cell? ⟨w.heap.size + 1 + 1 + 1 + 1 + 1 + 1 + 1 + 1 + 1 + 1 + 1 + 1 + 1 + 1 + 1 + 1 + 1 + 1 + 1, 0 + 1, none⟩ = some (.pointer none) ∧
    w.heap.size + 20 ≤ W.heap.size) ?_ ?_
  · exact ⟨by (iterate 20 refine Grown.alloc ?_ _ _); exact Grown.refl w, by go_simp, by go_simp, by go_simp, by go_simp, by simp⟩
  · rintro W ⟨hg, h1, h2, h3, h4, h5⟩
    have G : Hid (Grown w W) := hg
    have h1' := fun o => (World.cell?_alloc_lt W o _ (by simp; omega)).trans h1
    have h2' := fun o => (World.cell?_alloc_lt W o _ (by simp; omega)).trans h2
    have h3' := fun o => (World.cell?_alloc_lt W o _ (by simp; omega)).trans h3
    have h4' := fun o => (World.cell?_alloc_lt W o _ (by simp; omega)).trans h4
    have h1'' := fun o o' => (World.cell?_alloc_lt (W.alloc o) o' _ (by simp; omega)).trans (h1' o)
    have h2'' := fun o o' => (World.cell?_alloc_lt (W.alloc o) o' _ (by simp; omega)).trans (h2' o)
    have h3'' := fun o o' => (World.cell?_alloc_lt (W.alloc o) o' _ (by simp; omega)).trans (h3' o)
    have h4'' := fun o o' => (World.cell?_alloc_lt (W.alloc o) o' _ (by simp; omega)).trans (h4' o)
    clear hg h5
    go_region_with (go_at_call 5; refine (units_any _ _).mono ?_; rintro e w' ⟨rfl, rfl⟩)
    all_goals go_wp2
    all_goals go_ret
    all_goals exact ⟨rfl, by repeat (first | exact G.out | apply Grown.drew | apply Grown.alloc)⟩

theorem walk (a0 : Int) (a1 : Int) (w : World) :
    Calls Yba.prog 4 #[.int .i64 a0, .int .i64 a1] w fun e w' => e = .returned (.bool true) ∧ Grown w w' := by
  rcases Int.lt_trichotomy a0 a1 with h | h | h
  · exact walk_lt a0 a1 h w
  · subst h
    exact walk_eq a0 w
  · exact walk_gt a0 a1 h w

/-! ### THE ROW's STEP: WRITTEN OUT: LEAVE IT -/
set_option maxRecDepth 100000 in
theorem lifted (os : Os) (started : os.Started) (H : Type) (enc : TypeId × Value → H) :
    ReturnsInHanded {} Yba.checked os 4 .any (Rows.lawS4459BMinMaxSpec.pre6 enc Yba.prog Yba.f4 Rows.lawS4459BMinMaxRow.domain false) (Rows.lawS4459BMinMaxSpec.post enc Yba.prog Yba.f4 false true false false) := by
  refine returnsInHanded_of_change (C := Yba.checked) own started (by kernel_rfl) Yba.func4
    (ChangeSpec.witness6 (enc := enc) (C := Yba.checked) false ⟨#[], #[.int .i64 0, .int .i64 0], []⟩ 8 (by kernel_rfl) (by kernel_rfl) (by kernel_rfl) (by kernel_rfl)) ?_
  intro W base args ds gs before hval0 hW hcnd _
  have hval : ∀ (j : Nat) t v, Yba.f4.params[j]? = some t → args[j]? = some v → Value.okWide Yba.prog W .any base t v := hval0
  have hW' := hW
  obtain ⟨p, q, hA0, hV, rfl, hfz, hnd⟩ := hW
  have hA : DataW.TrodAll enc Yba.prog W 0 (fun _ => true) true Yba.f4.params.toList args.toList ds p := hA0
  rw [Yba.params4] at hA hval
  obtain ⟨v0, vs0, d0, ds0, p0, q0, hargs, rfl, rfl, h0, r0⟩ := trodAll_cons hA
  obtain ⟨v1, vs1, d1, ds1, p1, q1, rfl, rfl, rfl, h1, r1⟩ := trodAll_cons r0
  obtain ⟨rfl, rfl, rfl⟩ := trodAll_nil r1
  obtain rfl : args = #[v0, v1] := by cases args; simp_all
  obtain ⟨rfl, rfl⟩ := trodVars_none hV
  obtain ⟨a0, rfl, rfl, rfl, w0⟩ := open_int Yba.underlying2 (hval 0 2 v0 rfl rfl) h0
  obtain ⟨a1, rfl, rfl, rfl, w1⟩ := open_int Yba.underlying2 (hval 1 2 v1 rfl rfl) h1
  clear hA0 hval0
  simp only [List.append_nil] at hW'
  refine (walk a0 a1 W).mono fun e W' ⟨he, hg⟩ => ?_
  subst he
  exact ⟨_, rfl, post_of_same (pa := []) (pv := []) hW' (fun _ _ _ => (trodAll_cons_mk (shut_bool Yba.underlying4 _) trodAll_mk0)) (fun sp _ => (trodAll_cons_mk (shut_int Yba.underlying2 w0) (trodAll_cons_mk (shut_int Yba.underlying2 w1) trodAll_mk0))) (fun _ _ => rfl) rfl
    (hg.frame _) hg.2.1 (ok_one (by kernel_rfl) rfl (okWide_bool_mk Yba.underlying4 _))⟩

theorem over : Rows.lawS4459BMinMaxRow.holds Yba.pinned (OpenSpec.ofChange Rows.lawS4459BMinMaxSpec) :=
  OpenClaim.holds_of_wide 4 Yba.f4 rfl rfl rfl rfl rfl rfl rfl ⟨rfl, rfl, rfl, rfl, rfl⟩ rfl rfl rfl rfl rfl (by kernel_rfl) Yba.func4 (by kernel_rfl)
    (of_decide_eq_true (by kernel_rfl)) (by unfold Func.isWrapper; first | (rw [if_pos (by decide +kernel)]; kernel_rfl) | (rw [if_neg (by decide +kernel)]; exact ⟨rfl, rfl⟩))
    (fun os started H enc _ => lifted os started H enc)

/-- The statement. -/
theorem proved : Rows.LawS4459BMinMaxSaid :=
  over
end Go.Proofs.Ybulkcnia.lawS4459BMinMax
