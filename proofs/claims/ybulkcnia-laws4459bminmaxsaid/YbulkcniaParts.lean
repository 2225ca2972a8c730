/-
  The contracts of Units, inUnits, Cmp, minAmount, maxAmount (tenorline) at amounts that Units makes: the value, and the very world behind the call: one new block a struct that is boxed.
-/
import Derived.Test.YbulkcniaRows
import Derived.WalkKit
import Derived.ProofKit
namespace Go.Proofs.Ybulkcnia
open Go.ChangeShapes Go.WideShapes Go.ChangeAt Go.RowKit

/-- The value of an Amount that Units makes: the count, and the zero handle. -/
abbrev amt (n : Int) : Value := .agg #[.int .i64 n, .pointer none]
/-- Its block, boxed. -/
abbrev box (n : Int) : Obj := .cells #[.int .i64 n, .pointer none] 26

theorem eqNilPtr (d : Nat) (w : World) : (Op.equalIn (d + 1) 22 (.pointer none) (.pointer none)).run Yba.prog w = .ok true w := by
  simp [Op.equalIn, run_underlying Yba.underlying22]

theorem units_any (n : Int) (w : World) :
    Calls Yba.prog 5 #[.int .i64 n] w fun e w' => e = .returned (amt n) ∧ w' = w.alloc (box n) := by
  go_enter Yba.func5, Yba.ntmps5
  go_wp2
  exact bodyPost_ret (v := amt n) (by simp [results, Yba.results5, go_sem]) rfl ⟨rfl, rfl⟩

theorem inUnits_any (n : Int) (w : World) :
    Calls Yba.prog 9 #[amt n] w fun e w' => e = .returned (.bool true) ∧ w' = w.alloc (box n) := by
  have he := fun w => eqNilPtr 9998 w
  go_enter Yba.func9, Yba.ntmps9
  go_wp2
  go_ret
  exact ⟨rfl, rfl⟩

/-- -1, 0 or 1 as the counts compare. -/
def cmp (a b : Int) : Int := if a < b then -1 else if b < a then 1 else 0
theorem cmp_lt {a b : Int} (h : a < b) : cmp a b = -1 := by simp [cmp, h]
theorem cmp_gt {a b : Int} (h : b < a) : cmp a b = 1 := by simp [cmp, h]; omega
theorem cmp_eq {a b : Int} (h : a = b) : cmp a b = 0 := by simp [cmp, h]

/-- The world behind Cmp: its two parameters boxed, then inUnits's, twice. -/
abbrev cmpW (a b : Int) (w : World) : World := (((w.alloc (box a)).alloc (box b)).alloc (box a)).alloc (box b)

theorem cmp_any (a b : Int) (w : World) :
    Calls Yba.prog 6 #[amt a, amt b] w fun e w' => e = .returned (.int .i64 (cmp a b)) ∧ w' = cmpW a b w := by
  rcases Int.lt_trichotomy a b with h | h | h
  · have hc := cmp_lt h
    have H : Hid (cmp a b = -1) := hc
    clear hc
    go_enter Yba.func6, Yba.ntmps6
    go_wp2_with (go_at_call 9; refine (inUnits_any _ _).mono ?_; rintro e w' ⟨rfl, rfl⟩)
    go_ret
    exact ⟨by rw [H.out]; rfl, rfl⟩
  · subst h
    have hc := cmp_eq (rfl : a = a)
    have H : Hid (cmp a a = 0) := hc
    clear hc
    go_enter Yba.func6, Yba.ntmps6
    go_wp2_with (go_at_call 9; refine (inUnits_any _ _).mono ?_; rintro e w' ⟨rfl, rfl⟩)
    go_ret
    exact ⟨by rw [H.out]; rfl, rfl⟩
  · have hc := cmp_gt h
    have H : Hid (cmp a b = 1) := hc
    clear hc
    have h' : ¬ a < b := by omega
    go_enter Yba.func6, Yba.ntmps6
    go_wp2_with (go_at_call 9; refine (inUnits_any _ _).mono ?_; rintro e w' ⟨rfl, rfl⟩)
    go_ret
    exact ⟨by rw [H.out]; rfl, rfl⟩

/-- The world behind minAmount and maxAmount that pick m. -/
abbrev pickW (a b m : Int) (w : World) : World := cmpW b a (((w.alloc (box a)).alloc (box b)).alloc (box m))

theorem min_b (a b : Int) (h : b < a) (w : World) :
    Calls Yba.prog 7 #[amt a, amt b] w fun e w' => e = .returned (amt b) ∧ w' = pickW a b b w := by
  have hc : cmp b a = -1 := cmp_lt h
  go_enter Yba.func7, Yba.ntmps7
  go_wp2_with (go_at_call 6; refine (cmp_any _ _ _).mono ?_; rintro e w' ⟨rfl, rfl⟩)
  exact bodyPost_ret (v := amt b) (by simp [results, Yba.results7, go_sem]) rfl ⟨rfl, rfl⟩
theorem min_a (a b : Int) (h : a ≤ b) (w : World) :
    Calls Yba.prog 7 #[amt a, amt b] w fun e w' => e = .returned (amt a) ∧ w' = pickW a b a w := by
  have hc : ¬ cmp b a < 0 := by unfold cmp; split <;> (try split) <;> omega
  go_enter Yba.func7, Yba.ntmps7
  go_wp2_with (go_at_call 6; refine (cmp_any _ _ _).mono ?_; rintro e w' ⟨rfl, rfl⟩)
  exact bodyPost_ret (v := amt a) (by simp [results, Yba.results7, go_sem]) rfl ⟨rfl, rfl⟩
theorem max_b (a b : Int) (h : a < b) (w : World) :
    Calls Yba.prog 8 #[amt a, amt b] w fun e w' => e = .returned (amt b) ∧ w' = pickW a b b w := by
  have hc : cmp b a = 1 := cmp_gt h
  go_enter Yba.func8, Yba.ntmps8
  go_wp2_with (go_at_call 6; refine (cmp_any _ _ _).mono ?_; rintro e w' ⟨rfl, rfl⟩)
  exact bodyPost_ret (v := amt b) (by simp [results, Yba.results8, go_sem]) rfl ⟨rfl, rfl⟩
theorem max_a (a b : Int) (h : b ≤ a) (w : World) :
    Calls Yba.prog 8 #[amt a, amt b] w fun e w' => e = .returned (amt a) ∧ w' = pickW a b a w := by
  have hc : ¬ 0 < cmp b a := by unfold cmp; split <;> (try split) <;> omega
  go_enter Yba.func8, Yba.ntmps8
  go_wp2_with (go_at_call 6; refine (cmp_any _ _ _).mono ?_; rintro e w' ⟨rfl, rfl⟩)
  exact bodyPost_ret (v := amt a) (by simp [results, Yba.results8, go_sem]) rfl ⟨rfl, rfl⟩

end Go.Proofs.Ybulkcnia
