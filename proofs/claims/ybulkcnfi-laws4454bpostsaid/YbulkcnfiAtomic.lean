/-
  (*sync/atomic.Uint64).Store, Load, Add in a run of one goroutine.
-/
import Derived.Test.YbulkcnfiRows
import Derived.Laws.LoneSync
import Derived.WalkKit
namespace Go.Proofs.Ybulkcnfi
open Go.RowKit

theorem store_any (a : Addr) (u : Value) (y : Int) (w : World) (hc : w.cell? a = some u) (hz : w.frozen? a = false) :
    Calls Yba.prog 5 #[.pointer (some a), .int .u64 y] w fun e w' => e = .returned (.tuple #[]) ∧ w' = w.setCell a (.int .u64 y) := by
  have hr := run_call_store (P := Yba.prog) (f := 9) Yba.func9 (by kernel_rfl) (by kernel_rfl) (by kernel_rfl) (by kernel_rfl) (k := .u64) (y := y) hc hz
  go_enter Yba.func5, Yba.ntmps5
  go_wp2
  go_end0
  exact ⟨rfl, rfl⟩

theorem load_any (a : Addr) (x : Int) (w : World) (hc : w.cell? a = some (.int .u64 x)) :
    Calls Yba.prog 8 #[.pointer (some a)] w fun e w' => e = .returned (.int .u64 x) ∧ w' = w := by
  have hr := run_call_load (P := Yba.prog) (f := 12) Yba.func12 (by kernel_rfl) (by kernel_rfl) (by kernel_rfl) .u64 (by kernel_rfl) hc
  go_enter Yba.func8, Yba.ntmps8
  go_wp2
  go_ret
  exact ⟨rfl, rfl⟩

theorem add_any (a : Addr) (x y : Int) (w : World) (hc : w.cell? a = some (.int .u64 x)) (hz : w.frozen? a = false) :
    Calls Yba.prog 11 #[.pointer (some a), .int .u64 y] w fun e w' => e = .returned (.int .u64 (IntKind.u64.wrap (x + y))) ∧ w' = w.setCell a (.int .u64 (IntKind.u64.wrap (x + y))) := by
  have hr := run_call_add (P := Yba.prog) (f := 16) Yba.func16 (by kernel_rfl) (by kernel_rfl) (by kernel_rfl) .u64 (by kernel_rfl) (y := y) (s := IntKind.u64.wrap (x + y)) hc hz (by simp [go_sem])
  go_enter Yba.func11, Yba.ntmps11
  go_wp2
  go_ret
  exact ⟨rfl, rfl⟩
end Go.Proofs.Ybulkcnfi
