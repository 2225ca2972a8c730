/-
  (fuzz.Feedback).String and (*fuzz.Feedback).Set.
-/
import Derived.Test.YbulkcngkRows
import Derived.WalkKit
import Derived.ProofKit
namespace Go.Proofs.Ybulkcngk
open Go.ChangeShapes Go.WideShapes Go.ChangeAt Go.RowKit

def sPc : ByteArray := ⟨#[112, 99]⟩
def sCmp : ByteArray := ⟨#[99, 109, 112]⟩
def sBoth : ByteArray := ⟨#[98, 111, 116, 104]⟩

theorem string_1 (w : World) : Calls Yba.prog 10 #[.int .i64 1] w fun e w' => e = .returned (.string sPc) ∧ w' = w := by
  go_enter Yba.func10, Yba.ntmps10
  go_wp2
  go_ret
  exact ⟨rfl, rfl⟩
theorem string_2 (w : World) : Calls Yba.prog 10 #[.int .i64 2] w fun e w' => e = .returned (.string sCmp) ∧ w' = w := by
  go_enter Yba.func10, Yba.ntmps10
  go_wp2
  go_ret
  exact ⟨rfl, rfl⟩
theorem string_else (n : Int) (h1 : (n == 1) = false) (h2 : (n == 2) = false) (w : World) : Calls Yba.prog 10 #[.int .i64 n] w fun e w' => e = .returned (.string sBoth) ∧ w' = w := by
  go_enter Yba.func10, Yba.ntmps10
  go_wp2
  go_ret
  exact ⟨rfl, rfl⟩

/-- The world behind Set that stores g. -/
abbrev setW (b : Nat) (g : Int) (w : World) : World := (w.setCell ⟨b, 0, none⟩ (.int .i64 g)).alloc (.cells #[.int .i64 0, .int .i64 1, .int .i64 2] 29)

theorem set_both (b : Nat) (x : Int) (w : World) (hc : w.cell? ⟨b, 0, none⟩ = some (.int .i64 x)) (hf : w.frozen? ⟨b, 0, none⟩ = false) (hb : b < w.heap.size) :
    Calls Yba.prog 9 #[.pointer (some ⟨b, 0, none⟩), .string sBoth] w fun e w' => e = .returned .nilIface ∧ w' = setW b 0 w := by
  go_enter Yba.func9, Yba.ntmps9
  go_wp2_with fail
  refine wp_loop_rounds 1 ?_
  rw [rounds_succ]
  go_wp2_with (go_at_call 10; refine (string_else _ rfl rfl _).mono ?_; rintro e w' ⟨rfl, rfl⟩)
  go_ret
  exact ⟨rfl, rfl⟩
theorem set_pc (b : Nat) (x : Int) (w : World) (hc : w.cell? ⟨b, 0, none⟩ = some (.int .i64 x)) (hf : w.frozen? ⟨b, 0, none⟩ = false) (hb : b < w.heap.size) :
    Calls Yba.prog 9 #[.pointer (some ⟨b, 0, none⟩), .string sPc] w fun e w' => e = .returned .nilIface ∧ w' = setW b 1 w := by
  have h00 : (sPc.toList == sBoth.toList) = false := by decide +kernel
  go_enter Yba.func9, Yba.ntmps9
  go_wp2_with fail
  refine wp_loop_rounds 2 ?_
  rw [rounds_succ]
  go_wp2_with (go_at_call 10; refine (string_else _ rfl rfl _).mono ?_; rintro e w' ⟨rfl, rfl⟩)
  rw [rounds_succ]
  go_wp2_with (go_at_call 10; refine (string_1 _).mono ?_; rintro e w' ⟨rfl, rfl⟩)
  go_ret
  exact ⟨rfl, rfl⟩
theorem set_cmp (b : Nat) (x : Int) (w : World) (hc : w.cell? ⟨b, 0, none⟩ = some (.int .i64 x)) (hf : w.frozen? ⟨b, 0, none⟩ = false) (hb : b < w.heap.size) :
    Calls Yba.prog 9 #[.pointer (some ⟨b, 0, none⟩), .string sCmp] w fun e w' => e = .returned .nilIface ∧ w' = setW b 2 w := by
  have h00 : (sCmp.toList == sBoth.toList) = false := by decide +kernel
  have h01 : (sCmp.toList == sPc.toList) = false := by decide +kernel
  go_enter Yba.func9, Yba.ntmps9
  go_wp2_with fail
  refine wp_loop_rounds 3 ?_
  rw [rounds_succ]
  go_wp2_with (go_at_call 10; refine (string_else _ rfl rfl _).mono ?_; rintro e w' ⟨rfl, rfl⟩)
  rw [rounds_succ]
  go_wp2_with (go_at_call 10; refine (string_1 _).mono ?_; rintro e w' ⟨rfl, rfl⟩)
  rw [rounds_succ]
  go_wp2_with (go_at_call 10; refine (string_2 _).mono ?_; rintro e w' ⟨rfl, rfl⟩)
  go_ret
  exact ⟨rfl, rfl⟩
end Go.Proofs.Ybulkcngk
