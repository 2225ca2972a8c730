/-
  fuzz.zzs4456beq and bytes.Equal, asked of one slice of bytes twice.
-/
import Derived.Test.YbulkcngkRows
import Derived.WalkKit
import Derived.ProofKit
import Derived.Below
import Derived.Laws.BytesArg
import Derived.Lib.SliceRun
namespace Go.Proofs.Ybulkcngk
open Go.ChangeShapes Go.WideShapes Go.ChangeAt Go.RowKit

/-- A slice of bytes that came in. -/
def By (W : World) (v : Value) : Prop :=
  ∃ a len cap, v = .slice a len cap ∧ (len = 0 ∨ ∃ (b off : Nat) (xs : List Int), a = some ⟨b, off, none⟩ ∧ xs.length = len ∧ b < W.heap.size ∧ ∀ i, i < len → W.cell? ⟨b, off + i, none⟩ = some (.int .u8 (xs.getD i 0)))

theorem convert_zero (w : World) (p : Option Addr) (c : Nat) : (convert 24 9 (.slice p 0 c)).run Yba.prog w = .ok (.string ByteArray.empty) w := by
  rw [run_convert_bytes_string w 24 9 5 _ 0 c Yba.underlying24 Yba.underlying5 Yba.underlying9]
  cases p <;> simp [Conv.bytesToString, loadCells]
  all_goals rfl

/-- It reads as one string, in every later world. -/
theorem By.reads {W w : World} {v : Value} (h : By W v) (hb : Below W.heap.size W w) : ∃ a len cap s, v = .slice a len cap ∧ (convert 24 9 v).run Yba.prog w = .ok (.string s) w := by
  obtain ⟨a, len, cap, rfl, h⟩ := h
  rcases h with rfl | ⟨b, off, xs, rfl, hx, hlt, hc⟩
  · exact ⟨a, 0, cap, _, rfl, convert_zero w a cap⟩
  · exact ⟨_, len, cap, _, rfl, run_convert_bytes_arg (P := Yba.prog) w 24 5 Yba.underlying24 Yba.underlying5 b off len cap xs hx (fun i hi => (hb.cell (p := ⟨b, off + i, none⟩) hlt).trans (hc i hi)) 9 Yba.underlying9⟩

set_option maxRecDepth 100000 in
theorem equal_same (v : Value) (s : ByteArray) (w : World) (hc : (convert 24 9 v).run Yba.prog w = .ok (.string s) w) : Calls Yba.prog 11 #[v, v] w fun e w' => e = .returned (.bool true) ∧ w' = w := by
  go_enter Yba.func11, Yba.ntmps11
  go_wp2_with fail
  go_ret
  exact ⟨rfl, rfl⟩

set_option maxRecDepth 100000 in
theorem beq_same {W w : World} {v : Value} (h : By W v) (hb : Below W.heap.size W w) : Calls Yba.prog 7 #[v, v] w fun e w' => e = .returned (.bool true) ∧ w' = w := by
  obtain ⟨a, len, cap, s, rfl, hc⟩ := h.reads hb
  have hnil := fun W => Lib.run_eql_slice_nil (P := Yba.prog) W 24 5 a len cap 0 0 Yba.underlying24
  have HC : Hid ((convert 24 9 (.slice a len cap)).run Yba.prog w = .ok (.string s) w) := hc
  clear hc
  go_enter Yba.func7, Yba.ntmps7
  go_wp2_with (go_at_call 11; refine (equal_same _ s _ HC.out).mono ?_; rintro e w' ⟨rfl, rfl⟩)
  go_ret
  exact ⟨rfl, rfl⟩
end Go.Proofs.Ybulkcngk
