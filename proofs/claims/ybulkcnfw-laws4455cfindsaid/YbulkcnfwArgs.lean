/-
  The arguments of both laws, opened.
-/
import Derived.Test.YbulkcnfwWalk
import Derived.WalkKit
import Derived.ProofKit
import Derived.OpenShut
import Derived.ShutString
import Derived.ChangeOld
import Derived.Below
import Derived.Deep.Slices
namespace Go.Proofs.Ybulkcnfw
open Go.ChangeShapes Go.WideShapes Go.ChangeAt Go.RowKit

theorem own : ownKnob Yba.prog.godebug = none := by kernel_rfl
theorem laidOut : laidOutB Yba.prog = true := by kernel_rfl
theorem cells9 : Yba.prog.cellsOf 9 = 1 := by kernel_rfl
theorem cells29 : Yba.prog.cellsOf 29 = 1 := by kernel_rfl

section
variable {H : Type} {enc : TypeId × Value → H} {W : World}

/-- A cell that is there has a plain address in an old block. -/
theorem plain {a : Addr} {v : Value} (h : W.cell? (a.add 0) = some v) : ∃ b off, a = ⟨b, off, none⟩ ∧ b < W.heap.size := by
  obtain ⟨b, off, spot⟩ := a
  have hspot : spot = none := by simpa [Addr.add] using World.cell?_spot h
  subst hspot
  have hb := World.block_lt_of_cell? W _ h
  exact ⟨b, off, rfl, by simpa [Addr.add] using hb⟩
theorem add_at (b off i : Nat) : (⟨b, off, none⟩ : Addr).add i = ⟨b, off + i, none⟩ := by unfold Addr.add; split <;> simp_all

theorem open_strs {fuel : Nat} {a : Option Addr} {len cap : Nat} {x : DataW H × List MemPlace} (hf : DataW.trod enc Yba.prog W 0 (fun _ => true) true fuel 22 [.slice a len cap] = some x) : ∃ F, Strs W a len F := by
  rcases Go.Deep.open_slice1 Yba.underlying22 cells9 hf with ⟨hcs, _⟩ | ⟨ad, l, c, m, n, V, D, Pl, hcs, _, hl, hm, hmm, _, hx⟩
  · simp only [List.cons.injEq, Value.slice.injEq, and_true] at hcs
    obtain ⟨rfl, rfl, rfl⟩ := hcs
    exact ⟨fun _ => ⟨#[]⟩, fun h => absurd h (Nat.lt_irrefl _)⟩
  · simp only [List.cons.injEq, Value.slice.injEq, and_true] at hcs
    obtain ⟨rfl, rfl, rfl⟩ := hcs
    simp only [if_true] at hmm
    subst hmm
    refine ⟨fun i => match V i with | .string b => b | _ => ⟨#[]⟩, fun h => ?_⟩
    obtain ⟨h0, _⟩ := hx 0 (by omega)
    obtain ⟨b, off, rfl, hb⟩ := plain h0
    refine ⟨b, off, rfl, hb, fun i hi => ?_⟩
    obtain ⟨h1, h2⟩ := hx i (by omega)
    obtain ⟨v, hv, _, hz⟩ := DataW.trod_string Yba.underlying9 h2
    simp only [List.cons.injEq, and_true] at hv
    rw [add_at] at h1
    rw [h1]
    simp only [hv, true_and]
    exact hz

theorem open_nums {fuel : Nat} {a : Option Addr} {len cap : Nat} {x : DataW H × List MemPlace} (hf : DataW.trod enc Yba.prog W 0 (fun _ => true) true fuel 23 [.slice a len cap] = some x) : ∃ F, Nums W a len F := by
  rcases Go.Deep.open_slice1 Yba.underlying23 cells29 hf with ⟨hcs, _⟩ | ⟨ad, l, c, m, n, V, D, Pl, hcs, _, hl, hm, hmm, _, hx⟩
  · simp only [List.cons.injEq, Value.slice.injEq, and_true] at hcs
    obtain ⟨rfl, rfl, rfl⟩ := hcs
    exact ⟨fun _ => 0, fun h => absurd h (Nat.lt_irrefl _)⟩
  · simp only [List.cons.injEq, Value.slice.injEq, and_true] at hcs
    obtain ⟨rfl, rfl, rfl⟩ := hcs
    simp only [if_true] at hmm
    subst hmm
    refine ⟨fun i => match V i with | .int _ b => b | _ => 0, fun h => ?_⟩
    obtain ⟨h0, _⟩ := hx 0 (by omega)
    obtain ⟨b, off, rfl, hb⟩ := plain h0
    refine ⟨b, off, rfl, hb, fun i hi => ?_⟩
    obtain ⟨h1, h2⟩ := hx i (by omega)
    obtain ⟨v, hv, _, hz⟩ := DataW.trod_int Yba.underlying29 h2
    simp only [List.cons.injEq, and_true] at hv
    rw [add_at] at h1
    rw [h1]
    simp only [hv, true_and]
    exact bounds_u16 hz
end
end Go.Proofs.Ybulkcnfw
