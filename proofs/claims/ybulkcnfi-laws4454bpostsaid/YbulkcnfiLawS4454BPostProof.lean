/-
  THE PROOF OF 'Rows.LawS4454BPostSaid': the arguments opened, the walk, the row (the frame after the guide's own: howto/shells).
-/
import Derived.Test.YbulkcnfiRows
import Derived.Test.YbulkcnfiWalk
import Derived.WalkKit
import Derived.ProofKit
import Derived.OpenShut
import Derived.ShutString
import Derived.ChangeOld
import Derived.Below
import Derived.Deep.Slices
namespace Go.Proofs.Ybulkcnfi.lawS4454BPost
open Go.ChangeShapes Go.WideShapes Go.ChangeAt Go.RowKit
set_option linter.unusedVariables false

theorem own : ownKnob Yba.prog.godebug = none := by kernel_rfl
theorem laidOut : laidOutB Yba.prog = true := by kernel_rfl
theorem cells4 : Yba.prog.cellsOf 4 = 1 := by kernel_rfl
theorem cells5 : Yba.prog.cellsOf 5 = 1 := by kernel_rfl
theorem cells24 : Yba.prog.cellsOf 24 = 1 := by kernel_rfl
theorem cells47 : Yba.prog.cellsOf 47 = 5 := by kernel_rfl

section
variable {H : Type} {enc : TypeId × Value → H} {W : World}

/-- A cell that is there has a plain address in an old block. -/
theorem plain {a : Addr} {v : Value} (h : W.cell? (a.add 0) = some v) : ∃ b off, a = ⟨b, off, none⟩ ∧ b < W.heap.size := by
  obtain ⟨b, off, spot⟩ := a
  have hspot : spot = none := by simpa [Addr.add] using World.cell?_spot h
  subst hspot
  have hb := World.block_lt_of_cell? W _ h
  exact ⟨b, off, rfl, by simpa [Addr.add] using hb⟩
theorem list5 {α : Type} : ∀ (l : List α), l.length = 5 → ∃ a b c d e, l = [a, b, c, d, e]
  | [a, b, c, d, e], _ => ⟨a, b, c, d, e, rfl⟩
theorem add_at (b off i : Nat) : (⟨b, off, none⟩ : Addr).add i = ⟨b, off + i, none⟩ := by unfold Addr.add; split <;> simp_all

theorem open_bools {fuel : Nat} {a : Option Addr} {len cap : Nat} {x : DataW H × List MemPlace} (hf : DataW.trod enc Yba.prog W 0 (fun _ => true) true fuel 22 [.slice a len cap] = some x) : ∃ F, Bools W a len F ∧ len ≤ maxLen := by
  rcases Go.Deep.open_slice1 Yba.underlying22 cells4 hf with ⟨hcs, _⟩ | ⟨ad, l, c, m, n, V, D, Pl, hcs, _, hl, hm, hmm, _, hx⟩
  · simp only [List.cons.injEq, Value.slice.injEq, and_true] at hcs
    obtain ⟨rfl, rfl, rfl⟩ := hcs
    exact ⟨fun _ => false, fun h => absurd h (Nat.lt_irrefl _), Nat.zero_le _⟩
  · simp only [List.cons.injEq, Value.slice.injEq, and_true] at hcs
    obtain ⟨rfl, rfl, rfl⟩ := hcs
    simp only [if_true] at hmm
    subst hmm
    refine ⟨fun i => match V i with | .bool b => b | _ => false, fun h => ?_, by omega⟩
    obtain ⟨h0, _⟩ := hx 0 (by omega)
    obtain ⟨b, off, rfl, hb⟩ := plain h0
    refine ⟨b, off, rfl, hb, fun i hi => ?_⟩
    obtain ⟨h1, h2⟩ := hx i (by omega)
    obtain ⟨v, hv, _⟩ := DataW.trod_bool Yba.underlying4 h2
    simp only [List.cons.injEq, and_true] at hv
    rw [add_at] at h1
    rw [h1]
    simp only [hv]

theorem open_srcs {fuel : Nat} {a : Option Addr} {len cap : Nat} {x : DataW H × List MemPlace} (hf : DataW.trod enc Yba.prog W 0 (fun _ => true) true fuel 23 [.slice a len cap] = some x) : ∃ src, Srcs W a len src := by
  rcases Go.Deep.open_slice Yba.underlying23 hf with ⟨hcs, _⟩ | ⟨ad, l, c, m, n, D, Pl, hcs, _, hl, hm, hmm, _, hx⟩
  · simp only [List.cons.injEq, Value.slice.injEq, and_true] at hcs
    obtain ⟨rfl, rfl, rfl⟩ := hcs
    exact ⟨fun _ => ⟨0, 0, 0, 0, 0⟩, fun h => absurd h (Nat.lt_irrefl _)⟩
  · simp only [List.cons.injEq, Value.slice.injEq, and_true] at hcs
    obtain ⟨rfl, rfl, rfl⟩ := hcs
    simp only [if_true] at hmm
    subst hmm
    have each : ∀ i, i < len → ∃ s : Msg, (W.cell? (ad.add (i * 5)) = some (.int .u8 s.kd) ∧ W.cell? (ad.add (i * 5 + 1)) = some (.int .u8 s.fr) ∧ W.cell? (ad.add (i * 5 + 2)) = some (.int .u8 s.to) ∧ W.cell? (ad.add (i * 5 + 3)) = some (.int .u64 s.tm) ∧ W.cell? (ad.add (i * 5 + 4)) = some (.int .u64 s.pd)) ∧
        (0 ≤ s.fr ∧ s.fr ≤ 255 ∧ 0 ≤ s.to ∧ s.to ≤ 255) := by
      intro i hi
      obtain ⟨cs', h1, h2⟩ := hx i (by omega)
      rw [cells47] at h1
      obtain ⟨_, hlen, hcell⟩ := World.cells?_some h1
      obtain ⟨xs, k, _, _, _, hxl, hfl⟩ := DataW.trod_struct Yba.underlying47 h2
      obtain ⟨v0, v1, v2, v3, v4, rfl⟩ := list5 cs' hlen
      obtain ⟨y0, y1, y2, y3, y4, rfl⟩ := list5 xs hxl
      have g0 := hfl 0 _ rfl
      have g1 := hfl 1 _ rfl
      have g2 := hfl 2 _ rfl
      have g3 := hfl 3 _ rfl
      have g4 := hfl 4 _ rfl
      simp [cells5, cells24] at g0 g1 g2 g3 g4
      obtain ⟨n0, e0, _, _⟩ := DataW.trod_int Yba.underlying5 g0
      obtain ⟨n1, e1, _, w1⟩ := DataW.trod_int Yba.underlying5 g1
      obtain ⟨n2, e2, _, w2⟩ := DataW.trod_int Yba.underlying5 g2
      obtain ⟨n3, e3, _, _⟩ := DataW.trod_int Yba.underlying24 g3
      obtain ⟨n4, e4, _, _⟩ := DataW.trod_int Yba.underlying24 g4
      simp only [List.cons.injEq, and_true] at e0 e1 e2 e3 e4
      subst e0 e1 e2 e3 e4
      have c0 := hcell 0 (by omega)
      have c1 := hcell 1 (by omega)
      have c2 := hcell 2 (by omega)
      have c3 := hcell 3 (by omega)
      have c4 := hcell 4 (by omega)
      rw [Go.Deep.add_add] at c0 c1 c2 c3 c4
      have b1 := bounds_u8 w1
      have b2 := bounds_u8 w2
      exact ⟨⟨n0, n1, n2, n3, n4⟩, ⟨by simpa using c0, by simpa using c1, by simpa using c2, by simpa using c3, by simpa using c4⟩, b1.1, b1.2, b2.1, b2.2⟩
    have each' : ∀ i, ∃ s : Msg, i < len → (W.cell? (ad.add (i * 5)) = some (.int .u8 s.kd) ∧ W.cell? (ad.add (i * 5 + 1)) = some (.int .u8 s.fr) ∧ W.cell? (ad.add (i * 5 + 2)) = some (.int .u8 s.to) ∧ W.cell? (ad.add (i * 5 + 3)) = some (.int .u64 s.tm) ∧ W.cell? (ad.add (i * 5 + 4)) = some (.int .u64 s.pd)) ∧
        (0 ≤ s.fr ∧ s.fr ≤ 255 ∧ 0 ≤ s.to ∧ s.to ≤ 255) := fun i => by
      by_cases hi : i < len
      · obtain ⟨s, hs⟩ := each i hi
        exact ⟨s, fun _ => hs⟩
      · exact ⟨⟨0, 0, 0, 0, 0⟩, fun h => absurd h hi⟩
    obtain ⟨src, hsrc⟩ := Classical.skolem.1 each'
    refine ⟨src, fun h => ?_⟩
    obtain ⟨s0, ⟨h0, _⟩, _⟩ := each 0 h
    rw [Nat.zero_mul] at h0
    obtain ⟨b, off, rfl, hb⟩ := plain h0
    refine ⟨b, off, rfl, hb, fun i hi => ?_⟩
    have hs := hsrc i hi
    simp only [add_at, ← Nat.add_assoc] at hs
    exact hs
end

/-! ### the row -/
set_option maxRecDepth 100000 in
theorem lifted (os : Os) (started : os.Started) (H : Type) (enc : TypeId × Value → H) :
    ReturnsInHanded {} Yba.checked os 3 .any (Rows.lawS4454BPostSpec.pre6 enc Yba.prog Yba.f3 Rows.lawS4454BPostRow.domain false) (Rows.lawS4454BPostSpec.post enc Yba.prog Yba.f3 false true false false) := by
  refine returnsInHanded_of_change (C := Yba.checked) own started (by kernel_rfl) Yba.func3
    (ChangeSpec.witness6 (enc := enc) (C := Yba.checked) false ⟨#[], #[.int .u8 0, .slice none 0 0, .slice none 0 0, .slice none 0 0, .int .u64 0], []⟩ 8 (by kernel_rfl) (by kernel_rfl) (by kernel_rfl) (by kernel_rfl)) ?_
  intro W base args ds gs before hval0 hW hcnd _
  have hval : ∀ (j : Nat) t v, Yba.f3.params[j]? = some t → args[j]? = some v → Value.okWide Yba.prog W .any base t v := hval0
  have hW' := hW
  obtain ⟨p, q, hA0, hV, rfl, hfz, hnd⟩ := hW
  have hA : DataW.TrodAll enc Yba.prog W 0 (fun _ => true) true Yba.f3.params.toList args.toList ds p := hA0
  rw [Yba.params3] at hA hval
  obtain ⟨v0, vs0, d0, ds0, p0, q0, hargs, rfl, rfl, h0, r0⟩ := trodAll_cons hA
  obtain ⟨v1, vs1, d1, ds1, p1, q1, rfl, rfl, rfl, h1, r1⟩ := trodAll_cons r0
  obtain ⟨v2, vs2, d2, ds2, p2, q2, rfl, rfl, rfl, h2, r2⟩ := trodAll_cons r1
  obtain ⟨v3, vs3, d3, ds3, p3, q3, rfl, rfl, rfl, h3, r3⟩ := trodAll_cons r2
  obtain ⟨v4, vs4, d4, ds4, p4, q4, rfl, rfl, rfl, h4, r4⟩ := trodAll_cons r3
  obtain ⟨rfl, rfl, rfl⟩ := trodAll_nil r4
  obtain rfl : args = #[v0, v1, v2, v3, v4] := by cases args; simp_all
  obtain ⟨rfl, rfl⟩ := trodVars_none hV
  obtain ⟨sz, rfl, rfl, rfl, w0⟩ := open_int Yba.underlying5 (hval 0 5 v0 rfl rfl) h0
  obtain ⟨a1, len1, cap1, rfl⟩ := okWide_slice Yba.underlying22 (hval 1 22 v1 rfl rfl)
  have k1 := h1
  have lt1 : ∀ x ∈ p1, x.block < W.heap.size := by obtain ⟨m, hm⟩ := k1; exact DataW.trod_lt m _ _ _ hm
  obtain ⟨a2, len2, cap2, rfl⟩ := okWide_slice Yba.underlying22 (hval 2 22 v2 rfl rfl)
  have k2 := h2
  have lt2 : ∀ x ∈ p2, x.block < W.heap.size := by obtain ⟨m, hm⟩ := k2; exact DataW.trod_lt m _ _ _ hm
  obtain ⟨a3, len3, cap3, rfl⟩ := okWide_slice Yba.underlying23 (hval 3 23 v3 rfl rfl)
  have k3 := h3
  have lt3 : ∀ x ∈ p3, x.block < W.heap.size := by obtain ⟨m, hm⟩ := k3; exact DataW.trod_lt m _ _ _ hm
  obtain ⟨x4, rfl, rfl, rfl, w4⟩ := open_int Yba.underlying24 (hval 4 24 v4 rfl rfl) h4
  obtain ⟨U, hU, hul⟩ : ∃ F, Bools W a1 len1 F ∧ len1 ≤ maxLen := by obtain ⟨fuel, hf⟩ := h1; exact open_bools hf
  obtain ⟨Lo, hLo, hll⟩ : ∃ F, Bools W a2 len2 F ∧ len2 ≤ maxLen := by obtain ⟨fuel, hf⟩ := h2; exact open_bools hf
  obtain ⟨src, hsrc⟩ : ∃ src, Srcs W a3 len3 src := by obtain ⟨fuel, hf⟩ := h3; exact open_srcs hf
  have bsz := bounds_u8 w0
  have bx := bounds_u64 w4
  have hx : IntKind.u64.wrap x4 = x4 := by rw [IntKind.wrap_u64]; omega
  clear hA0 hval0
  refine (walk sz x4 a1 a2 a3 len1 cap1 len2 cap2 len3 cap3 U Lo src W bsz.1 bsz.2 hul hll hx hU hLo hsrc).mono fun e W' ⟨he, bel⟩ => ?_
  subst he
  exact ⟨_, rfl, _, _, _, [], _, [], hW', trodAll_mk1 (shut_bool Yba.underlying4 _), (trodAll_cons_mk (shut_int Yba.underlying5 w0) (trodAll_cons_mk (Below.trod laidOut (by kernel_rfl) (of_decide_eq_true (by kernel_rfl)) k1 bel lt1) (trodAll_cons_mk (Below.trod laidOut (by kernel_rfl) (of_decide_eq_true (by kernel_rfl)) k2 bel lt2)
    (trodAll_cons_mk (Below.trod laidOut (by kernel_rfl) (of_decide_eq_true (by kernel_rfl)) k3 bel lt3) (trodAll_cons_mk (shut_int Yba.underlying24 w4) trodAll_mk0))))), rfl, bel.frame _, fun h => by cases h⟩

theorem over : Rows.lawS4454BPostRow.holds Yba.pinned (OpenSpec.ofChange Rows.lawS4454BPostSpec) :=
  OpenClaim.holds_of_wide 3 Yba.f3 rfl rfl rfl rfl rfl rfl rfl ⟨rfl, rfl, rfl, rfl, rfl⟩ rfl rfl rfl rfl rfl (by kernel_rfl) Yba.func3 (by kernel_rfl)
    (of_decide_eq_true (by kernel_rfl)) (by unfold Func.isWrapper; first | (rw [if_pos (by decide +kernel)]; kernel_rfl) | (rw [if_neg (by decide +kernel)]; exact ⟨rfl, rfl⟩))
    (fun os started H enc _ => lifted os started H enc)

/-- THE STATEMENT -/
theorem proved : Rows.LawS4454BPostSaid := over
end Go.Proofs.Ybulkcnfi.lawS4454BPost
