/-
  (*node.Node).post: the walk.
-/
import Derived.Test.YbulkcnfiWires
import Derived.BigQuiet
import Derived.Deep.QuietTactic
import Derived.Deep.LoopGhost
namespace Go.Proofs.Ybulkcnfi
open Go.RowKit

theorem below_box (w : World) (o : Obj) (n : Nat) : Below w.heap.size w ((w.alloc o).drewN n) :=
  ⟨rfl, rfl, rfl, by simp, fun k hk => Below.heap_alloc w o k hk⟩
theorem below_alloc (w : World) (o : Obj) : Below w.heap.size w (w.alloc o) := ⟨rfl, rfl, rfl, by simp, fun k hk => Below.heap_alloc w o k hk⟩

theorem namedCall {P : Program} {f : FuncId} {args : Array Value} {R : Ending → World → Prop} {w : World} (C : World → Prop) (h : C w) (k : ∀ W, C W → Calls P f args W R) : Calls P f args w R := k w h
theorem cells_to {m : Msg} {q : Int} (h : m.to = q) : (msgCells m.kd m.fr q m.tm m.pd).toList = m.cells := by rw [← h]; rfl

set_option maxHeartbeats 1000000 in
theorem post_any (B k nb bl bs : Nat) (S : Nat → Option Nat) (L : Nat → Nat) (lost : Nat → Bool) (ms : List Msg) (s0 : Int) (w : World) (hl : ms.length ≤ 1024) (hto : ∀ i (h : i < ms.length), 0 ≤ ms[i].to ∧ ms[i].to < k)
    (hw : Wires B k nb bl bs S L ms w) (h0 : PostSt B k nb bl S lost ms s0 w 0 w) :
    Calls Yba.prog 6 #[.pointer (some ⟨nb, 0, none⟩), .slice (some ⟨bs, 0, none⟩) ms.length ms.length] w fun e w' => e = .returned (.tuple #[]) ∧ PostSt B k nb bl S lost ms s0 w ms.length w' := by
  have HW : Hid (Wires B k nb bl bs S L ms w) := hw
  have HT : Hid (∀ i (h : i < ms.length), 0 ≤ ms[i].to ∧ ms[i].to < k) := hto
  clear hw hto
  go_enter Yba.func6, Yba.ntmps6
  go_wp2_with fail
  go_loopg [9] ms.length (fun g i wr => ∃ j : Nat, j ≤ ms.length ∧ g = ms.length - j ∧ i = .int .i64 j ∧ PostSt B k nb bl S lost ms s0 w j wr)
  case atStart => exact ⟨0, by omega, by omega, rfl, h0⟩
  case round =>
    obtain ⟨j, hj, hg, rfl, hst⟩ := hrel
    clear h0
    by_cases hlt : j < ms.length
    · obtain ⟨t0, tk⟩ := HT.out j hlt
      obtain ⟨q, hq⟩ := Int.eq_ofNat_of_zero_le t0
      have hqk : q < k := by omega
      have hw1 := HW.out.kept hst.choose_spec.2.2
      obtain ⟨v0, v1, v2, v3, v4⟩ := hw1.send.at hlt
      rw [hq] at v2
      have HQ : Hid (ms[j].to = q) := hq
      have hln := hst.choose_spec.2.1
      have n4 : wr.cell? ⟨nb, 4, none⟩ = some (.slice (some ⟨bl, 0, none⟩) k k) := blk_cell hln 4
      have l0 : wr.cell? ⟨bl, q, none⟩ = some (.pointer (some ⟨L q, 0, none⟩)) := hw1.links.cell hqk
      have l2 : wr.cell? ⟨L q, 2, none⟩ = some (adr (S q)) := blk_cell (hw1.link q hqk) 2
      have b1 : nb < wr.heap.size := lt_of_block hln
      have b2 : bl < wr.heap.size := hw1.links.lt
      have b3 : L q < wr.heap.size := lt_of_block (hw1.link q hqk)
      have HS : Hid (PostSt B k nb bl S lost ms s0 w j wr) := hst
      clear hst hln hw1 t0 tk hq
      have hqi : (q : Int) < k := by omega
      rcases hS : S q with _ | s
      · rw [hS] at l2
        have l2' : wr.cell? ⟨L q, 2, none⟩ = some (.pointer none) := l2
        have HN : Hid (S q = none) := hS
        clear l2 hS
        go_wp2_with fail
        go_quiet (fail)
        go_wp2_with fail
        go_roundg (ms.length - (j + 1))
        case measure => omega
        case rel =>
          refine ⟨j + 1, by omega, rfl, by go_num, ?_⟩
          exact (HS.out.below (below_box wr _ _)).down hlt (by rw [HQ.out]; exact HN.out)
      · rw [hS] at l2
        have l2' : wr.cell? ⟨L q, 2, none⟩ = some (.pointer (some ⟨s, 0, none⟩)) := l2
        have HN : Hid (S q = some s) := hS
        clear l2 hS
        rcases hlo : lost q with _ | _
        · have HL : Hid (lost q = false) := hlo
          clear hlo
          go_wp2_with fail
          go_quiet (fail)
          go_wp2_with fail
          refine namedCall (fun W => PostSt B k nb bl S lost ms s0 w j W) (HS.out.below (below_box wr _ _)) ?_
          rintro W ⟨O, h1, h2, h3⟩
          have hs1 := h1.sess q s hqk HN.out
          rw [HL.out] at hs1
          have hn1 : (outOf lost q (ms.take j)).length ≤ 1024 := Nat.le_trans (outOf_le _ _ _) (Nat.le_trans (List.length_take_le _ _) (by omega))
          refine (send_live s (O q) B _ _ ms[j].kd ms[j].fr q ms[j].tm ms[j].pd W hs1 (h1.own q s hqk HN.out) h1.base hn1).mono ?_
          rintro e w2 ⟨g, cap, rfl, hs', hown', hwh, hk2⟩
          rw [cells_to HQ.out] at hown'
          have hn2 := node_live HW.out hqk HN.out (h1.own q s hqk HN.out) h2 hk2
          have hfin := PostSt.live h1 h2 h3 HW.out hlt hqk HQ.out HN.out HL.out hs' hown' hwh hk2
          have HF : Hid (PostSt _ _ _ _ _ _ _ _ _ _ _) := hfin
          have HN2 : Hid (w2.heap[nb]? = some (nodeObj bl k (IntKind.u64.wrap (s0 + upTo S (ms.take j))))) := hn2
          clear hs1 hn1 h1 h2 h3 hs' hown' hwh hk2 hn2 hfin v0 v1 v2 v3 v4 n4 l0 l2' b1 b2 b3
          go_wp2_with fail
          refine (add_any ⟨nb, 11, none⟩ _ 1 _ (blk_cell HN2.out 11) (blk_free HN2.out 11)).mono ?_
          rintro e w3 ⟨rfl, rfl⟩
          go_wp2_with fail
          go_roundg (ms.length - (j + 1))
          case measure => omega
          case rel => exact ⟨j + 1, by omega, rfl, by go_num, HF.out⟩
        · have HL : Hid (lost q = true) := hlo
          clear hlo
          go_wp2_with fail
          go_quiet (fail)
          go_wp2_with fail
          refine namedCall (fun W => PostSt B k nb bl S lost ms s0 w j W) (HS.out.below (below_box wr _ _)) ?_
          intro W hW
          obtain ⟨O, h1, h2, h3⟩ := id hW
          have hs1 := h1.sess q s hqk HN.out
          rw [HL.out] at hs1
          refine (send_lost s (O q) ms[j].kd ms[j].fr q ms[j].tm ms[j].pd W hs1).mono ?_
          rintro e w2 ⟨rfl, _, hb2⟩
          have hn2 := (hb2.block nb (lt_of_block h2)).trans h2
          have hfin := PostSt.lost hW HW.out hlt hqk HQ.out HN.out HL.out hb2
          have HF : Hid (PostSt _ _ _ _ _ _ _ _ _ _ _) := hfin
          have HN2 : Hid (w2.heap[nb]? = some (nodeObj bl k (IntKind.u64.wrap (s0 + upTo S (ms.take j))))) := hn2
          clear hs1 h1 h2 h3 hb2 hn2 hfin hW v0 v1 v2 v3 v4 n4 l0 l2' b1 b2 b3
          go_wp2_with fail
          refine (add_any ⟨nb, 11, none⟩ _ 1 _ (blk_cell HN2.out 11) (blk_free HN2.out 11)).mono ?_
          rintro e w3 ⟨rfl, rfl⟩
          go_wp2_with fail
          go_roundg (ms.length - (j + 1))
          case measure => omega
          case rel => exact ⟨j + 1, by omega, rfl, by go_num, HF.out⟩
    · have e : j = ms.length := by omega
      subst e
      go_wp2_with fail
      go_end0
      exact ⟨rfl, hst⟩
end Go.Proofs.Ybulkcnfi
