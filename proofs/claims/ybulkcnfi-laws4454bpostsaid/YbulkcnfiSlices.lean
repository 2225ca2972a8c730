/-
  slices.Equal and slices.Clone at []lamport.Message.
-/
import Derived.Test.YbulkcnfiPost
import Derived.Lib.BufferMore
namespace Go.Proofs.Ybulkcnfi
open Go.RowKit

theorem equal_nil (a1 a2 : Option Addr) (c1 c2 : Nat) (w : World) :
    Calls Yba.prog 7 #[.slice a1 0 c1, .slice a2 0 c2] w fun e w' => e = .returned (.bool true) ∧ ∃ n, w' = w.drewN n := by
  go_enter Yba.func7, Yba.ntmps7
  go_wp2_with fail
  refine wp_loop_rounds 1 ?_
  rw [rounds_succ]
  go_wp2_with fail
  go_ret
  exact ⟨rfl, 0, rfl⟩

set_option maxHeartbeats 1000000 in
theorem equal_rows (g1 g2 c1 c2 : Nat) (ms : List Msg) (w : World) (hl : ms.length ≤ 1024) (h1 : Rd w g1 ms) (h2 : Rd w g2 ms) :
    Calls Yba.prog 7 #[.slice (some ⟨g1, 0, none⟩) ms.length c1, .slice (some ⟨g2, 0, none⟩) ms.length c2] w fun e w' => e = .returned (.bool true) ∧ ∃ n, w' = w.drewN n := by
  have H1 : Hid (Rd w g1 ms) := h1
  have H2 : Hid (Rd w g2 ms) := h2
  clear h1 h2
  go_enter Yba.func7, Yba.ntmps7
  go_wp2_with fail
  go_loopg [13] ms.length (fun g i wr => ∃ j n : Nat, j ≤ ms.length ∧ g = ms.length - j ∧ i = .int .i64 j ∧ wr = w.drewN n)
  case atStart => exact ⟨0, 0, by omega, by omega, rfl, rfl⟩
  case round =>
    obtain ⟨j, n, hj, hg, rfl, rfl⟩ := hrel
    by_cases hlt : j < ms.length
    · obtain ⟨v0, v1, v2, v3, v4⟩ := H1.out.at hlt
      obtain ⟨u0, u1, u2, u3, u4⟩ := H2.out.at hlt
      go_wp2_with fail
      go_quiet (fail)
      go_wp2_with fail
      go_roundg (ms.length - (j + 1))
      case measure => omega
      case rel => exact ⟨j + 1, _, by omega, rfl, by go_num, rfl⟩
    · have e : j = ms.length := by omega
      subst e
      go_wp2_with fail
      go_ret
      exact ⟨rfl, n, rfl⟩

/-- Two rows of the call's own with the same messages. -/
theorem equal_any (b1 b2 : Nat) (x1 x2 : Value) (ms : List Msg) (w : World) (hl : ms.length ≤ 1024) (h1 : w.ownsRow b1 50 5 x1 ms.length (flat ms)) (h2 : w.ownsRow b2 50 5 x2 ms.length (flat ms)) :
    Calls Yba.prog 7 #[x1, x2] w fun e w' => e = .returned (.bool true) ∧ ∃ n, w' = w.drewN n := by
  rcases Joins.ownsRow_forms h1 with ⟨rfl, e1⟩ | ⟨g1, c1, rfl⟩ <;> rcases Joins.ownsRow_forms h2 with ⟨rfl, e2⟩ | ⟨g2, c2, rfl⟩
  · exact equal_nil _ _ _ _ w
  · rw [e1]; exact equal_nil _ _ _ _ w
  · rw [e2]; exact equal_nil _ _ _ _ w
  · exact equal_rows g1 g2 c1 c2 ms w hl (Rd.of_own h1) (Rd.of_own h2)

theorem flat_one (ms : List Msg) : ∀ u ∈ flat ms, u.oneCell' = true := by
  intro u hu
  simp only [flat, List.mem_flatMap] at hu
  obtain ⟨m, _, hm⟩ := hu
  simp [Msg.cells] at hm
  rcases hm with rfl | rfl | rfl | rfl | rfl <;> rfl

theorem clone_any (bs : Nat) (ms : List Msg) (w : World) (hl : ms.length ≤ 1024) (h : Rd w bs ms) (hb : bs < w.heap.size) :
    Calls Yba.prog 4 #[.slice (some ⟨bs, 0, none⟩) ms.length ms.length] w fun e w' => ∃ g cap, e = .returned (.slice (some ⟨g, 0, none⟩) ms.length cap) ∧ w'.ownsRow w.heap.size 50 5 (.slice (some ⟨g, 0, none⟩) ms.length cap) ms.length (flat ms) ∧ Below w.heap.size w w' := by
  have H : Hid (Rd w bs ms) := h
  clear h
  obtain ⟨i0, hi, hz0, hz1, hz2⟩ := info_parts Yba.info50
  have hnil : ∀ W, (binOp .eql 43 (.slice (some ⟨bs, 0, none⟩) ms.length ms.length) (.slice none 0 0)).run Yba.prog W = .ok (.bool false) W := fun W => Lib.run_eql_slice_some_nil W _ _ _ Yba.underlying43
  go_enter Yba.func4, Yba.ntmps4
  go_wp2_with (at_builtin; refine wpList_append_own _ rfl (.tmp 5) (.tmp 6) 43 rfl w.heap.size 50 i0 _ 5 40 Yba.underlying43 hi hz0 hz1 hz2 rfl (by decide) _ 0 [] rfl (World.ownsRow_made w #[] 0 (Nat.le_refl _) (Nat.zero_le _) rfl) ⟨bs, 0, none⟩ ms.length ms.length (flat ms) rfl (flat_length ms) ?c1 ?c2 ?c3 ?c4 ?c5 ?_)
  case c1 =>
    intro j u hu
    have hadd : (⟨bs, 0, none⟩ : Addr).add j = ⟨bs, j, none⟩ := by unfold Addr.add; split <;> simp_all
    rw [hadd, World.cell?_alloc_lt w _ _ hb]
    exact H.out j u hu
  case c2 => exact flat_one ms
  case c3 => unfold maxLen; omega
  case c4 => omega
  case c5 => simp
  · intro v' w1 hown hgrow hne
    obtain ⟨g, cap, rfl⟩ : ∃ g cap, v' = .slice (some ⟨g, 0, none⟩) ms.length cap := by
      rcases Joins.ownsRow_forms hown with ⟨e, _⟩ | h
      · exact absurd e hne
      · exact h
    have HO : Hid (World.ownsRow _ _ _ _ _ _ _) := hown
    have HB : Hid (Below w.heap.size w w1) := (below_alloc w _).grown hgrow (by simp) (fun k hk => by simp [Value.ownBlock] at hk; omega)
    clear hown hgrow hne
    go_wp2_with fail
    go_ret
    exact ⟨g, cap, rfl, HO.out, HB.out⟩
end Go.Proofs.Ybulkcnfi
