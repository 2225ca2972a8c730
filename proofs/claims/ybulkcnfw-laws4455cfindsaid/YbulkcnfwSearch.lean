/-
  wire.LawS4455CFind: the walk.
-/
import Derived.Test.YbulkcnfwState
namespace Go.Proofs.Ybulkcnfw
open Go.RowKit Go.Maps Go.WideMaps

/-- The law's own search among the far names, up to r. -/
def Last (N : Nat → ByteArray) (V : Nat → Int) (q r : Nat) (v : Int) : Prop :=
  (∃ m, 16 ≤ m ∧ m < r ∧ N m = N q ∧ (∀ i, m < i → i < r → N i ≠ N q) ∧ v = V m) ∨ ∀ i, 16 ≤ i → i < r → N i ≠ N q
theorem Last.hit {N : Nat → ByteArray} {V : Nat → Int} {q r : Nat} (hr : 16 ≤ r) (he : N r = N q) : Last N V q (r + 1) (V r) :=
  Or.inl ⟨r, hr, by omega, he, fun i h1 h2 => by omega, rfl⟩
theorem Last.miss {N : Nat → ByteArray} {V : Nat → Int} {q r : Nat} {v : Int} (h : Last N V q r v) (he : N r ≠ N q) : Last N V q (r + 1) v := by
  rcases h with ⟨m, h1, h2, h3, h4, h5⟩ | h
  · exact Or.inl ⟨m, h1, by omega, h3, last_next h4 he, h5⟩
  · refine Or.inr fun i h1 h2 => ?_
    rcases Nat.lt_or_ge i r with h3 | h3
    · exact h i h1 h3
    · obtain rfl : i = r := by omega
      exact he
theorem found_near {N : Nat → ByteArray} {V : Nat → Int} {k q r : Nat} {c : Int} {ok : Bool} (h : Found N V k (N q) c ok) (hr : r < min k 16) (he : N r = N q) (hl : ∀ i, i < r → N i ≠ N q) : c = V r ∧ ok = true := by
  rcases h with ⟨j, h1, h2, h3, h4, h5⟩ | ⟨h, _⟩
  · rcases Nat.lt_trichotomy j r with h6 | h6 | h6
    · exact absurd h2 (hl j h6)
    · subst h6
      exact ⟨h4, h5⟩
    · exact absurd he (h3 r h6)
  · exact absurd he (h r hr)
theorem found_far {N : Nat → ByteArray} {V : Nat → Int} {k q : Nat} {c v : Int} {ok : Bool} (h : Found N V k (N q) c ok) (hk : 16 < k) (hq : q < k) (hn : ∀ i, i < 16 → N i ≠ N q) (hl : Last N V q k v) : c = v ∧ ok = true := by
  have hq16 : 16 ≤ q := by
    rcases Nat.lt_or_ge q 16 with h1 | h1
    · exact absurd rfl (hn q h1)
    · exact h1
  rcases hl with ⟨m, m1, m2, m3, m4, m5⟩ | hl
  · rcases h with ⟨j, h1, h2, _⟩ | ⟨_, h⟩
    · exact absurd h2 (hn j (by omega))
    · obtain ⟨h1, h2⟩ := h hk
      have e1 : 16 + (m - 16) = m := by omega
      have hat := FD_at N V (k - 16) (N q) (.lit (.int .u16 0)) (m - 16) (by omega) (by rw [e1]; exact m3) (fun i h1 h2 => m4 (16 + i) (by omega) (by omega))
      have hhas : Maps.has (FD N V (k - 16)) (kl (N q)) = true := (FD_has N V (k - 16) (N q)).2 ⟨m - 16, by omega, by rw [e1]; exact m3⟩
      rw [e1, h2] at hat
      refine ⟨?_, h1.trans hhas⟩
      rw [m5]
      simpa using hat
  · exact absurd rfl (hl q hq16 hq)
theorem Run.after {h k B mb : Nat} {b : Value} {N : Nat → ByteArray} {V : Nat → Int} {w : World} {i : Nat} {wr w' : World} (r : Run h k B mb b N V w i wr) (hb : Below wr.heap.size wr w') : Run h k B mb b N V w i w' := by
  have z := r.hB
  have zs := r.size
  obtain ⟨s1, far, hr, f0, f1⟩ := r.st
  refine ⟨r.rows.below (B := wr.heap.size) (by omega) hb, ⟨s1, far, hr.of_block (hb.block mb hr.lt), f0, fun h => ?_⟩, r.old.trans (hb.mono (by omega)), z, Nat.le_trans zs hb.size⟩
  obtain ⟨mp, e, hmp, hown⟩ := f1 h
  exact ⟨mp, e, hmp, hown.kept (row := none) ⟨hb.os, hb.tape, hb.output, hb.size, fun q hq _ => hb.block q hq⟩ (by simp)⟩

set_option maxRecDepth 100000 in
set_option maxHeartbeats 4000000 in
theorem find_small (na oa : Option Addr) (nl nc ol oc p k : Nat) (pad : Int) (S : Nat → ByteArray) (U : Nat → Int) (w : World) (h0 : 0 ≤ pad) (h1 : pad ≤ 255) (hp : pad % 24 = (p : Int)) (hk : (p : Int) + nl = (k : Int)) (hnl : nl ≤ 1024) (hol : ol ≤ 1024)
    (hs : Strs w na nl S) (ho : Nums w oa ol U) :
    Calls Yba.prog 4 #[.slice na nl nc, .slice oa ol oc, .int .u8 pad] w fun e w' => e = .returned (.bool true) ∧ Below w.heap.size w w' := by
  have hbuild := build_any na oa nl nc ol oc p k pad S U w h0 h1 hp hk hnl hol hs ho
  have HBu : Hid (Calls Yba.prog 5 #[.slice na nl nc, .slice oa ol oc, .int .u8 pad] w fun e w' => ∃ N V, e = .returned (.tuple #[.slice (some ⟨w.heap.size, 0, none⟩) k k, .slice (some ⟨w.heap.size + 1, 0, none⟩) k k]) ∧ Rws k w.heap.size N V w' ∧ Below w.heap.size w w') := hbuild
  have hk2 : k ≤ 1100 := by omega
  clear hbuild hs ho hp hk h0 h1
  have hn1 : (nl : Int) ≤ 1024 := by omega
  have hn2 : (ol : Int) ≤ 1024 := by omega
  go_enter Yba.func4, Yba.ntmps4
  go_wp2_with fail
  refine HBu.out.mono ?_
  rintro e w1 ⟨N, V, rfl, hrw, hb1⟩
  have HRw : Hid (Rws k w.heap.size N V w1) := hrw
  have HB1 : Hid (Below w.heap.size w w1) := hb1
  have z1 := hrw.offs.lt
  clear hrw hb1 HBu
  go_wp2_with fail
  refine (new_any w1).mono ?_
  rintro e w2 ⟨g, cap, rfl, hb2⟩
  have HB2 : Hid (Below w1.heap.size w1 w2) := hb2
  have hsz2 := hb2.size
  clear hb2
  go_wp2_with (refine wpList_store_row rfl 35 (.tmp 10) (.tmp 37) rfl w2.heap.size (fresh (.slice (some ⟨g, 0, none⟩) 12 cap)) rfl rfl 35 (fresh (.slice none 0 0)) (heap_alloc_new w2 _) size35 rfl (fresh_one _ _ _) ?_)
  have rn : Run w.heap.size k w2.heap.size w2.heap.size (.slice (some ⟨g, 0, none⟩) 12 cap) N V w 0 ((w2.alloc (.cells (fresh (.slice none 0 0)) 35)).setRow w2.heap.size (fresh (.slice (some ⟨g, 0, none⟩) 12 cap))) :=
    ⟨(HRw.out.below z1 HB2.out).below (by omega) (below_made _ _ _), St.start _ _ _ _ _, (HB1.out.trans (HB2.out.mono HB1.out.size)).trans ((below_made _ _ _).mono (by have := HB1.out.size; omega)), by omega, (below_made w2 _ _).size⟩
  have HRn : Hid (Run w.heap.size k w2.heap.size w2.heap.size (.slice (some ⟨g, 0, none⟩) 12 cap) N V w 0 ((w2.alloc (.cells (fresh (.slice none 0 0)) 35)).setRow w2.heap.size (fresh (.slice (some ⟨g, 0, none⟩) 12 cap)))) := rn
  clear rn HRw HB2 HB1 z1 hsz2
  obtain ⟨mb, hmb⟩ : ∃ mb, mb = w2.heap.size := ⟨_, rfl⟩
  rw [← hmb] at HRn
  rw [← hmb]
  refine named (fun W => ∃ bv, bv = Value.slice (some ⟨g, 0, none⟩) 12 cap ∧ Run w.heap.size k mb mb bv N V w 0 W) ⟨_, rfl, HRn.out⟩ ?_
  rintro W ⟨bv, hbv, hW⟩
  have HW : Hid (Run w.heap.size k mb mb bv N V w 0 W) := hW
  have hmb2 : Hid (mb = w2.heap.size) := hmb
  clear hW HRn hmb hbv
  go_loopg [11] k (fun m i wr => ∃ q : Nat, q ≤ k ∧ m = k - q ∧ i = .int .i64 q ∧ Run w.heap.size k mb mb bv N V w q wr)
  case atStart => exact ⟨0, by omega, by omega, rfl, HW.out⟩
  case round =>
    obtain ⟨q, hq, hm, rfl, hr⟩ := hrel
    have HR : Hid (Run w.heap.size k mb mb bv N V w q wr) := hr
    clear hr HW
    by_cases hlt : q < k
    · have r1 := HR.out.rows.names.cell hlt
      have r2 := HR.out.rows.offs.cell hlt
      have hlt1 : (q : Int) < k := by omega
      go_wp2_with fail
      go_region_with (go_at_call 7; refine (remember_any mb mb q bv N V _ (by omega) (by exact HR.out.size) (by exact HR.out.st) (HR.out.rows.short q) (HR.out.rows.fits q)).mono ?_; rintro e w' ⟨rfl, hst, hb⟩)
      all_goals go_wp2_with fail
      all_goals go_roundg (k - (q + 1))
      all_goals first | omega | exact ⟨q + 1, by omega, rfl, by go_num, HR.out.next hst ((Below.refl mb wr).drew.trans hb)⟩
    · obtain rfl : k = q := by omega
      clear hlt hq hm
      have hge : ¬ ((k : Int) < k) := by omega
      by_cases hk16 : k ≤ 16
      · have hk17 : ¬ ((16 : Int) < k) := by omega
        go_wp2_with fail
        go_loopg [13] k (fun m i wr2 => ∃ q : Nat, q ≤ k ∧ m = k - q ∧ i = .int .i64 q ∧ Run w.heap.size k mb mb bv N V w k wr2)
        case atStart => exact ⟨0, by omega, by omega, rfl, HR.out⟩
        case round =>
          obtain ⟨q, hq, hm, rfl, hr⟩ := hrel
          have HR2 : Hid (Run w.heap.size k mb mb bv N V w k wr) := hr
          clear hr HR
          by_cases hlt : q < k
          · have hlt1 : (q : Int) < k := by omega
            go_wp2_with fail
            go_loopg [14, 15, 16] k (fun m f v j wr3 => ∃ r : Nat, r ≤ k ∧ m = k - r ∧ j = .int .i64 r ∧ f = .bool false ∧ v = .int .u16 0 ∧ (∀ i, i < r → N i ≠ N q) ∧ Run w.heap.size k mb mb bv N V w k wr3)
            case atStart => exact ⟨0, by omega, by omega, rfl, rfl, rfl, fun i h => absurd h (Nat.not_lt_zero _), HR2.out⟩
            case round =>
              obtain ⟨r, hq3, hm3, rfl, rfl, rfl, hno, hr⟩ := hrel
              have HR3 : Hid (Run w.heap.size k mb mb bv N V w k wr) := hr
              have HNo : Hid (∀ i, i < r → N i ≠ N q) := hno
              have r1 := hr.rows.names.cell hlt
              clear hr HR2 hno
              by_cases hlt3 : r < k
              · have r2 := HR3.out.rows.names.cell (i := r) (by omega)
                have r3 := HR3.out.rows.offs.cell (i := r) (by omega)
                have hlt4 : (r : Int) < k := by omega
                have hlt5 : (r : Int) < k := by omega
                by_cases he : N r = N q
                · rw [he] at r2
                  have HE : Hid (N r = N q) := he
                  clear he
                  go_wp2_with fail
                  go_quiet (fail)
                  go_wp2_with fail
                  refine (find_any mb mb k bv N V (N q) _ (by omega) (by exact (HR3.out.drew nq).st) ((HR3.out.drew nq).rows.short q)).mono ?_
                  rintro e w' ⟨c, ok, rfl, hfound, hb⟩
                  obtain ⟨rfl, rfl⟩ := found_near hfound (by omega) HE.out HNo.out
                  have HRf : Hid (Run w.heap.size k mb mb bv N V w k w') := Run.after (HR3.out.drew nq) hb
                  clear hfound hb
                  go_wp2_with fail
                  go_roundg (k - (q + 1))
                  case measure => omega
                  case rel => exact ⟨q + 1, by omega, rfl, by go_num, HRf.out⟩
                · have hbe := beq_ne he
                  have HE : Hid (N r ≠ N q) := he
                  clear he
                  go_wp2_with fail
                  go_quiet (fail)
                  go_wp2_with fail
                  go_roundg (k - (r + 1))
                  case measure => omega
                  case rel => exact ⟨r + 1, by omega, rfl, by go_num, rfl, rfl, no_more HNo.out HE.out, HR3.out.drew _⟩
              · exact absurd rfl (HNo.out q (by omega))
          · obtain rfl : k = q := by omega
            go_wp2_with fail
            go_ret
            exact ⟨rfl, HR2.out.old⟩
      · have hk17 : ((16 : Int) < k) := by omega
        go_wp2_with fail
        go_loopg [13] k (fun m i wr2 => ∃ q : Nat, q ≤ k ∧ m = k - q ∧ i = .int .i64 q ∧ Run w.heap.size k mb mb bv N V w k wr2)
        case atStart => exact ⟨0, by omega, by omega, rfl, HR.out⟩
        case round =>
          obtain ⟨q, hq, hm, rfl, hr⟩ := hrel
          have HR2 : Hid (Run w.heap.size k mb mb bv N V w k wr) := hr
          clear hr HR
          by_cases hlt : q < k
          · have hlt1 : (q : Int) < k := by omega
            go_wp2_with fail
            go_loopg [14, 15, 16] 16 (fun m f v j wr3 => ∃ r : Nat, r ≤ 16 ∧ m = 16 - r ∧ j = .int .i64 r ∧ f = .bool false ∧ v = .int .u16 0 ∧ (∀ i, i < r → N i ≠ N q) ∧ Run w.heap.size k mb mb bv N V w k wr3)
            case atStart => exact ⟨0, by omega, by omega, rfl, rfl, rfl, fun i h => absurd h (Nat.not_lt_zero _), HR2.out⟩
            case round =>
              obtain ⟨r, hq3, hm3, rfl, rfl, rfl, hno, hr⟩ := hrel
              have HR3 : Hid (Run w.heap.size k mb mb bv N V w k wr) := hr
              have HNo : Hid (∀ i, i < r → N i ≠ N q) := hno
              have r1 := hr.rows.names.cell hlt
              clear hr HR2 hno
              by_cases hlt3 : r < 16
              · have r2 := HR3.out.rows.names.cell (i := r) (by omega)
                have r3 := HR3.out.rows.offs.cell (i := r) (by omega)
                have hlt4 : (r : Int) < 16 := by omega
                have hlt5 : (r : Int) < k := by omega
                by_cases he : N r = N q
                · rw [he] at r2
                  have HE : Hid (N r = N q) := he
                  clear he
                  go_wp2_with fail
                  go_quiet (fail)
                  go_wp2_with fail
                  refine (find_any mb mb k bv N V (N q) _ (by omega) (by exact (HR3.out.drew nq).st) ((HR3.out.drew nq).rows.short q)).mono ?_
                  rintro e w' ⟨c, ok, rfl, hfound, hb⟩
                  obtain ⟨rfl, rfl⟩ := found_near hfound (by omega) HE.out HNo.out
                  have HRf : Hid (Run w.heap.size k mb mb bv N V w k w') := Run.after (HR3.out.drew nq) hb
                  clear hfound hb
                  go_wp2_with fail
                  go_roundg (k - (q + 1))
                  case measure => omega
                  case rel => exact ⟨q + 1, by omega, rfl, by go_num, HRf.out⟩
                · have hbe := beq_ne he
                  have HE : Hid (N r ≠ N q) := he
                  clear he
                  go_wp2_with fail
                  go_quiet (fail)
                  go_wp2_with fail
                  go_roundg (16 - (r + 1))
                  case measure => omega
                  case rel => exact ⟨r + 1, by omega, rfl, by go_num, rfl, rfl, no_more HNo.out HE.out, HR3.out.drew _⟩
              · obtain rfl : r = 16 := by omega
                clear hlt3 hq3 hm3 r1
                go_wp2_with fail
                go_loopg [15, 17] (k - 16) (fun m v j wr4 => ∃ (r : Nat) (u : Int), 16 ≤ r ∧ r ≤ k ∧ m = k - r ∧ j = .int .i64 r ∧ v = .int .u16 u ∧ Last N V q r u ∧ Run w.heap.size k mb mb bv N V w k wr4)
                case atStart => exact ⟨16, 0, by omega, by omega, by omega, rfl, rfl, Or.inr fun i h1 h2 => by omega, HR3.out⟩
                case round =>
                  obtain ⟨r, u, hq3, hq4, hm3, rfl, rfl, hla, hr⟩ := hrel
                  have HR4 : Hid (Run w.heap.size k mb mb bv N V w k wr) := hr
                  have HL : Hid (Last N V q r u) := hla
                  have r1 := hr.rows.names.cell hlt
                  clear hr HR3 hla
                  by_cases hlt3 : r < k
                  · have r2 := HR4.out.rows.names.cell (i := r) (by omega)
                    have r3 := HR4.out.rows.offs.cell (i := r) (by omega)
                    have hlt4 : (r : Int) < k := by omega
                    by_cases he : N r = N q
                    · rw [he] at r2
                      have HE : Hid (N r = N q) := he
                      clear he
                      go_wp2_with fail
                      go_quiet (fail)
                      go_wp2_with fail
                      go_roundg (k - (r + 1))
                      case measure => omega
                      case rel => exact ⟨r + 1, V r, by omega, by omega, rfl, by go_num, rfl, Last.hit hq3 HE.out, HR4.out.drew _⟩
                    · have hbe := beq_ne he
                      have HE : Hid (N r ≠ N q) := he
                      clear he
                      go_wp2_with fail
                      go_quiet (fail)
                      go_wp2_with fail
                      go_roundg (k - (r + 1))
                      case measure => omega
                      case rel => exact ⟨r + 1, u, by omega, by omega, rfl, by go_num, rfl, HL.out.miss HE.out, HR4.out.drew _⟩
                  · obtain rfl : k = r := by omega
                    clear hlt3 hq3 hm3
                    go_wp2_with fail
                    refine (find_any mb mb k bv N V (N q) _ (by omega) (by exact HR4.out.st) (HR4.out.rows.short q)).mono ?_
                    rintro e w' ⟨c, ok, rfl, hfound, hb⟩
                    obtain ⟨rfl, rfl⟩ := found_far hfound (by omega) hlt HNo.out HL.out
                    have HRf : Hid (Run w.heap.size k mb mb bv N V w k w') := Run.after HR4.out hb
                    clear hfound hb
                    go_wp2_with fail
                    go_roundg (k - (q + 1))
                    case measure => omega
                    case rel => exact ⟨q + 1, by omega, rfl, by go_num, HRf.out⟩
          · obtain rfl : k = q := by omega
            go_wp2_with fail
            go_ret
            exact ⟨rfl, HR2.out.old⟩
end Go.Proofs.Ybulkcnfw
