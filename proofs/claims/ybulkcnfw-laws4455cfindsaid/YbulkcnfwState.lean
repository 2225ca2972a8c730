/-
  wire.LawS4455CState: the walk.
-/
import Derived.Test.YbulkcnfwStart
import Derived.Deep.RegionWith
namespace Go.Proofs.Ybulkcnfw
open Go.RowKit Go.Maps Go.WideMaps

theorem Run.drew {h k B mb : Nat} {b : Value} {N : Nat → ByteArray} {V : Nat → Int} {w : World} {i : Nat} {wr : World} (r : Run h k B mb b N V w i wr) (n : Nat) : Run h k B mb b N V w i (wr.drewN n) :=
  ⟨⟨r.rows.names, r.rows.offs, r.rows.short, r.rows.fits⟩, r.st, ⟨r.old.os, r.old.tape, r.old.output, r.old.size, r.old.block⟩, r.hB, r.size⟩
theorem Run.near {h k B mb : Nat} {b : Value} {N : Nat → ByteArray} {V : Nat → Int} {w : World} {i : Nat} {wr : World} (r : Run h k B mb b N V w i wr) (j : Nat) (hj : j < i) (h16 : j < 16) :
    wr.cell? ⟨mb, 2 + j * 2, none⟩ = some (.string (N j)) ∧ wr.cell? ⟨mb, 2 + j * 2 + 1, none⟩ = some (.int .u16 (V j)) := by
  obtain ⟨_, far, hr, _⟩ := r.st
  have n1 := hr.cell (i := 2 + j * 2) (by omega)
  have n2 := hr.cell (i := 2 + j * 2 + 1) (by omega)
  rw [msgF_name _ _ _ _ _ _ h16, if_pos (by omega)] at n1
  rw [msgF_off _ _ _ _ _ _ h16, if_pos (by omega)] at n2
  exact ⟨n1, n2⟩

/-- A far name looked up: the last of its name. -/
theorem Run.look {h k B mb : Nat} {b : Value} {N : Nat → ByteArray} {V : Nat → Int} {w : World} {wr : World} (r : Run h k B mb b N V w k wr) (q m : Nat) (hq : 16 ≤ q) (hm : q ≤ m) (hm2 : m < k) (he : N m = N q) (hl : ∀ i, m < i → i < k → N i ≠ N q) :
    ∃ mp, wr.cell? ⟨mb, 35, none⟩ = some (.map (some mp)) ∧ wr.ownsMap Yba.prog 28 (plainElem (H := Unit) Yba.prog 29) mp (k - 16) (FD N V (k - 16)) ∧
      (Instr.lookup 33 (.map (some mp)) (.string (N q)) true).run Yba.prog wr = .ok (.tuple #[.int .u16 (V m), .bool true]) wr := by
  obtain ⟨_, far, hr, _, hf⟩ := r.st
  obtain ⟨mp, rfl, _, hown⟩ := hf (by omega)
  refine ⟨mp, hr.cell (i := 35) (by omega), hown, ?_⟩
  obtain ⟨v, ps, hrun, hv⟩ := hown.look_ok law Yba.underlying33 (zero29 _) (plainElem_int (H := Unit) Yba.underlying29 (wf16 (v := 0) (by omega))) (keyOf_string_mk Yba.underlying28 (r.rows.short q))
  have e1 : 16 + (m - 16) = m := by omega
  have hat := FD_at N V (k - 16) (N q) (.lit (.int .u16 0)) (m - 16) (by omega) (by rw [e1]; exact he) (fun i h1 h2 => hl (16 + i) (by omega) (by omega))
  have hhas : Maps.has (FD N V (k - 16)) (kl (N q)) = true := (FD_has N V (k - 16) (N q)).2 ⟨m - 16, by omega, by rw [e1]; exact he⟩
  rw [hhas] at hrun
  obtain ⟨a, rfl, ha, _⟩ := plainElem_int_inv Yba.underlying29 hv
  have ha1 := congrArg Prod.fst ha
  rw [e1] at hat
  have ha2 : a = V m := by
    rw [hat] at ha1
    simpa using ha1.symm
  rw [ha2] at hrun
  exact hrun
theorem first_no {N : Nat → ByteArray} {r q : Nat} (hr : 16 ≤ r) (he : N r = N q) : Maps.has (FD N (fun _ => 0) (r + 1 - 16)) (kl (N q)) = true :=
  (FD_has N _ _ _).2 ⟨r - 16, by omega, by rw [show 16 + (r - 16) = r from by omega]; exact he⟩
theorem first_same {N : Nat → ByteArray} {r q : Nat} (hr : 16 ≤ r) (he : N r ≠ N q) : Maps.has (FD N (fun _ => 0) (r + 1 - 16)) (kl (N q)) = Maps.has (FD N (fun _ => 0) (r - 16)) (kl (N q)) := by
  rw [show r + 1 - 16 = r - 16 + 1 from by omega, FD, has_put_other]
  rw [show 16 + (r - 16) = r from by omega]
  exact fun e => he (kl_inj e).symm
theorem seen_eq (N : Nat → ByteArray) {q : Nat} (hq : 16 ≤ q) : Maps.has (FD N (fun _ => 0) (q - 16)) (kl (N q)) = seen N (q - 16) := by
  rw [seen, show 16 + (q - 16) = q from by omega]
theorem distinct_seen {N : Nat → ByteArray} {q : Nat} (hq : 16 ≤ q) (h : seen N (q - 16) = true) : distinct N (q + 1 - 16) = distinct N (q - 16) := by
  rw [show q + 1 - 16 = q - 16 + 1 from by omega, distinct, h]; rfl
theorem distinct_new {N : Nat → ByteArray} {q : Nat} (hq : 16 ≤ q) (h : seen N (q - 16) = false) : distinct N (q + 1 - 16) = distinct N (q - 16) + 1 := by
  rw [show q + 1 - 16 = q - 16 + 1 from by omega, distinct, h]; rfl
theorem last_next {N : Nat → ByteArray} {m r q : Nat} (h : ∀ i, m < i → i < r → N i ≠ N q) (he : N r ≠ N q) : ∀ i, m < i → i < r + 1 → N i ≠ N q := by
  intro i h1 h2
  rcases Nat.lt_or_ge i r with h3 | h3
  · exact h i h1 h3
  · obtain rfl : i = r := by omega
    exact he

set_option maxRecDepth 100000 in
set_option maxHeartbeats 4000000 in
theorem state_small (na oa : Option Addr) (nl nc ol oc p k : Nat) (pad : Int) (S : Nat → ByteArray) (U : Nat → Int) (w : World) (h0 : 0 ≤ pad) (h1 : pad ≤ 255) (hp : pad % 24 = (p : Int)) (hk : (p : Int) + nl = (k : Int)) (hnl : nl ≤ 1024) (hol : ol ≤ 1024)
    (hs : Strs w na nl S) (ho : Nums w oa ol U) :
    Calls Yba.prog 3 #[.slice na nl nc, .slice oa ol oc, .int .u8 pad] w fun e w' => e = .returned (.bool true) ∧ Below w.heap.size w w' := by
  have hbuild := build_any na oa nl nc ol oc p k pad S U w h0 h1 hp hk hnl hol hs ho
  have HBu : Hid (Calls Yba.prog 5 #[.slice na nl nc, .slice oa ol oc, .int .u8 pad] w fun e w' => ∃ N V, e = .returned (.tuple #[.slice (some ⟨w.heap.size, 0, none⟩) k k, .slice (some ⟨w.heap.size + 1, 0, none⟩) k k]) ∧ Rws k w.heap.size N V w' ∧ Below w.heap.size w w') := hbuild
  have hk2 : k ≤ 1100 := by omega
  clear hbuild hs ho hp hk h0 h1
  have hn1 : (nl : Int) ≤ 1024 := by omega
  have hn2 : (ol : Int) ≤ 1024 := by omega
  go_enter Yba.func3, Yba.ntmps3
  go_wp2_with fail
  refine HBu.out.mono ?_
  rintro e w1 ⟨N, V, rfl, hrw, hb1⟩
  have HRw : Hid (Rws k w.heap.size N V w1) := hrw
  have HB1 : Hid (Below w.heap.size w w1) := hb1
  have z1 := hrw.offs.lt
  clear hrw hb1 HBu
  go_wp2_with fail
  refine (new_any w1).mono ?_
  rintro e w2 ⟨g, cap, rfl, hb2⟩
  have HB2 : Hid (Below w1.heap.size w1 w2) := hb2
  have hsz2 := hb2.size
  clear hb2
  go_wp2_with (refine wpList_store_row rfl 35 (.tmp 10) (.tmp 39) rfl w2.heap.size (fresh (.slice (some ⟨g, 0, none⟩) 12 cap)) rfl rfl 35 (fresh (.slice none 0 0)) (heap_alloc_new w2 _) size35 rfl (fresh_one _ _ _) ?_)
  have rn : Run w.heap.size k w2.heap.size w2.heap.size (.slice (some ⟨g, 0, none⟩) 12 cap) N V w 0 ((w2.alloc (.cells (fresh (.slice none 0 0)) 35)).setRow w2.heap.size (fresh (.slice (some ⟨g, 0, none⟩) 12 cap))) :=
    ⟨(HRw.out.below z1 HB2.out).below (by omega) (below_made _ _ _), St.start _ _ _ _ _, (HB1.out.trans (HB2.out.mono HB1.out.size)).trans ((below_made _ _ _).mono (by have := HB1.out.size; omega)), by omega, (below_made w2 _ _).size⟩
  have HRn : Hid (Run w.heap.size k w2.heap.size w2.heap.size (.slice (some ⟨g, 0, none⟩) 12 cap) N V w 0 ((w2.alloc (.cells (fresh (.slice none 0 0)) 35)).setRow w2.heap.size (fresh (.slice (some ⟨g, 0, none⟩) 12 cap)))) := rn
  clear rn HRw HB2 HB1 z1 hsz2
  obtain ⟨mb, hmb⟩ : ∃ mb, mb = w2.heap.size := ⟨_, rfl⟩
  rw [← hmb] at HRn
  rw [← hmb]
  refine named (fun W => ∃ bv, bv = Value.slice (some ⟨g, 0, none⟩) 12 cap ∧ Run w.heap.size k mb mb bv N V w 0 W) ⟨_, rfl, HRn.out⟩ ?_
  rintro W ⟨bv, hbv, hW⟩
  have HW : Hid (Run w.heap.size k mb mb bv N V w 0 W) := hW
  have hmb2 : Hid (mb = w2.heap.size) := hmb
  have HV : Hid (bv = Value.slice (some ⟨g, 0, none⟩) 12 cap) := hbv
  clear hW HRn hmb hbv
  go_loopg [11] k (fun m i wr => ∃ q : Nat, q ≤ k ∧ m = k - q ∧ i = .int .i64 q ∧ Run w.heap.size k mb mb bv N V w q wr)
  case atStart => exact ⟨0, by omega, by omega, rfl, HW.out⟩
  case round =>
    obtain ⟨q, hq, hm, rfl, hr⟩ := hrel
    have HR : Hid (Run w.heap.size k mb mb bv N V w q wr) := hr
    clear hr HW
    by_cases hlt : q < k
    · have r1 := HR.out.rows.names.cell hlt
      have r2 := HR.out.rows.offs.cell hlt
      have hlt1 : (q : Int) < k := by omega
      go_wp2_with fail
      go_region_with (go_at_call 7; refine (remember_any mb mb q bv N V _ (by omega) (by exact HR.out.size) (by exact HR.out.st) (HR.out.rows.short q) (HR.out.rows.fits q)).mono ?_; rintro e w' ⟨rfl, hst, hb⟩)
      all_goals go_wp2_with fail
      all_goals go_roundg (k - (q + 1))
      all_goals first | omega | exact ⟨q + 1, by omega, rfl, by go_num, HR.out.next hst ((Below.refl mb wr).drew.trans hb)⟩
    · obtain rfl : k = q := by omega
      clear hlt hq hm
      have hge : ¬ ((k : Int) < k) := by omega
      have c0 : wr.cell? ⟨mb, 0, none⟩ = some (.slice (some ⟨g, 0, none⟩) 12 cap) := by
        obtain ⟨_, far, hr, _⟩ := HR.out.st
        rw [← HV.out]
        exact hr.cell (by omega)
      have c1 : wr.cell? ⟨mb, 1, none⟩ = some (.int .i64 0) := by
        obtain ⟨_, far, hr, _⟩ := HR.out.st
        exact hr.cell (by omega)
      have c34 : wr.cell? ⟨mb, 34, none⟩ = some (.int .i64 ((min k 16 : Nat) : Int)) := by
        obtain ⟨_, far, hr, _⟩ := HR.out.st
        exact hr.cell (by omega)
      by_cases hk16 : k ≤ 16
      · have hk17 : ¬ ((16 : Int) < k) := by omega
        rw [show min k 16 = k from by omega] at c34
        go_wp2_with fail
        clear c0 c1 c34
        go_loopg [13] k (fun m i wr2 => ∃ q : Nat, q ≤ k ∧ m = k - q ∧ i = .int .i64 q ∧ Run w.heap.size k mb mb bv N V w k wr2)
        case atStart => exact ⟨0, by omega, by omega, rfl, HR.out⟩
        case round =>
          obtain ⟨q, hq, hm, rfl, hr⟩ := hrel
          have HR2 : Hid (Run w.heap.size k mb mb bv N V w k wr) := hr
          clear hr HR
          by_cases hlt : q < k
          · have r1 := HR2.out.rows.names.cell (i := q) (by omega)
            have r2 := HR2.out.rows.offs.cell (i := q) (by omega)
            obtain ⟨n1, n2⟩ := HR2.out.near q (by omega) (by omega)
            have hlt1 : (q : Int) < k := by omega
            have hlt2 : (q : Int) < 16 := by omega
            have hlt3 : (q : Int) < k := by omega
            go_wp2_with fail
            go_quiet (fail)
            go_wp2_with fail
            go_roundg (k - (q + 1))
            case measure => omega
            case rel => exact ⟨q + 1, by omega, rfl, by go_num, HR2.out.drew _⟩
          · obtain rfl : k = q := by omega
            clear hq hm hlt
            have c35 : wr.cell? ⟨mb, 35, none⟩ = some (.map none) := by
              obtain ⟨_, far, hr, hf, _⟩ := HR2.out.st
              rw [hf hk16] at hr
              exact hr.cell (i := 35) (by omega)
            have hnil := fun W => run_eql_map_nil (P := Yba.prog) W 33 28 29 none Yba.underlying33
            have hk18 : ((k : Int) ≤ 16) := by omega
            go_wp2_with fail
            go_ret
            exact ⟨rfl, HR2.out.old⟩
      · have hk17 : ((16 : Int) < k) := by omega
        rw [show min k 16 = 16 from by omega] at c34
        go_wp2_with fail
        clear c0 c1 c34
        go_loopg [13] 16 (fun m i wr2 => ∃ q : Nat, q ≤ 16 ∧ m = 16 - q ∧ i = .int .i64 q ∧ Run w.heap.size k mb mb bv N V w k wr2)
        case atStart => exact ⟨0, by omega, by omega, rfl, HR.out⟩
        case round =>
          obtain ⟨q, hq, hm, rfl, hr⟩ := hrel
          have HR2 : Hid (Run w.heap.size k mb mb bv N V w k wr) := hr
          clear hr HR
          by_cases hlt : q < 16
          · have r1 := HR2.out.rows.names.cell (i := q) (by omega)
            have r2 := HR2.out.rows.offs.cell (i := q) (by omega)
            obtain ⟨n1, n2⟩ := HR2.out.near q (by omega) (by omega)
            have hlt1 : (q : Int) < 16 := by omega
            have hlt2 : (q : Int) < 16 := by omega
            have hlt3 : (q : Int) < k := by omega
            go_wp2_with fail
            go_quiet (fail)
            go_wp2_with fail
            go_roundg (16 - (q + 1))
            case measure => omega
            case rel => exact ⟨q + 1, by omega, rfl, by go_num, HR2.out.drew _⟩
          · obtain rfl : q = 16 := by omega
            clear hq hm hlt
            have hk18 : ¬ ((k : Int) ≤ 16) := by omega
            obtain ⟨mp, c35⟩ : ∃ mp, wr.cell? ⟨mb, 35, none⟩ = some (.map (some mp)) := by
              obtain ⟨_, far, hr, _, hf⟩ := HR2.out.st
              obtain ⟨mp, rfl, _⟩ := hf (by omega)
              exact ⟨mp, hr.cell (by omega)⟩
            have hnil := fun W => run_eql_map_nil (P := Yba.prog) W 33 28 29 (some mp) Yba.underlying33
            go_wp2_with fail
            clear c35 hnil
            go_loopg [14, 15] (k - 16) (fun m d i wr3 => ∃ q : Nat, 16 ≤ q ∧ q ≤ k ∧ m = k - q ∧ i = .int .i64 q ∧ d = .int .i64 (distinct N (q - 16) : Nat) ∧ Run w.heap.size k mb mb bv N V w k wr3)
            case atStart => exact ⟨16, by omega, by omega, by omega, rfl, rfl, HR2.out⟩
            case round =>
              obtain ⟨q, hq1, hq2, hm, rfl, rfl, hr⟩ := hrel
              have HR3 : Hid (Run w.heap.size k mb mb bv N V w k wr) := hr
              clear hr HR2
              by_cases hlt : q < k
              · have hlt1 : (q : Int) < k := by omega
                go_wp2_with fail
                go_loopg [16, 17] (q - 16) (fun m f j wr4 => ∃ r : Nat, 16 ≤ r ∧ r ≤ q ∧ m = q - r ∧ j = .int .i64 r ∧ f = .bool (!Maps.has (FD N (fun _ => 0) (r - 16)) (kl (N q))) ∧ Run w.heap.size k mb mb bv N V w k wr4)
                case atStart => exact ⟨16, by omega, by omega, by omega, rfl, rfl, HR3.out⟩
                case round =>
                  obtain ⟨r, hq3, hq4, hm3, rfl, rfl, hr⟩ := hrel
                  have HR4 : Hid (Run w.heap.size k mb mb bv N V w k wr) := hr
                  have r1 := hr.rows.names.cell hlt
                  clear hr HR3
                  by_cases hlt4 : r < q
                  · have r2 := HR4.out.rows.names.cell (i := r) (by omega)
                    have hlt5 : (r : Int) < q := by omega
                    have hlt6 : (r : Int) < k := by omega
                    by_cases he : N r = N q
                    · rw [he] at r2
                      have HE2 : Hid (N r = N q) := he
                      clear he
                      go_wp2_with fail
                      go_quiet (fail)
                      go_wp2_with fail
                      go_roundg (q - (r + 1))
                      case measure => omega
                      case rel => exact ⟨r + 1, by omega, by omega, rfl, by go_num, by rw [first_no hq3 HE2.out]; rfl, HR4.out.drew _⟩
                    · have hbe := beq_ne he
                      have HE2 : Hid (N r ≠ N q) := he
                      clear he
                      go_wp2_with fail
                      go_quiet (fail)
                      go_wp2_with fail
                      go_roundg (q - (r + 1))
                      case measure => omega
                      case rel => exact ⟨r + 1, by omega, by omega, rfl, by go_num, by rw [first_same hq3 HE2.out], HR4.out.drew _⟩
                  · obtain rfl : q = r := by omega
                    clear hlt4 hq3 hq4 hm3
                    rw [seen_eq N hq1]
                    have r3 := HR4.out.rows.offs.cell hlt
                    have hdl := distinct_le N (q - 16)
                    cases hsn : seen N (q - 16)
                    · have HSn : Hid (seen N (q - 16) = false) := hsn
                      clear hsn
                      go_wp2_with fail
                      clear r1 r3
                      go_loopg [18, 19] (k - (q + 1)) (fun mm l j wr5 => ∃ r m : Nat, q + 1 ≤ r ∧ r ≤ k ∧ mm = k - r ∧ j = .int .i64 r ∧ l = .int .u16 (V m) ∧ q ≤ m ∧ m < r ∧ N m = N q ∧ (∀ i, m < i → i < r → N i ≠ N q) ∧ Run w.heap.size k mb mb bv N V w k wr5)
                      case atStart => exact ⟨q + 1, q, by omega, by omega, rfl, by go_num, rfl, by omega, by omega, rfl, fun i h1 h2 => by omega, HR4.out⟩
                      case round =>
                        obtain ⟨r, m, hq3, hq4, hm3, rfl, rfl, hm4, hm5, hme, hml, hr⟩ := hrel
                        have HR5 : Hid (Run w.heap.size k mb mb bv N V w k wr) := hr
                        have HE : Hid (N m = N q) := hme
                        have HL : Hid (∀ i, m < i → i < r → N i ≠ N q) := hml
                        have r1 := hr.rows.names.cell hlt
                        clear hr HR4 hme hml
                        by_cases hlt5 : r < k
                        · have r2 := HR5.out.rows.names.cell hlt5
                          have r3 := HR5.out.rows.offs.cell hlt5
                          have hlt6 : (r : Int) < k := by omega
                          by_cases he : N r = N q
                          · rw [he] at r2
                            have HE2 : Hid (N r = N q) := he
                            clear he
                            go_wp2_with fail
                            go_quiet (fail)
                            go_wp2_with fail
                            go_roundg (k - (r + 1))
                            case measure => omega
                            case rel => exact ⟨r + 1, r, by omega, by omega, rfl, by go_num, rfl, by omega, by omega, HE2.out, fun i h1 h2 => by omega, HR5.out.drew _⟩
                          · have hbe := beq_ne he
                            have HE2 : Hid (N r ≠ N q) := he
                            clear he
                            go_wp2_with fail
                            go_quiet (fail)
                            go_wp2_with fail
                            go_roundg (k - (r + 1))
                            case measure => omega
                            case rel => exact ⟨r + 1, m, by omega, by omega, rfl, by go_num, rfl, by omega, by omega, HE.out, last_next HL.out HE2.out, HR5.out.drew _⟩
                        · obtain rfl : k = r := by omega
                          obtain ⟨mp, c35, _, _⟩ := HR5.out.look q m hq1 hm4 hm5 HE.out HL.out
                          have hlook2 : ∀ n, (Instr.lookup 33 (.map (some mp)) (.string (N q)) true).run Yba.prog (wr.drewN n) = .ok (.tuple #[.int .u16 (V m), .bool true]) (wr.drewN n) := by
                            intro n
                            obtain ⟨mp', c35', _, hlook'⟩ := (HR5.out.drew n).look q m hq1 hm4 hm5 HE.out HL.out
                            have : mp' = mp := by
                              have c36 : wr.cell? ⟨mb, 35, none⟩ = some (.map (some mp')) := c35'
                              rw [c35] at c36
                              simpa using c36.symm
                            rw [this] at hlook'
                            exact hlook'
                          clear hlt5
                          go_wp2_with fail
                          go_quiet (fail)
                          go_wp2_with fail
                          go_roundg (k - (q + 1))
                          case measure => omega
                          case rel => exact ⟨q + 1, by omega, by omega, rfl, by go_num, by rw [distinct_new hq1 HSn.out]; go_num, HR5.out.drew _⟩
                    · have HSn : Hid (seen N (q - 16) = true) := hsn
                      clear hsn
                      go_wp2_with fail
                      clear r1 r3
                      go_loopg [18, 19] (k - (q + 1)) (fun mm l j wr5 => ∃ r m : Nat, q + 1 ≤ r ∧ r ≤ k ∧ mm = k - r ∧ j = .int .i64 r ∧ l = .int .u16 (V m) ∧ q ≤ m ∧ m < r ∧ N m = N q ∧ (∀ i, m < i → i < r → N i ≠ N q) ∧ Run w.heap.size k mb mb bv N V w k wr5)
                      case atStart => exact ⟨q + 1, q, by omega, by omega, rfl, by go_num, rfl, by omega, by omega, rfl, fun i h1 h2 => by omega, HR4.out⟩
                      case round =>
                        obtain ⟨r, m, hq3, hq4, hm3, rfl, rfl, hm4, hm5, hme, hml, hr⟩ := hrel
                        have HR5 : Hid (Run w.heap.size k mb mb bv N V w k wr) := hr
                        have HE : Hid (N m = N q) := hme
                        have HL : Hid (∀ i, m < i → i < r → N i ≠ N q) := hml
                        have r1 := hr.rows.names.cell hlt
                        clear hr HR4 hme hml
                        by_cases hlt5 : r < k
                        · have r2 := HR5.out.rows.names.cell hlt5
                          have r3 := HR5.out.rows.offs.cell hlt5
                          have hlt6 : (r : Int) < k := by omega
                          by_cases he : N r = N q
                          · rw [he] at r2
                            have HE2 : Hid (N r = N q) := he
                            clear he
                            go_wp2_with fail
                            go_quiet (fail)
                            go_wp2_with fail
                            go_roundg (k - (r + 1))
                            case measure => omega
                            case rel => exact ⟨r + 1, r, by omega, by omega, rfl, by go_num, rfl, by omega, by omega, HE2.out, fun i h1 h2 => by omega, HR5.out.drew _⟩
                          · have hbe := beq_ne he
                            have HE2 : Hid (N r ≠ N q) := he
                            clear he
                            go_wp2_with fail
                            go_quiet (fail)
                            go_wp2_with fail
                            go_roundg (k - (r + 1))
                            case measure => omega
                            case rel => exact ⟨r + 1, m, by omega, by omega, rfl, by go_num, rfl, by omega, by omega, HE.out, last_next HL.out HE2.out, HR5.out.drew _⟩
                        · obtain rfl : k = r := by omega
                          obtain ⟨mp, c35, _, _⟩ := HR5.out.look q m hq1 hm4 hm5 HE.out HL.out
                          have hlook2 : ∀ n, (Instr.lookup 33 (.map (some mp)) (.string (N q)) true).run Yba.prog (wr.drewN n) = .ok (.tuple #[.int .u16 (V m), .bool true]) (wr.drewN n) := by
                            intro n
                            obtain ⟨mp', c35', _, hlook'⟩ := (HR5.out.drew n).look q m hq1 hm4 hm5 HE.out HL.out
                            have : mp' = mp := by
                              have c36 : wr.cell? ⟨mb, 35, none⟩ = some (.map (some mp')) := c35'
                              rw [c35] at c36
                              simpa using c36.symm
                            rw [this] at hlook'
                            exact hlook'
                          clear hlt5
                          go_wp2_with fail
                          go_quiet (fail)
                          go_wp2_with fail
                          go_roundg (k - (q + 1))
                          case measure => omega
                          case rel => exact ⟨q + 1, by omega, by omega, rfl, by go_num, by rw [distinct_seen hq1 HSn.out], HR5.out.drew _⟩
              · obtain rfl : k = q := by omega
                clear hlt hm hq2
                obtain ⟨mp, c35, hown⟩ : ∃ mp, wr.cell? ⟨mb, 35, none⟩ = some (.map (some mp)) ∧ wr.ownsMap Yba.prog 28 (plainElem (H := Unit) Yba.prog 29) mp (k - 16) (FD N V (k - 16)) := by
                  obtain ⟨_, far, hr, _, hf⟩ := HR3.out.st
                  obtain ⟨mp, rfl, _, hown⟩ := hf (by omega)
                  exact ⟨mp, hr.cell (i := 35) (by omega), hown⟩
                have HM : Hid (World.ownsMap _ _ _ _ _ _ _) := hown
                have HSz : Hid (Maps.size (FD N V (k - 16)) = distinct N (k - 16)) := FD_size N V (k - 16)
                clear hown
                go_wp2_with (at_len; refine wpList_len_own _ rfl (.tmp 169) 33 rfl 28 29 Yba.underlying33 _ mp _ _ rfl HM.out ?_; rw [HSz.out])
                go_ret
                exact ⟨rfl, HR3.out.old⟩
end Go.Proofs.Ybulkcnfw
