/-
  node.LawS4454BPost: the walk.
-/
import Derived.Test.YbulkcnfiStage
import Derived.BigRegion
import Derived.Lib.Builder
namespace Go.Proofs.Ybulkcnfi
open Go.RowKit

theorem Yba.info27 : (Yba.prog.info? 27).map (fun i => (i.zero, i.size, i.bytes)) = some (some (.pointer none), 1, 8) := by kernel_rfl
theorem Yba.info28 : (Yba.prog.info? 28).map (fun i => (i.zero, i.size, i.bytes)) = some (some (.pointer none), 1, 8) := by kernel_rfl

theorem make_links (n : Nat) (hn : n ≤ 16) (w : World) : (Instr.makeSlice 25 (.int .i64 (n : Int)) (.int .i64 (n : Int))).run Yba.prog w = .ok (.slice (some ⟨w.heap.size, 0, none⟩) n n) (w.alloc (.cells (nils n) 27)) :=
  run_make_row' (P := Yba.prog) 25 27 (.pointer none) 8 Yba.underlying25 Yba.info27 rfl .i64 .i64 n (by omega) (by omega) w
theorem make_sess (n : Nat) (hn : n ≤ 16) (w : World) : (Instr.makeSlice 26 (.int .i64 (n : Int)) (.int .i64 (n : Int))).run Yba.prog w = .ok (.slice (some ⟨w.heap.size, 0, none⟩) n n) (w.alloc (.cells (nils n) 28)) :=
  run_make_row' (P := Yba.prog) 26 28 (.pointer none) 8 Yba.underlying26 Yba.info28 rfl .i64 .i64 n (by omega) (by omega) w
theorem make_send (n : Nat) (hn : n ≤ 1024) (w : World) : (Instr.makeSlice 43 (.int .i64 (n : Int)) (.int .i64 (n : Int))).run Yba.prog w = .ok (.slice (some ⟨w.heap.size, 0, none⟩) n n) (w.alloc (.cells (zeros n) 50)) := by
  obtain ⟨i0, hi, hz0, hz1, hz2⟩ := info_parts Yba.info50
  have := run_make (P := Yba.prog) w 43 50 i0 _ Yba.underlying43 hi hz0 .i64 .i64 n n (by omega) (Int.le_refl _) (by rw [hz2]; omega) (by omega)
  simp only [Int.toNat_natCast, hz1] at this
  exact this

/-- A slice of bools among the arguments. -/
def Bools (w : World) (a : Option Addr) (n : Nat) (F : Nat → Bool) : Prop := 0 < n → ∃ b off, a = some ⟨b, off, none⟩ ∧ b < w.heap.size ∧ ∀ i, i < n → w.cell? ⟨b, off + i, none⟩ = some (.bool (F i))
/-- The slice of messages among the arguments. -/
def Srcs (w : World) (a : Option Addr) (n : Nat) (src : Nat → Msg) : Prop := 0 < n → ∃ b off, a = some ⟨b, off, none⟩ ∧ b < w.heap.size ∧ ∀ i, i < n →
  (w.cell? ⟨b, off + i * 5, none⟩ = some (.int .u8 (src i).kd) ∧ w.cell? ⟨b, off + i * 5 + 1, none⟩ = some (.int .u8 (src i).fr) ∧ w.cell? ⟨b, off + i * 5 + 2, none⟩ = some (.int .u8 (src i).to) ∧
    w.cell? ⟨b, off + i * 5 + 3, none⟩ = some (.int .u64 (src i).tm) ∧ w.cell? ⟨b, off + i * 5 + 4, none⟩ = some (.int .u64 (src i).pd)) ∧ (0 ≤ (src i).fr ∧ (src i).fr ≤ 255 ∧ 0 ≤ (src i).to ∧ (src i).to ≤ 255)

theorem clone_n (bs n : Nat) (ms : List Msg) (w : World) (hn : ms.length = n) (hl : n ≤ 1024) (h : w.ownsRow bs 50 5 (.slice (some ⟨bs, 0, none⟩) n n) n (flat ms)) (hb : bs < w.heap.size) :
    Calls Yba.prog 4 #[.slice (some ⟨bs, 0, none⟩) n n] w fun e w' => ∃ g cap, e = .returned (.slice (some ⟨g, 0, none⟩) n cap) ∧ w'.ownsRow w.heap.size 50 5 (.slice (some ⟨g, 0, none⟩) n cap) n (flat ms) ∧ Below w.heap.size w w' := by
  subst hn
  exact clone_any bs ms w hl (Rd.of_own h) hb
theorem equal_n (b1 b2 n : Nat) (x1 x2 : Value) (ms : List Msg) (w : World) (hn : ms.length = n) (hl : n ≤ 1024) (h1 : w.ownsRow b1 50 5 x1 n (flat ms)) (h2 : w.ownsRow b2 50 5 x2 n (flat ms)) :
    Calls Yba.prog 7 #[x1, x2] w fun e w' => e = .returned (.bool true) ∧ ∃ n, w' = w.drewN n := by
  subst hn
  exact equal_any b1 b2 x1 x2 ms w hl h1 h2
theorem post_n {h nb k ml g cap : Nat} {up lo : Nat → Bool} {ms : List Msg} {x : Int} {w wo W : World} (a : At5 h nb k ml g cap up lo ms x w wo W) (hl : ml ≤ 1024) (hto : ∀ i (h : i < ms.length), 0 ≤ ms[i].to ∧ ms[i].to < k) (hx : IntKind.u64.wrap x = x) :
    Calls Yba.prog 6 #[.pointer (some ⟨nb, 0, none⟩), .slice (some ⟨wo.heap.size, 0, none⟩) ml ml] W fun e w' => e = .returned (.tuple #[]) ∧
      Ready h (nb + 1) nb k ml wo.heap.size g cap (sx up (h + 2)) (pos up (h + 2)) lo ms (IntKind.u64.wrap (x + upTo (sx up (h + 2)) ms)) w' ∧ Below h w w' := by
  have hn := a.len
  have p := post_any (nb + 1) k nb h wo.heap.size (sx up (h + 2)) (pos up (h + 2)) lo ms x W (by omega) hto a.wires (a.start hx)
  rw [hn] at p
  refine p.mono ?_
  rintro e w' ⟨rfl, hp⟩
  rw [← hn] at hp
  exact ⟨rfl, a.ready hp, a.old hp⟩

theorem neq_same (s : Nat) (w : World) : (binOp .neq 28 (.pointer (some ⟨s, 0, none⟩)) (.pointer (some ⟨s, 0, none⟩))).run Yba.prog w = .ok (.bool false) w := by
  obtain ⟨j, hj⟩ : ∃ j, Yba.prog.info? 45 = some j := by
    have h : (Yba.prog.info? 45).isSome = true := by kernel_rfl
    exact Option.isSome_iff_exists.1 h
  exact Lib.run_neq_ptr_same w _ Yba.underlying28 hj
theorem below_drewN' (w : World) (n : Nat) : Below w.heap.size w (w.drewN n) := ⟨rfl, rfl, rfl, Nat.le_refl _, fun _ _ => rfl⟩
theorem cnt_hit {q : Nat} {ms : List Msg} {n : Nat} (hn : n < ms.length) (h : ms[n].to = q) : cntTo q (ms.take (n + 1)) = cntTo q (ms.take n) + 1 := by rw [take_snoc hn, cntTo_snoc, if_pos h]
theorem cnt_miss {q : Nat} {ms : List Msg} {n : Nat} (hn : n < ms.length) (h : ms[n].to ≠ q) : cntTo q (ms.take (n + 1)) = cntTo q (ms.take n) := by rw [take_snoc hn, cntTo_snoc, if_neg h]; rfl
theorem out_hit {lo : Nat → Bool} {q : Nat} {ms : List Msg} {n : Nat} (hn : n < ms.length) (h : ms[n].to = q) (hl : lo q = false) : outOf lo q (ms.take (n + 1)) = outOf lo q (ms.take n) ++ [ms[n]] := by rw [take_snoc hn, outOf_hit hl _ h]
theorem out_miss {lo : Nat → Bool} {q : Nat} {ms : List Msg} {n : Nat} (hn : n < ms.length) (h : ms[n].to ≠ q) : outOf lo q (ms.take (n + 1)) = outOf lo q (ms.take n) := by rw [take_snoc hn, outOf_miss _ _ h]
theorem out_lost {lo : Nat → Bool} {q : Nat} {ms : List Msg} {n : Nat} (hl : lo q = true) : outOf lo q (ms.take (n + 1)) = outOf lo q (ms.take n) := by rw [outOf_lost hl, outOf_lost hl]
theorem cnt_val (a b : Nat) (h : a + b ≤ 2048) : Value.int .u64 (IntKind.u64.wrap ((a : Int) + (b : Int) + 1)) = .int .u64 ((a + (b + 1) : Nat) : Int) := by
  rw [show IntKind.u64.wrap ((a : Int) + (b : Int) + 1) = ((a + (b + 1) : Nat) : Int) from by rw [IntKind.wrap_u64]; omega]
theorem csum_bound (S : Nat → Option Nat) (ms : List Msg) (k r n : Nat) (hto : ∀ m ∈ ms, 0 ≤ m.to ∧ m.to < k) (hr : r < k) (hl : ms.length ≤ 1024) : csum S ms r + cntTo r (ms.take n) ≤ 2048 := by
  have h1 := csum_mono S ms (show r ≤ k from by omega)
  rw [csum_all S k ms hto] at h1
  have h2 := upTo_le S ms
  have h3 := cntTo_le r (ms.take n)
  have h4 := List.length_take_le n ms
  have h5 := List.length_take_le' n ms
  omega
theorem msgs_mem (k ml : Nat) (src : Nat → Msg) (hk : 0 < k) : ∀ m ∈ msgs k ml src, 0 ≤ m.to ∧ m.to < k := by
  intro m hm
  obtain ⟨i, hi, rfl⟩ := List.getElem_of_mem hm
  exact msgs_to k ml src hk i hi

set_option maxRecDepth 100000 in
set_option maxHeartbeats 4000000 in
theorem walk_small (sz base : Int) (ua la ma : Option Addr) (ul uc ll lc ml mc k : Nat) (U Lo : Nat → Bool) (src : Nat → Msg) (w : World) (h0 : 0 ≤ sz) (h1 : sz ≤ 255) (hk : sz % 16 + 1 = (k : Int)) (hml : ml ≤ 1024) (hul : ul ≤ maxLen) (hll : ll ≤ maxLen)
    (hbase : IntKind.u64.wrap base = base) (hu : Bools w ua ul U) (hl : Bools w la ll Lo) (hm : Srcs w ma ml src) :
    Calls Yba.prog 3 #[.int .u8 sz, .slice ua ul uc, .slice la ll lc, .slice ma ml mc, .int .u64 base] w fun e w' => e = .returned (.bool true) ∧ Below w.heap.size w w' := by
  unfold maxLen at hul hll
  have hk16 : k ≤ 16 := by omega
  have mk1 := make_links k hk16
  have mk2 := make_sess k hk16
  have mk3 := make_send ml hml
  have hk0 : 0 < (k : Int) := by omega
  have HU : Hid (Bools w ua ul U) := hu
  have HL : Hid (Bools w la ll Lo) := hl
  have HM : Hid (Srcs w ma ml src) := hm
  have HBs : Hid (IntKind.u64.wrap base = base) := hbase
  clear hu hl hm hbase
  go_enter Yba.func3, Yba.ntmps3
  go_wp2_with fail
  clear mk1 mk2
  go_loopg [14] k (fun g i wr => ∃ q : Nat, q ≤ k ∧ g = k - q ∧ i = .int .i64 q ∧ Built k w.heap.size (flag ul U) (flag ll Lo) w q wr)
  case atStart => exact ⟨0, by omega, by omega, rfl, Built.start k _ _ w⟩
  case round =>
    obtain ⟨q, hq, hg, rfl, hbt⟩ := hrel
    by_cases hlt : q < k
    · have r1 := hbt.links.cell hlt
      have r2 := hbt.sess.cell hlt
      simp only [Nat.lt_irrefl, if_false] at r1 r2
      have f1 := hbt.links.frozen q
      have f2 := hbt.sess.frozen q
      have z1 := hbt.links.lt
      have z2 := hbt.sess.lt
      have HB : Hid (Built k w.heap.size (flag ul U) (flag ll Lo) w q wr) := hbt
      clear hbt mk3 hk0
      by_cases hqu : q < ul
      · obtain ⟨b, off, rfl, hbs, hc⟩ := HU.out (by omega)
        have c := (HB.out.below.cell (p := ⟨b, off + q, none⟩) hbs).trans (hc q hqu)
        have hbs' : b < wr.heap.size := by omega
        clear hc
        rcases hU : U q with _ | _
        · rw [hU] at c
          have HF : Hid (flag ul U q = false) := flag_in hqu hU
          clear hU
          go_wp2_with fail
          go_roundg (k - (q + 1))
          case measure => omega
          case rel => exact ⟨q + 1, by omega, rfl, by go_num, HB.out.down HF.out⟩
        · rw [hU] at c
          have HF : Hid (flag ul U q = true) := flag_in hqu hU
          clear hU
          by_cases hql : q < ll
          · obtain ⟨b2, off2, rfl, hbs2, hc2⟩ := HL.out (by omega)
            have c2 := (HB.out.below.cell (p := ⟨b2, off2 + q, none⟩) hbs2).trans (hc2 q hql)
            have hbs2' : b2 < wr.heap.size := by omega
            clear hc2
            rcases hL : Lo q with _ | _
            · rw [hL] at c2
              have HG : Hid (flag ll Lo q = false) := flag_in hql hL
              clear hL
              go_wp2_with fail
              go_roundg (k - (q + 1))
              case measure => omega
              case rel => exact ⟨q + 1, by omega, rfl, by go_num, HB.out.up HF.out HG.out⟩
            · rw [hL] at c2
              have HG : Hid (flag ll Lo q = true) := flag_in hql hL
              clear hL
              go_wp2_with fail
              go_roundg (k - (q + 1))
              case measure => omega
              case rel => exact ⟨q + 1, by omega, rfl, by go_num, HB.out.up HF.out HG.out⟩
          · have HG : Hid (flag ll Lo q = false) := flag_out hql
            go_wp2_with fail
            go_roundg (k - (q + 1))
            case measure => omega
            case rel => exact ⟨q + 1, by omega, rfl, by go_num, HB.out.up HF.out HG.out⟩
      · have HF : Hid (flag ul U q = false) := flag_out hqu
        go_wp2_with fail
        go_roundg (k - (q + 1))
        case measure => omega
        case rel => exact ⟨q + 1, by omega, rfl, by go_num, HB.out.down HF.out⟩
    · obtain rfl : q = k := by omega
      have HB : Hid (Built q w.heap.size (flag ul U) (flag ll Lo) w q wr) := hbt
      clear hbt
      go_wp2_with fail
      clear mk3
      obtain ⟨wo, rfl⟩ : ∃ wo : World, wo = wr := ⟨_, rfl⟩
      have hms := msgs_length q ml src
      have HMs : Hid ((msgs q ml src).length = ml) := hms
      clear hms
      go_loopg [18] ml (fun g i wr => ∃ j : Nat, j ≤ ml ∧ g = ml - j ∧ i = .int .i64 j ∧ Filled wo.heap.size ml (msgs q ml src) (wo.alloc (.cells (zeros ml) 50)) j wr)
      case atStart => exact ⟨0, by omega, by omega, rfl, Filled.start wo ml _⟩
      case round =>
        obtain ⟨j, hj, hgj, rfl, hfl⟩ := hrel
        have HFl : Hid (Filled wo.heap.size ml (msgs q ml src) (wo.alloc (.cells (zeros ml) 50)) j wr) := hfl
        have hwo : w.heap.size + 2 ≤ wo.heap.size := by rw [HB.out.size]; exact pos_base _ _ _
        have hbw : Below w.heap.size w wr := (HB.out.below.trans ((below_alloc wo _).mono (by omega))).trans (hfl.below.mono (by omega))
        have HBw : Hid (Below w.heap.size w wr) := hbw
        by_cases hjl : j < ml
        · obtain ⟨b, off, rfl, hbs, hc⟩ := HM.out (by omega)
          obtain ⟨⟨s0, s1, s2, s3, s4⟩, g0, g1, g2, g3⟩ := hc j hjl
          rw [← hbw.cell (p := ⟨b, _, none⟩) hbs] at s0 s1 s2 s3 s4
          have f0 := hfl.free (j * 5)
          have f1 := hfl.free (j * 5 + 1)
          have f2 := hfl.free (j * 5 + 2)
          have f3 := hfl.free (j * 5 + 3)
          have f4 := hfl.free (j * 5 + 4)
          obtain ⟨x0, c0⟩ := hfl.cell (p := j * 5) (by omega)
          obtain ⟨x1, c1⟩ := hfl.cell (p := j * 5 + 1) (by omega)
          obtain ⟨x2, c2⟩ := hfl.cell (p := j * 5 + 2) (by omega)
          obtain ⟨x3, c3⟩ := hfl.cell (p := j * 5 + 3) (by omega)
          obtain ⟨x4, c4⟩ := hfl.cell (p := j * 5 + 4) (by omega)
          have z1 : wo.heap.size < wr.heap.size := hfl.lt
          have z2 : b < wr.heap.size := by omega
          clear hc hfl hbw
          go_wp2_with fail
          go_region
          go_wp2_with fail
          go_roundg (ml - (j + 1))
          case measure => omega
          case rel => exact ⟨j + 1, by omega, rfl, by go_num, HFl.out.step hjl (by rw [HMs.out]; exact hjl) (m := tgt q (src j)) (msgs_get _ _ _ _ _) _⟩
        · obtain rfl : j = ml := by omega
          clear hbw hfl
          go_wp2_with fail
          have hsz1 := HFl.out.lt
          have hown1 := HFl.out.own HMs.out hml
          refine (clone_n wo.heap.size j (msgs q j src) wr HMs.out hml hown1 hsz1).mono ?_
          rintro e w4 ⟨g, cap, rfl, horig, hb4⟩
          have HO1 : Hid (World.ownsRow _ _ _ _ _ _ _) := own_below hown1 hb4
          have HO2 : Hid (World.ownsRow _ _ _ _ _ _ _) := horig
          have HB4 : Hid (Below wr.heap.size wr w4) := hb4
          clear hown1 horig hb4
          go_wp2_with fail
          refine (store_any ⟨w4.heap.size, 11, none⟩ (.int .u64 0) base _ (blk_cell (heap_alloc_new w4 _) 11) (blk_free (heap_alloc_new w4 _) 11)).mono ?_
          rintro e w5 ⟨rfl, rfl⟩
          go_wp2_with fail
          have hA : At5 w.heap.size w4.heap.size q j g cap (flag ul U) (flag ll Lo) (msgs q j src) base w wo (w4.alloc (nodeObj w.heap.size q base)) := {
            built := HB.out
            below := ((((below_alloc wo _).trans (HFl.out.below.mono (Nat.le_refl _))).trans (HB4.out.mono (by omega)))).alloc (by have := HB4.out.size; omega) _
            send := HO1.out.alloc _
            orig := (HO2.out.mono (by omega)).alloc _
            node := heap_alloc_new w4 _
            last := by simp
            gnb := (HO2.out.lt g rfl).2
            len := HMs.out }
          have hq0 : 0 < q := by omega
          refine (post_n hA hml (msgs_to q j src hq0) HBs.out).mono ?_
          rintro e w6 ⟨rfl, hready, hold⟩
          have hmem := msgs_mem q j src hq0
          have HR : Hid (Ready _ _ _ _ _ _ _ _ _ _ _ _ _ _) := hready
          have HOld : Hid (Below w.heap.size w w6) := hold
          have HMem : Hid (∀ m ∈ msgs q j src, 0 ≤ m.to ∧ m.to < q) := hmem
          clear hA hready hold hmem HO1 HO2 HB4 HFl HBw HB hsz1 hwo HU HL HM
          generalize sx (flag ul U) (w.heap.size + 2) = S at HR
          generalize pos (flag ul U) (w.heap.size + 2) = L at HR
          generalize flag ll Lo = lo at HR
          generalize msgs q j src = ms at HR HMem HMs
          go_wp2_with fail
          go_loopg [22, 23] q (fun gg c i wr => ∃ r : Nat, r ≤ q ∧ gg = q - r ∧ i = .int .i64 r ∧ c = .int .u64 (csum S ms r) ∧ Ready w.heap.size (w4.heap.size + 1) w4.heap.size q j wo.heap.size g cap S L lo ms (IntKind.u64.wrap (base + upTo S ms)) wr ∧ Below w.heap.size w wr)
          case atStart => exact ⟨0, by omega, by omega, rfl, rfl, HR.out, HOld.out⟩
          case round =>
            obtain ⟨r, hr, hgr, rfl, rfl, hrd, hbr⟩ := hrel
            clear HR HOld
            have HR : Hid (Ready w.heap.size (w4.heap.size + 1) w4.heap.size q j wo.heap.size g cap S L lo ms (IntKind.u64.wrap (base + upTo S ms)) wr) := hrd
            have HOld : Hid (Below w.heap.size w wr) := hbr
            by_cases hrq : r < q
            · have e1 := hrd.sess.cell hrq
              have e2 := hrd.links.cell hrq
              have e3 := blk_cell (hrd.link r hrq) 2
              simp only [List.getElem?_toArray, List.getElem?_cons_succ, List.getElem?_cons_zero] at e3
              clear hrd hbr
              rcases hS : S r with _ | s
              · rw [hS] at e1 e3
                have e1' : wr.cell? ⟨w.heap.size + 1, r, none⟩ = some (.pointer none) := e1
                have e3' : wr.cell? ⟨L r, 2, none⟩ = some (.pointer none) := e3
                have HS : Hid (S r = none) := hS
                clear e1 e3 hS
                go_wp2_with fail
                go_roundg (q - (r + 1))
                case measure => omega
                case rel => exact ⟨r + 1, by omega, rfl, by go_num, by simp [csum, HS.out], HR.out, HOld.out⟩
              · rw [hS] at e1 e3
                have e1' : wr.cell? ⟨w.heap.size + 1, r, none⟩ = some (.pointer (some ⟨s, 0, none⟩)) := e1
                have e3' : wr.cell? ⟨L r, 2, none⟩ = some (.pointer (some ⟨s, 0, none⟩)) := e3
                have HS : Hid (S r = some s) := hS
                have hne := neq_same s
                clear e1 e3 hS
                go_wp2_with fail
                clear hne e1' e2 e3'
                obtain ⟨wl, rfl⟩ : ∃ wl : World, wl = wr := ⟨_, rfl⟩
                go_loopg [22, 25, 26] j (fun gg c v i wr => ∃ n : Nat, n ≤ j ∧ gg = j - n ∧ i = .int .i64 n ∧ c = .int .u64 ((csum S ms r + cntTo r (ms.take n) : Nat) : Int) ∧ wr.ownsRow wl.heap.size 50 5 v (outOf lo r (ms.take n)).length (flat (outOf lo r (ms.take n))) ∧ Below wl.heap.size wl wr)
                case atStart => exact ⟨0, by omega, by omega, rfl, by simp [cntTo], by simp only [List.take_zero]; rw [show outOf lo r [] = [] from by simp [outOf]]; exact World.ownsRow_nil _ _ _ _, Below.refl _ _⟩
                case round =>
                  obtain ⟨n, hn, hgn, rfl, rfl, hwant, hbl⟩ := hrel
                  have HW : Hid (World.ownsRow wr wl.heap.size 50 5 _ (outOf lo r (ms.take n)).length (flat (outOf lo r (ms.take n)))) := hwant
                  have HBl : Hid (Below wl.heap.size wl wr) := hbl
                  have HR2 : Hid (Ready w.heap.size (w4.heap.size + 1) w4.heap.size q j wo.heap.size g cap S L lo ms (IntKind.u64.wrap (base + upTo S ms)) wr) := HR.out.below hbl
                  clear hwant hbl
                  by_cases hnj : n < j
                  · have hnm : n < ms.length := by rw [HMs.out]; exact hnj
                    have hog := HR2.out.orig
                    rw [← HMs.out] at hog
                    obtain ⟨v0, v1, v2, v3, v4⟩ := (Rd.of_own hog).at hnm
                    clear hog
                    by_cases hto : ms[n].to = r
                    · have htb : (ms[n].to == (r : Int)) = true := by simpa using hto
                      have HT : Hid (ms[n].to = r) := hto
                      clear hto
                      obtain ⟨O, hnet⟩ := HR2.out.net
                      have hse := hnet.sess r s hrq HS.out
                      have k7 : wr.cell? ⟨s, 7, none⟩ = some (.bool (lo r)) := blk_cell hse 7
                      have hcb := csum_bound S ms q r n HMem.out hrq (by rw [HMs.out]; exact hml)
                      have HC : Hid (csum S ms r + cntTo r (ms.take n) ≤ 2048) := hcb
                      clear hnet hse hcb
                      rcases hlo : lo r with _ | _
                      · rw [hlo] at k7
                        have HLo : Hid (lo r = false) := hlo
                        clear hlo
                        obtain ⟨i0, hi, hz0, hz1, hz2⟩ := info_parts Yba.info50
                        have ho1 := outOf_le lo r (ms.take n)
                        have ho2 := List.length_take_le n ms
                        go_wp2_with (at_builtin; refine wpList_append_own _ rfl (.tmp 167) (.tmp 172) 43 rfl wl.heap.size 50 i0 _ 5 40 Yba.underlying43 hi hz0 hz1 hz2 rfl (by decide) _ _ _ rfl (by exact HW.out.alloc _) ⟨wr.heap.size, 0, none⟩ 1 1 ms[n].cells rfl rfl ?c1 ?c2 ?c3 ?c4 ?c5 ?_)
                        case c1 => exact news_new wr _ _
                        case c2 => exact msg_one _ _ _ _ _
                        case c3 => unfold maxLen; omega
                        case c4 => omega
                        case c5 => exact le_alloc HBl.out.size _
                        · intro v' w1 hown' hgrow' _
                          have HW1 : Hid (World.ownsRow w1 wl.heap.size 50 5 v' ((outOf lo r (ms.take n)).length + 1) (flat (outOf lo r (ms.take n)) ++ ms[n].cells)) := hown'
                          have HB1 : Hid (Below wl.heap.size wl w1) := ((HBl.out.alloc HBl.out.size _).grown hgrow' (le_alloc HBl.out.size _) (fun k hk => (HW.out.lt k hk).1))
                          clear hown' hgrow' hi hz0 hz1 hz2 ho1 ho2 v0 v1 v2 v3 v4 k7
                          go_wp2_with fail
                          go_roundg (j - (n + 1))
                          case measure => omega
                          case rel => exact ⟨n + 1, by omega, rfl, by go_num, by rw [cnt_hit hnm HT.out]; exact cnt_val _ _ HC.out, by rw [out_hit hnm HT.out HLo.out, flat_snoc, List.length_append]; exact HW1.out, HB1.out⟩
                      · rw [hlo] at k7
                        have HLo : Hid (lo r = true) := hlo
                        clear hlo
                        go_wp2_with fail
                        go_roundg (j - (n + 1))
                        case measure => omega
                        case rel => exact ⟨n + 1, by omega, rfl, by go_num, by rw [cnt_hit hnm HT.out]; exact cnt_val _ _ HC.out, by rw [out_lost HLo.out]; exact HW.out, HBl.out⟩
                    · have htb : (ms[n].to == (r : Int)) = false := by simpa using hto
                      have HT : Hid (ms[n].to ≠ r) := hto
                      clear hto
                      go_wp2_with fail
                      go_roundg (j - (n + 1))
                      case measure => omega
                      case rel => exact ⟨n + 1, by omega, rfl, by go_num, by rw [cnt_miss hnm HT.out], by rw [out_miss hnm HT.out]; exact HW.out, HBl.out⟩
                  · obtain rfl : n = j := by omega
                    obtain ⟨O, hnet⟩ := HR2.out.net
                    have hse := hnet.sess r s hrq HS.out
                    have k6 : wr.cell? ⟨s, 6, none⟩ = some (O r) := blk_cell hse 6
                    have hown1 := hnet.own r s hrq HS.out
                    have hw2 := HW.out
                    have htk : ms.take n = ms := by rw [← HMs.out]; exact List.take_length
                    rw [htk] at hw2
                    have hle := outOf_le lo r ms
                    rw [HMs.out] at hle
                    have HE : Hid (World.ownsRow wr (w4.heap.size + 1) 50 5 (O r) (outOf lo r ms).length (flat (outOf lo r ms))) := hown1
                    have HE2 : Hid (World.ownsRow wr wl.heap.size 50 5 _ (outOf lo r ms).length (flat (outOf lo r ms))) := hw2
                    have HTk : Hid (ms.take n = ms) := htk
                    clear hnet hse hown1 hw2 htk
                    go_wp2_with fail
                    refine (equal_n _ _ _ _ _ (outOf lo r ms) _ rfl (by omega) HE.out HE2.out).mono ?_
                    rintro e w7 ⟨rfl, nd, rfl⟩
                    go_wp2_with fail
                    go_roundg (q - (r + 1))
                    case measure => omega
                    case rel => exact ⟨r + 1, by omega, rfl, by go_num, by rw [HTk.out]; simp [csum, HS.out], HR2.out.below (below_drewN' _ _), (HOld.out.trans (HBl.out.mono HOld.out.size)).trans ((below_drewN' wr nd).mono (by have := HOld.out.size; have := HBl.out.size; omega))⟩
            · obtain rfl : r = q := by omega
              have k11 : wr.cell? ⟨w4.heap.size, 11, none⟩ = some (.int .u64 (IntKind.u64.wrap (base + upTo S ms))) := blk_cell hrd.node 11
              have hcs := csum_all S r ms HMem.out
              clear hrd hbr
              rw [hcs]
              clear hcs
              go_wp2_with fail
              refine (load_any ⟨w4.heap.size, 11, none⟩ _ _ k11).mono ?_
              rintro e w8 ⟨rfl, rfl⟩
              clear k11
              go_wp2_with fail
              refine (equal_n _ _ _ _ _ ms _ HMs.out hml HR.out.send HR.out.orig).mono ?_
              rintro e w9 ⟨rfl, nd, rfl⟩
              go_wp2_with fail
              go_ret
              exact ⟨rfl, HOld.out.trans ((below_drewN' _ _).mono HOld.out.size)⟩

set_option maxRecDepth 100000 in
theorem walk_big (sz base : Int) (ua la ma : Option Addr) (ul uc ll lc ml mc : Nat) (w : World) (hml : 1024 < ml) :
    Calls Yba.prog 3 #[.int .u8 sz, .slice ua ul uc, .slice la ll lc, .slice ma ml mc, .int .u64 base] w fun e w' => e = .returned (.bool true) ∧ Below w.heap.size w w' := by
  go_enter Yba.func3, Yba.ntmps3
  go_wp2_with fail
  go_ret
  exact ⟨rfl, Below.refl _ _⟩

theorem walk (sz base : Int) (ua la ma : Option Addr) (ul uc ll lc ml mc : Nat) (U Lo : Nat → Bool) (src : Nat → Msg) (w : World) (h0 : 0 ≤ sz) (h1 : sz ≤ 255) (hul : ul ≤ maxLen) (hll : ll ≤ maxLen)
    (hbase : IntKind.u64.wrap base = base) (hu : Bools w ua ul U) (hl : Bools w la ll Lo) (hm : Srcs w ma ml src) :
    Calls Yba.prog 3 #[.int .u8 sz, .slice ua ul uc, .slice la ll lc, .slice ma ml mc, .int .u64 base] w fun e w' => e = .returned (.bool true) ∧ Below w.heap.size w w' := by
  by_cases hml : ml ≤ 1024
  · obtain ⟨k, hk⟩ := Int.eq_ofNat_of_zero_le (show 0 ≤ sz % 16 + 1 from by omega)
    exact walk_small sz base ua la ma ul uc ll lc ml mc k U Lo src w h0 h1 hk hml hul hll hbase hu hl hm
  · exact walk_big sz base ua la ma ul uc ll lc ml mc w (by omega)
end Go.Proofs.Ybulkcnfi
