/-
  (*wire.Message).remember: the walk.
-/
import Derived.Test.YbulkcnfwMem
import Derived.BigRegion
namespace Go.Proofs.Ybulkcnfw
open Go.RowKit Go.Maps Go.WideMaps

set_option maxRecDepth 100000 in
set_option maxHeartbeats 1000000 in
theorem remember_near (B mb i : Nat) (b : Value) (N : Nat → ByteArray) (V : Nat → Int) (w : World) (hi : i < 16) (h : St B mb b N V i w) :
    Calls Yba.prog 7 #[.pointer (some ⟨mb, 0, none⟩), .string (N i), .int .u16 (V i)] w fun e w' => e = .returned (.tuple #[]) ∧ St B mb b N V (i + 1) w' ∧ Below B w w' := by
  have HS : Hid (St B mb b N V i w) := h
  obtain ⟨hB, far, hr, hf, _⟩ := h
  obtain rfl := hf (by omega)
  rw [show min i 16 = i from by omega] at hr
  have c34 : w.cell? ⟨mb, 34, none⟩ = some (.int .i64 i) := hr.cell (by omega)
  have c1 := hr.cell (i := 2 + i * 2) (by omega)
  have c2 := hr.cell (i := 2 + i * 2 + 1) (by omega)
  have f34 := hr.frozen 34
  have f1 := hr.frozen (2 + i * 2)
  have f2 := hr.frozen (2 + i * 2 + 1)
  clear hr hf
  have hi' : (i : Int) < 16 := by omega
  go_enter Yba.func7, Yba.ntmps7
  go_wp2_with fail
  go_region
  go_wp2_with fail
  refine bodyPost_ret (results_none rfl _ _ _) rfl ⟨rfl, HS.out.near hi 1, ?_⟩
  exact ((((Below.refl B w).setCell (p := ⟨mb, 2 + i * 2, none⟩) hB _).setCell (p := ⟨mb, 2 + i * 2 + 1, none⟩) hB _).setCell (p := ⟨mb, 34, none⟩) hB _).drew

/-- The seventeenth name: the map is made. -/
theorem St.first {B mb : Nat} {b : Value} {N : Nat → ByteArray} {V : Nat → Int} {w w1 : World} (h : St B mb b N V 16 w) (hb : B ≤ w.heap.size)
    (hown : w1.ownsMap Yba.prog 28 (plainElem (H := Unit) Yba.prog 29) w.heap.size 1 (FD N V 1)) (hg : ((w.setCell ⟨mb, 35, none⟩ (.map (some w.heap.size))).alloc (.map #[] 0)).grownBy w1 (some w.heap.size)) :
    St B mb b N V 17 w1 ∧ Below B w w1 := by
  obtain ⟨hB, far, hr, hf, _⟩ := h
  obtain rfl := hf (by omega)
  have hlt := hr.lt
  refine ⟨⟨hB, some w.heap.size, ?_, fun h => by omega, fun _ => ⟨_, rfl, hb, hown⟩⟩, ?_⟩
  · have h1 := ((hr.set 35 (.map (some w.heap.size))).alloc (.map #[] 0)).congr (g := msgF b N V (min 17 16) (some w.heap.size)) (fun j _ => msgF_far _ _ _ _ _ _ _)
    exact h1.of_block (hg.block mb (by simp; omega) (by simp; omega))
  · exact (((Below.refl B w).setCell (p := ⟨mb, 35, none⟩) hB _).alloc (by simpa using hb) _).grown hg (by simp; omega) (fun k hk => by simp only [Option.some.injEq] at hk; omega)

/-- A later name: a store into the map. -/
theorem St.later {B mb i mp : Nat} {b : Value} {N : Nat → ByteArray} {V : Nat → Int} {w w1 : World} (hi : 16 < i) (hB : B ≤ mb) (hr : w.rowIs mb 35 36 (msgF b N V (min i 16) (some mp))) (hmp : B ≤ mp) (hb : B ≤ w.heap.size) (hne : mb ≠ mp)
    (hown : w1.ownsMap Yba.prog 28 (plainElem (H := Unit) Yba.prog 29) mp (i - 16 + 1) (FD N V (i - 16 + 1))) (hg : w.grownBy w1 (some mp)) : St B mb b N V (i + 1) w1 ∧ Below B w w1 := by
  refine ⟨⟨hB, some mp, ?_, fun h => by omega, fun _ => ⟨mp, rfl, hmp, ?_⟩⟩, (Below.refl B w).grown hg hb (fun k hk => by simp only [Option.some.injEq] at hk; omega)⟩
  · rw [show min (i + 1) 16 = min i 16 from by omega]
    exact hr.of_block (hg.block mb hr.lt (by simpa using hne))
  · rw [show i + 1 - 16 = i - 16 + 1 from by omega]
    exact hown

theorem wf16 {v : Int} (h : 0 ≤ v ∧ v ≤ 65535) : (Lit.int .u16 v).wf = true := by
  simp [Lit.wf, IntKind.min, IntKind.max, IntKind.bits, IntKind.signed]
  omega

set_option maxRecDepth 100000 in
set_option maxHeartbeats 1000000 in
theorem remember_first (B mb : Nat) (b : Value) (N : Nat → ByteArray) (V : Nat → Int) (w : World) (hb : B ≤ w.heap.size) (h : St B mb b N V 16 w) (hs : (N 16).size ≤ maxLen) (hv : 0 ≤ V 16 ∧ V 16 ≤ 65535) :
    Calls Yba.prog 7 #[.pointer (some ⟨mb, 0, none⟩), .string (N 16), .int .u16 (V 16)] w fun e w' => e = .returned (.tuple #[]) ∧ St B mb b N V 17 w' ∧ Below B w w' := by
  have HS : Hid (St B mb b N V 16 w) := h
  obtain ⟨hB, far, hr, hf, _⟩ := h
  obtain rfl := hf (by omega)
  have c34 : w.cell? ⟨mb, 34, none⟩ = some (.int .i64 16) := hr.cell (by omega)
  have c35 : w.cell? ⟨mb, 35, none⟩ = some (.map none) := hr.cell (by omega)
  have f35 := hr.frozen 35
  have z1 := hr.lt
  have hkey := keyOf_string_mk Yba.underlying28 hs
  have hmm := @run_makeMap Yba.prog
  have hnil := fun W => run_eql_map_nil (P := Yba.prog) W 33 28 29 none Yba.underlying33
  have hel := plainElem_int (H := Unit) Yba.underlying29 (wf16 hv)
  have HW : Hid (keyOf Yba.prog 28 (.string (N 16)) = some (kl (N 16))) := hkey
  have HE : Hid (plainElem (H := Unit) Yba.prog 29 (.int .u16 (V 16)) = some (.lit (.int .u16 (V 16)), [])) := hel
  clear hr hf hkey hel
  have hm0 : ((w.setCell ⟨mb, 35, none⟩ (.map (some w.heap.size))).alloc (.map #[] 0)).ownsMap Yba.prog 28 (plainElem (H := Unit) Yba.prog 29) w.heap.size 0 (.map []) := by
    have := World.ownsMap_made (w.setCell ⟨mb, 35, none⟩ (.map (some w.heap.size))) Yba.prog 28 (plainElem (H := Unit) Yba.prog 29)
    rwa [World.size_setCell] at this
  have HM : Hid (World.ownsMap _ _ _ _ _ _ _) := hm0
  clear hm0
  go_enter Yba.func7, Yba.ntmps7
  go_wp2_with (at_mapUpdate; refine wpList_mapUpdate_own _ rfl (.tmp 41) (.tmp 42) (.tmp 43) 33 rfl 28 29 law Yba.underlying33 _ w.heap.size 0 _ rfl HM.out (by unfold maxLen; omega) _ _ _ rfl rfl HW.out _ [] HE.out ?_; intro w1 hown1 hgrow1)
  obtain ⟨hs1, hb1⟩ := HS.out.first hb hown1 hgrow1
  go_end0
  exact ⟨rfl, hs1, hb1⟩

set_option maxRecDepth 100000 in
set_option maxHeartbeats 1000000 in
theorem remember_later (B mb i : Nat) (b : Value) (N : Nat → ByteArray) (V : Nat → Int) (w : World) (hi : 16 < i) (hi2 : i ≤ 5000) (hb : B ≤ w.heap.size) (h : St B mb b N V i w) (hs : (N i).size ≤ maxLen) (hv : 0 ≤ V i ∧ V i ≤ 65535) :
    Calls Yba.prog 7 #[.pointer (some ⟨mb, 0, none⟩), .string (N i), .int .u16 (V i)] w fun e w' => e = .returned (.tuple #[]) ∧ St B mb b N V (i + 1) w' ∧ Below B w w' := by
  obtain ⟨hB, far, hr, _, hf⟩ := h
  obtain ⟨mp, rfl, hmp, hown⟩ := hf hi
  have hr16 : w.rowIs mb 35 36 (msgF b N V 16 (some mp)) := by rwa [show min i 16 = 16 from by omega] at hr
  have c34 : w.cell? ⟨mb, 34, none⟩ = some (.int .i64 16) := hr16.cell (by omega)
  have c35 : w.cell? ⟨mb, 35, none⟩ = some (.map (some mp)) := hr16.cell (by omega)
  have hne : mb ≠ mp := fun e => by
    subst e
    obtain ⟨c, hc, _⟩ := hr
    obtain ⟨es, cl, hm, _⟩ := hown
    rw [hc] at hm
    cases hm
  have hnil := fun W => run_eql_map_nil (P := Yba.prog) W 33 28 29 (some mp) Yba.underlying33
  have HW : Hid (keyOf Yba.prog 28 (.string (N i)) = some (kl (N i))) := keyOf_string_mk Yba.underlying28 hs
  have HE : Hid (plainElem (H := Unit) Yba.prog 29 (.int .u16 (V i)) = some (.lit (.int .u16 (V i)), [])) := plainElem_int (H := Unit) Yba.underlying29 (wf16 hv)
  have HM : Hid (World.ownsMap _ _ _ _ _ _ _) := hown
  have HR : Hid (w.rowIs mb 35 36 (msgF b N V (min i 16) (some mp))) := hr
  clear hr hr16 hf hown
  go_enter Yba.func7, Yba.ntmps7
  go_wp2_with (at_mapUpdate; refine wpList_mapUpdate_own _ rfl (.tmp 41) (.tmp 42) (.tmp 43) 33 rfl 28 29 law Yba.underlying33 _ mp (i - 16) _ rfl HM.out (by unfold maxLen; omega) _ _ _ rfl rfl HW.out _ [] HE.out ?_; intro w1 hown1 hgrow1)
  have hfd : FD N V (i - 16 + 1) = (FD N V (i - 16)).put (kl (N i)) (.lit (.int .u16 (V i))) := by rw [FD, show 16 + (i - 16) = i from by omega]
  rw [← hfd] at hown1
  obtain ⟨hs1, hb1⟩ := St.later hi hB HR.out hmp hb hne hown1 hgrow1
  go_end0
  exact ⟨rfl, hs1, hb1⟩

theorem remember_any (B mb i : Nat) (b : Value) (N : Nat → ByteArray) (V : Nat → Int) (w : World) (hi2 : i ≤ 5000) (hb : B ≤ w.heap.size) (h : St B mb b N V i w) (hs : (N i).size ≤ maxLen) (hv : 0 ≤ V i ∧ V i ≤ 65535) :
    Calls Yba.prog 7 #[.pointer (some ⟨mb, 0, none⟩), .string (N i), .int .u16 (V i)] w fun e w' => e = .returned (.tuple #[]) ∧ St B mb b N V (i + 1) w' ∧ Below B w w' := by
  rcases Nat.lt_trichotomy i 16 with h1 | h1 | h1
  · exact remember_near B mb i b N V w h1 h
  · subst h1
    exact remember_first B mb b N V w hb h hs hv
  · exact remember_later B mb i b N V w h1 hi2 hb h hs hv
end Go.Proofs.Ybulkcnfw
