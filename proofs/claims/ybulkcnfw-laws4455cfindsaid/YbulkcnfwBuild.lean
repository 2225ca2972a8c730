/-
  wire.zzs4455cbuild: two new rows of one length: some names, some offsets.
-/
import Derived.Test.YbulkcnfwMsg
import Derived.Laws.Cover4
namespace Go.Proofs.Ybulkcnfw
open Go.RowKit

theorem Yba.info28 : (Yba.prog.info? 28).map (fun i => (i.zero, i.size, i.bytes)) = some (some (.string ⟨#[]⟩), 1, 16) := by kernel_rfl
theorem Yba.info29 : (Yba.prog.info? 29).map (fun i => (i.zero, i.size, i.bytes)) = some (some (.int .u16 0), 1, 2) := by kernel_rfl
/-- A new row of n empty names; of n noughts. -/
def noNames (n : Nat) : Array Value := madeCells #[.string ⟨#[]⟩] n
def noOffs (n : Nat) : Array Value := madeCells #[.int .u16 0] n
theorem make_names (n : Nat) (hn : n ≤ 2000) (w : World) : (Instr.makeSlice 24 (.int .i64 (n : Int)) (.int .i64 (n : Int))).run Yba.prog w = .ok (.slice (some ⟨w.heap.size, 0, none⟩) n n) (w.alloc (.cells (noNames n) 28)) :=
  run_make_row' (P := Yba.prog) 24 28 (.string ⟨#[]⟩) 16 Yba.underlying24 Yba.info28 rfl .i64 .i64 n (by omega) (by omega) w
theorem make_offs (n : Nat) (hn : n ≤ 2000) (w : World) : (Instr.makeSlice 23 (.int .i64 (n : Int)) (.int .i64 (n : Int))).run Yba.prog w = .ok (.slice (some ⟨w.heap.size, 0, none⟩) n n) (w.alloc (.cells (noOffs n) 29)) :=
  run_make_row' (P := Yba.prog) 23 29 (.int .u16 0) 2 Yba.underlying23 Yba.info29 rfl .i64 .i64 n (by omega) (by omega) w

/-- A slice of strings; a slice of uint16s among the arguments. -/
def Strs (w : World) (a : Option Addr) (n : Nat) (F : Nat → ByteArray) : Prop := 0 < n → ∃ b off, a = some ⟨b, off, none⟩ ∧ b < w.heap.size ∧ ∀ i, i < n → w.cell? ⟨b, off + i, none⟩ = some (.string (F i)) ∧ (F i).size ≤ maxLen
def Nums (w : World) (a : Option Addr) (n : Nat) (F : Nat → Int) : Prop := 0 < n → ∃ b off, a = some ⟨b, off, none⟩ ∧ b < w.heap.size ∧ ∀ i, i < n → w.cell? ⟨b, off + i, none⟩ = some (.int .u16 (F i)) ∧ 0 ≤ F i ∧ F i ≤ 65535

/-- The two rows: k names at block b, k offsets at block b + 1. -/
structure Rws (k b : Nat) (N : Nat → ByteArray) (V : Nat → Int) (w : World) : Prop where
  names : w.rowIs b 28 k (fun j => .string (N j))
  offs : w.rowIs (b + 1) 29 k (fun j => .int .u16 (V j))
  short : ∀ j, (N j).size ≤ maxLen
  fits : ∀ j, 0 ≤ V j ∧ V j ≤ 65535


theorem Rws.start (k : Nat) (w : World) : Rws k w.heap.size (fun _ => ⟨#[]⟩) (fun _ => 0) ((w.alloc (.cells (noNames k) 28)).alloc (.cells (noOffs k) 29)) where
  names := (World.rowIs_made w (.string ⟨#[]⟩) k 28).alloc _
  offs := by
    have := World.rowIs_made (w.alloc (.cells (noNames k) 28)) (.int .u16 0) k 29
    rwa [World.size_alloc] at this
  short := fun _ => Nat.zero_le _
  fits := fun _ => by omega
theorem Rws.set {k b q : Nat} {N : Nat → ByteArray} {V : Nat → Int} {w : World} (h : Rws k b N V w) (s : ByteArray) (v : Int) (hs : s.size ≤ maxLen) (h0 : 0 ≤ v) (h1 : v ≤ 65535) :
    Rws k b (fun j => if j = q then s else N j) (fun j => if j = q then v else V j) ((w.setCell ⟨b, q, none⟩ (.string s)).setCell ⟨b + 1, q, none⟩ (.int .u16 v)) where
  names := ((h.names.set q _).setOther (a := ⟨b + 1, q, none⟩) (by simp) _).congr fun j _ => by split <;> rfl
  offs := ((h.offs.setOther (a := ⟨b, q, none⟩) (by simp) _).set q _).congr fun j _ => by split <;> rfl
  short := fun j => by split; exact hs; exact h.short j
  fits := fun j => by split; exact ⟨h0, h1⟩; exact h.fits j
theorem Rws.below {k b : Nat} {N : Nat → ByteArray} {V : Nat → Int} {w w' : World} (h : Rws k b N V w) {B : Nat} (hB : b + 1 < B) (hb : Below B w w') : Rws k b N V w' :=
  { h with names := h.names.of_block (hb.block _ (by omega)), offs := h.offs.of_block (hb.block _ hB) }

theorem wrap7 (q : Nat) (h : q ≤ 2000) : IntKind.u16.wrap ((q : Int) * 7) = (q : Int) * 7 := by
  have : IntKind.u16.wrap ((q : Int) * 7) = ((q : Int) * 7) % 65536 := by simp [IntKind.wrap, IntKind.bits, IntKind.signed]
  rw [this]
  omega
theorem encode_short (i : Int) : (Utf8.encode i).size ≤ maxLen := Nat.le_trans (encode_size_le i) (by unfold maxLen; omega)
theorem mod_nat (q ol : Nat) (h : 0 < ol) : ∃ r : Nat, (q : Int) % (ol : Int) = (r : Int) ∧ r < ol := ⟨q % ol, by simp, Nat.mod_lt _ h⟩

set_option maxRecDepth 100000 in
set_option maxHeartbeats 1000000 in
theorem build_any (na oa : Option Addr) (nl nc ol oc p k : Nat) (pad : Int) (S : Nat → ByteArray) (U : Nat → Int) (w : World) (h0 : 0 ≤ pad) (h1 : pad ≤ 255) (hp : pad % 24 = (p : Int)) (hk : (p : Int) + nl = (k : Int)) (hnl : nl ≤ 1024) (hol : ol ≤ 1024)
    (hs : Strs w na nl S) (ho : Nums w oa ol U) :
    Calls Yba.prog 5 #[.slice na nl nc, .slice oa ol oc, .int .u8 pad] w fun e w' => ∃ N V, e = .returned (.tuple #[.slice (some ⟨w.heap.size, 0, none⟩) k k, .slice (some ⟨w.heap.size + 1, 0, none⟩) k k]) ∧ Rws k w.heap.size N V w' ∧ Below w.heap.size w w' := by
  have hk2 : k ≤ 2000 := by omega
  have mk1 := make_names k hk2
  have mk2 := make_offs k hk2
  have HS : Hid (Strs w na nl S) := hs
  have HO : Hid (Nums w oa ol U) := ho
  clear hs ho
  go_enter Yba.func5, Yba.ntmps5
  go_wp2_with fail
  clear mk1 mk2
  go_loopg [12] k (fun g i wr => ∃ (q : Nat) (N : Nat → ByteArray) (V : Nat → Int), q ≤ k ∧ g = k - q ∧ i = .int .i64 q ∧ Rws k w.heap.size N V wr ∧ Below w.heap.size w wr)
  case atStart => exact ⟨0, _, _, by omega, by omega, rfl, Rws.start k w, ((Below.refl _ w).alloc (Nat.le_refl _) _).alloc (by simp) _⟩
  case round =>
    obtain ⟨q, N, V, hq, hg, rfl, hr, hb⟩ := hrel
    have HR : Hid (Rws k w.heap.size N V wr) := hr
    have HB : Hid (Below w.heap.size w wr) := hb
    by_cases hlt : q < k
    · have r1 := hr.names.cell hlt
      have r2 := hr.offs.cell hlt
      have f1 := hr.names.frozen q
      have f2 := hr.offs.frozen q
      clear hr hb
      by_cases hqp : q < p
      · by_cases hol0 : 0 < ol
        · obtain ⟨b, off, rfl, hbs, hc⟩ := HO.out hol0
          obtain ⟨r, hr, hrl⟩ := mod_nat q ol hol0
          obtain ⟨c, c1, c2⟩ := hc r hrl
          rw [← HB.out.cell (p := ⟨b, _, none⟩) hbs] at c
          clear hc
          have hb1 : b ≠ w.heap.size := by omega
          have hol1 : 0 < (ol : Int) := by omega
          have hrl1 : (r : Int) < ol := by omega
          go_wp2_with fail
          go_roundg (k - (q + 1))
          case measure => omega
          case rel => exact ⟨q + 1, _, _, by omega, rfl, by go_num, HR.out.set (Utf8.encode (65 + (q : Int))) (U r) (encode_short _) c1 c2, (HB.out.setCell (p := ⟨w.heap.size, q, none⟩) (Nat.le_refl _) _).setCell (p := ⟨w.heap.size + 1, q, none⟩) (by simp) _⟩
        · have hol1 : ol = 0 := by omega
          subst hol1
          have hw7 := wrap7 q (by omega)
          go_wp2_with fail
          go_roundg (k - (q + 1))
          case measure => omega
          case rel => exact ⟨q + 1, _, _, by omega, rfl, by go_num, HR.out.set (Utf8.encode (65 + (q : Int))) ((q : Int) * 7) (encode_short _) (by omega) (by omega), (HB.out.setCell (p := ⟨w.heap.size, q, none⟩) (Nat.le_refl _) _).setCell (p := ⟨w.heap.size + 1, q, none⟩) (by simp) _⟩
      · obtain ⟨b2, off2, rfl, hbs2, hc2⟩ := HS.out (by omega)
        obtain ⟨r3, hr3⟩ : ∃ r3 : Nat, (q : Int) - p = r3 := ⟨q - p, by omega⟩
        have hr3l : r3 < nl := by omega
        obtain ⟨c3, c4⟩ := hc2 r3 hr3l
        rw [← HB.out.cell (p := ⟨b2, _, none⟩) hbs2] at c3
        have HC : Hid ((S r3).size ≤ maxLen) := c4
        clear hc2 c4
        have hr3i : (r3 : Int) < nl := by omega
        by_cases hol0 : 0 < ol
        · obtain ⟨b, off, rfl, hbs, hc⟩ := HO.out hol0
          obtain ⟨r, hr, hrl⟩ := mod_nat q ol hol0
          obtain ⟨c, c1, c2⟩ := hc r hrl
          rw [← HB.out.cell (p := ⟨b, _, none⟩) hbs] at c
          clear hc
          have hb1 : b ≠ w.heap.size := by omega
          have hol1 : 0 < (ol : Int) := by omega
          have hrl1 : (r : Int) < ol := by omega
          go_wp2_with fail
          go_roundg (k - (q + 1))
          case measure => omega
          case rel => exact ⟨q + 1, _, _, by omega, rfl, by go_num, HR.out.set (S r3) (U r) HC.out c1 c2, (HB.out.setCell (p := ⟨w.heap.size, q, none⟩) (Nat.le_refl _) _).setCell (p := ⟨w.heap.size + 1, q, none⟩) (by simp) _⟩
        · have hol1 : ol = 0 := by omega
          subst hol1
          have hw7 := wrap7 q (by omega)
          go_wp2_with fail
          go_roundg (k - (q + 1))
          case measure => omega
          case rel => exact ⟨q + 1, _, _, by omega, rfl, by go_num, HR.out.set (S r3) ((q : Int) * 7) HC.out (by omega) (by omega), (HB.out.setCell (p := ⟨w.heap.size, q, none⟩) (Nat.le_refl _) _).setCell (p := ⟨w.heap.size + 1, q, none⟩) (by simp) _⟩
    · go_wp2_with fail
      go_ret2
      exact ⟨N, V, rfl, HR.out, HB.out⟩
end Go.Proofs.Ybulkcnfw
