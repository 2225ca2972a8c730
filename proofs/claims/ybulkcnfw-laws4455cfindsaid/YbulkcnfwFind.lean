/-
  What the map of far names reads as; (*wire.Message).find: the walk.
-/
import Derived.Test.YbulkcnfwRemember
namespace Go.Proofs.Ybulkcnfw
open Go.RowKit Go.Maps Go.WideMaps

theorem isKey (s : ByteArray) : WideAt.IsKeyLit (kl s) := trivial
theorem FD_isMap (N : Nat → ByteArray) (V : Nat → Int) (m : Nat) : IsMap (FD N V m) := by
  induction m with
  | zero => exact isMap_empty
  | succ m ih => exact ih.put _ _
theorem FD_tidy (N : Nat → ByteArray) (V : Nat → Int) (m : Nat) : Tidy (FD N V m) := by
  induction m with
  | zero => exact tidy_empty
  | succ m ih => exact ih.put (isKey _) _
theorem FD_has (N : Nat → ByteArray) (V : Nat → Int) (m : Nat) (s : ByteArray) : Maps.has (FD N V m) (kl s) = true ↔ ∃ j, j < m ∧ N (16 + j) = s := by
  induction m with
  | zero => simp [FD, Maps.has]
  | succ m ih =>
    rw [FD]
    by_cases h : N (16 + m) = s
    · subst h
      rw [has_put_same (FD_isMap N V m) (isKey _)]
      exact ⟨fun _ => ⟨m, by omega, rfl⟩, fun _ => rfl⟩
    · rw [has_put_other (fun e => h (kl_inj e).symm), ih]
      constructor
      · rintro ⟨j, hj, e⟩
        exact ⟨j, by omega, e⟩
      · rintro ⟨j, hj, e⟩
        rcases Nat.lt_or_ge j m with h1 | h1
        · exact ⟨j, h1, e⟩
        · obtain rfl : j = m := by omega
          exact absurd e h
theorem FD_at (N : Nat → ByteArray) (V : Nat → Int) (m : Nat) (s : ByteArray) (d : DataW Unit) (j : Nat) (hj : j < m) (e : N (16 + j) = s) (hl : ∀ i, j < i → i < m → N (16 + i) ≠ s) : (FD N V m).atKey (kl s) d = .lit (.int .u16 (V (16 + j))) := by
  induction m with
  | zero => omega
  | succ m ih =>
    rw [FD]
    by_cases h : j = m
    · subst h
      rw [e, atKey_put_same (FD_isMap N V j) (isKey _)]
    · rw [atKey_put_other (fun e' => hl m (by omega) (by omega) (kl_inj e').symm)]
      exact ih (by omega) (fun i h1 h2 => hl i h1 (by omega))

/-- How many different names among 16 .. 16 + m - 1. -/
def seen (N : Nat → ByteArray) (i : Nat) : Bool := Maps.has (FD N (fun _ => 0) i) (kl (N (16 + i)))
def distinct (N : Nat → ByteArray) : Nat → Nat
  | 0 => 0
  | m + 1 => distinct N m + if seen N m then 0 else 1
theorem seen_iff (N : Nat → ByteArray) (i : Nat) : seen N i = true ↔ ∃ j, j < i ∧ N (16 + j) = N (16 + i) := FD_has N _ i _
theorem has_any (N : Nat → ByteArray) (V V' : Nat → Int) (m : Nat) (s : ByteArray) : Maps.has (FD N V m) (kl s) = Maps.has (FD N V' m) (kl s) := by
  rw [Bool.eq_iff_iff, FD_has, FD_has]
theorem FD_size (N : Nat → ByteArray) (V : Nat → Int) (m : Nat) : Maps.size (FD N V m) = distinct N m := by
  induction m with
  | zero => rfl
  | succ m ih =>
    rw [FD, size_put (FD_tidy N V m), distinct, ih, has_any N V (fun _ => 0)]
    show (if seen N m then distinct N m else distinct N m + 1) = _
    cases seen N m <;> rfl
theorem distinct_le (N : Nat → ByteArray) (m : Nat) : distinct N m ≤ m := by
  induction m with
  | zero => exact Nat.le_refl _
  | succ m ih => rw [distinct]; split <;> omega

/-- What find answers. -/
def Found (N : Nat → ByteArray) (V : Nat → Int) (k : Nat) (s : ByteArray) (c : Int) (ok : Bool) : Prop :=
  (∃ j, j < min k 16 ∧ N j = s ∧ (∀ i, i < j → N i ≠ s) ∧ c = V j ∧ ok = true) ∨
  ((∀ j, j < min k 16 → N j ≠ s) ∧ (16 < k → ok = Maps.has (FD N V (k - 16)) (kl s) ∧ (FD N V (k - 16)).atKey (kl s) (.lit (.int .u16 0)) = .lit (.int .u16 c)))

theorem no_more {N : Nat → ByteArray} {s : ByteArray} {j : Nat} (h : ∀ j', j' < j → N j' ≠ s) (he : N j ≠ s) : ∀ j', j' < j + 1 → N j' ≠ s := by
  intro j' hj
  rcases Nat.lt_or_ge j' j with h1 | h1
  · exact h j' h1
  · obtain rfl : j' = j := by omega
    exact he
theorem beq_ne {a b : ByteArray} (h : a ≠ b) : (a.toList == b.toList) = false := by
  rw [beq_eq_false_iff_ne]
  intro e
  rw [ByteArray.toList_eq, ByteArray.toList_eq] at e
  exact h (WideShapes.bytes_inj e)

set_option maxRecDepth 100000 in
set_option maxHeartbeats 1000000 in
theorem find_any (B mb k : Nat) (b : Value) (N : Nat → ByteArray) (V : Nat → Int) (s : ByteArray) (w : World) (hk : k ≤ 5000) (h : St B mb b N V k w) (hs : s.size ≤ maxLen) :
    Calls Yba.prog 8 #[.pointer (some ⟨mb, 0, none⟩), .string s] w fun e w' => ∃ c ok, e = .returned (.tuple #[.int .u16 c, .bool ok]) ∧ Found N V k s c ok ∧ Below w.heap.size w w' := by
  obtain ⟨hB, far, hr, hf0, hf1⟩ := h
  obtain ⟨nn, hnn⟩ : ∃ nn, nn = min k 16 := ⟨_, rfl⟩
  rw [← hnn] at hr
  have hn16 : nn ≤ 16 := by omega
  have c34 : w.cell? ⟨mb, 34, none⟩ = some (.int .i64 nn) := hr.cell (by omega)
  have c35 : w.cell? ⟨mb, 35, none⟩ = some (.map far) := hr.cell (by omega)
  have z1 := hr.lt
  have HR : Hid (w.rowIs mb 35 36 (msgF b N V nn far)) := hr
  have HF0 : Hid (k ≤ 16 → far = none) := hf0
  have HF1 : Hid (16 < k → ∃ mp, far = some mp ∧ B ≤ mp ∧ w.ownsMap Yba.prog 28 (plainElem (H := Unit) Yba.prog 29) mp (k - 16) (FD N V (k - 16))) := hf1
  have HN : Hid (nn = min k 16) := hnn
  clear hr hf0 hf1 hnn
  have hni : (nn : Int) ≤ 16 := by omega
  have hn0 : ¬ ((16 : Int) < (nn : Int)) := by omega
  have hn1 : ¬ ((nn : Int) < 0) := by omega
  go_enter Yba.func8, Yba.ntmps8
  go_wp2_with fail
  go_quiet (fail)
  go_wp2_with fail
  go_loopg [19] nn (fun g i wr => ∃ j : Nat, j ≤ nn ∧ g = nn - j ∧ i = .int .i64 j ∧ (∀ j', j' < j → N j' ≠ s) ∧ Below w.heap.size w wr)
  case atStart => exact ⟨0, by omega, by omega, rfl, fun j' h => absurd h (Nat.not_lt_zero _), ⟨rfl, rfl, rfl, Nat.le_refl _, fun _ _ => rfl⟩⟩
  case round =>
    obtain ⟨j, hj, hg, rfl, hno, hb⟩ := hrel
    have HB : Hid (Below w.heap.size w wr) := hb
    have HNo : Hid (∀ j', j' < j → N j' ≠ s) := hno
    have z2 : mb < wr.heap.size := by have := hb.size; omega
    have k35 : wr.cell? ⟨mb, 35, none⟩ = some (.map far) := (hb.cell (p := ⟨mb, 35, none⟩) z1).trans c35
    by_cases hlt : j < nn
    · have n1 := (hb.cell (p := ⟨mb, 2 + j * 2, none⟩) z1).trans (HR.out.cell (i := 2 + j * 2) (by omega))
      have n2 := (hb.cell (p := ⟨mb, 2 + j * 2 + 1, none⟩) z1).trans (HR.out.cell (i := 2 + j * 2 + 1) (by omega))
      rw [msgF_name _ _ _ _ _ _ (by omega), if_pos hlt] at n1
      rw [msgF_off _ _ _ _ _ _ (by omega), if_pos hlt] at n2
      clear hno hb c34 c35
      by_cases he : N j = s
      · rw [he] at n1
        have HE : Hid (N j = s) := he
        clear he
        go_wp2_with fail
        go_ret2
        exact ⟨V j, true, rfl, Or.inl ⟨j, by rw [← HN.out]; exact hlt, HE.out, HNo.out, rfl, rfl⟩, HB.out.alloc HB.out.size _⟩
      · have hbe := beq_ne he
        have HE : Hid (N j ≠ s) := he
        clear he
        go_wp2_with fail
        go_roundg (nn - (j + 1))
        case measure => omega
        case rel => exact ⟨j + 1, by omega, rfl, by go_num, no_more HNo.out HE.out, HB.out.alloc HB.out.size _⟩
    · obtain rfl : j = nn := by omega
      clear hno hb c34 c35
      have HK : Hid (keyOf Yba.prog 28 (.string s) = some (kl s)) := keyOf_string_mk Yba.underlying28 hs
      by_cases hk16 : 16 < k
      · obtain ⟨mp, rfl, hmp, hown⟩ := HF1.out hk16
        have hown' := hown.kept (row := none) ⟨HB.out.os, HB.out.tape, HB.out.output, HB.out.size, fun q hq _ => HB.out.block q hq⟩ (by simp)
        have HM : Hid (World.ownsMap _ _ _ _ _ _ _) := hown'
        clear hown hown'
        go_wp2_with (at_lookup; refine wpList_lookup_own_ok_int _ rfl (.tmp 34) (.tmp 35) 33 rfl 28 29 .u16 law Yba.underlying33 Yba.underlying29 (zero29 _) mp _ _ rfl HM.out _ _ rfl HK.out ?_; intro c hat hwc)
        go_ret2
        exact ⟨c, Maps.has (FD N V (k - 16)) (kl s), rfl, Or.inr ⟨by rw [← HN.out]; exact HNo.out, fun _ => ⟨rfl, hat⟩⟩, HB.out⟩
      · obtain rfl := HF0.out (by omega)
        have hln := fun W => Maps.look_nil (w := W) (P := Yba.prog) true law Yba.underlying33 (zero29 W) HK.out
        go_wp2_with fail
        go_ret2
        exact ⟨0, Or.inl ⟨rfl, Or.inr ⟨by rw [← HN.out]; exact HNo.out, fun h => absurd h hk16⟩, HB.out⟩⟩
end Go.Proofs.Ybulkcnfw
