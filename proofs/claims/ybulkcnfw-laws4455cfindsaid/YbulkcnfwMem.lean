/-
  A message in memory behind i calls of remember; what the map in its field reads as.
-/
import Derived.Test.YbulkcnfwBuild
import Derived.Maps.OwnSet
import Derived.Maps.OwnOps
import Derived.WalkSpells
namespace Go.Proofs.Ybulkcnfw
open Go.RowKit Go.Maps

/-- The message's cell j: nn names kept near, the map far. -/
def msgF (b : Value) (N : Nat → ByteArray) (V : Nat → Int) (nn : Nat) (far : Option Nat) (j : Nat) : Value :=
  if j = 0 then b else if j = 1 then .int .i64 0 else if j = 34 then .int .i64 nn else if j = 35 then .map far
  else if j % 2 = 0 then .string (if (j - 2) / 2 < nn then N ((j - 2) / 2) else ⟨#[]⟩) else .int .u16 (if (j - 3) / 2 < nn then V ((j - 3) / 2) else 0)

theorem msgF_name (b : Value) (N : Nat → ByteArray) (V : Nat → Int) (nn : Nat) (far : Option Nat) (i : Nat) (hi : i < 16) : msgF b N V nn far (2 + i * 2) = .string (if i < nn then N i else ⟨#[]⟩) := by
  have e : (2 + i * 2 - 2) / 2 = i := by omega
  simp only [msgF, e]
  rw [if_neg (by omega), if_neg (by omega), if_neg (by omega), if_neg (by omega), if_pos (by omega)]
theorem msgF_off (b : Value) (N : Nat → ByteArray) (V : Nat → Int) (nn : Nat) (far : Option Nat) (i : Nat) (hi : i < 16) : msgF b N V nn far (2 + i * 2 + 1) = .int .u16 (if i < nn then V i else 0) := by
  have e : (2 + i * 2 + 1 - 3) / 2 = i := by omega
  simp only [msgF, e]
  rw [if_neg (by omega), if_neg (by omega), if_neg (by omega), if_neg (by omega), if_neg (by omega)]

/-- The key that a name is. -/
abbrev kl (s : ByteArray) : Lit := .string s.data.toList
theorem kl_inj {s t : ByteArray} (h : kl s = kl t) : s = t := by
  simp only [Lit.string.injEq] at h
  obtain ⟨⟨l⟩⟩ := s
  obtain ⟨⟨m⟩⟩ := t
  simpa using h
/-- What the map reads as behind m stores: names 16 to 16 + m - 1. -/
def FD (N : Nat → ByteArray) (V : Nat → Int) : Nat → DataW Unit
  | 0 => .map []
  | m + 1 => (FD N V m).put (kl (N (16 + m))) (.lit (.int .u16 (V (16 + m))))

/-- Behind i calls of remember. B: where the message's own blocks begin. -/
def St (B mb : Nat) (b : Value) (N : Nat → ByteArray) (V : Nat → Int) (i : Nat) (w : World) : Prop :=
  B ≤ mb ∧ ∃ far, w.rowIs mb 35 36 (msgF b N V (min i 16) far) ∧ (i ≤ 16 → far = none) ∧ (16 < i → ∃ mp, far = some mp ∧ B ≤ mp ∧ w.ownsMap Yba.prog 28 (plainElem (H := Unit) Yba.prog 29) mp (i - 16) (FD N V (i - 16)))

theorem law : Keyed Yba.prog 28 := string_keyed Yba.underlying28
theorem zero29 (w : World) : (zeroValue 29).run Yba.prog w = .ok (.int .u16 0) w := by kernel_rfl

/-- One name more near. -/
theorem St.near {B mb i : Nat} {b : Value} {N : Nat → ByteArray} {V : Nat → Int} {w : World} (h : St B mb b N V i w) (hi : i < 16) (n : Nat) :
    St B mb b N V (i + 1) ((((w.setCell ⟨mb, 2 + i * 2, none⟩ (.string (N i))).setCell ⟨mb, 2 + i * 2 + 1, none⟩ (.int .u16 (V i))).setCell ⟨mb, 34, none⟩ (.int .i64 ((i : Int) + 1))).drewN n) := by
  obtain ⟨hB, far, hr, hf, _⟩ := h
  obtain rfl := hf (by omega)
  refine ⟨hB, none, ?_, fun _ => rfl, fun h => by omega⟩
  refine (((hr.set _ _).set _ _).set _ _).congr fun j hj => ?_
  rw [show min i 16 = i from by omega, show min (i + 1) 16 = i + 1 from by omega]
  by_cases e1 : j = 34
  · subst e1; simp [msgF]
  rw [if_neg e1]
  by_cases e2 : j = 2 + i * 2 + 1
  · subst e2
    rw [if_pos rfl, msgF_off _ _ _ _ _ _ hi, if_pos (by omega)]
  rw [if_neg e2]
  by_cases e3 : j = 2 + i * 2
  · subst e3
    rw [if_pos rfl, msgF_name _ _ _ _ _ _ hi, if_pos (by omega)]
  rw [if_neg e3]
  simp only [msgF, e1, if_false]
  by_cases e4 : j = 0
  · rw [if_pos e4, if_pos e4]
  rw [if_neg e4, if_neg e4]
  by_cases e5 : j = 1
  · rw [if_pos e5, if_pos e5]
  rw [if_neg e5, if_neg e5]
  by_cases e6 : j = 35
  · rw [if_pos e6, if_pos e6]
  rw [if_neg e6, if_neg e6]
  by_cases e7 : j % 2 = 0
  · rw [if_pos e7, if_pos e7]
    by_cases e8 : (j - 2) / 2 < i
    · rw [if_pos e8, if_pos (by omega)]
    · rw [if_neg e8, if_neg (by omega)]
  · rw [if_neg e7, if_neg e7]
    by_cases e8 : (j - 3) / 2 < i
    · rw [if_pos e8, if_pos (by omega)]
    · rw [if_neg e8, if_neg (by omega)]

theorem msgF_far (b : Value) (N : Nat → ByteArray) (V : Nat → Int) (nn : Nat) (far far' : Option Nat) (j : Nat) : (if j = 35 then Value.map far' else msgF b N V nn far j) = msgF b N V nn far' j := by
  by_cases e : j = 35
  · subst e; simp [msgF]
  · rw [if_neg e]; simp [msgF, e]
end Go.Proofs.Ybulkcnfw
