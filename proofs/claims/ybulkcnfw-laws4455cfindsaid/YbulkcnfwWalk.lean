/-
  wire.LawS4455CState and wire.LawS4455CFind: both walks, whatever the arguments.
-/
import Derived.Test.YbulkcnfwState
import Derived.Test.YbulkcnfwSearch
namespace Go.Proofs.Ybulkcnfw
open Go.RowKit Go.Maps Go.WideMaps

set_option maxRecDepth 100000 in
set_option maxHeartbeats 1000000 in
theorem state_big (na oa : Option Addr) (nl nc ol oc : Nat) (pad : Int) (w : World) (hb : 1024 < nl ∨ 1024 < ol) :
    Calls Yba.prog 3 #[.slice na nl nc, .slice oa ol oc, .int .u8 pad] w fun e w' => e = .returned (.bool true) ∧ Below w.heap.size w w' := by
  by_cases h1 : 1024 < nl
  · have hn1 : 1024 < (nl : Int) := by omega
    go_enter Yba.func3, Yba.ntmps3
    go_wp2_with fail
    go_ret
    exact ⟨rfl, Below.refl _ w⟩
  · have hn1 : ¬ 1024 < (nl : Int) := by omega
    have hn2 : 1024 < (ol : Int) := by omega
    go_enter Yba.func3, Yba.ntmps3
    go_wp2_with fail
    go_ret
    exact ⟨rfl, Below.refl _ w⟩

set_option maxRecDepth 100000 in
set_option maxHeartbeats 1000000 in
theorem find_big (na oa : Option Addr) (nl nc ol oc : Nat) (pad : Int) (w : World) (hb : 1024 < nl ∨ 1024 < ol) :
    Calls Yba.prog 4 #[.slice na nl nc, .slice oa ol oc, .int .u8 pad] w fun e w' => e = .returned (.bool true) ∧ Below w.heap.size w w' := by
  by_cases h1 : 1024 < nl
  · have hn1 : 1024 < (nl : Int) := by omega
    go_enter Yba.func4, Yba.ntmps4
    go_wp2_with fail
    go_ret
    exact ⟨rfl, Below.refl _ w⟩
  · have hn1 : ¬ 1024 < (nl : Int) := by omega
    have hn2 : 1024 < (ol : Int) := by omega
    go_enter Yba.func4, Yba.ntmps4
    go_wp2_with fail
    go_ret
    exact ⟨rfl, Below.refl _ w⟩

theorem state_any (na oa : Option Addr) (nl nc ol oc : Nat) (pad : Int) (S : Nat → ByteArray) (U : Nat → Int) (w : World) (h0 : 0 ≤ pad) (h1 : pad ≤ 255) (hs : Strs w na nl S) (ho : Nums w oa ol U) :
    Calls Yba.prog 3 #[.slice na nl nc, .slice oa ol oc, .int .u8 pad] w fun e w' => e = .returned (.bool true) ∧ Below w.heap.size w w' := by
  by_cases hb : 1024 < nl ∨ 1024 < ol
  · exact state_big na oa nl nc ol oc pad w hb
  · exact state_small na oa nl nc ol oc (pad % 24).toNat ((pad % 24).toNat + nl) pad S U w h0 h1 (by omega) (by omega) (by omega) (by omega) hs ho
theorem find_every (na oa : Option Addr) (nl nc ol oc : Nat) (pad : Int) (S : Nat → ByteArray) (U : Nat → Int) (w : World) (h0 : 0 ≤ pad) (h1 : pad ≤ 255) (hs : Strs w na nl S) (ho : Nums w oa ol U) :
    Calls Yba.prog 4 #[.slice na nl nc, .slice oa ol oc, .int .u8 pad] w fun e w' => e = .returned (.bool true) ∧ Below w.heap.size w w' := by
  by_cases hb : 1024 < nl ∨ 1024 < ol
  · exact find_big na oa nl nc ol oc pad w hb
  · exact find_small na oa nl nc ol oc (pad % 24).toNat ((pad % 24).toNat + nl) pad S U w h0 h1 (by omega) (by omega) (by omega) (by omega) hs ho
end Go.Proofs.Ybulkcnfw
