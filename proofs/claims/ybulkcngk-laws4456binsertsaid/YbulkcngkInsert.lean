/-
  fuzz.insertOp on a row that is full: a new row, the operation at its place, the rest moved up by one.
-/
import Derived.Test.YbulkcngkSame
import Derived.ArgAppend
import Derived.Deep.RegionLaw
import Derived.Lib.SmallJoins
import Derived.Laws.CopyOwn
import Derived.Deep.OwnRows
namespace Go.Proofs.Ybulkcngk
open Go.ChangeShapes Go.WideShapes Go.ChangeAt Go.RowKit

/-- append onto a row with no room: the new row lies in a new block. -/
theorem wpList_append_full {P : Program} {w : World} {ops : Array Oper} {rest : List Oper} {o : Oper} {a : Act} {Q : Exit → Act → World → Prop} (hgd : o.guard = none) (s x : Operand) (t : TypeId)
    (ho : o.op = .call { callee := .builtin .append, args := #[s, x], argTypes := #[t, t] })
    (e : TypeId) (i : TypeInfo) (z : Value) (bytes : Nat) (ht : P.underlying t = some (.slice e)) (hi : P.info? e = some i) (hz : i.zero = some z)
    (hsize : i.size = 1) (hby : i.bytes = bytes) (hzs : z.cells.size = 1)
    (b : Addr) (n cap : Nat) (olds : List Value) (hs : a.eval s = .slice (some b) n cap) (hlo : olds.length = n) (holds : ∀ j u, olds[j]? = some u → w.cell? (b.add j) = some u)
    (ad : Addr) (m c : Nat) (news : List Value) (hx : a.eval x = .slice (some ad) m c) (hl : news.length = m) (hnews : ∀ j u, news[j]? = some u → w.cell? (ad.add j) = some u)
    (hg : cap < n + m) (h63 : n + m ≤ maxLen) (hbytes : (n + m) * bytes ≤ 140737488355328)
    (h : ∀ (g cp : Nat) (cur : Array Value) (w' : World), w.heap.size ≤ g → w'.heap[g]? = some (.cells cur e (0, 0)) → n + m ≤ cp → cp ≤ maxLen → cur.size = cp → cur.toList.take (n + m) = olds ++ news → w.grownBy w' none →
      wpList P ops Q rest (a.put o.dst (.slice (some ⟨g, 0, none⟩) (n + m) cp)) w') : wpList P ops Q (o :: rest) a w := by
  refine wpList_plain hgd fun K hK => ?_
  obtain ⟨v', w', hr, hown, hgr⟩ := run_append_arg_grows (P := P) w t o.type e i z 1 bytes ht hi hz hsize hby hzs Nat.one_pos b n cap olds (by omega) holds ad m c news (by omega) hnews hg h63 hbytes
  rcases hown.2 with ⟨_, h0⟩ | ⟨g, cp, cur, rfl, h1, h2, h3, h4, h5, h6⟩
  · omega
  · unfold Oper.wp execOp
    simp only [ho, resolve, invoke, builtin, Sem.run_bind, Sem.run_pure, Result.andThen_ok, List.map_toArray, List.map_cons, List.map_nil, hs, hx, hr]
    exact hK _ _ (h g cp cur w' h1 h2 h3 h4 (by omega) (by rw [← h6]; simp) hgr)

/-- The row behind the insert. -/
def ins (X : Nat → Value) (i : Nat) (op : Value) (j : Nat) : Value := if j < i then X j else if j = i then op else X (j - 1)
/-- A row's first n cells. -/
def firsts (X : Nat → Value) (n : Nat) : List Value := (List.range n).map X
theorem firsts_length (X : Nat → Value) (n : Nat) : (firsts X n).length = n := by simp [firsts]
theorem firsts_get {X : Nat → Value} {n j : Nat} {v : Value} (h : (firsts X n)[j]? = some v) : j < n ∧ v = X j := by
  have hj : j < n := by
    rcases Nat.lt_or_ge j n with h1 | h1
    · exact h1
    · rw [List.getElem?_eq_none (by rw [firsts_length]; exact h1)] at h
      cases h
  refine ⟨hj, ?_⟩
  simp [firsts, hj] at h
  exact h.symm

theorem Yba.info24 : ∃ i, Yba.prog.info? 24 = some i ∧ i.zero = some (.slice none 0 0) ∧ i.size = 1 ∧ i.bytes = 24 := by
  have h : (Yba.prog.info? 24).map (fun i => (i.zero, i.size, i.bytes)) = some (some (.slice none 0 0), 1, 24) := by kernel_rfl
  cases hi : Yba.prog.info? 24 with
  | none => rw [hi] at h; cases h
  | some i =>
    rw [hi] at h
    simp only [Option.map_some, Option.some.injEq, Prod.mk.injEq] at h
    exact ⟨i, rfl, h.1, h.2.1, h.2.2⟩
theorem Yba.size24 : (Yba.prog.info? 24).map (·.size) = some 1 := by kernel_rfl

theorem add_at (b off i : Nat) : (⟨b, off, none⟩ : Addr).add i = ⟨b, off + i, none⟩ := by unfold Addr.add; split <;> simp_all
theorem row_holds {w : World} {g n : Nat} {X : Nat → Value} (h : w.rowIs g 24 n X) : ∀ j u, (firsts X n)[j]? = some u → w.cell? ((⟨g, 0, none⟩ : Addr).add j) = some u := by
  intro j u hu
  obtain ⟨hj, rfl⟩ := firsts_get hu
  rw [add_at, Nat.zero_add]
  exact h.cell hj
theorem one_holds (w : World) (v : Value) (t : TypeId) : ∀ j u, [v][j]? = some u → (w.alloc (.cells #[v] t)).cell? ((⟨w.heap.size, 0, none⟩ : Addr).add j) = some u := by
  intro j u hu
  match j, hu with
  | 0, hu =>
    simp only [List.getElem?_cons_zero, Option.some.injEq] at hu
    subst hu
    rw [add_at]
    simp only [World.cell?, heap_alloc_new]
    rfl
  | j + 1, hu => simp at hu

theorem take_at {X : Nat → Value} {L : List Value} {n j : Nat} {z : Value} (h : L.take (n + 1) = firsts X n ++ [z]) (hj : j < n) : L[j]? = some (X j) := by
  have h1 : (L.take (n + 1))[j]? = L[j]? := by rw [List.getElem?_take, if_pos (by omega)]
  rw [← h1, h, List.getElem?_append_left (by rw [firsts_length]; exact hj)]
  simp [firsts, hj]
theorem splice_at (L cs : List Value) (off j : Nat) (h : off + cs.length ≤ L.length) : (splice L off cs)[j]? = if j < off then L[j]? else if j < off + cs.length then cs[j - off]? else L[j]? := by
  unfold splice
  have hl : (L.take off).length = off := by rw [List.length_take]; omega
  by_cases h1 : j < off
  · rw [if_pos h1, List.getElem?_append_left (by omega), List.getElem?_take, if_pos h1]
  · rw [if_neg h1, List.getElem?_append_right (by omega), hl]
    by_cases h2 : j < off + cs.length
    · rw [if_pos h2, List.getElem?_append_left (by omega)]
    · rw [if_neg h2, List.getElem?_append_right (by omega), List.getElem?_drop]
      congr 1
      omega
theorem row_list {w : World} {g : Nat} {L : List Value} (h : w.heap[g]? = some (.cells L.toArray 24 (0, 0))) : w.rowIs g 24 L.length (fun j => L.getD j (.slice none 0 0)) :=
  ⟨L.toArray, h, by simp, fun j hj => by simp [List.getD, hj]⟩

/-- The rest of the row moved up by one. -/
theorem copy_up (w : World) (g1 cp n i c1 c2 : Nat) (X : Nat → Value) (op : Value) (L : List Value) (hh : w.heap[g1]? = some (.cells L.toArray 24 (0, 0))) (hl : L.length = cp) (ht : L.take (n + 1) = firsts X n ++ [.slice none 0 0])
    (hi : i < n) (hc : n + 1 ≤ cp) (hX : ∀ j, j < n → (X j).oneCell' = true) :
    ∃ w2 F, (Builtin.copy_ #[22, 22] 3 #[.slice (some ⟨g1, i + 1, none⟩) (n - i) c1, .slice (some ⟨g1, i, none⟩) (n + 1 - i) c2]).run Yba.prog w = .ok (.int .i64 ((n - i : Nat) : Int)) w2 ∧
      w2.rowIs g1 24 cp F ∧ (∀ j, j < n + 1 → j ≠ i → F j = ins X i op j) ∧ Below g1 w w2 := by
  have hlen : ((firsts X n).drop i).length = n - i := by rw [List.length_drop, firsts_length]
  have hcs : ∀ j v, ((firsts X n).drop i)[j]? = some v → j < n - i ∧ v = X (i + j) := by
    intro j v hv
    rw [List.getElem?_drop] at hv
    obtain ⟨h1, h2⟩ := firsts_get hv
    exact ⟨by omega, h2⟩
  have hrun := run_copy_row (P := Yba.prog) w 22 22 3 24 g1 (i + 1) (n - i) c1 ⟨g1, i, none⟩ (n + 1 - i) c2 L.toArray 24 ((firsts X n).drop i) Yba.underlying22 Yba.size24 hh
    (by rw [hlen]; exact (Nat.min_eq_right (by omega)).symm)
    (fun j v hv => by
      obtain ⟨h1, rfl⟩ := hcs j v hv
      rw [add_at]
      have := (row_list hh).cell (i := i + j) (by omega)
      rw [this]
      simp [List.getD, take_at ht (show i + j < n by omega)])
    (by rw [hlen]; simp; omega)
    (fun v hv => by
      obtain ⟨j, hj⟩ := List.getElem?_of_mem hv
      obtain ⟨h1, rfl⟩ := hcs j v hj
      exact hX _ (by omega))
  rw [hlen] at hrun
  have hset := setRow_heap w g1 L.toArray (splice L (i + 1) ((firsts X n).drop i)).toArray 24 (0, 0) hh
  have hfit : i + 1 + ((firsts X n).drop i).length ≤ L.length := by rw [hlen]; omega
  have hsl := length_splice L (i + 1) ((firsts X n).drop i) hfit
  refine ⟨w.setRow g1 (splice L (i + 1) ((firsts X n).drop i)).toArray, _, ?_, by rw [← hl, ← hsl]; exact row_list hset, fun j hj hne => ?_, below_setRow (Below.refl _ w) (Nat.le_refl _) _⟩
  · rw [hrun]
    simp [splice, goInt, hlen]
  · show (splice L (i + 1) ((firsts X n).drop i)).getD j (.slice none 0 0) = _
    rw [List.getD, splice_at _ _ _ _ hfit, hlen]
    unfold ins
    by_cases h1 : j < i
    · rw [if_pos (by omega), if_pos h1, take_at ht (by omega)]
      rfl
    · rw [if_neg (by omega), if_pos (by omega), if_neg h1, if_neg hne, List.getElem?_drop]
      have e : i + (j - (i + 1)) = j - 1 := by omega
      rw [e]
      simp [firsts, show j - 1 < n by omega]

theorem last_at {w : World} {g1 cp i j : Nat} {X : Nat → Value} {op : Value} {L : List Value} (h : w.rowIs g1 24 cp (fun j => L.getD j (.slice none 0 0))) (ht : L.take (i + 1) = firsts X i ++ [.slice none 0 0]) (hc : i + 1 ≤ cp) (hj : j < i + 1) :
    (w.drew.setCell ⟨g1, i, none⟩ op).cell? ⟨g1, j, none⟩ = some (ins X i op j) := by
  have h' : w.drew.rowIs g1 24 cp (fun j => L.getD j (.slice none 0 0)) := h
  rw [(h'.set i op).cell (by omega)]
  by_cases e : j = i
  · rw [if_pos e]
    simp [ins, e]
  · rw [if_neg e]
    have hji : j < i := by omega
    simp [ins, hji, List.getD, take_at ht hji]

set_option maxRecDepth 100000 in
set_option maxHeartbeats 1000000 in
theorem insert_any (g n i : Nat) (X : Nat → Value) (oa : Option Addr) (ol oc : Nat) (w : World) (hr : w.rowIs g 24 n X) (hi : i ≤ n) (hn : n ≤ 1024) (hX : ∀ j, j < n → (X j).oneCell' = true) :
    Calls Yba.prog 6 #[.slice (some ⟨g, 0, none⟩) n n, .int .i64 i, .slice oa ol oc] w fun e w' => ∃ g' cap, e = .returned (.slice (some ⟨g', 0, none⟩) (n + 1) cap) ∧ (∀ j, j < n + 1 → w'.cell? ⟨g', j, none⟩ = some (ins X i (.slice oa ol oc) j)) ∧ Below w.heap.size w w' := by
  have HR : Hid (w.rowIs g 24 n X) := hr
  have HX : Hid (∀ j, j < n → (X j).oneCell' = true) := hX
  clear hr hX
  obtain ⟨inf, i1, i2, i3, i4⟩ := Yba.info24
  have HI : Hid (Yba.prog.info? 24 = some inf) := i1
  clear i1
  go_enter Yba.func6, Yba.ntmps6
  go_wp2_with (at_builtin; refine wpList_append_full rfl (.tmp 7) (.tmp 8) 22 rfl 24 inf _ 24 Yba.underlying22 HI.out i2 i3 i4 rfl ⟨g, 0, none⟩ n n (firsts X n) rfl (firsts_length X n) (row_holds (HR.out.alloc _)) ⟨w.heap.size, 0, none⟩ 1 1 [.slice none 0 0] rfl rfl (one_holds w _ _) (by omega) (by unfold maxLen; omega) (by omega) ?_; intro g1 cp cur w1 hg1 hh1 hc1 hc2 hc3 hc4 hgr)
  have hsz : w.heap.size + 1 ≤ g1 := by simpa using hg1
  have hbl : Below w.heap.size w w1 := ((Below.refl _ w).alloc (Nat.le_refl _) _).grown hgr (by simp) (fun k hk => by cases hk)
  have HH : Hid (w1.heap[g1]? = some (.cells cur.toList.toArray 24 (0, 0))) := by
    show _ = _
    simpa using hh1
  have HL : Hid (cur.toList.length = cp) := by
    show _ = _
    simpa using hc3
  have HT : Hid (cur.toList.take (n + 1) = firsts X n ++ [.slice none 0 0]) := hc4
  have HB : Hid (Below w.heap.size w w1) := hbl
  obtain ⟨L, hL⟩ : ∃ L, L = cur.toList := ⟨_, rfl⟩
  rw [← hL] at HH HL HT
  clear hbl hh1 hc3 hc4 hgr hg1 hL cur HR
  have hwr : IntKind.i64.wrap ((i : Int) + 1) = (i : Int) + 1 := by
    simp only [IntKind.wrap, IntKind.bits, IntKind.signed]
    simp
    omega
  have hb0 : 0 ≤ (i : Int) + 1 := by omega
  have hb1 : (i : Int) + 1 ≤ (n : Int) + 1 := by omega
  have hb2 : (i : Int) ≤ (n : Int) + 1 := by omega
  have hne1 : ¬ cp = i := by omega
  by_cases hin : i < n
  · have hne2 : ¬ cp = i + 1 := by omega
    obtain ⟨w2, F, hcopy, hr2, hF, hbl2⟩ := copy_up w1.drew g1 cp n i (cp - (i + 1)) (cp - i) X (.slice oa ol oc) L HH.out HL.out HT.out hin hc1 HX.out
    have HR2 : Hid (w2.rowIs g1 24 cp F) := hr2
    have HF : Hid (∀ j, j < n + 1 → j ≠ i → F j = ins X i (.slice oa ol oc) j) := hF
    have HB2 : Hid (Below g1 w1.drew w2) := hbl2
    have c1 := hr2.cell (i := i) (by omega)
    have f1 := hr2.frozen i
    clear hr2 hF hbl2
    go_region
    go_wp2_with fail
    go_ret
    refine ⟨g1, cp, rfl, fun j hj => ?_, ?_⟩
    · rw [(HR2.out.set i _).cell (by omega)]
      by_cases e : j = i
      · rw [if_pos e]
        simp [ins, e]
      · rw [if_neg e, HF.out j hj e]
    · exact ((HB.out.drew.trans (HB2.out.mono (by omega))).setCell (p := ⟨g1, i, none⟩) (by show _ ≤ g1; omega) _)
  · obtain rfl : i = n := by omega
    have hcopy := fun dp dc sp sl sc => run_copy_none (P := Yba.prog) w1.drew 22 22 3 24 dp sp 0 dc sl sc Yba.underlying22 Yba.size24 (by simp)
    have hr2 : w1.rowIs g1 24 cp (fun j => L.getD j (.slice none 0 0)) := by
      rw [← HL.out]
      exact row_list HH.out
    have c1 := hr2.cell (i := i) (by omega)
    have f1 := hr2.frozen i
    have HR2 : Hid (w1.rowIs g1 24 cp (fun j => L.getD j (.slice none 0 0))) := hr2
    clear hr2
    by_cases hne2 : cp = i + 1
    · go_region
      go_wp2_with fail
      go_ret
      refine ⟨g1, cp, rfl, fun j hj => ?_, ?_⟩
      · exact last_at HR2.out HT.out hc1 hj
      · exact (HB.out.drew.setCell (p := ⟨g1, i, none⟩) (by show _ ≤ g1; omega) _)
    · go_region
      go_wp2_with fail
      go_ret
      refine ⟨g1, cp, rfl, fun j hj => ?_, ?_⟩
      · exact last_at HR2.out HT.out hc1 hj
      · exact (HB.out.drew.setCell (p := ⟨g1, i, none⟩) (by show _ ≤ g1; omega) _)
end Go.Proofs.Ybulkcngk
