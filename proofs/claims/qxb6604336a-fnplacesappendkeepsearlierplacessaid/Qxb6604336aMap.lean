/-
  (*Plan).places and ZZplaces: the map of first places.
-/
import Derived.Test.Qxb6604336aPlan
import Derived.Maps.OwnSet
import Derived.Deep.WholeRow
import Derived.Deep.MidRow
namespace Go.Proofs.Qxb6604336a
open Go.RowKit Go.Maps Go.WideMaps

/-! ### two laws at the operation: a whole struct out of the middle of a block; into the block that was made last -/
theorem wpList_load_in {P : Program} {ops : Array Oper} {rest : List Oper} {op : Oper} {a : Act} {w : World} {Q : Exit → Act → World → Prop} (hgd : op.guard = none) (ty : TypeId) (x : Operand) (ho : op.op = .load ty x)
    (b o : Nat) (hx : a.eval x = .pointer (some ⟨b, o, none⟩)) (cs : Array Value) (d : TypeDesc) (hc : ∀ j v, cs[j]? = some v → w.cell? ⟨b, o + j, none⟩ = some v)
    (hu : P.underlying ty = some d) (hd : d.isRow = true) (hi : (P.info? ty).map (·.size) = some cs.size)
    (h : wpList P ops Q rest (a.put op.dst (.agg cs)) w) : wpList P ops Q (op :: rest) a w :=
  wpList_load_mid hgd ty x ho b o hx cs.toList d (fun j v hv => hc j v (by simpa using hv)) hu hd (by simpa using hi) (by simpa using h)

theorem wpList_store_last {P : Program} {ops : Array Oper} {rest : List Oper} {op : Oper} {a : Act} {w : World} {Q : Exit → Act → World → Prop} (hgd : op.guard = none) (ty : TypeId) (x y : Operand) (ho : op.op = .store ty x y)
    (cells : Array Value) (hx : a.eval x = .pointer (some ⟨w.heap.size, 0, none⟩)) (hy : a.eval y = .agg cells)
    (old : Array Value) (hi : (P.info? ty).map (·.size) = some cells.size) (hold : old.size = cells.size) (h1 : cells.all (·.oneCell') = true)
    (h : wpList P ops Q rest (a.put op.dst undef) (w.alloc (.cells cells ty))) : wpList P ops Q (op :: rest) a (w.alloc (.cells old ty)) :=
  wpList_store_row hgd ty x y ho w.heap.size cells hx hy ty old (heap_alloc_last w _) hi hold h1 (by rw [World.setRow_alloc_new]; exact h)

/-! ### the map as read -/
theorem keyLit (x : List UInt8) : WideAt.IsKeyLit (.string x) := trivial
abbrev i64d (n : Int) : DataW Unit := .lit (.int .i64 n)

/-- D holds just the first k of ts, each at its first place. -/
structure Places (ts : List (List UInt8)) (k : Nat) (D : DataW Unit) : Prop where
  tidy : Tidy D
  has : ∀ x, Maps.has D (.string x) = (ts.take k).contains x
  val : ∀ x, x ∈ ts.take k → D.atKey (.string x) (i64d 0) = i64d (ts.idxOf x : Nat)
  size : Maps.size D = Pl.firsts ts k

theorem Places.start (ts : List (List UInt8)) : Places ts 0 (.map []) :=
  ⟨tidy_empty, fun x => by simp [Maps.has], fun x hx => by simp at hx, rfl⟩

theorem Places.old {ts : List (List UInt8)} {k : Nat} {D : DataW Unit} {x : List UInt8} (h : Places ts k D) (hx : ts[k]? = some x) (hh : Maps.has D (.string x) = true) : Places ts (k + 1) D := by
  have hc : (ts.take k).contains x = true := by rw [← h.has]; exact hh
  have hm : x ∈ ts.take k := List.contains_iff_mem.1 hc
  have hmem : ∀ y, y ∈ ts.take (k + 1) ↔ y ∈ ts.take k := fun y => by
    rw [Pl.take_succ_of hx, List.mem_append, List.mem_singleton]
    exact ⟨fun h => h.elim id (fun e => e ▸ hm), Or.inl⟩
  refine ⟨h.tidy, fun y => ?_, fun y hy => h.val y ((hmem y).1 hy), ?_⟩
  · rw [h.has, Bool.eq_iff_iff, List.contains_iff_mem, List.contains_iff_mem, hmem]
  · rw [h.size, Pl.firsts_old hx hc]

theorem Places.new {ts : List (List UInt8)} {k : Nat} {D : DataW Unit} {x : List UInt8} (h : Places ts k D) (hx : ts[k]? = some x) (hh : Maps.has D (.string x) = false) : Places ts (k + 1) (D.put (.string x) (i64d k)) := by
  have hc : (ts.take k).contains x = false := by rw [← h.has]; exact hh
  refine ⟨h.tidy.put (keyLit x) _, fun y => ?_, fun y hy => ?_, ?_⟩
  · by_cases e : y = x
    · subst e
      rw [has_put_same h.tidy.isMap (keyLit y), Pl.take_succ_of hx]; simp
    · rw [has_put_other (by simpa using e), h.has, Pl.take_succ_of hx, Bool.eq_iff_iff, List.contains_iff_mem, List.contains_iff_mem]
      simp [e]
  · by_cases e : y = x
    · subst e
      rw [atKey_put_same h.tidy.isMap (keyLit y), Pl.idxOf_eq_of_new hx hc]
    · rw [atKey_put_other (by simpa using e)]
      refine h.val y ?_
      rw [Pl.take_succ_of hx] at hy
      simpa [e] using hy
  · rw [size_put h.tidy, hh, h.size, Pl.firsts_new hx hc]; simp

/-- The strings, as the map's keys read. -/
def keysOf (ss : List ByteArray) : List (List UInt8) := ss.map (fun s => s.data.toList)

theorem keysOf_at {ss : List ByteArray} {k : Nat} (hk : k < ss.length) : (keysOf ss)[k]? = some (ss.getD k ByteArray.empty).data.toList := by
  simp [keysOf, hk]

theorem law9 : Keyed Try.prog 9 := string_keyed Try.underlying9
theorem zero3 (w : World) : (zeroValue 3).run Try.prog w = .ok (.int .i64 0) w := by kernel_rfl
theorem make26 (x : Int) (w : World) : (Instr.makeMap 26 (some (.int .i64 x))).run Try.prog w = .ok (.map (some w.heap.size)) (w.alloc (.map #[] 0)) := by
  simp [Instr.makeMap, run_underlying Try.underlying26, asInt, Result.andThen]
  rfl

theorem key_ok {ss : List ByteArray} (hsz : ∀ s ∈ ss, s.size ≤ maxLen) (k : Nat) (hk : k < ss.length) : keyOf Try.prog 9 (.string (ss.getD k ByteArray.empty)) = some (.string (ss.getD k ByteArray.empty).data.toList) :=
  keyOf_string_mk Try.underlying9 (hsz _ (by simp [hk]))

/-- The cells of the k-th instrument. -/
theorem elem_of {w wr : World} {B gi n k : Nat} {ss : List ByteArray} {xs : List Value} (hown : w.ownsRow B 49 21 (.slice (some ⟨gi, 0, none⟩) n n) n xs) (hl : LaidI n ss xs) (hnx : Below w.heap.size w wr) (hk : k < n) :
    ∃ ca : Array Value, ca.size = 21 ∧ ca[0]? = some (.string (ss.getD k ByteArray.empty)) ∧ ca.all (·.oneCell') = true ∧ ∀ j v, ca[j]? = some v → wr.cell? ⟨gi, k * 21 + j, none⟩ = some v := by
  have hgi : gi < w.heap.size := (hown.lt gi rfl).2
  have hxl : xs.length = n * 21 := hown.1
  refine ⟨((xs.drop (k * 21)).take 21).toArray, ?_, ?_, ?_, fun j v hv => ?_⟩
  · simp only [List.size_toArray, List.length_take, List.length_drop]; omega
  · have := hl.at_ k hk
    simpa using this
  · rw [Array.all_eq_true_iff_forall_mem]
    intro u hu
    exact hl.one u (List.mem_of_mem_drop (List.mem_of_mem_take (by simpa using hu)))
  · have hj : j < 21 := by
      have := (Array.getElem?_eq_some_iff.1 hv).1
      simp only [List.size_toArray, List.length_take] at this; omega
    rw [hnx.cell (p := ⟨gi, k * 21 + j, none⟩) hgi, hown.cellAt (k * 21 + j) (by omega)]
    simpa [hj] using hv

theorem Try.size49 : (Try.prog.info? 49).map (·.size) = some 21 := by kernel_rfl

/-- What (*Plan).places leaves. -/
def Mapped (w : World) (n : Nat) (ss : List ByteArray) (e : Ending) (w' : World) : Prop :=
  ∃ g D, e = .returned (.map (some g)) ∧ w.heap.size ≤ g ∧ w'.ownsMap Try.prog 9 (plainElem (H := Unit) Try.prog 3) g n D ∧ Places (keysOf ss) n D ∧ Below w.heap.size w w'

set_option maxRecDepth 100000 in
set_option maxHeartbeats 800000 in
theorem places_any (B gp n : Nat) (ss : List ByteArray) (w : World) (hn : n ≤ 131072) (hl : ss.length = n) (hsz : ∀ s ∈ ss, s.size ≤ maxLen) (hp : PlanAt w B gp n ss) :
    Calls Try.prog 11 #[.pointer (some ⟨gp, 0, none⟩)] w fun e w' => Mapped w n ss e w' := by
  obtain ⟨gi, xs, hB, hgp, hcell, hown0, hlaid⟩ := hp
  have hmm := make26
  go_enter Try.func11, Try.ntmps11
  go_wp2
  go_loopw [19] (fun i wr => ∃ k : Nat, k ≤ n ∧ i = .int .i64 k ∧ (∃ D, wr.ownsMap Try.prog 9 (plainElem (H := Unit) Try.prog 3) w.heap.size k D ∧ Places (keysOf ss) k D) ∧ Below w.heap.size w wr)
    (fun i _ => n - (intOf i).toNat)
  case atStart => exact ⟨0, Nat.zero_le _, rfl, ⟨_, World.ownsMap_made _ _ _ _, Places.start _⟩, (Below.refl _ _).alloc (Nat.le_refl _) _⟩
  case round =>
    obtain ⟨k, hk, rfl, ⟨D, hown, hpl⟩, hnx⟩ := hrel
    by_cases hlt : k < n
    · have hkey0 := key_ok hsz k (by omega)
      have hat := keysOf_at (ss := ss) (k := k) (by omega)
      obtain ⟨ca, hcs, hc0, hca, hcc⟩ := elem_of hown0 hlaid hnx hlt
      generalize ss.getD k ByteArray.empty = s at hkey0 hat hc0
      have hsz49 : (Try.prog.info? 49).map (·.size) = some ca.size := by rw [hcs]; exact Try.size49
      have HC : Hid (ca.size = 21) := hcs
      have HA : Hid ((keysOf ss)[k]? = some s.data.toList) := hat
      have HL : Hid (ss.length = n) := hl
      clear hcs hat hl
      go_wp2_with (first
        | (refine wpList_load_in rfl 49 _ rfl gi (k * 21) rfl ca _ hcc Try.underlying49 rfl hsz49 ?_)
        | (refine wpList_store_last rfl 49 _ _ rfl ca rfl rfl _ hsz49 HC.out.symm hca ?_)
        | (at_lookup; refine wpList_lookup_own_ok_int _ rfl _ _ 26 rfl 9 3 .i64 law9 Try.underlying26 Try.underlying3 (zero3 _) w.heap.size k D rfl (hown.alloc _) _ _ rfl hkey0 ?_; intro c hat hwc)
        | (at_mapUpdate; refine wpList_mapUpdate_own _ rfl _ _ _ 26 rfl 9 3 law9 Try.underlying26 _ w.heap.size k D rfl (hown.alloc _) (by unfold maxLen; omega) _ _ _ rfl rfl hkey0 _ [] (plainElem_int Try.underlying3 (WalkArith.wf_i64 (by omega))) ?_; intro w1 hown1 hgrow1))
      · have hh : (!Maps.has D (Lit.string s.data.toList)) = true := by assumption
        go_roundw
        case rel => exact ⟨k + 1, by omega, by go_num, ⟨_, hown1, hpl.new HA.out (by simpa using hh)⟩, (hnx.alloc hnx.size _).grown hgrow1 (by simp; exact Nat.le_trans hnx.size (Nat.le_succ _)) (fun j hj => by cases hj; exact Nat.le_refl _)⟩
        case measure => simp [intOf]; omega
      · have hh : (!Maps.has D (Lit.string s.data.toList)) = false := by assumption
        go_roundw
        case rel => exact ⟨k + 1, by omega, by go_num, ⟨_, (hown.alloc _).mono (Nat.le_succ _), hpl.old HA.out (by simpa using hh)⟩, hnx.alloc hnx.size _⟩
        case measure => simp [intOf]; omega
    · go_wp2
      go_ret
      have hk' : k = n := by omega
      subst hk'
      exact ⟨_, D, rfl, Nat.le_refl _, hown, hpl, hnx⟩

set_option maxHeartbeats 400000 in
theorem zzplaces_any (B gp n : Nat) (ss : List ByteArray) (w : World) (hn : n ≤ 131072) (hl : ss.length = n) (hsz : ∀ s ∈ ss, s.size ≤ maxLen) (hp : PlanAt w B gp n ss) :
    Calls Try.prog 8 #[.pointer (some ⟨gp, 0, none⟩)] w fun e w' => Mapped w n ss e w' := by
  go_enter Try.func8, Try.ntmps8
  go_wp2_with fail
  refine (places_any B gp n ss w hn hl hsz hp).mono ?_
  rintro e w' ⟨g, D, rfl, h1, h2, h3, h4⟩
  go_wp2
  go_ret
  exact ⟨g, D, rfl, h1, h2, h3, h4⟩

end Go.Proofs.Qxb6604336a
