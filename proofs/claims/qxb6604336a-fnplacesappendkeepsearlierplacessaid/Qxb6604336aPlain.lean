namespace Go.Proofs.Qxb6604336a.Pl
set_option linter.unusedVariables false
set_option linter.unusedSimpArgs false

/-- How many of the first k elements are the first of their kind. -/
def firsts (ts : List (List UInt8)) : Nat → Nat
  | 0 => 0
  | k + 1 => firsts ts k + (match ts[k]? with | some x => if (ts.take k).contains x then 0 else 1 | none => 0)

theorem firsts_le (ts : List (List UInt8)) (k : Nat) : firsts ts k ≤ k := by
  induction k with
  | zero => simp [firsts]
  | succ k ih =>
    simp only [firsts]
    split
    · split <;> omega
    · omega

theorem firsts_old {ts : List (List UInt8)} {k : Nat} {x : List UInt8} (h : ts[k]? = some x) (hc : (ts.take k).contains x = true) : firsts ts (k + 1) = firsts ts k := by
  simp only [firsts, h, hc, if_true, Nat.add_zero]
theorem firsts_new {ts : List (List UInt8)} {k : Nat} {x : List UInt8} (h : ts[k]? = some x) (hc : (ts.take k).contains x = false) : firsts ts (k + 1) = firsts ts k + 1 := by
  simp only [firsts, h, hc, Bool.false_eq_true, if_false]

theorem mem_of_at {ts : List (List UInt8)} {k : Nat} {x : List UInt8} (h : ts[k]? = some x) : x ∈ ts := List.mem_of_getElem? h

theorem take_succ_of {ts : List (List UInt8)} {k : Nat} {x : List UInt8} (h : ts[k]? = some x) : ts.take (k + 1) = ts.take k ++ [x] := by
  rw [List.take_add_one, h]; rfl

theorem idxOf_le {ts : List (List UInt8)} {k : Nat} {x : List UInt8} (h : ts[k]? = some x) : ts.idxOf x ≤ k := by
  obtain ⟨hk, e⟩ := List.getElem?_eq_some_iff.1 h
  by_cases hlt : k < ts.idxOf x
  · have := List.not_of_lt_findIdx (p := (· == x)) (xs := ts) (i := k) (by simpa [List.idxOf] using hlt)
    simp [e] at this
  · omega

theorem at_idxOf {ts : List (List UInt8)} {x : List UInt8} (h : x ∈ ts) : ts[ts.idxOf x]? = some x := by
  have hlt : ts.idxOf x < ts.length := List.idxOf_lt_length_of_mem h
  rw [List.getElem?_eq_getElem hlt]
  congr 1
  have := List.findIdx_getElem (p := (· == x)) (xs := ts) (w := by simpa [List.idxOf] using hlt)
  exact eq_of_beq this

theorem idxOf_take {ts : List (List UInt8)} {k : Nat} {x : List UInt8} (h : x ∈ ts.take k) : ts.idxOf x = (ts.take k).idxOf x := by
  have e : (ts.take k ++ ts.drop k).idxOf x = (ts.take k).idxOf x := by rw [List.idxOf_append, if_pos h]
  rw [List.take_append_drop] at e
  exact e

theorem idxOf_eq_of_new {ts : List (List UInt8)} {k : Nat} {x : List UInt8} (h : ts[k]? = some x) (hc : (ts.take k).contains x = false) : ts.idxOf x = k := by
  have h1 := idxOf_le h
  have h2 := at_idxOf (mem_of_at h)
  by_cases hlt : ts.idxOf x < k
  · have : x ∈ ts.take k := by
      have e : (ts.take k)[ts.idxOf x]? = some x := by rw [List.getElem?_take_of_lt hlt]; exact h2
      exact List.mem_of_getElem? e
    rw [← List.contains_iff_mem] at this
    rw [this] at hc; cases hc
  · omega

theorem idxOf_lt_of_old {ts : List (List UInt8)} {k : Nat} {x : List UInt8} (hc : (ts.take k).contains x = true) : ts.idxOf x < k := by
  have hm : x ∈ ts.take k := List.contains_iff_mem.1 hc
  rw [idxOf_take hm]
  have := List.idxOf_lt_length_of_mem hm
  have := List.length_take_le k ts
  omega

/-- How many of the first k of 'more' are new to 'ids' and the first of their kind in 'more'. -/
def added (ids more : List (List UInt8)) : Nat → Nat
  | 0 => 0
  | k + 1 => added ids more k + (match more[k]? with | some x => if ids.contains x then 0 else if more.idxOf x = k then 1 else 0 | none => 0)

theorem added_le (ids more : List (List UInt8)) (k : Nat) : added ids more k ≤ k := by
  induction k with
  | zero => simp [added]
  | succ k ih =>
    simp only [added]
    split
    · split
      · omega
      · split <;> omega
    · omega

theorem added_in {ids more : List (List UInt8)} {k : Nat} {x : List UInt8} (h : more[k]? = some x) (hc : ids.contains x = true) : added ids more (k + 1) = added ids more k := by
  simp only [added, h, hc, if_true, Nat.add_zero]
theorem added_hit {ids more : List (List UInt8)} {k : Nat} {x : List UInt8} (h : more[k]? = some x) (hc : ids.contains x = false) (he : more.idxOf x = k) : added ids more (k + 1) = added ids more k + 1 := by
  simp only [added, h, hc, he, Bool.false_eq_true, if_false, if_true, Nat.add_zero]
theorem added_miss {ids more : List (List UInt8)} {k : Nat} {x : List UInt8} (h : more[k]? = some x) (hc : ids.contains x = false) (he : ¬ more.idxOf x = k) : added ids more (k + 1) = added ids more k := by
  simp only [added, h, hc, he, Bool.false_eq_true, if_false, if_true, Nat.add_zero]

theorem firsts_append_left (ids more : List (List UInt8)) (k : Nat) (hk : k ≤ ids.length) : firsts (ids ++ more) k = firsts ids k := by
  induction k with
  | zero => rfl
  | succ k ih =>
    have hlt : k < ids.length := by omega
    have e1 : (ids ++ more)[k]? = ids[k]? := List.getElem?_append_left hlt
    have e2 : (ids ++ more).take k = ids.take k := by rw [List.take_append_of_le_length (by omega)]
    simp only [firsts, e1, e2, ih (by omega)]

theorem firsts_both (ids more : List (List UInt8)) (k : Nat) (hk : k ≤ more.length) : firsts (ids ++ more) (ids.length + k) = firsts ids ids.length + added ids more k := by
  induction k with
  | zero => simp [added, firsts_append_left]
  | succ k ih =>
    have hlt : k < more.length := by omega
    have ih' := ih (by omega)
    obtain ⟨x, hx⟩ : ∃ x, more[k]? = some x := ⟨more[k], by simp [hlt]⟩
    have e1 : (ids ++ more)[ids.length + k]? = some x := by rw [List.getElem?_append_right (by omega)]; simpa using hx
    have e2 : (ids ++ more).take (ids.length + k) = ids ++ more.take k := by rw [List.take_append, List.take_of_length_le (by omega)]; simp
    have e3 : (ids ++ more.take k).contains x = (ids.contains x || (more.take k).contains x) := by
      rw [Bool.eq_iff_iff]; simp
    rw [← Nat.add_assoc]
    cases hi : ids.contains x
    · cases hm : (more.take k).contains x
      · rw [firsts_new e1 (by rw [e2, e3, hi, hm]; rfl), added_hit hx hi (idxOf_eq_of_new hx hm), ih']; omega
      · rw [firsts_old e1 (by rw [e2, e3, hi, hm]; rfl), added_miss hx hi (by have := idxOf_lt_of_old (ts := more) hm; omega), ih']
    · rw [firsts_old e1 (by rw [e2, e3, hi]; rfl), added_in hx hi, ih']

theorem idxOf_both_in {ids more : List (List UInt8)} {x : List UInt8} (h : ids.contains x = true) : (ids ++ more).idxOf x = ids.idxOf x :=
  by rw [List.idxOf_append, if_pos (List.contains_iff_mem.1 h)]
theorem idxOf_both_out {ids more : List (List UInt8)} {x : List UInt8} (h : ids.contains x = false) : (ids ++ more).idxOf x = ids.length + more.idxOf x := by
  have hn : x ∉ ids := by rw [← List.contains_iff_mem, h]; simp
  rw [List.idxOf_append, if_neg hn, Nat.add_comm]
end Go.Proofs.Qxb6604336a.Pl
