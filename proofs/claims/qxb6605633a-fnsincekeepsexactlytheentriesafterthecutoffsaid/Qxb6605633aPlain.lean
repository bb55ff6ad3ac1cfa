namespace Go.Proofs.Qxb6605633a.Pl

/-- The sum of a list. -/
def isum : List Int → Int
  | [] => 0
  | x :: r => x + isum r

theorem isum_append (a b : List Int) : isum (a ++ b) = isum a + isum b := by
  induction a with
  | nil => simp [isum]
  | cons x r ih => simp only [List.cons_append, isum, ih]; omega

theorem isum_snoc (a : List Int) (x : Int) : isum (a ++ [x]) = isum a + x := by
  rw [isum_append]; simp [isum]

theorem take_snoc {l : List Int} {k : Nat} (h : k < l.length) : l.take (k + 1) = l.take k ++ [l.getD k 0] := by
  rw [List.take_succ_eq_append_getElem h]; simp [List.getD, h]

/-- How many entries, from the first on, are not after the cutoff. -/
def gone (zs : List Int) (c : Int) : Nat := (zs.takeWhile (fun z => decide (z ≤ c))).length

theorem gone_le (zs : List Int) (c : Int) : gone zs c ≤ zs.length := by
  unfold gone
  exact (List.takeWhile_prefix _).length_le

theorem take_gone (zs : List Int) (c : Int) : zs.take (gone zs c) = zs.takeWhile (fun z => decide (z ≤ c)) := by
  unfold gone
  exact (List.prefix_iff_eq_take.1 (List.takeWhile_prefix _)).symm

theorem drop_gone (zs : List Int) (c : Int) : zs.drop (gone zs c) = zs.dropWhile (fun z => decide (z ≤ c)) := by
  induction zs with
  | nil => simp [gone]
  | cons z r ih =>
    unfold gone at ih ⊢
    by_cases h : z ≤ c
    · simp [h]; exact ih
    · simp [h]

/-- The loop's stop: all before k are not after c, and the k-th is after it, or there is none. -/
theorem gone_eq {zs : List Int} {c : Int} {k : Nat} (hk : k ≤ zs.length) (h1 : ∀ j, j < k → zs.getD j 0 ≤ c) (h2 : k < zs.length → c < zs.getD k 0) : gone zs c = k := by
  induction zs generalizing k with
  | nil => simp at hk; subst hk; simp [gone]
  | cons z r ih =>
    cases k with
    | zero =>
      have := h2 (by simp)
      simp at this
      unfold gone
      rw [List.takeWhile_cons, if_neg (by simp; omega)]
      rfl
    | succ k =>
      have h0 := h1 0 (by omega)
      simp at h0
      have := ih (k := k) (by simp at hk; omega) (fun j hj => by have := h1 (j + 1) (by omega); simpa using this) (fun hl => by have := h2 (by simp; omega); simpa using this)
      unfold gone at this ⊢
      rw [List.takeWhile_cons, if_pos (by simpa using h0)]
      simp [this]

/-- Oldest first. -/
def Sorted (zs : List Int) : Prop := ∀ i, 0 < i → i < zs.length → zs.getD (i - 1) 0 ≤ zs.getD i 0

theorem Sorted.tail {z : Int} {r : List Int} (h : Sorted (z :: r)) : Sorted r := by
  intro i hi hl
  have := h (i + 1) (by omega) (by simp; omega)
  cases i with
  | zero => omega
  | succ i => simpa using this

theorem Sorted.le_all {z : Int} {r : List Int} (h : Sorted (z :: r)) : ∀ x ∈ r, z ≤ x := by
  induction r generalizing z with
  | nil => intro x hx; cases hx
  | cons y r ih =>
    have hy : z ≤ y := by have := h 1 (by omega) (by simp); simpa using this
    intro x hx
    rcases List.mem_cons.1 hx with rfl | hx
    · exact hy
    · exact Int.le_trans hy (ih h.tail x hx)

/-- The entries after the cutoff are just those that are left. -/
theorem kept_sorted {zs : List Int} (h : Sorted zs) (c : Int) : zs.filter (fun z => decide (c < z)) = zs.drop (gone zs c) := by
  induction zs with
  | nil => simp [gone]
  | cons z r ih =>
    have ihr := ih h.tail
    by_cases hz : z ≤ c
    · have e : gone (z :: r) c = gone r c + 1 := by unfold gone; simp [hz]
      rw [List.filter_cons, if_neg (by simp; omega), e, List.drop_succ_cons, ihr]
    · have e : gone (z :: r) c = 0 := by unfold gone; simp [hz]
      rw [e, List.drop_zero, List.filter_eq_self]
      intro x hx
      rcases List.mem_cons.1 hx with rfl | hx
      · simp; omega
      · have := h.le_all x hx; simp; omega

/-- How many of the first k are after the cutoff, and the sum of their units. -/
def cnt (zs : List Int) (c : Int) : Nat → Nat
  | 0 => 0
  | k + 1 => cnt zs c k + if c < zs.getD k 0 then 1 else 0
def ksum (zs us : List Int) (c : Int) : Nat → Int
  | 0 => 0
  | k + 1 => ksum zs us c k + if c < zs.getD k 0 then us.getD k 0 else 0

theorem cnt_le (zs : List Int) (c : Int) (k : Nat) : cnt zs c k ≤ k := by
  induction k with
  | zero => simp [cnt]
  | succ k ih => simp only [cnt]; split <;> omega

theorem sorted_after {zs : List Int} (h : Sorted zs) {c : Int} {k : Nat} (hk : k < zs.length) : c < zs.getD k 0 ↔ gone zs c ≤ k := by
  induction zs generalizing k with
  | nil => simp at hk
  | cons z r ih =>
    by_cases hz : z ≤ c
    · have e : gone (z :: r) c = gone r c + 1 := by unfold gone; simp [hz]
      rw [e]
      cases k with
      | zero => simp; omega
      | succ k =>
        have := ih h.tail (k := k) (by simpa using hk)
        simpa using this
    · have e : gone (z :: r) c = 0 := by unfold gone; simp [hz]
      rw [e]
      cases k with
      | zero => simp; omega
      | succ k =>
        have hr : k < r.length := by simpa using hk
        have hm : r.getD k 0 ∈ r := by simp [List.getD, hr]
        have := h.le_all _ hm
        simp only [List.getD_cons_succ]; omega

theorem cnt_sorted {zs : List Int} (h : Sorted zs) (c : Int) (k : Nat) (hk : k ≤ zs.length) : cnt zs c k = k - gone zs c := by
  induction k with
  | zero => simp [cnt]
  | succ k ih =>
    have h1 := sorted_after h (c := c) (k := k) (by omega)
    have ih' := ih (by omega)
    simp only [cnt, ih']
    by_cases hc : c < zs.getD k 0
    · have := h1.1 hc; rw [if_pos hc]; omega
    · have : ¬ gone zs c ≤ k := fun e => hc (h1.2 e)
      rw [if_neg hc]; omega

theorem ksum_sorted {zs us : List Int} (h : Sorted zs) (hl : zs.length = us.length) (c : Int) (k : Nat) (hk : k ≤ zs.length) (hg : gone zs c ≤ k) : ksum zs us c k + isum (us.take (gone zs c)) = isum (us.take k) := by
  have low : ∀ j, j ≤ gone zs c → ksum zs us c j = 0 := by
    intro j hj
    induction j with
    | zero => rfl
    | succ j ih =>
      have := gone_le zs c
      have h1 := sorted_after h (c := c) (k := j) (by omega)
      simp only [ksum, ih (by omega)]
      rw [if_neg (fun e => by have := h1.1 e; omega)]; rfl
  induction k with
  | zero =>
    have : gone zs c = 0 := by omega
    rw [this]; simp [ksum, isum]
  | succ k ih =>
    by_cases e : gone zs c = k + 1
    · rw [low (k + 1) (by omega), e]; omega
    · have ih' := ih (by omega) (by omega)
      have h1 := sorted_after h (c := c) (k := k) (by omega)
      simp only [ksum]
      rw [if_pos (h1.2 (by omega)), take_snoc (by omega), isum_snoc]; omega

theorem gone_twice (zs : List Int) (a b m : Int) (hm : (m = a ∧ b ≤ a) ∨ (m = b ∧ a < b)) : gone zs a + gone (zs.drop (gone zs a)) b = gone zs m := by
  induction zs with
  | nil => simp [gone]
  | cons z r ih =>
    by_cases hz : z ≤ a
    · have e : gone (z :: r) a = gone r a + 1 := by unfold gone; simp [hz]
      have hzm : z ≤ m := by omega
      have e2 : gone (z :: r) m = gone r m + 1 := by unfold gone; simp [hzm]
      rw [e, e2, List.drop_succ_cons]; omega
    · have e : gone (z :: r) a = 0 := by unfold gone; simp [hz]
      rw [e, List.drop_zero, Nat.zero_add]
      rcases hm with ⟨rfl, hb⟩ | ⟨rfl, _⟩
      · have e3 : gone (z :: r) b = 0 := by unfold gone; simp [show ¬ z ≤ b by omega]
        rw [e3, e]
      · rfl

theorem isum_take_add (us : List Int) (g h : Nat) : isum (us.take (g + h)) = isum (us.take g) + isum ((us.drop g).take h) := by
  rw [List.take_add, isum_append]

end Go.Proofs.Qxb6605633a.Pl
