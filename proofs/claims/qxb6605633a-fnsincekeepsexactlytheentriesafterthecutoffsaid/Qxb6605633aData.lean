/-
  The law's own helpers over slices of int64: the bounds, the premise, the clone, what is kept, the suffix.
-/
import Derived.Test.Qxb6605633aSub
import Derived.Test.Qxb6605633aPlain
import Derived.Deep.QuietTactic
import Derived.BigQuiet
namespace Go.Proofs.Qxb6605633a
open Go.RowKit

/-- Some bool comes back. -/
def RetB (e : Ending) : Prop := ∃ x, e = .returned (.bool x)

set_option maxHeartbeats 400000 in
theorem bytes4_any (a a' : Option Addr) (n c n' c' : Nat) (x y : Int) (w : World) (hn : n ≤ 9223372036854775807) (hn' : n' ≤ 9223372036854775807) :
    Calls Try.prog 5 #[.slice a n c, .slice a' n' c', .int .i64 x, .int .i64 y] w fun e w' => RetB e ∧ w' = w := by
  go_enter Try.func5, Try.ntmps5
  go_wp2
  all_goals (go_ret; exact ⟨⟨_, rfl⟩, rfl⟩)

set_option maxHeartbeats 400000 in
theorem bytes5_any (a a' : Option Addr) (n c n' c' : Nat) (x y z : Int) (w : World) (hn : n ≤ 9223372036854775807) (hn' : n' ≤ 9223372036854775807) :
    Calls Try.prog 17 #[.slice a n c, .slice a' n' c', .int .i64 x, .int .i64 y, .int .i64 z] w fun e w' => RetB e ∧ w' = w := by
  go_enter Try.func17, Try.ntmps17
  go_wp2
  all_goals (go_ret; exact ⟨⟨_, rfl⟩, rfl⟩)

theorem Try.info2 : (Try.prog.info? 2).map (fun i => (i.zero, i.size, i.bytes)) = some (some (.int .i64 0), 1, 8) := by kernel_rfl

/-- A slice of n numbers: where it has elements, its address is known and its cells hold zs. -/
def IntsAt (w : World) (a : Option Addr) (n : Nat) (zs : List Int) : Prop :=
  0 < n → ∃ b off, a = some ⟨b, off, none⟩ ∧ b < w.heap.size ∧ ∀ j, j < n → w.cell? ⟨b, off + j, none⟩ = some (.int .i64 (zs.getD j 0))

theorem IntsAt.below {w w' : World} {a : Option Addr} {n : Nat} {zs : List Int} (h : IntsAt w a n zs) (hb : Below w.heap.size w w') : IntsAt w' a n zs := by
  intro hp
  obtain ⟨b, off, ha, hlt, hc⟩ := h hp
  exact ⟨b, off, ha, Nat.lt_of_lt_of_le hlt hb.size, fun j hj => (hb.cell (p := ⟨b, off + j, none⟩) hlt).trans (hc j hj)⟩

theorem IntsAt.drewN {w : World} {a : Option Addr} {n : Nat} {zs : List Int} (h : IntsAt w a n zs) (q : Nat) : IntsAt (w.drewN q) a n zs := h

/-- What a clone leaves. -/
def Cloned (w : World) (n : Nat) (zs : List Int) (e : Ending) (w' : World) : Prop :=
  ∃ a cap, e = .returned (.slice a n cap) ∧ IntsAt w' a n zs ∧ Below w.heap.size w w'

/-- The first k numbers of the row are laid. -/
def Laid (k : Nat) (zs : List Int) (xs : List Value) : Prop := ∀ j, j < k → xs[j]? = some (.int .i64 (zs.getD j 0))

theorem Laid.step {k : Nat} {zs : List Int} {xs : List Value} (h : Laid k zs xs) (hk : k < xs.length) : Laid (k + 1) zs (xs.set k (.int .i64 (zs.getD k 0))) := by
  intro j hj
  rw [List.getElem?_set]
  by_cases e : k = j
  · subst e; simp [hk]
  · rw [if_neg e]; exact h j (by omega)

set_option maxHeartbeats 400000 in
theorem clone_none (a : Option Addr) (cap : Nat) (zs : List Int) (w : World) :
    Calls Try.prog 7 #[.slice a 0 cap] w fun e w' => Cloned w 0 zs e w' := by
  have hq : ∀ (w : World) (a : Option Addr) (n c n' c' : Nat), (binOp .eql 22 (.slice a n c) (.slice none n' c')).run Try.prog w = .ok (.bool a.isNone) w := fun w a n c n' c' => Lib.run_eql_slice_nil w _ _ a n c n' c' Try.underlying22
  obtain ⟨i0, hi, hz0, hz1, hz2⟩ := info_parts Try.info2
  cases a with
  | none =>
    go_enter Try.func7, Try.ntmps7
    go_wp2
    go_ret
    exact ⟨_, _, rfl, fun h => absurd h (by omega), Below.refl _ _⟩
  | some ad =>
    go_enter Try.func7, Try.ntmps7
    go_wp2_with (at_make; refine wpList_make_full _ rfl _ _ 22 rfl w.heap.size 2 i0 (.int .i64 0) 1 Try.underlying22 hi hz0 hz1 _ _ _ _ 0 rfl rfl rfl rfl (by omega) (Nat.zero_le _) (Nat.le_refl _) ?_; intro w1 hown hgrow)
    refine wp_loop_rounds 1 ?_
    rw [rounds_succ]
    go_wp2
    go_ret
    exact ⟨_, _, rfl, fun h => absurd h (by omega), (Below.refl _ _).grown hgrow (Nat.le_refl _) (fun k hk => by cases hk)⟩

set_option maxHeartbeats 400000 in
theorem clone_some (b off len cap : Nat) (zs : List Int) (w : World) (hlen : len ≤ 131072) (hb : b < w.heap.size)
    (hc : ∀ j, j < len → w.cell? ⟨b, off + j, none⟩ = some (.int .i64 (zs.getD j 0))) :
    Calls Try.prog 7 #[.slice (some ⟨b, off, none⟩) len cap] w fun e w' => Cloned w len zs e w' := by
  have hq : ∀ (w : World) (a : Option Addr) (n c n' c' : Nat), (binOp .eql 22 (.slice a n c) (.slice none n' c')).run Try.prog w = .ok (.bool a.isNone) w := fun w a n c n' c' => Lib.run_eql_slice_nil w _ _ a n c n' c' Try.underlying22
  obtain ⟨i0, hi, hz0, hz1, hz2⟩ := info_parts Try.info2
  go_enter Try.func7, Try.ntmps7
  go_wp2_with (at_make; refine wpList_make_full _ rfl _ _ 22 rfl w.heap.size 2 i0 (.int .i64 0) 1 Try.underlying22 hi hz0 hz1 _ _ _ _ len rfl rfl rfl rfl (by rw [hz2]; omega) (by unfold maxLen; omega) (Nat.le_refl _) ?_; intro w1 hown hgrow)
  go_loopw [4] (fun i wr => ∃ k : Nat, k ≤ len ∧ i = .int .i64 k ∧ (∃ xs, wr.ownsRow w.heap.size 2 1 (.slice (some ⟨w.heap.size, 0, none⟩) len len) len xs ∧ Laid k zs xs) ∧ Below w.heap.size w wr)
    (fun i _ => len - (intOf i).toNat)
  case atStart => exact ⟨0, Nat.zero_le _, rfl, ⟨_, hown, fun j hj => absurd hj (by omega)⟩, (Below.refl _ _).grown hgrow (Nat.le_refl _) (fun k hk => by cases hk)⟩
  case round =>
    obtain ⟨k, hk, rfl, ⟨xs, hox, hlx⟩, hnx⟩ := hrel
    by_cases hlt : k < len
    · have hcell : wr.cell? ⟨b, off + k, none⟩ = some (.int .i64 (zs.getD k 0)) := (hnx.cell (p := ⟨b, off + k, none⟩) hb).trans (hc k hlt)
      have hfr := hox.frozenAt k
      have hxl : xs.length = len := by have := hox.1; omega
      obtain ⟨u, hcl⟩ : ∃ u, wr.cell? ⟨w.heap.size, k, none⟩ = some u := ⟨xs[k]'(by omega), by rw [hox.cellAt k (by omega)]; simp [hxl, hlt]⟩
      have R := hox.stored k (.int .i64 (zs.getD k 0))
      have R2 := hlx.step (by omega)
      have R3 := hnx.grown R.2 hnx.size (fun j hj => by cases hj; exact Nat.le_refl _)
      clear hown hgrow hxl
      go_wp2
      go_roundw
      case rel => exact ⟨k + 1, by omega, by go_num, ⟨_, R.1, R2⟩, R3⟩
      case measure => simp [intOf]; omega
    · go_wp2
      go_ret
      have hk' : k = len := by omega
      subst hk'
      refine ⟨_, _, rfl, fun hp => ⟨w.heap.size, 0, rfl, ?_, fun j hj => ?_⟩, hnx⟩
      · exact (hox.lt w.heap.size rfl).2
      · rw [Nat.zero_add, hox.cellAt j (by omega)]; exact hlx j hj

theorem clone_any (a : Option Addr) (len cap : Nat) (zs : List Int) (w : World) (hlen : len ≤ 131072) (hs : IntsAt w a len zs) :
    Calls Try.prog 7 #[.slice a len cap] w fun e w' => Cloned w len zs e w' := by
  rcases Nat.eq_zero_or_pos len with h | h
  · subst h; exact clone_none a cap zs w
  · obtain ⟨b, off, ha, hb, hc⟩ := hs h
    subst ha; exact clone_some b off len cap zs w hlen hb hc

theorem wrap_add (x y : Int) : wrap64 (wrap64 x + y) = wrap64 (x + y) := by unfold wrap64; omega
theorem wrap_sub (x y : Int) : wrap64 (wrap64 x - y) = wrap64 (x - y) := by unfold wrap64; omega
theorem wrap_zero : wrap64 0 = 0 := by unfold wrap64; omega
theorem wrap_id {x : Int} (h1 : -9223372036854775808 ≤ x) (h2 : x ≤ 9223372036854775807) : wrap64 x = x := by unfold wrap64; omega

/-- The premise: a bool; where it is true the entries are as many as the units, oldest first, and the total is their sum. -/
def Premised (w : World) (zs us : List Int) (total : Int) (e : Ending) (w' : World) : Prop :=
  ∃ x q, e = .returned (.bool x) ∧ w' = w.drewN q ∧ (x = true → zs.length = us.length ∧ Pl.Sorted zs ∧ wrap64 (Pl.isum us) = total)

theorem sum_step (us : List Int) (k : Nat) (hk : k < us.length) : wrap64 (wrap64 (Pl.isum (us.take k)) + us.getD k 0) = wrap64 (Pl.isum (us.take (k + 1))) := by
  rw [wrap_add, Pl.take_snoc hk, Pl.isum_snoc]

theorem sum_start (us : List Int) : wrap64 (Pl.isum (us.take 0)) = 0 := by
  rw [List.take_zero]; exact wrap_zero

/-- Sorted so far. -/
def SortedTo (zs : List Int) (k : Nat) : Prop := ∀ i, 0 < i → i < k → zs.getD (i - 1) 0 ≤ zs.getD i 0
theorem SortedTo.step {zs : List Int} {k : Nat} (h : SortedTo zs k) (hk : 0 < k → zs.getD (k - 1) 0 ≤ zs.getD k 0) : SortedTo zs (k + 1) := by
  intro i hi hl
  by_cases e : i = k
  · subst e; exact hk hi
  · exact h i hi (by omega)

set_option maxRecDepth 100000 in
set_option maxHeartbeats 1000000 in
theorem premise_any (a : Option Addr) (n cap : Nat) (zs : List Int) (a' : Option Addr) (m cap' : Nat) (us : List Int) (total : Int) (w : World) (hn : n ≤ 131072) (hm : m ≤ 131072)
    (hs : IntsAt w a n zs) (hu : IntsAt w a' m us) (hls : zs.length = n) (hlu : us.length = m) :
    Calls Try.prog 6 #[.slice a n cap, .slice a' m cap', .int .i64 total] w fun e w' => Premised w zs us total e w' := by
  have HLS : Hid (zs.length = n) := hls
  have HLU : Hid (us.length = m) := hlu
  clear hls hlu
  by_cases hne : n = m
  · subst hne
    go_enter Try.func6, Try.ntmps6
    go_wp2_with fail
    go_loopw [7, 8] (fun t i wr => ∃ k : Nat, k ≤ n ∧ i = .int .i64 k ∧ t = .int .i64 (wrap64 (Pl.isum (us.take k))) ∧ SortedTo zs k ∧ ∃ q, wr = w.drewN q)
      (fun _ i _ => n - (intOf i).toNat)
    case atStart => exact ⟨0, Nat.zero_le _, rfl, by rw [sum_start], fun i hi hl => absurd hl (by omega), 0, rfl⟩
    case round =>
      obtain ⟨k, hk, rfl, rfl, hso, q, rfl⟩ := hrel
      by_cases hlt : k < n
      · obtain ⟨b, off, ha, hb, hc⟩ := hs (by omega)
        obtain ⟨b2, off2, ha2, hb2, hc2⟩ := hu (by omega)
        subst ha
        subst ha2
        have hcu := hc2 k hlt
        have HS : Hid (wrap64 (wrap64 (Pl.isum (us.take k)) + us.getD k 0) = wrap64 (Pl.isum (us.take (k + 1)))) := sum_step us k (by rw [HLU.out]; exact hlt)
        generalize us.getD k 0 = u at hcu HS
        rcases Nat.eq_zero_or_pos k with h0 | h0
        · have HN : Hid (SortedTo zs (k + 1)) := hso.step (fun h => by omega)
          have hd : decide (0 < k) = false := by simp; omega
          clear hs hu hc hc2 h0
          go_wp2_with fail
          go_quiet (fail)
          go_wp2
          go_roundw
          case rel => exact ⟨k + 1, by omega, by go_num, by rw [← HS.out], HN.out, _, rfl⟩
          case measure => simp [intOf]; omega
        · have hc1 := hc k hlt
          have hc0 : w.cell? ⟨b, off + (k - 1), none⟩ = some (.int .i64 (zs.getD (k - 1) 0)) := hc (k - 1) (by omega)
          have hstep : zs.getD (k - 1) 0 ≤ zs.getD k 0 → SortedTo zs (k + 1) := fun h => hso.step (fun _ => h)
          have HN : Hid (zs.getD (k - 1) 0 ≤ zs.getD k 0 → SortedTo zs (k + 1)) := hstep
          generalize zs.getD (k - 1) 0 = z0 at hc0 HN
          generalize zs.getD k 0 = z1 at hc1 HN
          have hd : decide ((0 : Int) < (k : Int)) = true := by simp; omega
          have hi1 : (k : Int) < (n : Int) := by omega
          have hi2 : (1 : Int) ≤ (k : Int) := by omega
          clear hs hu hc hc2 hstep hso
          by_cases hz : z1 < z0
          · go_wp2_with fail
            go_quiet (fail)
            go_wp2
            go_ret
            exact ⟨false, _, rfl, World.drewN_drewN _ _ _, fun h => by cases h⟩
          · go_wp2_with fail
            go_quiet (fail)
            go_wp2
            go_roundw
            case rel => exact ⟨k + 1, by omega, by go_num, by rw [← HS.out], HN.out (by omega), _, rfl⟩
            case measure => simp [intOf]; omega
      · have hk' : n = k := by omega
        subst hk'
        have HT : Hid (us.take n = us) := List.take_of_length_le (by rw [HLU.out]; exact Nat.le_refl _)
        rw [HT.out]
        clear hs hu
        go_wp2
        go_ret
        exact ⟨_, _, rfl, rfl, fun h => ⟨by rw [HLS.out, HLU.out], fun i hi hl => hso i hi (by rw [← HLS.out]; exact hl), by simpa using h⟩⟩
  · go_enter Try.func6, Try.ntmps6
    have hne' : ((n : Int) != (m : Int)) = true := by simp; omega
    go_wp2
    go_ret
    exact ⟨false, 0, rfl, rfl, fun h => by cases h⟩

end Go.Proofs.Qxb6605633a
