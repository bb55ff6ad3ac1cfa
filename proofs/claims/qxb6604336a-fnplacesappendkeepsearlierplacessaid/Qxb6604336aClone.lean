/-
  zzCloneStrings_b1: a fresh copy, string by string.
-/
import Derived.Test.Qxb6604336aSmall
namespace Go.Proofs.Qxb6604336a
open Go.RowKit

theorem Try.info9 : (Try.prog.info? 9).map (fun i => (i.zero, i.size, i.bytes)) = some (some (.string ByteArray.empty), 1, 16) := by kernel_rfl

/-- A slice of n strings: where it has elements, its address is known and its cells hold ss. -/
def StrsAt (w : World) (a : Option Addr) (n : Nat) (ss : List ByteArray) : Prop :=
  0 < n → ∃ b off, a = some ⟨b, off, none⟩ ∧ b < w.heap.size ∧ ∀ j, j < n → w.cell? ⟨b, off + j, none⟩ = some (.string (ss.getD j ByteArray.empty))

theorem StrsAt.below {w w' : World} {a : Option Addr} {n : Nat} {ss : List ByteArray} (h : StrsAt w a n ss) (hb : Below w.heap.size w w') : StrsAt w' a n ss := by
  intro hp
  obtain ⟨b, off, ha, hlt, hc⟩ := h hp
  exact ⟨b, off, ha, Nat.lt_of_lt_of_le hlt hb.size, fun j hj => (hb.cell (p := ⟨b, off + j, none⟩) hlt).trans (hc j hj)⟩

theorem bytes1_any (a : Option Addr) (len cap : Nat) (ss : List ByteArray) (w : World) (hlen : len ≤ 9223372036854775807) (hs : StrsAt w a len ss) :
    Calls Try.prog 5 #[.slice a len cap] w fun e w' => RetB e ∧ w' = w := by
  rcases Nat.eq_zero_or_pos len with h | h
  · subst h; exact bytes1_none a cap w
  · obtain ⟨b, off, ha, _, hc⟩ := hs h
    subst ha; exact bytes1_some b off len cap ss w hlen hc

theorem total_any (a : Option Addr) (len cap : Nat) (ss : List ByteArray) (w : World) (hlen : len ≤ 9223372036854775807) (hs : StrsAt w a len ss) :
    Calls Try.prog 6 #[.slice a len cap] w fun e w' => RetI e ∧ w' = w := by
  rcases Nat.eq_zero_or_pos len with h | h
  · subst h; exact total_none a cap w
  · obtain ⟨b, off, ha, _, hc⟩ := hs h
    subst ha; exact total_some b off len cap ss w hlen hc

/-- What a clone leaves. -/
def Cloned (w : World) (n : Nat) (ss : List ByteArray) (e : Ending) (w' : World) : Prop :=
  ∃ a cap, e = .returned (.slice a n cap) ∧ StrsAt w' a n ss ∧ Below w.heap.size w w'

/-- The first k strings of the row are laid. -/
def Laid (k : Nat) (ss : List ByteArray) (xs : List Value) : Prop := ∀ j, j < k → xs[j]? = some (.string (ss.getD j ByteArray.empty))

theorem Laid.step {k : Nat} {ss : List ByteArray} {xs : List Value} (h : Laid k ss xs) (hk : k < xs.length) : Laid (k + 1) ss (xs.set k (.string (ss.getD k ByteArray.empty))) := by
  intro j hj
  rw [List.getElem?_set]
  by_cases e : k = j
  · subst e; simp [hk]
  · rw [if_neg e]; exact h j (by omega)

set_option maxHeartbeats 400000 in
theorem clone_none (a : Option Addr) (cap : Nat) (ss : List ByteArray) (w : World) :
    Calls Try.prog 7 #[.slice a 0 cap] w fun e w' => Cloned w 0 ss e w' := by
  have hq : ∀ (w : World) (a : Option Addr) (n c n' c' : Nat), (binOp .eql 22 (.slice a n c) (.slice none n' c')).run Try.prog w = .ok (.bool a.isNone) w := fun w a n c n' c' => Lib.run_eql_slice_nil w _ _ a n c n' c' Try.underlying22
  obtain ⟨i0, hi, hz0, hz1, hz2⟩ := info_parts Try.info9
  cases a with
  | none =>
    go_enter Try.func7, Try.ntmps7
    go_wp2
    go_ret
    exact ⟨_, _, rfl, fun h => absurd h (by omega), Below.refl _ _⟩
  | some ad =>
    go_enter Try.func7, Try.ntmps7
    go_wp2_with (at_make; refine wpList_make_full _ rfl _ _ 22 rfl w.heap.size 9 i0 (.string ByteArray.empty) 1 Try.underlying22 hi hz0 hz1 _ _ _ _ 0 rfl rfl rfl rfl (by omega) (Nat.zero_le _) (Nat.le_refl _) ?_; intro w1 hown hgrow)
    refine wp_loop_rounds 1 ?_
    rw [rounds_succ]
    go_wp2
    go_ret
    exact ⟨_, _, rfl, fun h => absurd h (by omega), (Below.refl _ _).grown hgrow (Nat.le_refl _) (fun k hk => by cases hk)⟩

set_option maxHeartbeats 400000 in
theorem clone_some (b off len cap : Nat) (ss : List ByteArray) (w : World) (hlen : len ≤ 65536) (hb : b < w.heap.size)
    (hc : ∀ j, j < len → w.cell? ⟨b, off + j, none⟩ = some (.string (ss.getD j ByteArray.empty))) :
    Calls Try.prog 7 #[.slice (some ⟨b, off, none⟩) len cap] w fun e w' => Cloned w len ss e w' := by
  have hq : ∀ (w : World) (a : Option Addr) (n c n' c' : Nat), (binOp .eql 22 (.slice a n c) (.slice none n' c')).run Try.prog w = .ok (.bool a.isNone) w := fun w a n c n' c' => Lib.run_eql_slice_nil w _ _ a n c n' c' Try.underlying22
  obtain ⟨i0, hi, hz0, hz1, hz2⟩ := info_parts Try.info9
  go_enter Try.func7, Try.ntmps7
  go_wp2_with (at_make; refine wpList_make_full _ rfl _ _ 22 rfl w.heap.size 9 i0 (.string ByteArray.empty) 1 Try.underlying22 hi hz0 hz1 _ _ _ _ len rfl rfl rfl rfl (by rw [hz2]; omega) (by unfold maxLen; omega) (Nat.le_refl _) ?_; intro w1 hown hgrow)
  go_loopw [4] (fun i wr => ∃ k : Nat, k ≤ len ∧ i = .int .i64 k ∧ (∃ xs, wr.ownsRow w.heap.size 9 1 (.slice (some ⟨w.heap.size, 0, none⟩) len len) len xs ∧ Laid k ss xs) ∧ Below w.heap.size w wr)
    (fun i _ => len - (intOf i).toNat)
  case atStart => exact ⟨0, Nat.zero_le _, rfl, ⟨_, hown, fun j hj => absurd hj (by omega)⟩, (Below.refl _ _).grown hgrow (Nat.le_refl _) (fun k hk => by cases hk)⟩
  case round =>
    obtain ⟨k, hk, rfl, ⟨xs, hox, hlx⟩, hnx⟩ := hrel
    by_cases hlt : k < len
    · have hcell : wr.cell? ⟨b, off + k, none⟩ = some (.string (ss.getD k ByteArray.empty)) := (hnx.cell (p := ⟨b, off + k, none⟩) hb).trans (hc k hlt)
      have hfr := hox.frozenAt k
      have hxl : xs.length = len := by have := hox.1; omega
      obtain ⟨u, hcl⟩ : ∃ u, wr.cell? ⟨w.heap.size, k, none⟩ = some u := ⟨xs[k]'(by omega), by rw [hox.cellAt k (by omega)]; simp [hxl, hlt]⟩
      have R := hox.stored k (.string (ss.getD k ByteArray.empty))
      have R2 := hlx.step (by omega)
      have R3 := hnx.grown R.2 hnx.size (fun j hj => by cases hj; exact Nat.le_refl _)
      clear hown hgrow hxl
      go_wp2
      go_roundw
      case rel => exact ⟨k + 1, by omega, by go_num, ⟨_, R.1, R2⟩, R3⟩
      case measure => simp [intOf]; omega
    · go_wp2
      go_ret
      have hk' : k = len := by omega
      subst hk'
      refine ⟨_, _, rfl, fun hp => ⟨w.heap.size, 0, rfl, ?_, fun j hj => ?_⟩, hnx⟩
      · exact (hox.lt w.heap.size rfl).2
      · rw [Nat.zero_add, hox.cellAt j (by omega)]; exact hlx j hj

theorem clone_any (a : Option Addr) (len cap : Nat) (ss : List ByteArray) (w : World) (hlen : len ≤ 65536) (hs : StrsAt w a len ss) :
    Calls Try.prog 7 #[.slice a len cap] w fun e w' => Cloned w len ss e w' := by
  rcases Nat.eq_zero_or_pos len with h | h
  · subst h; exact clone_none a cap ss w
  · obtain ⟨b, off, ha, hb, hc⟩ := hs h
    subst ha; exact clone_some b off len cap ss w hlen hb hc

end Go.Proofs.Qxb6604336a
