/-
  plan.ZZplanOfIDs: a Plan whose instruments carry the ids.
-/
import Derived.Test.Qxb6604336aClone
namespace Go.Proofs.Qxb6604336a
open Go.RowKit

/-- An Instrument's zero value. -/
def Z49 : Value := .agg #[.string ByteArray.empty, .string ByteArray.empty, .int .i64 0, .int .i64 0, .string ByteArray.empty, .pointer none, .int .u64 0, .int .i64 0, .pointer none, .pointer none, .bool false, .string ByteArray.empty, .pointer none, .pointer none, .pointer none, .pointer none, .pointer none, .slice none 0 0, .slice none 0 0, .string ByteArray.empty, .map none]
theorem Try.info49 : (Try.prog.info? 49).map (fun i => (i.zero, i.size, i.bytes)) = some (some Z49, 21, 240) := by kernel_rfl
theorem Z49_cells : Z49.cells.size = 21 := by rfl

/-- Of the first k instruments the ids are laid; each value is one cell. -/
structure LaidI (k : Nat) (ss : List ByteArray) (xs : List Value) : Prop where
  at_ : ∀ j, j < k → xs[j * 21]? = some (.string (ss.getD j ByteArray.empty))
  one : ∀ u ∈ xs, u.oneCell' = true

theorem LaidI.step {k : Nat} {ss : List ByteArray} {xs : List Value} (h : LaidI k ss xs) (hk : k * 21 < xs.length) : LaidI (k + 1) ss (xs.set (k * 21) (.string (ss.getD k ByteArray.empty))) := by
  refine ⟨fun j hj => ?_, fun u hu => ?_⟩
  · rw [List.getElem?_set]
    by_cases e : k = j
    · subst e; simp [hk]
    · rw [if_neg (by omega)]; exact h.at_ j (by omega)
  · rcases List.mem_or_eq_of_mem_set hu with h' | h'
    · exact h.one u h'
    · rw [h']; rfl

theorem Z49_one : ∀ i, i < 21 → (Z49.cells[i]!).oneCell' = true := by decide +kernel

theorem LaidI.start (ss : List ByteArray) (n : Nat) : LaidI 0 ss (madeCells Z49.cells n).toList := by
  refine ⟨fun j hj => absurd hj (by omega), fun u hu => ?_⟩
  have hu' : u ∈ madeCells Z49.cells n := by simpa using hu
  unfold madeCells at hu'
  obtain ⟨i, _, rfl⟩ := Array.mem_map.1 hu'
  exact Z49_one _ (by rw [Z49_cells]; exact Nat.mod_lt _ (by omega))

/-- Block gp holds a Plan whose n instruments carry ss. -/
def PlanAt (w : World) (B gp n : Nat) (ss : List ByteArray) : Prop :=
  ∃ gi xs, B ≤ gp ∧ gp < w.heap.size ∧ w.cell? ⟨gp, 3, none⟩ = some (.slice (some ⟨gi, 0, none⟩) n n) ∧ w.ownsRow B 49 21 (.slice (some ⟨gi, 0, none⟩) n n) n xs ∧ LaidI n ss xs

/-- What ZZplanOfIDs leaves. -/
def Planned (w : World) (n : Nat) (ss : List ByteArray) (e : Ending) (w' : World) : Prop :=
  ∃ gp, e = .returned (.pointer (some ⟨gp, 0, none⟩)) ∧ PlanAt w' w.heap.size gp n ss ∧ Below w.heap.size w w'

set_option maxHeartbeats 400000 in
theorem plan_some (b off len cap : Nat) (ss : List ByteArray) (w : World) (hlen : len ≤ 131072) (hb : b < w.heap.size)
    (hc : ∀ j, j < len → w.cell? ⟨b, off + j, none⟩ = some (.string (ss.getD j ByteArray.empty))) :
    Calls Try.prog 9 #[.slice (some ⟨b, off, none⟩) len cap] w fun e w' => Planned w len ss e w' := by
  obtain ⟨i0, hi, hz0, hz1, hz2⟩ := info_parts Try.info49
  go_enter Try.func9, Try.ntmps9
  go_wp2_with (at_make; refine wpList_make_full _ rfl _ _ 33 rfl w.heap.size 49 i0 Z49 21 Try.underlying33 hi hz0 hz1 _ _ _ _ len rfl rfl rfl rfl (by rw [hz2]; omega) (by unfold maxLen; omega) (Nat.le_refl _) ?_; intro w1 hown hgrow)
  go_loopw [4] (fun i wr => ∃ k : Nat, k ≤ len ∧ i = .int .i64 k ∧ (∃ xs, wr.ownsRow w.heap.size 49 21 (.slice (some ⟨w.heap.size, 0, none⟩) len len) len xs ∧ LaidI k ss xs) ∧ Below w.heap.size w wr)
    (fun i _ => len - (intOf i).toNat)
  case atStart => exact ⟨0, Nat.zero_le _, rfl, ⟨_, hown, LaidI.start _ _⟩, (Below.refl _ _).grown hgrow (Nat.le_refl _) (fun k hk => by cases hk)⟩
  case round =>
    obtain ⟨k, hk, rfl, ⟨xs, hox, hlx⟩, hnx⟩ := hrel
    by_cases hlt : k < len
    · have hcell : wr.cell? ⟨b, off + k, none⟩ = some (.string (ss.getD k ByteArray.empty)) := (hnx.cell (p := ⟨b, off + k, none⟩) hb).trans (hc k hlt)
      have hfr := hox.frozenAt (k * 21)
      have hxl : xs.length = len * 21 := hox.1
      obtain ⟨u, hcl⟩ : ∃ u, wr.cell? ⟨w.heap.size, k * 21, none⟩ = some u := ⟨xs[k * 21]'(by omega), by rw [hox.cellAt (k * 21) (by omega)]; simp [hxl, hlt]⟩
      have R := hox.stored (k * 21) (.string (ss.getD k ByteArray.empty))
      have R2 := hlx.step (by omega)
      have R3 := hnx.grown R.2 hnx.size (fun j hj => by cases hj; exact Nat.le_refl _)
      clear hown hgrow hxl
      go_wp2
      go_roundw
      case rel => exact ⟨k + 1, by omega, by go_num, ⟨_, R.1, R2⟩, R3⟩
      case measure => simp [intOf]; omega
    · go_wp2
      go_ret
      have hk' : k = len := by omega
      subst hk'
      have hsz := hnx.size
      refine ⟨_, rfl, ⟨w.heap.size, xs, hsz, ?_, ?_, hox.alloc _, hlx⟩, hnx.alloc hsz _⟩
      · simp
      · simp

set_option maxHeartbeats 400000 in
theorem plan_none (a : Option Addr) (cap : Nat) (ss : List ByteArray) (w : World) :
    Calls Try.prog 9 #[.slice a 0 cap] w fun e w' => Planned w 0 ss e w' := by
  obtain ⟨i0, hi, hz0, hz1, hz2⟩ := info_parts Try.info49
  go_enter Try.func9, Try.ntmps9
  go_wp2_with (at_make; refine wpList_make_full _ rfl _ _ 33 rfl w.heap.size 49 i0 Z49 21 Try.underlying33 hi hz0 hz1 _ _ _ _ 0 rfl rfl rfl rfl (by omega) (Nat.zero_le _) (Nat.le_refl _) ?_; intro w1 hown hgrow)
  refine wp_loop_rounds 1 ?_
  rw [rounds_succ]
  go_wp2
  go_ret
  have hnx : Below w.heap.size w w1 := (Below.refl _ _).grown hgrow (Nat.le_refl _) (fun k hk => by cases hk)
  have hsz := hnx.size
  refine ⟨_, rfl, ⟨w.heap.size, _, hsz, ?_, ?_, hown.alloc _, LaidI.start _ _⟩, hnx.alloc hsz _⟩
  · simp
  · simp

theorem plan_any (a : Option Addr) (len cap : Nat) (ss : List ByteArray) (w : World) (hlen : len ≤ 131072) (hs : StrsAt w a len ss) :
    Calls Try.prog 9 #[.slice a len cap] w fun e w' => Planned w len ss e w' := by
  rcases Nat.eq_zero_or_pos len with h | h
  · subst h; exact plan_none a cap ss w
  · obtain ⟨b, off, ha, hb, hc⟩ := hs h
    subst ha; exact plan_some b off len cap ss w hlen hb hc

end Go.Proofs.Qxb6604336a
