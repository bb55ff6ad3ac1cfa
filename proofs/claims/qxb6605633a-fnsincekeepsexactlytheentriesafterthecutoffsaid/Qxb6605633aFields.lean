/-
  ZZsince, and what reads a log: its length, its total, its generation, its instants, its units.
-/
import Derived.Test.Qxb6605633aSince
namespace Go.Proofs.Qxb6605633a
open Go.RowKit

/-- What ZZsince leaves. -/
def Sinced (w : World) (n : Nat) (zs us : List Int) (tot c : Int) (e : Ending) (w' : World) : Prop :=
  ∃ g, e = .returned (.pointer (some ⟨g, 0, none⟩)) ∧ LogAt w' g (n - Pl.gone zs c) (zs.drop (Pl.gone zs c)) (us.drop (Pl.gone zs c)) (wrap64 (tot - Pl.isum (us.take (Pl.gone zs c)))) ∧ Below w.heap.size w w'

set_option maxRecDepth 100000 in
set_option maxHeartbeats 1000000 in
theorem zzsince_any (w : World) (g n : Nat) (zs us : List Int) (tot c : Int) (h : LogAt w g n zs us tot) (hn : n ≤ 131072) (hls : zs.length = n) (hlu : us.length = n) (ht1 : -9223372036854775808 ≤ tot) (ht2 : tot ≤ 9223372036854775807)
    (hc1 : -9223372036854775808 ≤ c) (hc2 : c ≤ 9223372036854775807) :
    Calls Try.prog 9 #[.pointer (some ⟨g, 0, none⟩), .int .i64 c] w fun e w' => Sinced w n zs us tot c e w' := by
  have HLS : Hid (zs.length = n) := hls
  have HLU : Hid (us.length = n) := hlu
  clear hls hlu
  go_enter Try.func9, Try.ntmps9
  go_wp2_with fail
  refine (instant_any _ c hc1 hc2).mono ?_
  rintro e w1 ⟨rfl, hb1⟩
  have h1 := h.below hb1
  clear h
  go_wp2_with fail
  refine (since_any _ g n zs us tot c h1 hn HLS.out HLU.out ht1 ht2).mono ?_
  rintro e w2 ⟨b, off, rfl, hE, hb2⟩
  have hb := below_then hb1 hb2
  clear h1 hb1 hb2
  go_wp2
  go_ret
  refine ⟨_, rfl, ⟨b, off, ?_, ?_, ?_, ?_, hE.below ((Below.refl _ _).alloc (Nat.le_refl _) _)⟩, hb.alloc hb.size _⟩
  · simp
  · simp
  · simp
  · simp

theorem len_any (w : World) (g n : Nat) (zs us : List Int) (tot : Int) (h : LogAt w g n zs us tot) :
    Calls Try.prog 11 #[.pointer (some ⟨g, 0, none⟩)] w fun e w' => e = .returned (.int .i64 (n : Int)) ∧ w' = w := by
  obtain ⟨b, off, hg, h0, h1, h2, hE⟩ := h
  go_enter Try.func11, Try.ntmps11
  go_wp2
  go_ret
  exact ⟨rfl, rfl⟩

theorem total_any (w : World) (g n : Nat) (zs us : List Int) (tot : Int) (h : LogAt w g n zs us tot) :
    Calls Try.prog 12 #[.pointer (some ⟨g, 0, none⟩)] w fun e w' => e = .returned (.int .i64 tot) ∧ w' = w := by
  obtain ⟨b, off, hg, h0, h1, h2, hE⟩ := h
  go_enter Try.func12, Try.ntmps12
  go_wp2
  go_ret
  exact ⟨rfl, rfl⟩

theorem gen_any (w : World) (g n : Nat) (zs us : List Int) (tot : Int) (h : LogAt w g n zs us tot) :
    Calls Try.prog 13 #[.pointer (some ⟨g, 0, none⟩)] w fun e w' => e = .returned (.int .u32 0) ∧ w' = w := by
  obtain ⟨b, off, hg, h0, h1, h2, hE⟩ := h
  go_enter Try.func13, Try.ntmps13
  go_wp2
  go_ret
  exact ⟨rfl, rfl⟩

/-- The first k numbers, as values. -/
def VS (zs : List Int) (k : Nat) : List Value := (List.range k).map (fun j => Value.int .i64 (zs.getD j 0))
theorem VS_step (zs : List Int) (k : Nat) : VS zs (k + 1) = VS zs k ++ [.int .i64 (zs.getD k 0)] := by
  simp [VS, List.range_succ]
theorem VS_at {zs : List Int} {k j : Nat} (h : j < k) : (VS zs k)[j]? = some (.int .i64 (zs.getD j 0)) := by
  simp [VS, h]

/-- Numbers come back, in new memory. -/
def Nums (w : World) (n : Nat) (zs : List Int) (e : Ending) (w' : World) : Prop :=
  ∃ a cap, e = .returned (.slice a n cap) ∧ IntsAt w' a n zs ∧ Below w.heap.size w w'

theorem nums_of {w : World} {B n cap : Nat} {zs : List Int} (h : w.ownsRow B 2 1 (.slice (some ⟨B, 0, none⟩) n cap) n (VS zs n)) : IntsAt w (some ⟨B, 0, none⟩) n zs := by
  intro _
  refine ⟨B, 0, rfl, (h.lt B rfl).2, fun j hj => ?_⟩
  rw [Nat.zero_add, h.cellAt j (by omega)]
  exact VS_at hj

set_option maxRecDepth 100000 in
set_option maxHeartbeats 1000000 in
theorem units_any (w : World) (g n : Nat) (zs us : List Int) (tot : Int) (h : LogAt w g n zs us tot) (hn : n ≤ 131072) :
    Calls Try.prog 16 #[.pointer (some ⟨g, 0, none⟩)] w fun e w' => Nums w n us e w' := by
  obtain ⟨b, off, hg, h0, h1, h2, hE⟩ := h
  obtain ⟨i0, hi, hz0, hz1, hz2⟩ := info_parts Try.info2
  go_enter Try.func16, Try.ntmps16
  go_wp2_with (at_make; refine wpList_make_own _ rfl _ _ 22 rfl w.heap.size 2 i0 (.int .i64 0) 1 Try.underlying22 hi hz0 hz1 _ _ _ n rfl rfl rfl (by rw [hz2]; omega) (by unfold maxLen; omega) (Nat.le_refl _) ?_; intro w1 hown hgrow)
  go_loopw [3, 4] (fun v i wr => ∃ k : Nat, k ≤ n ∧ i = .int .i64 k ∧ v = .slice (some ⟨w.heap.size, 0, none⟩) k n ∧ wr.ownsRow w.heap.size 2 1 (.slice (some ⟨w.heap.size, 0, none⟩) k n) k (VS us k) ∧ Below w.heap.size w wr)
    (fun _ i _ => n - (intOf i).toNat)
  case atStart => exact ⟨0, Nat.zero_le _, rfl, rfl, hown, (Below.refl _ _).grown hgrow (Nat.le_refl _) (fun k hk => by cases hk)⟩
  case round =>
    clear hown hgrow
    obtain ⟨k, hk, rfl, rfl, hox, hnx⟩ := hrel
    have g0 : wr.cell? ⟨g, 0, none⟩ = some (.slice (some ⟨b, off, none⟩) n n) := (hnx.cell (p := ⟨g, 0, none⟩) hg).trans h0
    by_cases hlt : k < n
    · have c3 := ((hE.below hnx).2 k hlt).2.2.2
      have HV : Hid (VS us (k + 1) = VS us k ++ [.int .i64 (us.getD k 0)]) := VS_step us k
      generalize us.getD k 0 = u at c3 HV
      clear h0 h1 h2 hE
      go_wp2_with (at_builtin; refine wpList_append_fits _ rfl _ _ 22 rfl w.heap.size 2 i0 1 Try.underlying22 hi hz1 w.heap.size k n _ rfl (hox.alloc _) ⟨wr.heap.size, 0, none⟩ 1 1 [.int .i64 u] rfl rfl (cell_one_new _ _ _) (ints_oneCell .i64 [u]) (by omega) ?_; intro w4 hown4 hgrow4)
      go_roundw
      case rel => exact ⟨k + 1, by omega, by go_num, rfl, by rw [HV.out]; exact hown4, (hnx.alloc hnx.size _).grown hgrow4 (by simp; exact Nat.le_trans hnx.size (Nat.le_succ _)) (fun j hj => by cases hj; exact Nat.le_refl _)⟩
      case measure => simp [intOf]; omega
    · have hk' : n = k := by omega
      subst hk'
      go_wp2
      go_ret
      exact ⟨_, _, rfl, nums_of hox, hnx⟩

set_option maxRecDepth 100000 in
set_option maxHeartbeats 1000000 in
theorem ats_any (w : World) (g n : Nat) (zs us : List Int) (tot : Int) (h : LogAt w g n zs us tot) (hn : n ≤ 131072) (hwz : Wide zs) :
    Calls Try.prog 15 #[.pointer (some ⟨g, 0, none⟩)] w fun e w' => Nums w n zs e w' := by
  obtain ⟨b, off, hg, h0, h1, h2, hE⟩ := h
  obtain ⟨i0, hi, hz0, hz1, hz2⟩ := info_parts Try.info2
  go_enter Try.func15, Try.ntmps15
  go_wp2_with (at_make; refine wpList_make_own _ rfl _ _ 22 rfl w.heap.size 2 i0 (.int .i64 0) 1 Try.underlying22 hi hz0 hz1 _ _ _ n rfl rfl rfl (by rw [hz2]; omega) (by unfold maxLen; omega) (Nat.le_refl _) ?_; intro w1 hown hgrow)
  go_loopw [3, 4] (fun v i wr => ∃ k : Nat, k ≤ n ∧ i = .int .i64 k ∧ v = .slice (some ⟨w.heap.size, 0, none⟩) k n ∧ wr.ownsRow w.heap.size 2 1 (.slice (some ⟨w.heap.size, 0, none⟩) k n) k (VS zs k) ∧ Below w.heap.size w wr)
    (fun _ i _ => n - (intOf i).toNat)
  case atStart => exact ⟨0, Nat.zero_le _, rfl, rfl, hown, (Below.refl _ _).grown hgrow (Nat.le_refl _) (fun k hk => by cases hk)⟩
  case round =>
    clear hown hgrow
    obtain ⟨k, hk, rfl, rfl, hox, hnx⟩ := hrel
    have g0 : wr.cell? ⟨g, 0, none⟩ = some (.slice (some ⟨b, off, none⟩) n n) := (hnx.cell (p := ⟨g, 0, none⟩) hg).trans h0
    by_cases hlt : k < n
    · obtain ⟨c0, c1, c2, _⟩ := (hE.below hnx).2 k hlt
      have HV : Hid (VS zs (k + 1) = VS zs k ++ [.int .i64 (zs.getD k 0)]) := VS_step zs k
      obtain ⟨hw1, hw2⟩ := hwz k
      generalize zs.getD k 0 = z at c0 c1 HV hw1 hw2
      clear h0 h1 h2 hE hwz
      go_wp2_with fail
      refine (nanos_any _ z hw1 hw2).mono ?_
      rintro e w3 ⟨rfl, pb⟩
      have hox3 := owns_below hox pb
      have hnx3 := hnx.trans (pb.mono hnx.size)
      clear c0 c1 c2 g0 pb hox
      go_wp2_with (at_builtin; refine wpList_append_fits _ rfl _ _ 22 rfl w.heap.size 2 i0 1 Try.underlying22 hi hz1 w.heap.size k n _ rfl (hox3.alloc _) ⟨w3.heap.size, 0, none⟩ 1 1 [.int .i64 z] rfl rfl (cell_one_new _ _ _) (ints_oneCell .i64 [z]) (by omega) ?_; intro w4 hown4 hgrow4)
      go_roundw
      case rel => exact ⟨k + 1, by omega, by go_num, rfl, by rw [HV.out]; exact hown4, (hnx3.alloc hnx3.size _).grown hgrow4 (by simp; exact Nat.le_trans hnx3.size (Nat.le_succ _)) (fun j hj => by cases hj; exact Nat.le_refl _)⟩
      case measure => simp [intOf]; omega
    · have hk' : n = k := by omega
      subst hk'
      go_wp2
      go_ret
      exact ⟨_, _, rfl, nums_of hox, hnx⟩

end Go.Proofs.Qxb6605633a
