/-
  (*unitLog).since and ZZsince.
-/
import Derived.Test.Qxb6605633aLog
namespace Go.Proofs.Qxb6605633a
open Go.RowKit

theorem below_drewN' {B : Nat} {w w' : World} (h : Below B w w') (q : Nat) : Below B w (w'.drewN q) := ⟨h.os, h.tape, h.output, h.size, h.block⟩

theorem after_yes (w : World) (z c : Int) (h : c < z) :
    Calls Try.prog 22 #[.agg #[.int .u64 (ia z), .int .i64 (ib z), .pointer none], .agg #[.int .u64 (ia c), .int .i64 (ib c), .pointer none]] w fun e w' => Told w true e w' := by
  have := after_any w (ia z) (ib z) (ia c) (ib c) (ia_lo z) (ia_hi z) (ia_lo c) (ia_hi c)
  rw [show decide (ia c + ib c * 1000000000 < ia z + ib z * 1000000000) = true from by have := i_sum z; have := i_sum c; simp; omega] at this
  exact this
theorem after_no (w : World) (z c : Int) (h : z ≤ c) :
    Calls Try.prog 22 #[.agg #[.int .u64 (ia z), .int .i64 (ib z), .pointer none], .agg #[.int .u64 (ia c), .int .i64 (ib c), .pointer none]] w fun e w' => Told w false e w' := by
  have := after_any w (ia z) (ib z) (ia c) (ib c) (ia_lo z) (ia_hi z) (ia_lo c) (ia_hi c)
  rw [show decide (ia c + ib c * 1000000000 < ia z + ib z * 1000000000) = false from by have := i_sum z; have := i_sum c; simp; omega] at this
  exact this

/-- The call's own two blocks: the cutoff, and the result. -/
structure Mine (w : World) (B : Nat) (c : Int) : Prop where
  c0 : w.cell? ⟨B, 0, none⟩ = some (.int .u64 (ia c))
  c1 : w.cell? ⟨B, 1, none⟩ = some (.int .i64 (ib c))
  c2 : w.cell? ⟨B, 2, none⟩ = some (.pointer none)
  r0 : w.cell? ⟨B + 1, 0, none⟩ = some (.slice none 0 0)
  r1 : w.cell? ⟨B + 1, 1, none⟩ = some (.int .i64 0)
  r2 : w.cell? ⟨B + 1, 2, none⟩ = some (.int .u32 0)
  f0 : w.frozen? ⟨B + 1, 0, none⟩ = false
  f1 : w.frozen? ⟨B + 1, 1, none⟩ = false
  f2 : w.frozen? ⟨B + 1, 2, none⟩ = false
  lt : B + 1 < w.heap.size

theorem Mine.below {w w' : World} {B : Nat} {c : Int} (h : Mine w B c) (hb : Below w.heap.size w w') : Mine w' B c := by
  have l1 := h.lt
  have l0 : B < w.heap.size := by omega
  exact ⟨(hb.cell (p := ⟨B, 0, none⟩) l0).trans h.c0, (hb.cell (p := ⟨B, 1, none⟩) l0).trans h.c1, (hb.cell (p := ⟨B, 2, none⟩) l0).trans h.c2,
    (hb.cell (p := ⟨B + 1, 0, none⟩) l1).trans h.r0, (hb.cell (p := ⟨B + 1, 1, none⟩) l1).trans h.r1, (hb.cell (p := ⟨B + 1, 2, none⟩) l1).trans h.r2,
    (hb.frozen (p := ⟨B + 1, 0, none⟩) l1).trans h.f0, (hb.frozen (p := ⟨B + 1, 1, none⟩) l1).trans h.f1, (hb.frozen (p := ⟨B + 1, 2, none⟩) l1).trans h.f2, Nat.lt_of_lt_of_le l1 hb.size⟩
theorem Mine.drewN {w : World} {B : Nat} {c : Int} (h : Mine w B c) (q : Nat) : Mine (w.drewN q) B c := ⟨h.c0, h.c1, h.c2, h.r0, h.r1, h.r2, h.f0, h.f1, h.f2, h.lt⟩

/-- What since leaves. -/
def SinceV (w : World) (n : Nat) (zs us : List Int) (tot c : Int) (e : Ending) (w' : World) : Prop :=
  ∃ b off, e = .returned (.agg #[.slice (some ⟨b, off, none⟩) (n - Pl.gone zs c) (n - Pl.gone zs c), .int .i64 (wrap64 (tot - Pl.isum (us.take (Pl.gone zs c)))), .int .u32 0]) ∧
    EntsAt w' b off (n - Pl.gone zs c) (zs.drop (Pl.gone zs c)) (us.drop (Pl.gone zs c)) ∧ Below w.heap.size w w'

theorem three_below {w w2 : World} (hb : Below w.heap.size w w2) (B : Nat) (hB : w.heap.size ≤ B) (x y z : Value) :
    Below w.heap.size w (((w2.setCell ⟨B, 0, none⟩ x).setCell ⟨B, 1, none⟩ y).setCell ⟨B, 2, none⟩ z) := ((hb.setCell hB _).setCell hB _).setCell hB _

theorem ents_three {w2 : World} {b off n : Nat} {zs us : List Int} (h : EntsAt w2 b off n zs us) (B : Nat) (hB : b ≠ B) (x y z : Value) :
    EntsAt (((w2.setCell ⟨B, 0, none⟩ x).setCell ⟨B, 1, none⟩ y).setCell ⟨B, 2, none⟩ z) b off n zs us := by
  have hbl : ∀ o, (((w2.setCell ⟨B, 0, none⟩ x).setCell ⟨B, 1, none⟩ y).setCell ⟨B, 2, none⟩ z).cell? ⟨b, o, none⟩ = w2.cell? ⟨b, o, none⟩ := fun o => by
    refine World.cell?_of_block (w := w2) (a := ⟨b, o, none⟩) ?_
    rw [Below.heap_setCell _ _ _ _ hB, Below.heap_setCell _ _ _ _ hB, Below.heap_setCell _ _ _ _ hB]
  obtain ⟨h1, h2⟩ := h
  refine ⟨by simpa [World.setCell] using h1, fun j hj => ?_⟩
  rw [hbl, hbl, hbl, hbl]
  exact h2 j hj

theorem since_mk {w w2 w' : World} {b off n k : Nat} {zs us : List Int} {tot c : Int} {x y z : Value} (hb : Below w.heap.size w w2) (_hl : w.heap.size + 1 < w2.heap.size) (hg : Pl.gone zs c = k) (hk : k ≤ n) (hE : EntsAt w2 b off n zs us) (hbB : b ≠ w.heap.size + 1)
    (hw : w' = ((w2.setCell ⟨w.heap.size + 1, 0, none⟩ x).setCell ⟨w.heap.size + 1, 1, none⟩ y).setCell ⟨w.heap.size + 1, 2, none⟩ z) :
    SinceV w n zs us tot c (.returned (.agg #[.slice (some ⟨b, off + k * 4, none⟩) (n - k) (n - k), .int .i64 (wrap64 (tot - Pl.isum (us.take k))), .int .u32 0])) w' := by
  subst hw; subst hg
  exact ⟨b, _, rfl, ents_three (hE.drop _ hk) _ hbB _ _ _, three_below hb _ (Nat.le_succ _) _ _ _⟩

theorem since_mk0 {w w2 w' : World} {b off n : Nat} {zs us : List Int} {tot c : Int} {x y z : Value} (hb : Below w.heap.size w w2) (_hl : w.heap.size + 1 < w2.heap.size) (hg : Pl.gone zs c = n) (hE : EntsAt w2 b off n zs us) (hbB : b ≠ w.heap.size + 1)
    (hw : w' = ((w2.setCell ⟨w.heap.size + 1, 0, none⟩ x).setCell ⟨w.heap.size + 1, 1, none⟩ y).setCell ⟨w.heap.size + 1, 2, none⟩ z) :
    SinceV w n zs us tot c (.returned (.agg #[.slice (some ⟨b, off, none⟩) (n - n) (n - n), .int .i64 (wrap64 (tot - Pl.isum (us.take n))), .int .u32 0])) w' := by
  subst hw; subst hg
  refine ⟨b, off, rfl, ents_three ?_ _ hbB _ _ _, three_below hb _ (Nat.le_succ _) _ _ _⟩
  rw [Nat.sub_self]
  exact .none hE.1

set_option maxRecDepth 100000 in
set_option maxHeartbeats 2000000 in
theorem since_any (w : World) (g n : Nat) (zs us : List Int) (tot c : Int) (h : LogAt w g n zs us tot) (hn : n ≤ 131072) (hls : zs.length = n) (hlu : us.length = n) (ht1 : -9223372036854775808 ≤ tot) (ht2 : tot ≤ 9223372036854775807) :
    Calls Try.prog 19 #[.pointer (some ⟨g, 0, none⟩), .agg #[.int .u64 (ia c), .int .i64 (ib c), .pointer none]] w fun e w' => SinceV w n zs us tot c e w' := by
  obtain ⟨b, off, hg, h0, h1, h2, hE⟩ := h
  have hbB : b ≠ w.heap.size + 1 := by have := hE.1; omega
  have HLS : Hid (zs.length = n) := hls
  have HLU : Hid (us.length = n) := hlu
  have HT : Hid (wrap64 (tot - Pl.isum (us.take 0)) = tot) := by
    show wrap64 (tot - Pl.isum (us.take 0)) = tot
    rw [show Pl.isum (us.take 0) = 0 from by rw [List.take_zero]; rfl, Int.sub_zero]; exact wrap_id ht1 ht2
  clear hls hlu ht1 ht2
  go_enter Try.func19, Try.ntmps19
  go_wp2
  go_quiet (fail)
  go_wp2_with fail
  go_loopw [5, 6] (fun t v wr => ∃ k : Nat, k ≤ n ∧ t = .int .i64 k ∧ v = .int .i64 (wrap64 (tot - Pl.isum (us.take k))) ∧ (∀ j, j < k → zs.getD j 0 ≤ c) ∧ Mine wr w.heap.size c ∧ Below w.heap.size w wr)
    (fun t _ _ => n - (intOf t).toNat)
  case atStart =>
    refine ⟨0, Nat.zero_le _, rfl, by rw [HT.out], fun j hj => absurd hj (by omega), ?_, ?_⟩
    · refine Mine.drewN ⟨?_, ?_, ?_, ?_, ?_, ?_, ?_, ?_, ?_, ?_⟩ _ <;> simp
    · exact below_drewN' (two_new w _ _) _
  case round =>
    obtain ⟨k, hk, rfl, rfl, hle, hM, hnx⟩ := hrel
    have hsz := hnx.size
    have g0 : wr.cell? ⟨g, 0, none⟩ = some (.slice (some ⟨b, off, none⟩) n n) := (hnx.cell (p := ⟨g, 0, none⟩) hg).trans h0
    have hEr := hE.below hnx
    obtain ⟨m0, m1, m2, r0, r1, r2, f0, f1, f2, ml⟩ := hM
    have hgr : g < wr.heap.size := by omega
    by_cases hlt : k < n
    · obtain ⟨hbr, hcells⟩ := hEr
      obtain ⟨c0, c1, c2, c3⟩ := hcells k hlt
      have HS : Hid (wrap64 (wrap64 (tot - Pl.isum (us.take k)) - us.getD k 0) = wrap64 (tot - Pl.isum (us.take (k + 1)))) := by
        show wrap64 (wrap64 (tot - Pl.isum (us.take k)) - us.getD k 0) = wrap64 (tot - Pl.isum (us.take (k + 1)))
        rw [wrap_sub, Pl.take_snoc (by rw [HLU.out]; exact hlt), Pl.isum_snoc]; congr 1; omega
      have hi1 : (0 : Int) ≤ (k : Int) := by omega
      have hi2 : (k : Int) < (n : Int) := by omega
      have hd : decide (k < n) = true := by simp; omega
      have HG : Hid (c < zs.getD k 0 → Pl.gone zs c = k) := fun hz => Pl.gone_eq (by rw [HLS.out]; exact hk) hle (fun _ => hz)
      have HN : Hid (zs.getD k 0 ≤ c → ∀ j, j < k + 1 → zs.getD j 0 ≤ c) := fun hz j hj => by
        by_cases e : j = k
        · subst e; omega
        · exact hle j (by omega)
      generalize us.getD k 0 = u at c3 HS
      generalize zs.getD k 0 = z at c0 c1 HG HN
      clear hle hcells h0 h1 h2
      have hB : w.heap.size < wr.heap.size := by omega
      by_cases hz : c < z
      · go_wp2_with fail
        go_region_held3 (fun w' => w'.cell? ⟨g, 0, none⟩ = some (.slice (some ⟨b, off, none⟩) n n) ∧ w'.cell? ⟨b, off + k * 4, none⟩ = some (.int .u64 (ia z)) ∧ w'.cell? ⟨b, off + k * 4 + 1, none⟩ = some (.int .i64 (ib z)) ∧ w'.cell? ⟨b, off + k * 4 + 2, none⟩ = some (.pointer none) ∧ w'.cell? ⟨w.heap.size, 0, none⟩ = some (.int .u64 (ia c)) ∧ w'.cell? ⟨w.heap.size, 1, none⟩ = some (.int .i64 (ib c)) ∧ w'.cell? ⟨w.heap.size, 2, none⟩ = some (.pointer none)) (go_keep)
          (first
            | (go_at_call 22; refine (after_yes _ z c hz).mono ?_; rintro e w2 ⟨rfl, pb⟩; have k0 := (pb.cell (p := ⟨g, 0, none⟩) hgr).trans g0; have k1 := (pb.cell (p := ⟨b, off + k * 4, none⟩) hbr).trans c0; have k2 := (pb.cell (p := ⟨b, off + k * 4 + 1, none⟩) hbr).trans c1; have k3 := (pb.cell (p := ⟨b, off + k * 4 + 2, none⟩) hbr).trans c2; have k4 := (pb.cell (p := ⟨w.heap.size, 0, none⟩) hB).trans m0; have k5 := (pb.cell (p := ⟨w.heap.size, 1, none⟩) hB).trans m1; have k6 := (pb.cell (p := ⟨w.heap.size, 2, none⟩) hB).trans m2))
        have hM2 : Mine w2 w.heap.size c := Mine.below (w := wr.drew) ⟨m0, m1, m2, r0, r1, r2, f0, f1, f2, ml⟩ pb
        have hb2 : Below w.heap.size w w2 := hnx.drew.trans (pb.mono hsz)
        have hE2 := hE.below hb2
        obtain ⟨_, _, _, n0, n1, n2, e0, e1, e2, nl⟩ := hM2
        clear m0 m1 m2 r0 r1 r2 f0 f1 f2 ml c0 c1 c2 c3 g0 k1 k2 k3 k4 k5 k6 hnx
        go_wp2
        refine bodyPost_ret (v := .agg #[.slice (some ⟨b, off + k * 4, none⟩) (n - k) (n - k), .int .i64 (wrap64 (tot - Pl.isum (us.take k))), .int .u32 0]) (by simp [results, Try.results19, go_sem, n0, n1, n2]) rfl ?_
        exact since_mk hb2 nl (HG.out hz) hk hE2 hbB rfl
      · have HZ : Hid (z ≤ c) := (by show z ≤ c; omega)
        go_wp2_with fail
        go_region_held3 (fun w' => w'.cell? ⟨g, 0, none⟩ = some (.slice (some ⟨b, off, none⟩) n n) ∧ w'.cell? ⟨b, off + k * 4, none⟩ = some (.int .u64 (ia z)) ∧ w'.cell? ⟨b, off + k * 4 + 1, none⟩ = some (.int .i64 (ib z)) ∧ w'.cell? ⟨b, off + k * 4 + 2, none⟩ = some (.pointer none) ∧ w'.cell? ⟨w.heap.size, 0, none⟩ = some (.int .u64 (ia c)) ∧ w'.cell? ⟨w.heap.size, 1, none⟩ = some (.int .i64 (ib c)) ∧ w'.cell? ⟨w.heap.size, 2, none⟩ = some (.pointer none)) (go_keep)
          (first
            | (go_at_call 22; refine (after_no _ z c HZ.out).mono ?_; rintro e w2 ⟨rfl, pb⟩; have k0 := (pb.cell (p := ⟨g, 0, none⟩) hgr).trans g0; have k1 := (pb.cell (p := ⟨b, off + k * 4, none⟩) hbr).trans c0; have k2 := (pb.cell (p := ⟨b, off + k * 4 + 1, none⟩) hbr).trans c1; have k3 := (pb.cell (p := ⟨b, off + k * 4 + 2, none⟩) hbr).trans c2; have k4 := (pb.cell (p := ⟨w.heap.size, 0, none⟩) hB).trans m0; have k5 := (pb.cell (p := ⟨w.heap.size, 1, none⟩) hB).trans m1; have k6 := (pb.cell (p := ⟨w.heap.size, 2, none⟩) hB).trans m2))
        have hM2 : Mine w2 w.heap.size c := Mine.below (w := wr.drew) ⟨m0, m1, m2, r0, r1, r2, f0, f1, f2, ml⟩ pb
        have hb2 : Below w.heap.size w w2 := hnx.drew.trans (pb.mono hsz)
        have k7 := (pb.cell (p := ⟨b, off + k * 4 + 3, none⟩) hbr).trans c3
        clear m0 m1 m2 r0 r1 r2 f0 f1 f2 ml c0 c1 c2 c3 g0 k1 k2 k3 k4 k5 k6 hnx
        go_wp2
        go_roundw
        case rel => exact ⟨k + 1, by omega, by go_num, by rw [← HS.out], HN.out HZ.out, hM2, hb2⟩
        case measure => simp [intOf]; omega
    · have hk' : n = k := by omega
      subst hk'
      have hd : decide (n < n) = false := by simp
      have HG : Hid (Pl.gone zs c = n) := Pl.gone_eq (by rw [HLS.out]; exact hk) hle (fun h => by rw [HLS.out] at h; omega)
      clear hle h0 h1 h2
      go_wp2_with fail
      go_quiet (fail)
      go_wp2
      refine bodyPost_ret (v := .agg #[.slice (some ⟨b, off, none⟩) (n - n) (n - n), .int .i64 (wrap64 (tot - Pl.isum (us.take n))), .int .u32 0]) (by simp [results, Try.results19, go_sem, r0, r1, r2]) rfl ?_
      have hb2 := below_drewN' hnx nq
      exact since_mk0 hb2 (by simpa using ml) HG.out (hE.below hb2) hbB rfl

end Go.Proofs.Qxb6605633a
